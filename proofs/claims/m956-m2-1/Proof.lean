import JvmDerived
import JvmDerived.Pilot.@@N@@Statement
import JvmDerived.Pilot.@@N@@Code
set_option linter.unusedVariables false
set_option linter.unusedSimpArgs false
@@BLOCK:NumsL.lean.txt@@
namespace Jvm.RoadKit
open Sem ClassFile Op Lib Jvm.Stand Jvm.Free Jvm.LawKit
section New
variable {p : Program} {l : Launch} {e : Env} {R : Room} {s : State} {m : MethodId} {args : Array Value} {below : List Frame} {meth : Method} {c : Code} {T : State} {locs : List Loc} {cells slots : Nat}
theorem retI (X : Stand p l e R s m args below meth c T locs cells slots) (hx : p.tables.exec = Jvm.exec) {pc : Nat} {Ls : Array Slot} {z : Int32} {rest : List Value} (hret : meth.sig.returnType = some .int) (hd : decode c.code pc = .ok (.ireturn, 1)) {fs : List Frame}
    (hl : ∀ (f : JFrame) (acts : List Action), f.method = m → f.locked = none → f.entered = [] → (doReturn e (T.setTop f) acts (some (.int z))).1 = T.setFrames fs) : Steps p.tables e below (T.setTop (mkF m pc Ls (.int z :: rest))) (T.setFrames fs) := by
  have hm' : T.vm.method? m = some meth := X.method'
  have hn : narrow .int (.int z) = .int z := rfl
  show Steps p.tables e below (T.setTop { method := m, pc := pc, locals := Ls, stack := _ :: rest, locked := none }) _
  jvm_step X.here [X.here.top, hx, hd, hm', hret, hn]
  first | (intro acts; rw [hl _ acts rfl rfl rfl]) | rw [hl _ _ rfl rfl rfl]
  exact Steps.refl _
end New
end Jvm.RoadKit
namespace Jvm.Pilot.@@N@@
open Jvm Jvm.ClassFile Sem Op Lib Jvm.Free Jvm.Stand Jvm.LawKit Jvm.RoadKit Bundle Jvm.Pilot.@@N@@.Jvm.D
/-! the rest of a run, from the state t on: it comes to an end of which P holds -/
def own_At (p : Program) (e : Env) (below : List Frame) (P : Outcome → State → Prop) (t : State) : Prop := ∃ s₂ o, Steps p.tables e below t s₂ ∧ s₂.status = .running ∧ Ended s₂ below o ∧ P o s₂
theorem own_body {p : Program} {e : Env} {below : List Frame} {P : Outcome → State → Prop} {t : State} (h : ∀ P' : Outcome → State → Prop, (∀ o u, P o u → P' o u) → own_At p e below P' t) : own_At p e below P t := h P fun _ _ q => q
theorem own_st {p : Program} {e : Env} {below : List Frame} {P : Outcome → State → Prop} {t t' : State} (h : ∀ target, Steps p.tables e below t' target → Steps p.tables e below t target) (k : own_At p e below P t') : own_At p e below P t := by
  obtain ⟨s₂, o, h1, h2⟩ := k
  exact ⟨s₂, o, h _ h1, h2⟩
theorem own_tr {p : Program} {e : Env} {below : List Frame} {P : Outcome → State → Prop} {t t' : State} (h : Steps p.tables e below t t') (k : own_At p e below P t') : own_At p e below P t := by
  obtain ⟨s₂, o, h1, h2⟩ := k
  exact ⟨s₂, o, h.trans h1, h2⟩
def own_maxL (a b : Int64) : Int64 := if lcmpW a b < (0 : Int32) then b else a
def own_minL (a b : Int64) : Int64 := if (0 : Int32) < lcmpW a b then b else a
def own_cff (fi la sz pe x : Int64) : Int32 := if lcmpW (x - la) sz < (0 : Int32) then (if lcmpW pe (0 : Int64) = (0 : Int32) then (1 : Int32) else if lcmpW ((x - fi) - ((x - fi) / pe) * pe) sz < (0 : Int32) then (1 : Int32) else (0 : Int32)) else (0 : Int32)

theorem own_staK {Z : State} {h h' : Heap} {C n d B : String} {w : Value} {x : Addr} (F : Sta Z h C n d w) (K : Keep h h' [x]) (E : Exa Z h x B) : Sta Z h' C n d w := by
  obtain ⟨cf, i, k, f, st, cell, h1, h2, h3, h4, h5, h6, h7⟩ := F
  obtain ⟨cb, kb, g1, -, -, g4, -⟩ := E
  have ne : st ≠ x := fun q => by
    subst q
    cases h5.symm.trans g1
    rw [h6] at g4; cases g4
  exact ⟨cf, i, k, f, st, cell, h1, h2, h3, h4, K.2.1 _ _ h5 (by simpa using ne), h6, h7⟩
theorem own_nin {a x : Addr} (h : a ≠ x) : a ∉ [x] := by simpa using h

theorem own_lc {a b : Int64} (h : a = b) : lcmpW a b = (0 : Int32) := by
  subst h
  simp [lcmpW, Int64.lt_irrefl]
theorem own_lcne {a : Int64} (h : ¬ lcmpW a (0 : Int64) = (0 : Int32)) : a ≠ 0 := fun e => h (own_lc e)
theorem own_clt {a b : Int64} : lcmpW a b < (0 : Int32) ↔ a.toInt < b.toInt := by
  show (if a > b then (1 : Int32) else if a = b then 0 else -1) < 0 ↔ _
  by_cases h : a > b
  · rw [if_pos h]
    have h' : b.toInt < a.toInt := Int64.lt_iff_toInt_lt.mp h
    exact ⟨fun q => absurd q (by decide), fun q => by omega⟩
  · rw [if_neg h]
    have h' : ¬ b.toInt < a.toInt := fun q => h (Int64.lt_iff_toInt_lt.mpr q)
    by_cases h2 : a = b
    · rw [if_pos h2]
      subst h2
      exact ⟨fun q => absurd q (by decide), fun q => by omega⟩
    · rw [if_neg h2]
      have h3 : a.toInt ≠ b.toInt := fun q => h2 (Int64.toInt_inj.mp q)
      exact ⟨fun _ => by omega, fun _ => by decide⟩
theorem own_cgt {a b : Int64} : (0 : Int32) < lcmpW a b ↔ b.toInt < a.toInt := by
  show 0 < (if a > b then (1 : Int32) else if a = b then 0 else -1) ↔ _
  by_cases h : a > b
  · rw [if_pos h]
    have h' : b.toInt < a.toInt := Int64.lt_iff_toInt_lt.mp h
    exact ⟨fun _ => h', fun _ => by decide⟩
  · rw [if_neg h]
    have h' : ¬ b.toInt < a.toInt := fun q => h (Int64.lt_iff_toInt_lt.mpr q)
    by_cases h2 : a = b
    · rw [if_pos h2]
      exact ⟨fun q => absurd q (by decide), fun q => absurd q h'⟩
    · rw [if_neg h2]
      exact ⟨fun q => absurd q (by decide), fun q => absurd q h'⟩
theorem own_ceq {a b : Int64} : lcmpW a b = (0 : Int32) ↔ a = b := by
  refine ⟨fun q => ?_, own_lc⟩
  have h1 : ¬ a.toInt < b.toInt := fun h => by have := own_clt.mpr h; rw [q] at this; exact absurd this (by decide)
  have h2 : ¬ b.toInt < a.toInt := fun h => by have := own_cgt.mpr h; rw [q] at this; exact absurd this (by decide)
  exact Int64.toInt_inj.mp (by omega)
theorem own_ss {q s0 ss : Int64} (g : (q &&& (4294967295 : Int64)) = s0) (hz : ss = (if lcmpW s0 (0 : Int64) = (0 : Int32) then (1 : Int64) else s0)) : 1 ≤ ss.toInt ∧ ss.toInt < 4294967296 := by
  have e1 : (q &&& (4294967295 : Int64)).toInt = q.toInt % 2 ^ 32 := Jvm.Kit.i64_mask q 4294967295 (k := 32) (by decide) (by decide)
  have l0 : (0 : Int64).toInt = 0 := rfl
  have l1 : (1 : Int64).toInt = 1 := rfl
  rw [g] at e1
  simp only [own_ceq] at hz
  by_cases h : s0 = 0
  · rw [if_pos h] at hz
    subst hz
    omega
  · rw [if_neg h] at hz
    subst hz
    have h2 : ss.toInt ≠ 0 := fun q => h (Int64.toInt_inj.mp (q.trans l0.symm))
    omega
theorem own_pos (q : Int64) : 0 ≤ (q &&& (9223372036854775807 : Int64)).toInt := by
  have e1 : (q &&& (9223372036854775807 : Int64)).toInt = q.toInt % 2 ^ 63 := Jvm.Kit.i64_mask q 9223372036854775807 (k := 63) (by decide) (by decide)
  omega
theorem own_D {ss : Int64} (hs : 1 ≤ ss.toInt ∧ ss.toInt < 4294967296) : ((4294967296 : Int64) - ss).toInt = 4294967296 - ss.toInt := by
  have l : (4294967296 : Int64).toInt = 4294967296 := rfl
  rw [Jvm.Kit.i64_sub (by omega) (by omega), l]
theorem own_ne0 {a : Int64} (h : a.toInt ≠ 0) : a ≠ 0 := fun q => h (by rw [q]; rfl)
theorem own_nz1 {ss : Int64} (hs : 1 ≤ ss.toInt ∧ ss.toInt < 4294967296) : ((4294967296 : Int64) - ss) ≠ 0 := own_ne0 (by rw [own_D hs]; omega)
theorem own_rm {x y : Int64} (hx : 0 ≤ x.toInt) (hy : 0 < y.toInt) : 0 ≤ (x - (x / y) * y).toInt ∧ (x - (x / y) * y).toInt < y.toInt := by
  rw [Jvm.Kit.i64_rem_nonneg hx]
  exact ⟨Int.emod_nonneg _ (by omega), Int.emod_lt_of_pos _ hy⟩
theorem own_m32 (q : Int64) : 0 ≤ (q &&& (4294967295 : Int64)).toInt := by
  have e1 : (q &&& (4294967295 : Int64)).toInt = q.toInt % 2 ^ 32 := Jvm.Kit.i64_mask q 4294967295 (k := 32) (by decide) (by decide)
  omega
theorem own_pp (q : Int64) {ss : Int64} (hs : 1 ≤ ss.toInt ∧ ss.toInt < 4294967296) : ss.toInt ≤ (ss + ((((q.toUInt64 >>> ((1 : Int32) &&& 0x3f).toInt64.toUInt64).toInt64) &&& (4294967295 : Int64)) - ((((q.toUInt64 >>> ((1 : Int32) &&& 0x3f).toInt64.toUInt64).toInt64) &&& (4294967295 : Int64)) / ((4294967296 : Int64) - ss)) * ((4294967296 : Int64) - ss))).toInt ∧ (ss + ((((q.toUInt64 >>> ((1 : Int32) &&& 0x3f).toInt64.toUInt64).toInt64) &&& (4294967295 : Int64)) - ((((q.toUInt64 >>> ((1 : Int32) &&& 0x3f).toInt64.toUInt64).toInt64) &&& (4294967295 : Int64)) / ((4294967296 : Int64) - ss)) * ((4294967296 : Int64) - ss))).toInt < 4294967296 := by
  have h := own_m32 ((q.toUInt64 >>> ((1 : Int32) &&& 0x3f).toInt64.toUInt64).toInt64)
  generalize (((q.toUInt64 >>> ((1 : Int32) &&& 0x3f).toInt64.toUInt64).toInt64) &&& (4294967295 : Int64)) = r at h ⊢
  have hd := own_D hs
  have k := own_rm h (y := (4294967296 : Int64) - ss) (by omega)
  generalize r - r / ((4294967296 : Int64) - ss) * ((4294967296 : Int64) - ss) = t at k ⊢
  rw [Jvm.Kit.i64_add (by omega) (by omega)]
  omega
theorem own_nz2 {ss pp : Int64} (hs : 1 ≤ ss.toInt ∧ ss.toInt < 4294967296) (hp : ss.toInt ≤ pp.toInt ∧ pp.toInt < 4294967296) : pp ≠ 0 := own_ne0 (by omega)
theorem own_nn (q : Int64) : 1 ≤ ((1 : Int64) + (q &&& (1073741823 : Int64))).toInt ∧ ((1 : Int64) + (q &&& (1073741823 : Int64))).toInt ≤ 1073741824 := by
  have e1 : (q &&& (1073741823 : Int64)).toInt = q.toInt % 2 ^ 30 := Jvm.Kit.i64_mask q 1073741823 (k := 30) (by decide) (by decide)
  have l1 : (1 : Int64).toInt = 1 := rfl
  rw [Jvm.Kit.i64_add (by omega) (by omega)]
  omega
theorem own_kk (q : Int64) : 0 ≤ (q &&& (2147483647 : Int64)).toInt ∧ (q &&& (2147483647 : Int64)).toInt ≤ 2147483647 := by
  have e1 : (q &&& (2147483647 : Int64)).toInt = q.toInt % 2 ^ 31 := Jvm.Kit.i64_mask q 2147483647 (k := 31) (by decide) (by decide)
  omega
theorem own_oo (q : Int64) {ss pp : Int64} (hs : 1 ≤ ss.toInt ∧ ss.toInt < 4294967296) (hp : ss.toInt ≤ pp.toInt ∧ pp.toInt < 4294967296) : 0 ≤ ((q &&& (4294967295 : Int64)) - ((q &&& (4294967295 : Int64)) / pp) * pp).toInt ∧ ((q &&& (4294967295 : Int64)) - ((q &&& (4294967295 : Int64)) / pp) * pp).toInt < pp.toInt := own_rm (own_m32 q) (by omega)
theorem own_dd {ss pp kk oo : Int64} (hs : 1 ≤ ss.toInt ∧ ss.toInt < 4294967296) (hp : ss.toInt ≤ pp.toInt ∧ pp.toInt < 4294967296) (hk : 0 ≤ kk.toInt ∧ kk.toInt ≤ 2147483647) (ho : 0 ≤ oo.toInt ∧ oo.toInt < pp.toInt) : ((kk * pp) + oo).toInt = kk.toInt * pp.toInt + oo.toInt ∧ 0 ≤ ((kk * pp) + oo).toInt := by
  have b1 : 0 ≤ kk.toInt * pp.toInt := Int.mul_nonneg hk.1 (by omega)
  have b2 : kk.toInt * pp.toInt ≤ 2147483647 * 4294967295 := Int.mul_le_mul hk.2 (by omega) (by omega) (by omega)
  have e : (kk * pp).toInt = kk.toInt * pp.toInt := Jvm.Kit.i64_mul (by omega) (by omega)
  rw [Jvm.Kit.i64_add (by omega) (by omega), e]
  omega
theorem own_np {ss pp nn : Int64} (hs : 1 ≤ ss.toInt ∧ ss.toInt < 4294967296) (hp : ss.toInt ≤ pp.toInt ∧ pp.toInt < 4294967296) (hn : 1 ≤ nn.toInt ∧ nn.toInt ≤ 1073741824) : (nn * pp).toInt = nn.toInt * pp.toInt ∧ 0 ≤ nn.toInt * pp.toInt ∧ nn.toInt * pp.toInt ≤ 1073741824 * 4294967295 := by
  have b1 : 0 ≤ nn.toInt * pp.toInt := Int.mul_nonneg (by omega) (by omega)
  have b2 : nn.toInt * pp.toInt ≤ 1073741824 * 4294967295 := Int.mul_le_mul hn.2 (by omega) (by omega) (by omega)
  exact ⟨Jvm.Kit.i64_mul (by omega) (by omega), b1, b2⟩
theorem own_sp0 {ss : Int64} (hs : 1 ≤ ss.toInt ∧ ss.toInt < 4294967296) : (((0 : Int64) * (0 : Int64)) + (ss - (1 : Int64))).toInt = ss.toInt - 1 ∧ 0 ≤ (((0 : Int64) * (0 : Int64)) + (ss - (1 : Int64))).toInt := by
  have l1 : (1 : Int64).toInt = 1 := rfl
  have l0 : ((0 : Int64) * (0 : Int64)).toInt = 0 := rfl
  have a : (ss - (1 : Int64)).toInt = ss.toInt - 1 := by rw [Jvm.Kit.i64_sub (by omega) (by omega), l1]
  rw [Jvm.Kit.i64_add (by omega) (by omega)]
  omega
theorem own_sp1 {ss pp nn : Int64} (hs : 1 ≤ ss.toInt ∧ ss.toInt < 4294967296) (hp : ss.toInt ≤ pp.toInt ∧ pp.toInt < 4294967296) (hn : 1 ≤ nn.toInt ∧ nn.toInt ≤ 1073741824) : ((nn * pp) + (ss - (1 : Int64))).toInt = nn.toInt * pp.toInt + ss.toInt - 1 ∧ 0 ≤ ((nn * pp) + (ss - (1 : Int64))).toInt := by
  have l1 : (1 : Int64).toInt = 1 := rfl
  obtain ⟨e, b1, b2⟩ := own_np hs hp hn
  have a : (ss - (1 : Int64)).toInt = ss.toInt - 1 := by rw [Jvm.Kit.i64_sub (by omega) (by omega), l1]
  rw [Jvm.Kit.i64_add (by omega) (by omega), e, a]
  omega
theorem own_f (q : Int64) {dd sp : Int64} {A : Prop} (hd : 0 ≤ dd.toInt) (hsp : A ∧ 0 ≤ sp.toInt) : 0 ≤ (own_minL (q &&& (9223372036854775807 : Int64)) ((9223372036854775807 : Int64) - (own_maxL dd sp))).toInt ∧ (own_minL (q &&& (9223372036854775807 : Int64)) ((9223372036854775807 : Int64) - (own_maxL dd sp))).toInt + dd.toInt ≤ 9223372036854775807 ∧ (own_minL (q &&& (9223372036854775807 : Int64)) ((9223372036854775807 : Int64) - (own_maxL dd sp))).toInt + sp.toInt ≤ 9223372036854775807 := by
  have l : (9223372036854775807 : Int64).toInt = 9223372036854775807 := rfl
  have h0 := own_pos q
  generalize (q &&& (9223372036854775807 : Int64)) = a at h0 ⊢
  have hm : dd.toInt ≤ (own_maxL dd sp).toInt ∧ sp.toInt ≤ (own_maxL dd sp).toInt := by
    simp only [own_maxL, own_clt]
    split <;> omega
  generalize own_maxL dd sp = mx at hm ⊢
  have b1 := mx.toInt_lt
  have e : ((9223372036854775807 : Int64) - mx).toInt = 9223372036854775807 - mx.toInt := by rw [Jvm.Kit.i64_sub (by omega) (by omega), l]
  generalize (9223372036854775807 : Int64) - mx = y at e ⊢
  simp only [own_minL, own_cgt]
  split <;> omega
theorem own_end0 {ss dd sp f : Int64} {ex : Int32} (hs : 1 ≤ ss.toInt ∧ ss.toInt < 4294967296) (hd : 0 ≤ dd.toInt) (hsp : sp.toInt = ss.toInt - 1 ∧ 0 ≤ sp.toInt) (hf : 0 ≤ f.toInt ∧ f.toInt + dd.toInt ≤ 9223372036854775807 ∧ f.toInt + sp.toInt ≤ 9223372036854775807) (hex : ex = (if lcmpW dd ss < (0 : Int32) then (1 : Int32) else (0 : Int32))) : (own_cff f (f + ((0 : Int64) * (0 : Int64))) ss (0 : Int64) (f + dd)) = ex := by
  have z : f + ((0 : Int64) * (0 : Int64)) = f := by
    have l0 : ((0 : Int64) * (0 : Int64)) = 0 := rfl
    rw [l0]; exact Int64.add_zero f
  have e : (f + dd).toInt = f.toInt + dd.toInt := Jvm.Kit.i64_add (by omega) (by omega)
  have e2 : (f + dd - f).toInt = dd.toInt := by rw [Jvm.Kit.i64_sub (by omega) (by omega)]; omega
  subst hex
  simp only [own_cff, own_clt, own_ceq, z, e2]
  split <;> simp
theorem own_end1 {ss pp nn kk oo dd sp f : Int64} {ex : Int32} (hs : 1 ≤ ss.toInt ∧ ss.toInt < 4294967296) (hp : ss.toInt ≤ pp.toInt ∧ pp.toInt < 4294967296) (hn : 1 ≤ nn.toInt ∧ nn.toInt ≤ 1073741824) (hk : 0 ≤ kk.toInt ∧ kk.toInt ≤ 2147483647) (ho : 0 ≤ oo.toInt ∧ oo.toInt < pp.toInt) (hd : dd.toInt = kk.toInt * pp.toInt + oo.toInt ∧ 0 ≤ dd.toInt)
    (hsp : sp.toInt = nn.toInt * pp.toInt + ss.toInt - 1 ∧ 0 ≤ sp.toInt) (hf : 0 ≤ f.toInt ∧ f.toInt + dd.toInt ≤ 9223372036854775807 ∧ f.toInt + sp.toInt ≤ 9223372036854775807) (hex : ex = (if (0 : Int32) < lcmpW kk nn then (0 : Int32) else if lcmpW oo ss < (0 : Int32) then (1 : Int32) else (0 : Int32))) : (own_cff f (f + (nn * pp)) ss pp (f + dd)) = ex := by
  obtain ⟨en, b1, b2⟩ := own_np hs hp hn
  have e : (f + dd).toInt = f.toInt + dd.toInt := Jvm.Kit.i64_add (by omega) (by omega)
  have e1 : (f + nn * pp).toInt = f.toInt + nn.toInt * pp.toInt := by rw [Jvm.Kit.i64_add (by omega) (by omega), en]
  have e2 : (f + dd - f).toInt = dd.toInt := by rw [Jvm.Kit.i64_sub (by omega) (by omega)]; omega
  have e3 : (f + dd - (f + nn * pp)).toInt = dd.toInt - nn.toInt * pp.toInt := by rw [Jvm.Kit.i64_sub (by omega) (by omega)]; omega
  have e4 : f + dd - f = dd := Int64.toInt_inj.mp e2
  have e5 : (dd - dd / pp * pp).toInt = oo.toInt := by
    rw [Jvm.Kit.i64_rem_nonneg hd.2, hd.1, Int.add_comm, Int.mul_comm, Int.add_mul_emod_self_left]
    exact Int.emod_eq_of_lt ho.1 ho.2
  have hp0 : ¬ pp = 0 := own_nz2 hs hp
  subst hex
  simp only [own_cff, own_clt, own_cgt, own_ceq, e4, e3, e5, if_neg hp0]
  by_cases c1 : nn.toInt < kk.toInt
  · have m : (nn.toInt + 1) * pp.toInt ≤ kk.toInt * pp.toInt := Int.mul_le_mul_of_nonneg_right (by omega) (by omega)
    rw [Int.add_mul, Int.one_mul] at m
    rw [if_neg (by omega), if_pos c1]
  · have m : kk.toInt * pp.toInt ≤ nn.toInt * pp.toInt := Int.mul_le_mul_of_nonneg_right (by omega) (by omega)
    rw [if_neg c1]
    by_cases c2 : oo.toInt < ss.toInt
    · rw [if_pos (by omega)]
    · rw [if_neg c2]
      split <;> rfl

theorem own_rm1_d0 : decode jdk_29_method_66_code 0 = .ok (.lload_n 0, 1) := by decide +kernel
theorem own_rm1_d1 : decode jdk_29_method_66_code 1 = .ok (.lload_n 2, 1) := by decide +kernel
theorem own_rm1_d2 : decode jdk_29_method_66_code 2 = .ok (.lcmp, 1) := by decide +kernel
theorem own_rm1_d3 : decode jdk_29_method_66_code 3 = .ok (.ifCond .lt 7, 3) := by decide +kernel
theorem own_rm1_d6 : decode jdk_29_method_66_code 6 = .ok (.lload_n 0, 1) := by decide +kernel
theorem own_rm1_d7 : decode jdk_29_method_66_code 7 = .ok (.goto 4, 3) := by decide +kernel
theorem own_rm1_d10 : decode jdk_29_method_66_code 10 = .ok (.lload_n 2, 1) := by decide +kernel
theorem own_rm1_d11 : decode jdk_29_method_66_code 11 = .ok (.lreturn, 1) := by decide +kernel
theorem own_rm1_ef (m : MethodId) (x0 : Int64) (x1 : Int64) : entryFrame m #[(.long x0), (.long x1)] 4 = mkF m 0 #[.val (.long x0), .second, .val (.long x1), .second] [] := by first | (simp [entryFrame, mkF, argsToLocals, Value.category]; done) | rfl
def own_rm1_Q (Z : State) (q1 : Int64) (q2 : Int64) (h0 : Heap) (n0 : Nat) (v : Option Value) (h : Heap) (L : List Loc) : Prop := v = some (.long (own_maxL q1 q2)) ∧ Fr n0 L ∧ h = h0
set_option maxRecDepth 65536 in
set_option maxHeartbeats 40000000 in
theorem own_rm1 (l : Launch) (Z : State) (a0 : Array Value) (hw : ∀ d ∈ tables_1, d.before a0 Z = true) (ws : List Jvm.Cond) (q1 : Int64) (q2 : Int64) (h0 : Heap) (n0 : Nat) (Z0 : n0 ≤ h0.size) :
    MetFree l (⟨"java/lang/Math", "max", "(JJ)J"⟩ : MethodName) (head1 (Jvm.Cond.code (⟨"java/lang/Math", "max", "(JJ)J"⟩ : MethodName) jdk_29_method_66_code 4 (some .long) :: ws) ({ frames := 0, cells := 0, slots := 0, locals := 0 } : Room)) (fun a U => a = #[(.long q1), (.long q2)] ∧ Z.Warmed39 U.vm ∧ U.heap = h0) (fun _ _ _ _ _ => True) (fun _ U o U' => ∃ v L, o = .returned v ∧ own_rm1_Q Z q1 q2 h0 n0 v U'.heap L ∧ FrameEnd U o U' L ({ frames := 0, cells := 0, slots := 0, locals := 0 } : Room).cells ({ frames := 0, cells := 0, slots := 0, locals := 0 } : Room).slots) := by
  refine MetFree.of_bodySF (Jvm.Free.JP.mathPlain rfl (by decide +kernel)) hisR ?_
  intro p e s m args below meth c s₁ Bd hml0 hPre hK
  obtain ⟨rfl, hZ, hh⟩ := hPre
  have hx := Bd.exec
  have hby := Bd.bytes
  have hml : c.maxLocals = 4 := hml0
  have hown : s.vm.findClass "java/lang/Math" = some m.cls := findClass_of_methodNamed Bd.named
  have hnm := (name_of_methodNamed Bd.named Bd.method).1
  have X0 : Stand p l e ({ frames := 0, cells := 0, slots := 0, locals := 0 } : Room) s m #[(.long q1), (.long q2)] below meth c s₁ [] 0 0 := Stand.of_body Bd
  have e0 : s₁.heap = h0 := by rw [← hh, Bd.state]; rfl
  have N0 := Fr.nil n0
  refine own_body fun P hP => ?_
  refine own_st (t' := s₁.setTop (mkF m 0 #[.val (.long q1), .second, .val (.long q2), .second] [])) (fun _ k => castTop (own_rm1_ef m q1 q2) k) ?_
  refine own_st (t' := s₁.setTop (mkF m 1 #[.val (.long q1), .second, .val (.long q2), .second] [(.long q1)])) (fun _ k => XS.lloadN X0.here hx rfl (hb hby own_rm1_d0) rfl k) ?_
  refine own_st (t' := s₁.setTop (mkF m 2 #[.val (.long q1), .second, .val (.long q2), .second] [(.long q2), (.long q1)])) (fun _ k => XS.lloadN X0.here hx rfl (hb hby own_rm1_d1) rfl k) ?_
  refine own_st (t' := s₁.setTop (mkF m 3 #[.val (.long q1), .second, .val (.long q2), .second] [(.int (lcmpW q1 q2))])) (fun _ k => XS.lcmp X0.here hx rfl (hb hby own_rm1_d2) rfl k) ?_
  by_cases c3_1 : (lcmpW q1 q2) < (0 : Int32)
  · refine own_st (t' := s₁.setTop (mkF m 10 #[.val (.long q1), .second, .val (.long q2), .second] [])) (fun _ k => XS.ifYes X0.here hx rfl (pc0 := 3) (pc' := 10) rfl (hb hby own_rm1_d3) rfl ((if0 _ _).trans (tlt c3_1).1) (by decide) (by decide) k) ?_
    refine own_st (t' := s₁.setTop (mkF m 11 #[.val (.long q1), .second, .val (.long q2), .second] [(.long q2)])) (fun _ k => XS.lloadN X0.here hx rfl (hb hby own_rm1_d10) rfl k) ?_
    have hv2 : q2 = own_maxL q1 q2 := by rw [own_maxL, if_pos c3_1]
    obtain ⟨fs, hr, hrun, hended, hW, hsame⟩ := X0.leave (v := some (.long q2)) (fun h => by rw [Bd.returns] at h; cases h)
    exact ⟨_, _, X0.lreturnOut hx Bd.returns (hb hby own_rm1_d11) hr, hrun, hended, hP _ _ ⟨_, _, rfl, ⟨(congrArg (fun z => some (Value.long z)) hv2), N0, e0⟩, ⟨_, rfl⟩, hW, hsame.mono (by decide) (by decide)⟩⟩
  · refine own_st (t' := s₁.setTop (mkF m 6 #[.val (.long q1), .second, .val (.long q2), .second] [])) (fun _ k => XS.ifNo X0.here hx rfl (hb hby own_rm1_d3) rfl ((if0 _ _).trans (flt c3_1).1) k) ?_
    refine own_st (t' := s₁.setTop (mkF m 7 #[.val (.long q1), .second, .val (.long q2), .second] [(.long q1)])) (fun _ k => XS.lloadN X0.here hx rfl (hb hby own_rm1_d6) rfl k) ?_
    refine own_st (t' := s₁.setTop (mkF m 11 #[.val (.long q1), .second, .val (.long q2), .second] [(.long q1)])) (fun _ k => XS.goto X0.here hx rfl (pc0 := 7) (pc' := 11) rfl (hb hby own_rm1_d7) (by decide) (by decide) k) ?_
    have hv3 : q1 = own_maxL q1 q2 := by rw [own_maxL, if_neg c3_1]
    obtain ⟨fs, hr, hrun, hended, hW, hsame⟩ := X0.leave (v := some (.long q1)) (fun h => by rw [Bd.returns] at h; cases h)
    exact ⟨_, _, X0.lreturnOut hx Bd.returns (hb hby own_rm1_d11) hr, hrun, hended, hP _ _ ⟨_, _, rfl, ⟨(congrArg (fun z => some (Value.long z)) hv3), N0, e0⟩, ⟨_, rfl⟩, hW, hsame.mono (by decide) (by decide)⟩⟩

theorem own_rm2_d0 : decode jdk_29_method_70_code 0 = .ok (.lload_n 0, 1) := by decide +kernel
theorem own_rm2_d1 : decode jdk_29_method_70_code 1 = .ok (.lload_n 2, 1) := by decide +kernel
theorem own_rm2_d2 : decode jdk_29_method_70_code 2 = .ok (.lcmp, 1) := by decide +kernel
theorem own_rm2_d3 : decode jdk_29_method_70_code 3 = .ok (.ifCond .gt 7, 3) := by decide +kernel
theorem own_rm2_d6 : decode jdk_29_method_70_code 6 = .ok (.lload_n 0, 1) := by decide +kernel
theorem own_rm2_d7 : decode jdk_29_method_70_code 7 = .ok (.goto 4, 3) := by decide +kernel
theorem own_rm2_d10 : decode jdk_29_method_70_code 10 = .ok (.lload_n 2, 1) := by decide +kernel
theorem own_rm2_d11 : decode jdk_29_method_70_code 11 = .ok (.lreturn, 1) := by decide +kernel
theorem own_rm2_ef (m : MethodId) (x0 : Int64) (x1 : Int64) : entryFrame m #[(.long x0), (.long x1)] 4 = mkF m 0 #[.val (.long x0), .second, .val (.long x1), .second] [] := by first | (simp [entryFrame, mkF, argsToLocals, Value.category]; done) | rfl
def own_rm2_Q (Z : State) (q1 : Int64) (q2 : Int64) (h0 : Heap) (n0 : Nat) (v : Option Value) (h : Heap) (L : List Loc) : Prop := v = some (.long (own_minL q1 q2)) ∧ Fr n0 L ∧ h = h0
set_option maxRecDepth 65536 in
set_option maxHeartbeats 40000000 in
theorem own_rm2 (l : Launch) (Z : State) (a0 : Array Value) (hw : ∀ d ∈ tables_1, d.before a0 Z = true) (ws : List Jvm.Cond) (q1 : Int64) (q2 : Int64) (h0 : Heap) (n0 : Nat) (Z0 : n0 ≤ h0.size) :
    MetFree l (⟨"java/lang/Math", "min", "(JJ)J"⟩ : MethodName) (head1 (Jvm.Cond.code (⟨"java/lang/Math", "min", "(JJ)J"⟩ : MethodName) jdk_29_method_70_code 4 (some .long) :: ws) ({ frames := 0, cells := 0, slots := 0, locals := 0 } : Room)) (fun a U => a = #[(.long q1), (.long q2)] ∧ Z.Warmed39 U.vm ∧ U.heap = h0) (fun _ _ _ _ _ => True) (fun _ U o U' => ∃ v L, o = .returned v ∧ own_rm2_Q Z q1 q2 h0 n0 v U'.heap L ∧ FrameEnd U o U' L ({ frames := 0, cells := 0, slots := 0, locals := 0 } : Room).cells ({ frames := 0, cells := 0, slots := 0, locals := 0 } : Room).slots) := by
  refine MetFree.of_bodySF (Jvm.Free.JP.mathPlain rfl (by decide +kernel)) hisR ?_
  intro p e s m args below meth c s₁ Bd hml0 hPre hK
  obtain ⟨rfl, hZ, hh⟩ := hPre
  have hx := Bd.exec
  have hby := Bd.bytes
  have hml : c.maxLocals = 4 := hml0
  have hown : s.vm.findClass "java/lang/Math" = some m.cls := findClass_of_methodNamed Bd.named
  have hnm := (name_of_methodNamed Bd.named Bd.method).1
  have X0 : Stand p l e ({ frames := 0, cells := 0, slots := 0, locals := 0 } : Room) s m #[(.long q1), (.long q2)] below meth c s₁ [] 0 0 := Stand.of_body Bd
  have e0 : s₁.heap = h0 := by rw [← hh, Bd.state]; rfl
  have N0 := Fr.nil n0
  refine own_body fun P hP => ?_
  refine own_st (t' := s₁.setTop (mkF m 0 #[.val (.long q1), .second, .val (.long q2), .second] [])) (fun _ k => castTop (own_rm2_ef m q1 q2) k) ?_
  refine own_st (t' := s₁.setTop (mkF m 1 #[.val (.long q1), .second, .val (.long q2), .second] [(.long q1)])) (fun _ k => XS.lloadN X0.here hx rfl (hb hby own_rm2_d0) rfl k) ?_
  refine own_st (t' := s₁.setTop (mkF m 2 #[.val (.long q1), .second, .val (.long q2), .second] [(.long q2), (.long q1)])) (fun _ k => XS.lloadN X0.here hx rfl (hb hby own_rm2_d1) rfl k) ?_
  refine own_st (t' := s₁.setTop (mkF m 3 #[.val (.long q1), .second, .val (.long q2), .second] [(.int (lcmpW q1 q2))])) (fun _ k => XS.lcmp X0.here hx rfl (hb hby own_rm2_d2) rfl k) ?_
  by_cases c3_1 : (0 : Int32) < (lcmpW q1 q2)
  · refine own_st (t' := s₁.setTop (mkF m 10 #[.val (.long q1), .second, .val (.long q2), .second] [])) (fun _ k => XS.ifYes X0.here hx rfl (pc0 := 3) (pc' := 10) rfl (hb hby own_rm2_d3) rfl ((if0 _ _).trans (tlt c3_1).2.2.1) (by decide) (by decide) k) ?_
    refine own_st (t' := s₁.setTop (mkF m 11 #[.val (.long q1), .second, .val (.long q2), .second] [(.long q2)])) (fun _ k => XS.lloadN X0.here hx rfl (hb hby own_rm2_d10) rfl k) ?_
    have hv2 : q2 = own_minL q1 q2 := by rw [own_minL, if_pos c3_1]
    obtain ⟨fs, hr, hrun, hended, hW, hsame⟩ := X0.leave (v := some (.long q2)) (fun h => by rw [Bd.returns] at h; cases h)
    exact ⟨_, _, X0.lreturnOut hx Bd.returns (hb hby own_rm2_d11) hr, hrun, hended, hP _ _ ⟨_, _, rfl, ⟨(congrArg (fun z => some (Value.long z)) hv2), N0, e0⟩, ⟨_, rfl⟩, hW, hsame.mono (by decide) (by decide)⟩⟩
  · refine own_st (t' := s₁.setTop (mkF m 6 #[.val (.long q1), .second, .val (.long q2), .second] [])) (fun _ k => XS.ifNo X0.here hx rfl (hb hby own_rm2_d3) rfl ((if0 _ _).trans (flt c3_1).2.2.1) k) ?_
    refine own_st (t' := s₁.setTop (mkF m 7 #[.val (.long q1), .second, .val (.long q2), .second] [(.long q1)])) (fun _ k => XS.lloadN X0.here hx rfl (hb hby own_rm2_d6) rfl k) ?_
    refine own_st (t' := s₁.setTop (mkF m 11 #[.val (.long q1), .second, .val (.long q2), .second] [(.long q1)])) (fun _ k => XS.goto X0.here hx rfl (pc0 := 7) (pc' := 11) rfl (hb hby own_rm2_d7) (by decide) (by decide) k) ?_
    have hv3 : q1 = own_minL q1 q2 := by rw [own_minL, if_neg c3_1]
    obtain ⟨fs, hr, hrun, hended, hW, hsame⟩ := X0.leave (v := some (.long q1)) (fun h => by rw [Bd.returns] at h; cases h)
    exact ⟨_, _, X0.lreturnOut hx Bd.returns (hb hby own_rm2_d11) hr, hrun, hended, hP _ _ ⟨_, _, rfl, ⟨(congrArg (fun z => some (Value.long z)) hv3), N0, e0⟩, ⟨_, rfl⟩, hW, hsame.mono (by decide) (by decide)⟩⟩

theorem own_rm3_d0 : decode prog_3_method_1_code 0 = .ok (.aload_n 0, 1) := by decide +kernel
theorem own_rm3_d1 : decode prog_3_method_1_code 1 = .ok (.invokespecial 1, 3) := by decide +kernel
theorem own_rm3_d4 : decode prog_3_method_1_code 4 = .ok (.aload_n 0, 1) := by decide +kernel
theorem own_rm3_d5 : decode prog_3_method_1_code 5 = .ok (.lload_n 1, 1) := by decide +kernel
theorem own_rm3_d6 : decode prog_3_method_1_code 6 = .ok (.putfield 7, 3) := by decide +kernel
theorem own_rm3_d9 : decode prog_3_method_1_code 9 = .ok (.aload_n 0, 1) := by decide +kernel
theorem own_rm3_d10 : decode prog_3_method_1_code 10 = .ok (.lload_n 3, 1) := by decide +kernel
theorem own_rm3_d11 : decode prog_3_method_1_code 11 = .ok (.putfield 13, 3) := by decide +kernel
theorem own_rm3_d14 : decode prog_3_method_1_code 14 = .ok (.aload_n 0, 1) := by decide +kernel
theorem own_rm3_d15 : decode prog_3_method_1_code 15 = .ok (.lload 5, 2) := by decide +kernel
theorem own_rm3_d17 : decode prog_3_method_1_code 17 = .ok (.putfield 16, 3) := by decide +kernel
theorem own_rm3_d20 : decode prog_3_method_1_code 20 = .ok (.aload_n 0, 1) := by decide +kernel
theorem own_rm3_d21 : decode prog_3_method_1_code 21 = .ok (.lload 7, 2) := by decide +kernel
theorem own_rm3_d23 : decode prog_3_method_1_code 23 = .ok (.putfield 19, 3) := by decide +kernel
theorem own_rm3_d26 : decode prog_3_method_1_code 26 = .ok (.return_, 1) := by decide +kernel
theorem own_rm3_pn : plainName "com/example/ledgerwarden/ledgerwarden/EntryList$Group" = true := by first | (simp [plainName, overriddenIn]; done) | decide +kernel
theorem own_rm3_ef (m : MethodId) (x0 : Addr) (x1 : Int64) (x2 : Int64) (x3 : Int64) (x4 : Int64) : entryFrame m #[(.ref x0), (.long x1), (.long x2), (.long x3), (.long x4)] 9 = mkF m 0 #[.val (.ref x0), .val (.long x1), .second, .val (.long x2), .second, .val (.long x3), .second, .val (.long x4), .second] [] := by first | (simp [entryFrame, mkF, argsToLocals, Value.category]; done) | rfl
def own_rm3_Q (Z : State) (a1 : Addr) (q1 : Int64) (q2 : Int64) (q3 : Int64) (q4 : Int64) (h0 : Heap) (n0 : Nat) (v : Option Value) (h : Heap) (L : List Loc) : Prop := v = none ∧ Fr n0 L ∧ Keep h0 h [a1] ∧ Exa Z h a1 "com/example/ledgerwarden/ledgerwarden/EntryList$Group" ∧ Fld Z h a1 "com/example/ledgerwarden/ledgerwarden/EntryList$Group" "firstStart" "J" (.long q1) ∧ Fld Z h a1 "com/example/ledgerwarden/ledgerwarden/EntryList$Group" "lastStart" "J" (.long q2) ∧ Fld Z h a1 "com/example/ledgerwarden/ledgerwarden/EntryList$Group" "size" "J" (.long q3) ∧ Fld Z h a1 "com/example/ledgerwarden/ledgerwarden/EntryList$Group" "period" "J" (.long q4)
set_option maxRecDepth 65536 in
set_option maxHeartbeats 40000000 in
theorem own_rm3 (l : Launch) (Z : State) (a0 : Array Value) (hw : ∀ d ∈ tables_1, d.before a0 Z = true) (ws : List Jvm.Cond) (a1 : Addr) (q1 : Int64) (q2 : Int64) (q3 : Int64) (q4 : Int64) (h0 : Heap) (n0 : Nat) (Z0 : n0 ≤ h0.size) (E_a1 : Exa Z h0 a1 "com/example/ledgerwarden/ledgerwarden/EntryList$Group") (F_firstStart : Fld Z h0 a1 "com/example/ledgerwarden/ledgerwarden/EntryList$Group" "firstStart" "J" (.long (0 : Int64))) (F_lastStart : Fld Z h0 a1 "com/example/ledgerwarden/ledgerwarden/EntryList$Group" "lastStart" "J" (.long (0 : Int64))) (F_size : Fld Z h0 a1 "com/example/ledgerwarden/ledgerwarden/EntryList$Group" "size" "J" (.long (0 : Int64))) (F_period : Fld Z h0 a1 "com/example/ledgerwarden/ledgerwarden/EntryList$Group" "period" "J" (.long (0 : Int64))) (bg_a1 : n0 ≤ a1) :
    MetFree l (⟨"com/example/ledgerwarden/ledgerwarden/EntryList$Group", "<init>", "(JJJJ)V"⟩ : MethodName) (head1 (Jvm.Cond.code (⟨"com/example/ledgerwarden/ledgerwarden/EntryList$Group", "<init>", "(JJJJ)V"⟩ : MethodName) prog_3_method_1_code 9 none :: ws) ({ frames := 1, cells := 0, slots := 0, locals := 12 } : Room)) (fun a U => a = #[(.ref a1), (.long q1), (.long q2), (.long q3), (.long q4)] ∧ Z.Warmed39 U.vm ∧ U.heap = h0) (fun _ _ _ _ _ => True) (fun _ U o U' => ∃ v L, o = .returned v ∧ own_rm3_Q Z a1 q1 q2 q3 q4 h0 n0 v U'.heap L ∧ FrameEnd U o U' L ({ frames := 1, cells := 0, slots := 0, locals := 12 } : Room).cells ({ frames := 1, cells := 0, slots := 0, locals := 12 } : Room).slots) := by
  refine MetFree.of_bodySF (plainFor_of_name own_rm3_pn) hisR ?_
  intro p e s m args below meth c s₁ Bd hml0 hPre hK
  obtain ⟨rfl, hZ, hh⟩ := hPre
  have hx := Bd.exec
  have hby := Bd.bytes
  have hml : c.maxLocals = 9 := hml0
  have hown : s.vm.findClass "com/example/ledgerwarden/ledgerwarden/EntryList$Group" = some m.cls := findClass_of_methodNamed Bd.named
  have hnm := (name_of_methodNamed Bd.named Bd.method).1
  have X0 : Stand p l e ({ frames := 1, cells := 0, slots := 0, locals := 12 } : Room) s m #[(.ref a1), (.long q1), (.long q2), (.long q3), (.long q4)] below meth c s₁ [] 0 0 := Stand.of_body Bd
  have e0 : s₁.heap = h0 := by rw [← hh, Bd.state]; rfl
  have N0 := Fr.nil n0
  refine own_body fun P hP => ?_
  refine own_st (t' := s₁.setTop (mkF m 0 #[.val (.ref a1), .val (.long q1), .second, .val (.long q2), .second, .val (.long q3), .second, .val (.long q4), .second] [])) (fun _ k => castTop (own_rm3_ef m a1 q1 q2 q3 q4) k) ?_
  refine own_st (t' := s₁.setTop (mkF m 1 #[.val (.ref a1), .val (.long q1), .second, .val (.long q2), .second, .val (.long q3), .second, .val (.long q4), .second] [(.ref a1)])) (fun _ k => XS.aloadN X0.here hx rfl (hb hby own_rm3_d0) rfl rfl k) ?_
  obtain ⟨T1, X1, e1, st1⟩ := initO X0 hx hZ hown (hw _ (List.mem_of_getElem? (i := 15) rfl)) (hw _ (List.mem_of_getElem? (i := 16) rfl)) (hw _ (List.mem_of_getElem? (i := 17) rfl)) e0 (g := (mkF m 1 #[.val (.ref a1), .val (.long q1), .second, .val (.long q2), .second, .val (.long q3), .second, .val (.long q4), .second] [(.ref a1)])) rfl (by rw [hml]; rfl) rfl (hb hby own_rm3_d1) (by decide) (W := 0) (by show 2 * 0 + _ ≤ _; exact Nat.le_of_eq rfl) (by decide)
  refine own_st (t' := T1.setTop (mkF m 4 #[.val (.ref a1), .val (.long q1), .second, .val (.long q2), .second, .val (.long q3), .second, .val (.long q4), .second] [])) st1 ?_
  refine own_st (t' := T1.setTop (mkF m 5 #[.val (.ref a1), .val (.long q1), .second, .val (.long q2), .second, .val (.long q3), .second, .val (.long q4), .second] [(.ref a1)])) (fun _ k => XS.aloadN X1.here hx rfl (hb hby own_rm3_d4) rfl rfl k) ?_
  refine own_st (t' := T1.setTop (mkF m 6 #[.val (.ref a1), .val (.long q1), .second, .val (.long q2), .second, .val (.long q3), .second, .val (.long q4), .second] [(.long q1), (.ref a1)])) (fun _ k => XS.lloadN X1.here hx rfl (hb hby own_rm3_d5) rfl k) ?_
  obtain ⟨T2, h2, X2, e2, W2, st2⟩ := putF X1 hx hZ hown (host := "") (Or.inl (hw _ (List.mem_of_getElem? (i := 18) rfl))) Via.refl e1 F_firstStart E_a1 (Or.inr ⟨(hw _ (List.mem_of_getElem? (i := 19) rfl)), rfl, hnm⟩) (hw _ (List.mem_of_getElem? (i := 10) rfl)) (ty := .long) (by decide) rfl rfl (g := (mkF m 6 #[.val (.ref a1), .val (.long q1), .second, .val (.long q2), .second, .val (.long q3), .second, .val (.long q4), .second] [(.long q1), (.ref a1)])) rfl rfl (hb hby own_rm3_d6)
  have Fw2 := F_firstStart.same W2
  have f2_Exa_a1 := E_a1.wr W2
  have f2_Fld_a1_lastStart := F_lastStart.other W2 (Or.inr (slot_ne (Or.inr (hw _ (List.mem_of_getElem? (i := 21) rfl))) (Or.inr (hw _ (List.mem_of_getElem? (i := 19) rfl))) (by decide) (t := .long) (t' := .long) (by decide) (by decide)))
  have f2_Fld_a1_size := F_size.other W2 (Or.inr (slot_ne (Or.inr (hw _ (List.mem_of_getElem? (i := 23) rfl))) (Or.inr (hw _ (List.mem_of_getElem? (i := 19) rfl))) (by decide) (t := .long) (t' := .long) (by decide) (by decide)))
  have f2_Fld_a1_period := F_period.other W2 (Or.inr (slot_ne (Or.inr (hw _ (List.mem_of_getElem? (i := 25) rfl))) (Or.inr (hw _ (List.mem_of_getElem? (i := 19) rfl))) (by decide) (t := .long) (t' := .long) (by decide) (by decide)))
  have N2 := Fr.snoc X2 N0 bg_a1
  have Z2 : n0 ≤ h2.size := Nat.le_trans Z0 (Keep.of_wr W2).1
  have K2 := (Keep.refl h0 [a1]).wr W2 (Or.inl (List.mem_of_getElem? (i := 0) rfl))
  refine own_st (t' := T2.setTop (mkF m 9 #[.val (.ref a1), .val (.long q1), .second, .val (.long q2), .second, .val (.long q3), .second, .val (.long q4), .second] [])) st2 ?_
  refine own_st (t' := T2.setTop (mkF m 10 #[.val (.ref a1), .val (.long q1), .second, .val (.long q2), .second, .val (.long q3), .second, .val (.long q4), .second] [(.ref a1)])) (fun _ k => XS.aloadN X2.here hx rfl (hb hby own_rm3_d9) rfl rfl k) ?_
  refine own_st (t' := T2.setTop (mkF m 11 #[.val (.ref a1), .val (.long q1), .second, .val (.long q2), .second, .val (.long q3), .second, .val (.long q4), .second] [(.long q2), (.ref a1)])) (fun _ k => XS.lloadN X2.here hx rfl (hb hby own_rm3_d10) rfl k) ?_
  obtain ⟨T3, h3, X3, e3, W3, st3⟩ := putF X2 hx hZ hown (host := "") (Or.inl (hw _ (List.mem_of_getElem? (i := 20) rfl))) Via.refl e2 f2_Fld_a1_lastStart f2_Exa_a1 (Or.inr ⟨(hw _ (List.mem_of_getElem? (i := 21) rfl)), rfl, hnm⟩) (hw _ (List.mem_of_getElem? (i := 10) rfl)) (ty := .long) (by decide) rfl rfl (g := (mkF m 11 #[.val (.ref a1), .val (.long q1), .second, .val (.long q2), .second, .val (.long q3), .second, .val (.long q4), .second] [(.long q2), (.ref a1)])) rfl rfl (hb hby own_rm3_d11)
  have Fw3 := f2_Fld_a1_lastStart.same W3
  have f3_Exa_a1 := f2_Exa_a1.wr W3
  have f3_Fld_a1_firstStart := Fw2.other W3 (Or.inr (slot_ne (Or.inr (hw _ (List.mem_of_getElem? (i := 19) rfl))) (Or.inr (hw _ (List.mem_of_getElem? (i := 21) rfl))) (by decide) (t := .long) (t' := .long) (by decide) (by decide)))
  have f3_Fld_a1_size := f2_Fld_a1_size.other W3 (Or.inr (slot_ne (Or.inr (hw _ (List.mem_of_getElem? (i := 23) rfl))) (Or.inr (hw _ (List.mem_of_getElem? (i := 21) rfl))) (by decide) (t := .long) (t' := .long) (by decide) (by decide)))
  have f3_Fld_a1_period := f2_Fld_a1_period.other W3 (Or.inr (slot_ne (Or.inr (hw _ (List.mem_of_getElem? (i := 25) rfl))) (Or.inr (hw _ (List.mem_of_getElem? (i := 21) rfl))) (by decide) (t := .long) (t' := .long) (by decide) (by decide)))
  have N3 := Fr.snoc X3 N2 bg_a1
  have Z3 : n0 ≤ h3.size := Nat.le_trans Z2 (Keep.of_wr W3).1
  have K3 := K2.wr W3 (Or.inl (List.mem_of_getElem? (i := 0) rfl))
  refine own_st (t' := T3.setTop (mkF m 14 #[.val (.ref a1), .val (.long q1), .second, .val (.long q2), .second, .val (.long q3), .second, .val (.long q4), .second] [])) st3 ?_
  refine own_st (t' := T3.setTop (mkF m 15 #[.val (.ref a1), .val (.long q1), .second, .val (.long q2), .second, .val (.long q3), .second, .val (.long q4), .second] [(.ref a1)])) (fun _ k => XS.aloadN X3.here hx rfl (hb hby own_rm3_d14) rfl rfl k) ?_
  refine own_st (t' := T3.setTop (mkF m 17 #[.val (.ref a1), .val (.long q1), .second, .val (.long q2), .second, .val (.long q3), .second, .val (.long q4), .second] [(.long q3), (.ref a1)])) (fun _ k => XS.lload X3.here hx rfl (hb hby own_rm3_d15) rfl k) ?_
  obtain ⟨T4, h4, X4, e4, W4, st4⟩ := putF X3 hx hZ hown (host := "") (Or.inl (hw _ (List.mem_of_getElem? (i := 22) rfl))) Via.refl e3 f3_Fld_a1_size f3_Exa_a1 (Or.inr ⟨(hw _ (List.mem_of_getElem? (i := 23) rfl)), rfl, hnm⟩) (hw _ (List.mem_of_getElem? (i := 10) rfl)) (ty := .long) (by decide) rfl rfl (g := (mkF m 17 #[.val (.ref a1), .val (.long q1), .second, .val (.long q2), .second, .val (.long q3), .second, .val (.long q4), .second] [(.long q3), (.ref a1)])) rfl rfl (hb hby own_rm3_d17)
  have Fw4 := f3_Fld_a1_size.same W4
  have f4_Exa_a1 := f3_Exa_a1.wr W4
  have f4_Fld_a1_firstStart := f3_Fld_a1_firstStart.other W4 (Or.inr (slot_ne (Or.inr (hw _ (List.mem_of_getElem? (i := 19) rfl))) (Or.inr (hw _ (List.mem_of_getElem? (i := 23) rfl))) (by decide) (t := .long) (t' := .long) (by decide) (by decide)))
  have f4_Fld_a1_lastStart := Fw3.other W4 (Or.inr (slot_ne (Or.inr (hw _ (List.mem_of_getElem? (i := 21) rfl))) (Or.inr (hw _ (List.mem_of_getElem? (i := 23) rfl))) (by decide) (t := .long) (t' := .long) (by decide) (by decide)))
  have f4_Fld_a1_period := f3_Fld_a1_period.other W4 (Or.inr (slot_ne (Or.inr (hw _ (List.mem_of_getElem? (i := 25) rfl))) (Or.inr (hw _ (List.mem_of_getElem? (i := 23) rfl))) (by decide) (t := .long) (t' := .long) (by decide) (by decide)))
  have N4 := Fr.snoc X4 N3 bg_a1
  have Z4 : n0 ≤ h4.size := Nat.le_trans Z3 (Keep.of_wr W4).1
  have K4 := K3.wr W4 (Or.inl (List.mem_of_getElem? (i := 0) rfl))
  refine own_st (t' := T4.setTop (mkF m 20 #[.val (.ref a1), .val (.long q1), .second, .val (.long q2), .second, .val (.long q3), .second, .val (.long q4), .second] [])) st4 ?_
  refine own_st (t' := T4.setTop (mkF m 21 #[.val (.ref a1), .val (.long q1), .second, .val (.long q2), .second, .val (.long q3), .second, .val (.long q4), .second] [(.ref a1)])) (fun _ k => XS.aloadN X4.here hx rfl (hb hby own_rm3_d20) rfl rfl k) ?_
  refine own_st (t' := T4.setTop (mkF m 23 #[.val (.ref a1), .val (.long q1), .second, .val (.long q2), .second, .val (.long q3), .second, .val (.long q4), .second] [(.long q4), (.ref a1)])) (fun _ k => XS.lload X4.here hx rfl (hb hby own_rm3_d21) rfl k) ?_
  obtain ⟨T5, h5, X5, e5, W5, st5⟩ := putF X4 hx hZ hown (host := "") (Or.inl (hw _ (List.mem_of_getElem? (i := 24) rfl))) Via.refl e4 f4_Fld_a1_period f4_Exa_a1 (Or.inr ⟨(hw _ (List.mem_of_getElem? (i := 25) rfl)), rfl, hnm⟩) (hw _ (List.mem_of_getElem? (i := 10) rfl)) (ty := .long) (by decide) rfl rfl (g := (mkF m 23 #[.val (.ref a1), .val (.long q1), .second, .val (.long q2), .second, .val (.long q3), .second, .val (.long q4), .second] [(.long q4), (.ref a1)])) rfl rfl (hb hby own_rm3_d23)
  have Fw5 := f4_Fld_a1_period.same W5
  have f5_Exa_a1 := f4_Exa_a1.wr W5
  have f5_Fld_a1_firstStart := f4_Fld_a1_firstStart.other W5 (Or.inr (slot_ne (Or.inr (hw _ (List.mem_of_getElem? (i := 19) rfl))) (Or.inr (hw _ (List.mem_of_getElem? (i := 25) rfl))) (by decide) (t := .long) (t' := .long) (by decide) (by decide)))
  have f5_Fld_a1_lastStart := f4_Fld_a1_lastStart.other W5 (Or.inr (slot_ne (Or.inr (hw _ (List.mem_of_getElem? (i := 21) rfl))) (Or.inr (hw _ (List.mem_of_getElem? (i := 25) rfl))) (by decide) (t := .long) (t' := .long) (by decide) (by decide)))
  have f5_Fld_a1_size := Fw4.other W5 (Or.inr (slot_ne (Or.inr (hw _ (List.mem_of_getElem? (i := 23) rfl))) (Or.inr (hw _ (List.mem_of_getElem? (i := 25) rfl))) (by decide) (t := .long) (t' := .long) (by decide) (by decide)))
  have N5 := Fr.snoc X5 N4 bg_a1
  have Z5 : n0 ≤ h5.size := Nat.le_trans Z4 (Keep.of_wr W5).1
  have K5 := K4.wr W5 (Or.inl (List.mem_of_getElem? (i := 0) rfl))
  refine own_st (t' := T5.setTop (mkF m 26 #[.val (.ref a1), .val (.long q1), .second, .val (.long q2), .second, .val (.long q3), .second, .val (.long q4), .second] [])) st5 ?_
  obtain ⟨fs, hr, hrun, hended, hW, hsame⟩ := X5.leave (v := none) (fun _ => rfl)
  exact ⟨_, _, X5.returnOut hx Bd.returns (hb hby own_rm3_d26) hr, hrun, hended, hP _ _ ⟨_, _, rfl, ⟨rfl, N5, (by show Keep h0 T5.heap [a1] ∧ Exa Z T5.heap a1 "com/example/ledgerwarden/ledgerwarden/EntryList$Group" ∧ Fld Z T5.heap a1 "com/example/ledgerwarden/ledgerwarden/EntryList$Group" "firstStart" "J" (.long q1) ∧ Fld Z T5.heap a1 "com/example/ledgerwarden/ledgerwarden/EntryList$Group" "lastStart" "J" (.long q2) ∧ Fld Z T5.heap a1 "com/example/ledgerwarden/ledgerwarden/EntryList$Group" "size" "J" (.long q3) ∧ Fld Z T5.heap a1 "com/example/ledgerwarden/ledgerwarden/EntryList$Group" "period" "J" (.long q4); rw [e5]; exact ⟨K5, f5_Exa_a1, f5_Fld_a1_firstStart, f5_Fld_a1_lastStart, f5_Fld_a1_size, Fw5⟩)⟩, ⟨_, rfl⟩, hW, hsame.mono (by decide) (by decide)⟩⟩

theorem own_rm4_d0 : decode prog_3_method_10_code 0 = .ok (.lload_n 1, 1) := by decide +kernel
theorem own_rm4_d1 : decode prog_3_method_10_code 1 = .ok (.aload_n 0, 1) := by decide +kernel
theorem own_rm4_d2 : decode prog_3_method_10_code 2 = .ok (.getfield 13, 3) := by decide +kernel
theorem own_rm4_d5 : decode prog_3_method_10_code 5 = .ok (.lsub, 1) := by decide +kernel
theorem own_rm4_d6 : decode prog_3_method_10_code 6 = .ok (.aload_n 0, 1) := by decide +kernel
theorem own_rm4_d7 : decode prog_3_method_10_code 7 = .ok (.getfield 16, 3) := by decide +kernel
theorem own_rm4_d10 : decode prog_3_method_10_code 10 = .ok (.lcmp, 1) := by decide +kernel
theorem own_rm4_d11 : decode prog_3_method_10_code 11 = .ok (.ifCond .ge 35, 3) := by decide +kernel
theorem own_rm4_d14 : decode prog_3_method_10_code 14 = .ok (.aload_n 0, 1) := by decide +kernel
theorem own_rm4_d15 : decode prog_3_method_10_code 15 = .ok (.getfield 19, 3) := by decide +kernel
theorem own_rm4_d18 : decode prog_3_method_10_code 18 = .ok (.lconst 0, 1) := by decide +kernel
theorem own_rm4_d19 : decode prog_3_method_10_code 19 = .ok (.lcmp, 1) := by decide +kernel
theorem own_rm4_d20 : decode prog_3_method_10_code 20 = .ok (.ifCond .eq 22, 3) := by decide +kernel
theorem own_rm4_d23 : decode prog_3_method_10_code 23 = .ok (.lload_n 1, 1) := by decide +kernel
theorem own_rm4_d24 : decode prog_3_method_10_code 24 = .ok (.aload_n 0, 1) := by decide +kernel
theorem own_rm4_d25 : decode prog_3_method_10_code 25 = .ok (.getfield 7, 3) := by decide +kernel
theorem own_rm4_d28 : decode prog_3_method_10_code 28 = .ok (.lsub, 1) := by decide +kernel
theorem own_rm4_d29 : decode prog_3_method_10_code 29 = .ok (.aload_n 0, 1) := by decide +kernel
theorem own_rm4_d30 : decode prog_3_method_10_code 30 = .ok (.getfield 19, 3) := by decide +kernel
theorem own_rm4_d33 : decode prog_3_method_10_code 33 = .ok (.lrem, 1) := by decide +kernel
theorem own_rm4_d34 : decode prog_3_method_10_code 34 = .ok (.aload_n 0, 1) := by decide +kernel
theorem own_rm4_d35 : decode prog_3_method_10_code 35 = .ok (.getfield 16, 3) := by decide +kernel
theorem own_rm4_d38 : decode prog_3_method_10_code 38 = .ok (.lcmp, 1) := by decide +kernel
theorem own_rm4_d39 : decode prog_3_method_10_code 39 = .ok (.ifCond .ge 7, 3) := by decide +kernel
theorem own_rm4_d42 : decode prog_3_method_10_code 42 = .ok (.iconst 1, 1) := by decide +kernel
theorem own_rm4_d43 : decode prog_3_method_10_code 43 = .ok (.goto 4, 3) := by decide +kernel
theorem own_rm4_d46 : decode prog_3_method_10_code 46 = .ok (.iconst 0, 1) := by decide +kernel
theorem own_rm4_d47 : decode prog_3_method_10_code 47 = .ok (.ireturn, 1) := by decide +kernel
theorem own_rm4_pn : plainName "com/example/ledgerwarden/ledgerwarden/EntryList$Group" = true := by first | (simp [plainName, overriddenIn]; done) | decide +kernel
theorem own_rm4_ef (m : MethodId) (x0 : Addr) (x1 : Int64) : entryFrame m #[(.ref x0), (.long x1)] 3 = mkF m 0 #[.val (.ref x0), .val (.long x1), .second] [] := by first | (simp [entryFrame, mkF, argsToLocals, Value.category]; done) | rfl
def own_rm4_Q (Z : State) (a1 : Addr) (q1 : Int64) (fi : Int64) (la : Int64) (sz : Int64) (pe : Int64) (h0 : Heap) (n0 : Nat) (v : Option Value) (h : Heap) (L : List Loc) : Prop := v = some (.int (own_cff fi la sz pe q1)) ∧ Fr n0 L ∧ h = h0
set_option maxRecDepth 65536 in
set_option maxHeartbeats 40000000 in
theorem own_rm4 (l : Launch) (Z : State) (a0 : Array Value) (hw : ∀ d ∈ tables_1, d.before a0 Z = true) (ws : List Jvm.Cond) (a1 : Addr) (q1 : Int64) (fi : Int64) (la : Int64) (sz : Int64) (pe : Int64) (h0 : Heap) (n0 : Nat) (Z0 : n0 ≤ h0.size) (F_firstStart : Fld Z h0 a1 "com/example/ledgerwarden/ledgerwarden/EntryList$Group" "firstStart" "J" (.long fi)) (F_lastStart : Fld Z h0 a1 "com/example/ledgerwarden/ledgerwarden/EntryList$Group" "lastStart" "J" (.long la)) (F_size : Fld Z h0 a1 "com/example/ledgerwarden/ledgerwarden/EntryList$Group" "size" "J" (.long sz)) (F_period : Fld Z h0 a1 "com/example/ledgerwarden/ledgerwarden/EntryList$Group" "period" "J" (.long pe)) :
    MetFree l (⟨"com/example/ledgerwarden/ledgerwarden/EntryList$Group", "containsFromFirstStart", "(J)Z"⟩ : MethodName) (head1 (Jvm.Cond.code (⟨"com/example/ledgerwarden/ledgerwarden/EntryList$Group", "containsFromFirstStart", "(J)Z"⟩ : MethodName) prog_3_method_10_code 3 (some .boolean) :: ws) ({ frames := 0, cells := 0, slots := 0, locals := 0 } : Room)) (fun a U => a = #[(.ref a1), (.long q1)] ∧ Z.Warmed39 U.vm ∧ U.heap = h0) (fun _ _ _ _ _ => True) (fun _ U o U' => ∃ v L, o = .returned v ∧ own_rm4_Q Z a1 q1 fi la sz pe h0 n0 v U'.heap L ∧ FrameEnd U o U' L ({ frames := 0, cells := 0, slots := 0, locals := 0 } : Room).cells ({ frames := 0, cells := 0, slots := 0, locals := 0 } : Room).slots) := by
  refine MetFree.of_bodySF (plainFor_of_name own_rm4_pn) hisR ?_
  intro p e s m args below meth c s₁ Bd hml0 hPre hK
  obtain ⟨rfl, hZ, hh⟩ := hPre
  have hx := Bd.exec
  have hby := Bd.bytes
  have hml : c.maxLocals = 3 := hml0
  have hown : s.vm.findClass "com/example/ledgerwarden/ledgerwarden/EntryList$Group" = some m.cls := findClass_of_methodNamed Bd.named
  have hnm := (name_of_methodNamed Bd.named Bd.method).1
  have X0 : Stand p l e ({ frames := 0, cells := 0, slots := 0, locals := 0 } : Room) s m #[(.ref a1), (.long q1)] below meth c s₁ [] 0 0 := Stand.of_body Bd
  have e0 : s₁.heap = h0 := by rw [← hh, Bd.state]; rfl
  have N0 := Fr.nil n0
  refine own_body fun P hP => ?_
  refine own_st (t' := s₁.setTop (mkF m 0 #[.val (.ref a1), .val (.long q1), .second] [])) (fun _ k => castTop (own_rm4_ef m a1 q1) k) ?_
  refine own_st (t' := s₁.setTop (mkF m 1 #[.val (.ref a1), .val (.long q1), .second] [(.long q1)])) (fun _ k => XS.lloadN X0.here hx rfl (hb hby own_rm4_d0) rfl k) ?_
  refine own_st (t' := s₁.setTop (mkF m 2 #[.val (.ref a1), .val (.long q1), .second] [(.ref a1), (.long q1)])) (fun _ k => XS.aloadN X0.here hx rfl (hb hby own_rm4_d1) rfl rfl k) ?_
  obtain ⟨T1, X1, e1, st1⟩ := getF X0 hx hZ hown (host := "") (Or.inl (hw _ (List.mem_of_getElem? (i := 20) rfl))) Via.refl e0 F_lastStart (g := (mkF m 2 #[.val (.ref a1), .val (.long q1), .second] [(.ref a1), (.long q1)])) rfl rfl (hb hby own_rm4_d2)
  refine own_st (t' := T1.setTop (mkF m 5 #[.val (.ref a1), .val (.long q1), .second] [(.long la), (.long q1)])) st1 ?_
  refine own_st (t' := T1.setTop (mkF m 6 #[.val (.ref a1), .val (.long q1), .second] [(.long (q1 - la))])) (fun _ k => XS.lsub X1.here hx rfl (hb hby own_rm4_d5) rfl k) ?_
  refine own_st (t' := T1.setTop (mkF m 7 #[.val (.ref a1), .val (.long q1), .second] [(.ref a1), (.long (q1 - la))])) (fun _ k => XS.aloadN X1.here hx rfl (hb hby own_rm4_d6) rfl rfl k) ?_
  obtain ⟨T2, X2, e2, st2⟩ := getF X1 hx hZ hown (host := "") (Or.inl (hw _ (List.mem_of_getElem? (i := 22) rfl))) Via.refl e1 F_size (g := (mkF m 7 #[.val (.ref a1), .val (.long q1), .second] [(.ref a1), (.long (q1 - la))])) rfl rfl (hb hby own_rm4_d7)
  refine own_st (t' := T2.setTop (mkF m 10 #[.val (.ref a1), .val (.long q1), .second] [(.long sz), (.long (q1 - la))])) st2 ?_
  refine own_st (t' := T2.setTop (mkF m 11 #[.val (.ref a1), .val (.long q1), .second] [(.int (lcmpW (q1 - la) sz))])) (fun _ k => XS.lcmp X2.here hx rfl (hb hby own_rm4_d10) rfl k) ?_
  by_cases c11_3 : (lcmpW (q1 - la) sz) < (0 : Int32)
  · refine own_st (t' := T2.setTop (mkF m 14 #[.val (.ref a1), .val (.long q1), .second] [])) (fun _ k => XS.ifNo X2.here hx rfl (hb hby own_rm4_d11) rfl ((if0 _ _).trans (tlt c11_3).2.1) k) ?_
    refine own_st (t' := T2.setTop (mkF m 15 #[.val (.ref a1), .val (.long q1), .second] [(.ref a1)])) (fun _ k => XS.aloadN X2.here hx rfl (hb hby own_rm4_d14) rfl rfl k) ?_
    obtain ⟨T4, X4, e4, st4⟩ := getF X2 hx hZ hown (host := "") (Or.inl (hw _ (List.mem_of_getElem? (i := 24) rfl))) Via.refl e2 F_period (g := (mkF m 15 #[.val (.ref a1), .val (.long q1), .second] [(.ref a1)])) rfl rfl (hb hby own_rm4_d15)
    refine own_st (t' := T4.setTop (mkF m 18 #[.val (.ref a1), .val (.long q1), .second] [(.long pe)])) st4 ?_
    refine own_st (t' := T4.setTop (mkF m 19 #[.val (.ref a1), .val (.long q1), .second] [(.long (0 : Int64)), (.long pe)])) (fun _ k => XS.lconst X4.here hx rfl (hb hby own_rm4_d18) k) ?_
    refine own_st (t' := T4.setTop (mkF m 20 #[.val (.ref a1), .val (.long q1), .second] [(.int (lcmpW pe (0 : Int64)))])) (fun _ k => XS.lcmp X4.here hx rfl (hb hby own_rm4_d19) rfl k) ?_
    by_cases c20_5 : (lcmpW pe (0 : Int64)) = (0 : Int32)
    · refine own_st (t' := T4.setTop (mkF m 42 #[.val (.ref a1), .val (.long q1), .second] [])) (fun _ k => XS.ifYes X4.here hx rfl (pc0 := 20) (pc' := 42) rfl (hb hby own_rm4_d20) rfl ((if0 _ _).trans (teq c20_5).1) (by decide) (by decide) k) ?_
      refine own_st (t' := T4.setTop (mkF m 43 #[.val (.ref a1), .val (.long q1), .second] [(.int (1 : Int32))])) (fun _ k => XS.iconst X4.here hx rfl (hb hby own_rm4_d42) k) ?_
      refine own_st (t' := T4.setTop (mkF m 47 #[.val (.ref a1), .val (.long q1), .second] [(.int (1 : Int32))])) (fun _ k => XS.goto X4.here hx rfl (pc0 := 43) (pc' := 47) rfl (hb hby own_rm4_d43) (by decide) (by decide) k) ?_
      have hv6 : (1 : Int32) = own_cff fi la sz pe q1 := by rw [own_cff, if_pos c11_3, if_pos c20_5]
      obtain ⟨fs, hr, hrun, hended, hW, hsame⟩ := X4.leave (v := some (.int (1 : Int32))) (fun h => by rw [Bd.returns] at h; cases h)
      exact ⟨_, _, retN X4 hx (t := .boolean) Bd.returns (by simp) (hb hby own_rm4_d47) hr, hrun, hended, hP _ _ ⟨_, _, rfl, ⟨(congrArg (fun z => some (Value.int z)) hv6), N0, e4⟩, ⟨_, rfl⟩, hW, hsame.mono (by decide) (by decide)⟩⟩
    · refine own_st (t' := T4.setTop (mkF m 23 #[.val (.ref a1), .val (.long q1), .second] [])) (fun _ k => XS.ifNo X4.here hx rfl (hb hby own_rm4_d20) rfl ((if0 _ _).trans (feq c20_5).1) k) ?_
      refine own_st (t' := T4.setTop (mkF m 24 #[.val (.ref a1), .val (.long q1), .second] [(.long q1)])) (fun _ k => XS.lloadN X4.here hx rfl (hb hby own_rm4_d23) rfl k) ?_
      refine own_st (t' := T4.setTop (mkF m 25 #[.val (.ref a1), .val (.long q1), .second] [(.ref a1), (.long q1)])) (fun _ k => XS.aloadN X4.here hx rfl (hb hby own_rm4_d24) rfl rfl k) ?_
      obtain ⟨T7, X7, e7, st7⟩ := getF X4 hx hZ hown (host := "") (Or.inl (hw _ (List.mem_of_getElem? (i := 18) rfl))) Via.refl e4 F_firstStart (g := (mkF m 25 #[.val (.ref a1), .val (.long q1), .second] [(.ref a1), (.long q1)])) rfl rfl (hb hby own_rm4_d25)
      refine own_st (t' := T7.setTop (mkF m 28 #[.val (.ref a1), .val (.long q1), .second] [(.long fi), (.long q1)])) st7 ?_
      refine own_st (t' := T7.setTop (mkF m 29 #[.val (.ref a1), .val (.long q1), .second] [(.long (q1 - fi))])) (fun _ k => XS.lsub X7.here hx rfl (hb hby own_rm4_d28) rfl k) ?_
      refine own_st (t' := T7.setTop (mkF m 30 #[.val (.ref a1), .val (.long q1), .second] [(.ref a1), (.long (q1 - fi))])) (fun _ k => XS.aloadN X7.here hx rfl (hb hby own_rm4_d29) rfl rfl k) ?_
      obtain ⟨T8, X8, e8, st8⟩ := getF X7 hx hZ hown (host := "") (Or.inl (hw _ (List.mem_of_getElem? (i := 24) rfl))) Via.refl e7 F_period (g := (mkF m 30 #[.val (.ref a1), .val (.long q1), .second] [(.ref a1), (.long (q1 - fi))])) rfl rfl (hb hby own_rm4_d30)
      refine own_st (t' := T8.setTop (mkF m 33 #[.val (.ref a1), .val (.long q1), .second] [(.long pe), (.long (q1 - fi))])) st8 ?_
      refine own_st (t' := T8.setTop (mkF m 34 #[.val (.ref a1), .val (.long q1), .second] [(.long ((q1 - fi) - ((q1 - fi) / pe) * pe))])) (fun _ k => XS.lrem X8.here hx rfl (hb hby own_rm4_d33) rfl (own_lcne c20_5) k) ?_
      refine own_st (t' := T8.setTop (mkF m 35 #[.val (.ref a1), .val (.long q1), .second] [(.ref a1), (.long ((q1 - fi) - ((q1 - fi) / pe) * pe))])) (fun _ k => XS.aloadN X8.here hx rfl (hb hby own_rm4_d34) rfl rfl k) ?_
      obtain ⟨T9, X9, e9, st9⟩ := getF X8 hx hZ hown (host := "") (Or.inl (hw _ (List.mem_of_getElem? (i := 22) rfl))) Via.refl e8 F_size (g := (mkF m 35 #[.val (.ref a1), .val (.long q1), .second] [(.ref a1), (.long ((q1 - fi) - ((q1 - fi) / pe) * pe))])) rfl rfl (hb hby own_rm4_d35)
      refine own_st (t' := T9.setTop (mkF m 38 #[.val (.ref a1), .val (.long q1), .second] [(.long sz), (.long ((q1 - fi) - ((q1 - fi) / pe) * pe))])) st9 ?_
      refine own_st (t' := T9.setTop (mkF m 39 #[.val (.ref a1), .val (.long q1), .second] [(.int (lcmpW ((q1 - fi) - ((q1 - fi) / pe) * pe) sz))])) (fun _ k => XS.lcmp X9.here hx rfl (hb hby own_rm4_d38) rfl k) ?_
      by_cases c39_10 : (lcmpW ((q1 - fi) - ((q1 - fi) / pe) * pe) sz) < (0 : Int32)
      · refine own_st (t' := T9.setTop (mkF m 42 #[.val (.ref a1), .val (.long q1), .second] [])) (fun _ k => XS.ifNo X9.here hx rfl (hb hby own_rm4_d39) rfl ((if0 _ _).trans (tlt c39_10).2.1) k) ?_
        refine own_st (t' := T9.setTop (mkF m 43 #[.val (.ref a1), .val (.long q1), .second] [(.int (1 : Int32))])) (fun _ k => XS.iconst X9.here hx rfl (hb hby own_rm4_d42) k) ?_
        refine own_st (t' := T9.setTop (mkF m 47 #[.val (.ref a1), .val (.long q1), .second] [(.int (1 : Int32))])) (fun _ k => XS.goto X9.here hx rfl (pc0 := 43) (pc' := 47) rfl (hb hby own_rm4_d43) (by decide) (by decide) k) ?_
        have hv11 : (1 : Int32) = own_cff fi la sz pe q1 := by rw [own_cff, if_pos c11_3, if_neg c20_5, if_pos c39_10]
        obtain ⟨fs, hr, hrun, hended, hW, hsame⟩ := X9.leave (v := some (.int (1 : Int32))) (fun h => by rw [Bd.returns] at h; cases h)
        exact ⟨_, _, retN X9 hx (t := .boolean) Bd.returns (by simp) (hb hby own_rm4_d47) hr, hrun, hended, hP _ _ ⟨_, _, rfl, ⟨(congrArg (fun z => some (Value.int z)) hv11), N0, e9⟩, ⟨_, rfl⟩, hW, hsame.mono (by decide) (by decide)⟩⟩
      · refine own_st (t' := T9.setTop (mkF m 46 #[.val (.ref a1), .val (.long q1), .second] [])) (fun _ k => XS.ifYes X9.here hx rfl (pc0 := 39) (pc' := 46) rfl (hb hby own_rm4_d39) rfl ((if0 _ _).trans (flt c39_10).2.1) (by decide) (by decide) k) ?_
        refine own_st (t' := T9.setTop (mkF m 47 #[.val (.ref a1), .val (.long q1), .second] [(.int (0 : Int32))])) (fun _ k => XS.iconst X9.here hx rfl (hb hby own_rm4_d46) k) ?_
        have hv12 : (0 : Int32) = own_cff fi la sz pe q1 := by rw [own_cff, if_pos c11_3, if_neg c20_5, if_neg c39_10]
        obtain ⟨fs, hr, hrun, hended, hW, hsame⟩ := X9.leave (v := some (.int (0 : Int32))) (fun h => by rw [Bd.returns] at h; cases h)
        exact ⟨_, _, retN X9 hx (t := .boolean) Bd.returns (by simp) (hb hby own_rm4_d47) hr, hrun, hended, hP _ _ ⟨_, _, rfl, ⟨(congrArg (fun z => some (Value.int z)) hv12), N0, e9⟩, ⟨_, rfl⟩, hW, hsame.mono (by decide) (by decide)⟩⟩
  · refine own_st (t' := T2.setTop (mkF m 46 #[.val (.ref a1), .val (.long q1), .second] [])) (fun _ k => XS.ifYes X2.here hx rfl (pc0 := 11) (pc' := 46) rfl (hb hby own_rm4_d11) rfl ((if0 _ _).trans (flt c11_3).2.1) (by decide) (by decide) k) ?_
    refine own_st (t' := T2.setTop (mkF m 47 #[.val (.ref a1), .val (.long q1), .second] [(.int (0 : Int32))])) (fun _ k => XS.iconst X2.here hx rfl (hb hby own_rm4_d46) k) ?_
    have hv13 : (0 : Int32) = own_cff fi la sz pe q1 := by rw [own_cff, if_neg c11_3]
    obtain ⟨fs, hr, hrun, hended, hW, hsame⟩ := X2.leave (v := some (.int (0 : Int32))) (fun h => by rw [Bd.returns] at h; cases h)
    exact ⟨_, _, retN X2 hx (t := .boolean) Bd.returns (by simp) (hb hby own_rm4_d47) hr, hrun, hended, hP _ _ ⟨_, _, rfl, ⟨(congrArg (fun z => some (Value.int z)) hv13), N0, e2⟩, ⟨_, rfl⟩, hW, hsame.mono (by decide) (by decide)⟩⟩

theorem own_rm0_pn : plainName "com/example/ledgerwarden/ledgerwarden/GroupContainsFromFirstStartPinLaw" = true := by first | (simp [plainName, overriddenIn]; done) | decide +kernel
theorem own_rm0_pd0 : parseMethodDescriptor "(JJ)J" = some ⟨[.long, .long], some .long⟩ := by decide +kernel
theorem own_rm0_pd1 : parseMethodDescriptor "(JJJJ)V" = some ⟨[.long, .long, .long, .long], none⟩ := by decide +kernel
theorem own_rm0_pd2 : parseMethodDescriptor "(J)Z" = some ⟨[.long], some .boolean⟩ := by decide +kernel
theorem own_rm0_ef (m : MethodId) (x0 : Int64) (x1 : Int64) (x2 : Int64) (x3 : Int64) (x4 : Int64) (x5 : Int64) : entryFrame m #[(.long x0), (.long x1), (.long x2), (.long x3), (.long x4), (.long x5)] maxLocals = mkF m 0 #[.val (.long x0), .second, .val (.long x1), .second, .val (.long x2), .second, .val (.long x3), .second, .val (.long x4), .second, .val (.long x5), .second, .unset, .unset, .unset, .unset, .unset, .unset, .unset, .unset, .unset, .unset, .unset, .unset, .unset, .unset, .unset, .unset] [] := by first | (simp [entryFrame, mkF, argsToLocals, Value.category, maxLocals]; done) | rfl
def own_rm0_Q (Z : State) (q1 : Int64) (q2 : Int64) (q3 : Int64) (q4 : Int64) (q5 : Int64) (q6 : Int64) (h0 : Heap) (n0 : Nat) (v : Option Value) (h : Heap) (L : List Loc) : Prop := v = some (.int ((1 : Int32))) ∧ Fr n0 L
set_option maxRecDepth 65536 in
set_option maxHeartbeats 40000000 in
theorem own_rm0 (l : Launch) (Z : State) (a0 : Array Value) (hw : ∀ d ∈ tables_1, d.before a0 Z = true) (ws : List Jvm.Cond) (q1 : Int64) (q2 : Int64) (q3 : Int64) (q4 : Int64) (q5 : Int64) (q6 : Int64) (h0 : Heap) (n0 : Nat) (Z0 : n0 ≤ h0.size) :
    MetFree l x (head1 (Jvm.Cond.code x code maxLocals ret :: ws) room_1) (fun a U => a = #[(.long q1), (.long q2), (.long q3), (.long q4), (.long q5), (.long q6)] ∧ Z.Warmed39 U.vm ∧ U.heap = h0) (fun _ _ _ _ _ => True) (fun _ U o U' => ∃ v L, o = .returned v ∧ own_rm0_Q Z q1 q2 q3 q4 q5 q6 h0 n0 v U'.heap L ∧ FrameEnd U o U' L room_1.cells room_1.slots) := by
  refine MetFree.of_bodySF (plainFor_of_name own_rm0_pn) hisR ?_
  intro p e s m args below meth c s₁ Bd hml0 hPre hK
  obtain ⟨rfl, hZ, hh⟩ := hPre
  have hx := Bd.exec
  have hby := Bd.bytes
  have hml : c.maxLocals = 28 := hml0
  have hown : s.vm.findClass "com/example/ledgerwarden/ledgerwarden/GroupContainsFromFirstStartPinLaw" = some m.cls := findClass_of_methodNamed Bd.named
  have hnm := (name_of_methodNamed Bd.named Bd.method).1
  have X0 : Stand p l e room_1 s m #[(.long q1), (.long q2), (.long q3), (.long q4), (.long q5), (.long q6)] below meth c s₁ [] 0 0 := Stand.of_body Bd
  have e0 : s₁.heap = h0 := by rw [← hh, Bd.state]; rfl
  have N0 := Fr.nil n0
  refine own_body fun P hP => ?_
  refine own_st (t' := s₁.setTop (mkF m 0 #[.val (.long q1), .second, .val (.long q2), .second, .val (.long q3), .second, .val (.long q4), .second, .val (.long q5), .second, .val (.long q6), .second, .unset, .unset, .unset, .unset, .unset, .unset, .unset, .unset, .unset, .unset, .unset, .unset, .unset, .unset, .unset, .unset] [])) (fun _ k => castTop (own_rm0_ef m q1 q2 q3 q4 q5 q6) k) ?_
  refine own_st (t' := s₁.setTop (mkF m 1 #[.val (.long q1), .second, .val (.long q2), .second, .val (.long q3), .second, .val (.long q4), .second, .val (.long q5), .second, .val (.long q6), .second, .unset, .unset, .unset, .unset, .unset, .unset, .unset, .unset, .unset, .unset, .unset, .unset, .unset, .unset, .unset, .unset] [(.long q2)])) (fun _ k => XS.lloadN X0.here hx rfl (hb hby at_0) rfl k) ?_
  refine own_st (t' := s₁.setTop (mkF m 4 #[.val (.long q1), .second, .val (.long q2), .second, .val (.long q3), .second, .val (.long q4), .second, .val (.long q5), .second, .val (.long q6), .second, .unset, .unset, .unset, .unset, .unset, .unset, .unset, .unset, .unset, .unset, .unset, .unset, .unset, .unset, .unset, .unset] [(.long (4294967295 : Int64)), (.long q2)])) (fun _ k => X0.ldc2Long hx hown (mvT hZ (hw _ (List.mem_of_getElem? (i := 0) rfl))) (g := (mkF m 1 #[.val (.long q1), .second, .val (.long q2), .second, .val (.long q3), .second, .val (.long q4), .second, .val (.long q5), .second, .val (.long q6), .second, .unset, .unset, .unset, .unset, .unset, .unset, .unset, .unset, .unset, .unset, .unset, .unset, .unset, .unset, .unset, .unset] [(.long q2)])) rfl (hb hby at_1) _ k) ?_
  refine own_st (t' := s₁.setTop (mkF m 5 #[.val (.long q1), .second, .val (.long q2), .second, .val (.long q3), .second, .val (.long q4), .second, .val (.long q5), .second, .val (.long q6), .second, .unset, .unset, .unset, .unset, .unset, .unset, .unset, .unset, .unset, .unset, .unset, .unset, .unset, .unset, .unset, .unset] [(.long (q2 &&& (4294967295 : Int64)))])) (fun _ k => XS.land X0.here hx rfl (hb hby at_4) rfl k) ?_
  refine own_st (t' := s₁.setTop (mkF m 7 #[.val (.long q1), .second, .val (.long q2), .second, .val (.long q3), .second, .val (.long q4), .second, .val (.long q5), .second, .val (.long q6), .second, .val (.long (q2 &&& (4294967295 : Int64))), .second, .unset, .unset, .unset, .unset, .unset, .unset, .unset, .unset, .unset, .unset, .unset, .unset, .unset, .unset] [])) (fun _ k => XS.lstore X0.here hx rfl (hb hby at_5) rfl (l' := #[.val (.long q1), .second, .val (.long q2), .second, .val (.long q3), .second, .val (.long q4), .second, .val (.long q5), .second, .val (.long q6), .second, .val (.long (q2 &&& (4294967295 : Int64))), .second, .unset, .unset, .unset, .unset, .unset, .unset, .unset, .unset, .unset, .unset, .unset, .unset, .unset, .unset]) rfl k) ?_
  generalize g_s0 : (q2 &&& (4294967295 : Int64)) = s0
  have J1 : ∀ ss : Int64, ss = (if lcmpW s0 (0 : Int64) = (0 : Int32) then (1 : Int64) else s0) → own_At p e below P (s₁.setTop (mkF m 17 #[.val (.long q1), .second, .val (.long q2), .second, .val (.long q3), .second, .val (.long q4), .second, .val (.long q5), .second, .val (.long q6), .second, .val (.long ss), .second, .unset, .unset, .unset, .unset, .unset, .unset, .unset, .unset, .unset, .unset, .unset, .unset, .unset, .unset] [])) := by
    intro ss  hz_ss
    have hs := own_ss g_s0 hz_ss
    refine own_st (t' := s₁.setTop (mkF m 18 #[.val (.long q1), .second, .val (.long q2), .second, .val (.long q3), .second, .val (.long q4), .second, .val (.long q5), .second, .val (.long q6), .second, .val (.long ss), .second, .unset, .unset, .unset, .unset, .unset, .unset, .unset, .unset, .unset, .unset, .unset, .unset, .unset, .unset] [(.long (0 : Int64))])) (fun _ k => XS.lconst X0.here hx rfl (hb hby at_17) k) ?_
    refine own_st (t' := s₁.setTop (mkF m 20 #[.val (.long q1), .second, .val (.long q2), .second, .val (.long q3), .second, .val (.long q4), .second, .val (.long q5), .second, .val (.long q6), .second, .val (.long ss), .second, .val (.long (0 : Int64)), .second, .unset, .unset, .unset, .unset, .unset, .unset, .unset, .unset, .unset, .unset, .unset, .unset] [])) (fun _ k => XS.lstore X0.here hx rfl (hb hby at_18) rfl (l' := #[.val (.long q1), .second, .val (.long q2), .second, .val (.long q3), .second, .val (.long q4), .second, .val (.long q5), .second, .val (.long q6), .second, .val (.long ss), .second, .val (.long (0 : Int64)), .second, .unset, .unset, .unset, .unset, .unset, .unset, .unset, .unset, .unset, .unset, .unset, .unset]) rfl k) ?_
    refine own_st (t' := s₁.setTop (mkF m 21 #[.val (.long q1), .second, .val (.long q2), .second, .val (.long q3), .second, .val (.long q4), .second, .val (.long q5), .second, .val (.long q6), .second, .val (.long ss), .second, .val (.long (0 : Int64)), .second, .unset, .unset, .unset, .unset, .unset, .unset, .unset, .unset, .unset, .unset, .unset, .unset] [(.long (0 : Int64))])) (fun _ k => XS.lconst X0.here hx rfl (hb hby at_20) k) ?_
    refine own_st (t' := s₁.setTop (mkF m 23 #[.val (.long q1), .second, .val (.long q2), .second, .val (.long q3), .second, .val (.long q4), .second, .val (.long q5), .second, .val (.long q6), .second, .val (.long ss), .second, .val (.long (0 : Int64)), .second, .val (.long (0 : Int64)), .second, .unset, .unset, .unset, .unset, .unset, .unset, .unset, .unset, .unset, .unset] [])) (fun _ k => XS.lstore X0.here hx rfl (hb hby at_21) rfl (l' := #[.val (.long q1), .second, .val (.long q2), .second, .val (.long q3), .second, .val (.long q4), .second, .val (.long q5), .second, .val (.long q6), .second, .val (.long ss), .second, .val (.long (0 : Int64)), .second, .val (.long (0 : Int64)), .second, .unset, .unset, .unset, .unset, .unset, .unset, .unset, .unset, .unset, .unset]) rfl k) ?_
    refine own_st (t' := s₁.setTop (mkF m 25 #[.val (.long q1), .second, .val (.long q2), .second, .val (.long q3), .second, .val (.long q4), .second, .val (.long q5), .second, .val (.long q6), .second, .val (.long ss), .second, .val (.long (0 : Int64)), .second, .val (.long (0 : Int64)), .second, .unset, .unset, .unset, .unset, .unset, .unset, .unset, .unset, .unset, .unset] [(.long q3)])) (fun _ k => XS.lload X0.here hx rfl (hb hby at_23) rfl k) ?_
    refine own_st (t' := s₁.setTop (mkF m 26 #[.val (.long q1), .second, .val (.long q2), .second, .val (.long q3), .second, .val (.long q4), .second, .val (.long q5), .second, .val (.long q6), .second, .val (.long ss), .second, .val (.long (0 : Int64)), .second, .val (.long (0 : Int64)), .second, .unset, .unset, .unset, .unset, .unset, .unset, .unset, .unset, .unset, .unset] [(.long (1 : Int64)), (.long q3)])) (fun _ k => XS.lconst X0.here hx rfl (hb hby at_25) k) ?_
    refine own_st (t' := s₁.setTop (mkF m 27 #[.val (.long q1), .second, .val (.long q2), .second, .val (.long q3), .second, .val (.long q4), .second, .val (.long q5), .second, .val (.long q6), .second, .val (.long ss), .second, .val (.long (0 : Int64)), .second, .val (.long (0 : Int64)), .second, .unset, .unset, .unset, .unset, .unset, .unset, .unset, .unset, .unset, .unset] [(.long (q3 &&& (1 : Int64)))])) (fun _ k => XS.land X0.here hx rfl (hb hby at_26) rfl k) ?_
    refine own_st (t' := s₁.setTop (mkF m 28 #[.val (.long q1), .second, .val (.long q2), .second, .val (.long q3), .second, .val (.long q4), .second, .val (.long q5), .second, .val (.long q6), .second, .val (.long ss), .second, .val (.long (0 : Int64)), .second, .val (.long (0 : Int64)), .second, .unset, .unset, .unset, .unset, .unset, .unset, .unset, .unset, .unset, .unset] [(.long (0 : Int64)), (.long (q3 &&& (1 : Int64)))])) (fun _ k => XS.lconst X0.here hx rfl (hb hby at_27) k) ?_
    refine own_st (t' := s₁.setTop (mkF m 29 #[.val (.long q1), .second, .val (.long q2), .second, .val (.long q3), .second, .val (.long q4), .second, .val (.long q5), .second, .val (.long q6), .second, .val (.long ss), .second, .val (.long (0 : Int64)), .second, .val (.long (0 : Int64)), .second, .unset, .unset, .unset, .unset, .unset, .unset, .unset, .unset, .unset, .unset] [(.int (lcmpW (q3 &&& (1 : Int64)) (0 : Int64)))])) (fun _ k => XS.lcmp X0.here hx rfl (hb hby at_28) rfl k) ?_
    by_cases c29_2 : (lcmpW (q3 &&& (1 : Int64)) (0 : Int64)) = (0 : Int32)
    · refine own_st (t' := s₁.setTop (mkF m 32 #[.val (.long q1), .second, .val (.long q2), .second, .val (.long q3), .second, .val (.long q4), .second, .val (.long q5), .second, .val (.long q6), .second, .val (.long ss), .second, .val (.long (0 : Int64)), .second, .val (.long (0 : Int64)), .second, .unset, .unset, .unset, .unset, .unset, .unset, .unset, .unset, .unset, .unset] [])) (fun _ k => XS.ifNo X0.here hx rfl (hb hby at_29) rfl ((if0 _ _).trans (teq c29_2).2) k) ?_
      refine own_st (t' := s₁.setTop (mkF m 34 #[.val (.long q1), .second, .val (.long q2), .second, .val (.long q3), .second, .val (.long q4), .second, .val (.long q5), .second, .val (.long q6), .second, .val (.long ss), .second, .val (.long (0 : Int64)), .second, .val (.long (0 : Int64)), .second, .unset, .unset, .unset, .unset, .unset, .unset, .unset, .unset, .unset, .unset] [(.long q6)])) (fun _ k => XS.lload X0.here hx rfl (hb hby at_32) rfl k) ?_
      refine own_st (t' := s₁.setTop (mkF m 37 #[.val (.long q1), .second, .val (.long q2), .second, .val (.long q3), .second, .val (.long q4), .second, .val (.long q5), .second, .val (.long q6), .second, .val (.long ss), .second, .val (.long (0 : Int64)), .second, .val (.long (0 : Int64)), .second, .unset, .unset, .unset, .unset, .unset, .unset, .unset, .unset, .unset, .unset] [(.long (9223372036854775807 : Int64)), (.long q6)])) (fun _ k => X0.ldc2Long hx hown (mvT hZ (hw _ (List.mem_of_getElem? (i := 1) rfl))) (g := (mkF m 34 #[.val (.long q1), .second, .val (.long q2), .second, .val (.long q3), .second, .val (.long q4), .second, .val (.long q5), .second, .val (.long q6), .second, .val (.long ss), .second, .val (.long (0 : Int64)), .second, .val (.long (0 : Int64)), .second, .unset, .unset, .unset, .unset, .unset, .unset, .unset, .unset, .unset, .unset] [(.long q6)])) rfl (hb hby at_34) _ k) ?_
      refine own_st (t' := s₁.setTop (mkF m 38 #[.val (.long q1), .second, .val (.long q2), .second, .val (.long q3), .second, .val (.long q4), .second, .val (.long q5), .second, .val (.long q6), .second, .val (.long ss), .second, .val (.long (0 : Int64)), .second, .val (.long (0 : Int64)), .second, .unset, .unset, .unset, .unset, .unset, .unset, .unset, .unset, .unset, .unset] [(.long (q6 &&& (9223372036854775807 : Int64)))])) (fun _ k => XS.land X0.here hx rfl (hb hby at_37) rfl k) ?_
      refine own_st (t' := s₁.setTop (mkF m 40 #[.val (.long q1), .second, .val (.long q2), .second, .val (.long q3), .second, .val (.long q4), .second, .val (.long q5), .second, .val (.long q6), .second, .val (.long ss), .second, .val (.long (0 : Int64)), .second, .val (.long (0 : Int64)), .second, .val (.long (q6 &&& (9223372036854775807 : Int64))), .second, .unset, .unset, .unset, .unset, .unset, .unset, .unset, .unset] [])) (fun _ k => XS.lstore X0.here hx rfl (hb hby at_38) rfl (l' := #[.val (.long q1), .second, .val (.long q2), .second, .val (.long q3), .second, .val (.long q4), .second, .val (.long q5), .second, .val (.long q6), .second, .val (.long ss), .second, .val (.long (0 : Int64)), .second, .val (.long (0 : Int64)), .second, .val (.long (q6 &&& (9223372036854775807 : Int64))), .second, .unset, .unset, .unset, .unset, .unset, .unset, .unset, .unset]) rfl k) ?_
      have hd := own_pos q6
      generalize (q6 &&& (9223372036854775807 : Int64)) = dd at hd ⊢
      have J3 : ∀ ex : Int32, ex = (if lcmpW dd ss < (0 : Int32) then (1 : Int32) else (0 : Int32)) → own_At p e below P (s₁.setTop (mkF m 55 #[.val (.long q1), .second, .val (.long q2), .second, .val (.long q3), .second, .val (.long q4), .second, .val (.long q5), .second, .val (.long q6), .second, .val (.long ss), .second, .val (.long (0 : Int64)), .second, .val (.long (0 : Int64)), .second, .val (.long dd), .second, .val (.int ex), .unset, .unset, .unset, .unset, .unset, .unset, .unset] [])) := by
        intro ex  hz_ex
        refine own_st (t' := s₁.setTop (mkF m 140 #[.val (.long q1), .second, .val (.long q2), .second, .val (.long q3), .second, .val (.long q4), .second, .val (.long q5), .second, .val (.long q6), .second, .val (.long ss), .second, .val (.long (0 : Int64)), .second, .val (.long (0 : Int64)), .second, .val (.long dd), .second, .val (.int ex), .unset, .unset, .unset, .unset, .unset, .unset, .unset] [])) (fun _ k => XS.goto X0.here hx rfl (pc0 := 55) (pc' := 140) rfl (hb hby at_55) (by decide) (by decide) k) ?_
        refine own_st (t' := s₁.setTop (mkF m 142 #[.val (.long q1), .second, .val (.long q2), .second, .val (.long q3), .second, .val (.long q4), .second, .val (.long q5), .second, .val (.long q6), .second, .val (.long ss), .second, .val (.long (0 : Int64)), .second, .val (.long (0 : Int64)), .second, .val (.long dd), .second, .val (.int ex), .unset, .unset, .unset, .unset, .unset, .unset, .unset] [(.long (0 : Int64))])) (fun _ k => XS.lload X0.here hx rfl (hb hby at_140) rfl k) ?_
        refine own_st (t' := s₁.setTop (mkF m 144 #[.val (.long q1), .second, .val (.long q2), .second, .val (.long q3), .second, .val (.long q4), .second, .val (.long q5), .second, .val (.long q6), .second, .val (.long ss), .second, .val (.long (0 : Int64)), .second, .val (.long (0 : Int64)), .second, .val (.long dd), .second, .val (.int ex), .unset, .unset, .unset, .unset, .unset, .unset, .unset] [(.long (0 : Int64)), (.long (0 : Int64))])) (fun _ k => XS.lload X0.here hx rfl (hb hby at_142) rfl k) ?_
        refine own_st (t' := s₁.setTop (mkF m 145 #[.val (.long q1), .second, .val (.long q2), .second, .val (.long q3), .second, .val (.long q4), .second, .val (.long q5), .second, .val (.long q6), .second, .val (.long ss), .second, .val (.long (0 : Int64)), .second, .val (.long (0 : Int64)), .second, .val (.long dd), .second, .val (.int ex), .unset, .unset, .unset, .unset, .unset, .unset, .unset] [(.long ((0 : Int64) * (0 : Int64)))])) (fun _ k => XS.lmul X0.here hx rfl (hb hby at_144) rfl k) ?_
        refine own_st (t' := s₁.setTop (mkF m 147 #[.val (.long q1), .second, .val (.long q2), .second, .val (.long q3), .second, .val (.long q4), .second, .val (.long q5), .second, .val (.long q6), .second, .val (.long ss), .second, .val (.long (0 : Int64)), .second, .val (.long (0 : Int64)), .second, .val (.long dd), .second, .val (.int ex), .unset, .unset, .unset, .unset, .unset, .unset, .unset] [(.long ss), (.long ((0 : Int64) * (0 : Int64)))])) (fun _ k => XS.lload X0.here hx rfl (hb hby at_145) rfl k) ?_
        refine own_st (t' := s₁.setTop (mkF m 148 #[.val (.long q1), .second, .val (.long q2), .second, .val (.long q3), .second, .val (.long q4), .second, .val (.long q5), .second, .val (.long q6), .second, .val (.long ss), .second, .val (.long (0 : Int64)), .second, .val (.long (0 : Int64)), .second, .val (.long dd), .second, .val (.int ex), .unset, .unset, .unset, .unset, .unset, .unset, .unset] [(.long (1 : Int64)), (.long ss), (.long ((0 : Int64) * (0 : Int64)))])) (fun _ k => XS.lconst X0.here hx rfl (hb hby at_147) k) ?_
        refine own_st (t' := s₁.setTop (mkF m 149 #[.val (.long q1), .second, .val (.long q2), .second, .val (.long q3), .second, .val (.long q4), .second, .val (.long q5), .second, .val (.long q6), .second, .val (.long ss), .second, .val (.long (0 : Int64)), .second, .val (.long (0 : Int64)), .second, .val (.long dd), .second, .val (.int ex), .unset, .unset, .unset, .unset, .unset, .unset, .unset] [(.long (ss - (1 : Int64))), (.long ((0 : Int64) * (0 : Int64)))])) (fun _ k => XS.lsub X0.here hx rfl (hb hby at_148) rfl k) ?_
        refine own_st (t' := s₁.setTop (mkF m 150 #[.val (.long q1), .second, .val (.long q2), .second, .val (.long q3), .second, .val (.long q4), .second, .val (.long q5), .second, .val (.long q6), .second, .val (.long ss), .second, .val (.long (0 : Int64)), .second, .val (.long (0 : Int64)), .second, .val (.long dd), .second, .val (.int ex), .unset, .unset, .unset, .unset, .unset, .unset, .unset] [(.long (((0 : Int64) * (0 : Int64)) + (ss - (1 : Int64))))])) (fun _ k => XS.ladd X0.here hx rfl (hb hby at_149) rfl k) ?_
        refine own_st (t' := s₁.setTop (mkF m 152 #[.val (.long q1), .second, .val (.long q2), .second, .val (.long q3), .second, .val (.long q4), .second, .val (.long q5), .second, .val (.long q6), .second, .val (.long ss), .second, .val (.long (0 : Int64)), .second, .val (.long (0 : Int64)), .second, .val (.long dd), .second, .val (.int ex), .val (.long (((0 : Int64) * (0 : Int64)) + (ss - (1 : Int64)))), .second, .unset, .unset, .unset, .unset, .unset] [])) (fun _ k => XS.lstore X0.here hx rfl (hb hby at_150) rfl (l' := #[.val (.long q1), .second, .val (.long q2), .second, .val (.long q3), .second, .val (.long q4), .second, .val (.long q5), .second, .val (.long q6), .second, .val (.long ss), .second, .val (.long (0 : Int64)), .second, .val (.long (0 : Int64)), .second, .val (.long dd), .second, .val (.int ex), .val (.long (((0 : Int64) * (0 : Int64)) + (ss - (1 : Int64)))), .second, .unset, .unset, .unset, .unset, .unset]) rfl k) ?_
        have hsp := own_sp0 hs
        generalize (((0 : Int64) * (0 : Int64)) + (ss - (1 : Int64))) = sp at hsp ⊢
        refine own_st (t' := s₁.setTop (mkF m 154 #[.val (.long q1), .second, .val (.long q2), .second, .val (.long q3), .second, .val (.long q4), .second, .val (.long q5), .second, .val (.long q6), .second, .val (.long ss), .second, .val (.long (0 : Int64)), .second, .val (.long (0 : Int64)), .second, .val (.long dd), .second, .val (.int ex), .val (.long sp), .second, .unset, .unset, .unset, .unset, .unset] [(.long dd)])) (fun _ k => XS.lload X0.here hx rfl (hb hby at_152) rfl k) ?_
        refine own_st (t' := s₁.setTop (mkF m 156 #[.val (.long q1), .second, .val (.long q2), .second, .val (.long q3), .second, .val (.long q4), .second, .val (.long q5), .second, .val (.long q6), .second, .val (.long ss), .second, .val (.long (0 : Int64)), .second, .val (.long (0 : Int64)), .second, .val (.long dd), .second, .val (.int ex), .val (.long sp), .second, .unset, .unset, .unset, .unset, .unset] [(.long sp), (.long dd)])) (fun _ k => XS.lload X0.here hx rfl (hb hby at_154) rfl k) ?_
        obtain ⟨_, _, ⟨T4, L4, k4, n4⟩, -, X4, ⟨Lc4, hQ4, l4, y4, z4⟩, st4⟩ := Jvm.LawKit.callS X0 hx (y := (⟨"java/lang/Math", "max", "(JJ)J"⟩ : MethodName)) hown (mvT hZ (hw _ (List.mem_of_getElem? (i := 2) rfl))) (mvT hZ (hw _ (List.mem_of_getElem? (i := 3) rfl))) (mvT hZ (hw _ (List.mem_of_getElem? (i := 4) rfl))) (mvT hZ (hw _ (List.mem_of_getElem? (i := 5) rfl))) (by decide) (backOf (W := 0) (own_rm1 l Z a0 hw [] dd sp  h0 n0 Z0 ) hZ (hw _ (List.mem_of_getElem? (i := 5) rfl)) (hw _ (List.mem_of_getElem? (i := 4) rfl)) (by decide) (by decide)) (g := (mkF m 156 #[.val (.long q1), .second, .val (.long q2), .second, .val (.long q3), .second, .val (.long q4), .second, .val (.long q5), .second, .val (.long q6), .second, .val (.long ss), .second, .val (.long (0 : Int64)), .second, .val (.long (0 : Int64)), .second, .val (.long dd), .second, .val (.int ex), .val (.long sp), .second, .unset, .unset, .unset, .unset, .unset] [(.long sp), (.long dd)])) rfl (by rw [hml]; rfl) (argsL := [(.long dd), (.long sp)]) (rest := []) (lenOf own_rm0_pd0 rfl) rfl (by show 2 * 0 + _ ≤ _; exact Nat.le_of_eq rfl) (hb hby at_156) (fun _ _ => ⟨rfl, e0, (by decide : 0 + 0 ≤ _), (by decide : 0 + 0 ≤ _)⟩)
        dsimp only [Pt.U, Pt.locs, Pt.cells, Pt.slots] at X4 l4 y4 z4 st4 hQ4
        subst l4 y4 z4
        obtain ⟨rfl, N4q, e4⟩ := hQ4
        have N4 := Fr.app N0 N4q
        refine own_st (t' := T4.setTop (mkF m 159 #[.val (.long q1), .second, .val (.long q2), .second, .val (.long q3), .second, .val (.long q4), .second, .val (.long q5), .second, .val (.long q6), .second, .val (.long ss), .second, .val (.long (0 : Int64)), .second, .val (.long (0 : Int64)), .second, .val (.long dd), .second, .val (.int ex), .val (.long sp), .second, .unset, .unset, .unset, .unset, .unset] [(.long (own_maxL dd sp))])) st4 ?_
        refine own_st (t' := T4.setTop (mkF m 161 #[.val (.long q1), .second, .val (.long q2), .second, .val (.long q3), .second, .val (.long q4), .second, .val (.long q5), .second, .val (.long q6), .second, .val (.long ss), .second, .val (.long (0 : Int64)), .second, .val (.long (0 : Int64)), .second, .val (.long dd), .second, .val (.int ex), .val (.long sp), .second, .val (.long (own_maxL dd sp)), .second, .unset, .unset, .unset] [])) (fun _ k => XS.lstore X4.here hx rfl (hb hby at_159) rfl (l' := #[.val (.long q1), .second, .val (.long q2), .second, .val (.long q3), .second, .val (.long q4), .second, .val (.long q5), .second, .val (.long q6), .second, .val (.long ss), .second, .val (.long (0 : Int64)), .second, .val (.long (0 : Int64)), .second, .val (.long dd), .second, .val (.int ex), .val (.long sp), .second, .val (.long (own_maxL dd sp)), .second, .unset, .unset, .unset]) rfl k) ?_
        refine own_st (t' := T4.setTop (mkF m 162 #[.val (.long q1), .second, .val (.long q2), .second, .val (.long q3), .second, .val (.long q4), .second, .val (.long q5), .second, .val (.long q6), .second, .val (.long ss), .second, .val (.long (0 : Int64)), .second, .val (.long (0 : Int64)), .second, .val (.long dd), .second, .val (.int ex), .val (.long sp), .second, .val (.long (own_maxL dd sp)), .second, .unset, .unset, .unset] [(.long q1)])) (fun _ k => XS.lloadN X4.here hx rfl (hb hby at_161) rfl k) ?_
        refine own_st (t' := T4.setTop (mkF m 165 #[.val (.long q1), .second, .val (.long q2), .second, .val (.long q3), .second, .val (.long q4), .second, .val (.long q5), .second, .val (.long q6), .second, .val (.long ss), .second, .val (.long (0 : Int64)), .second, .val (.long (0 : Int64)), .second, .val (.long dd), .second, .val (.int ex), .val (.long sp), .second, .val (.long (own_maxL dd sp)), .second, .unset, .unset, .unset] [(.long (9223372036854775807 : Int64)), (.long q1)])) (fun _ k => X4.ldc2Long hx hown (mvT hZ (hw _ (List.mem_of_getElem? (i := 1) rfl))) (g := (mkF m 162 #[.val (.long q1), .second, .val (.long q2), .second, .val (.long q3), .second, .val (.long q4), .second, .val (.long q5), .second, .val (.long q6), .second, .val (.long ss), .second, .val (.long (0 : Int64)), .second, .val (.long (0 : Int64)), .second, .val (.long dd), .second, .val (.int ex), .val (.long sp), .second, .val (.long (own_maxL dd sp)), .second, .unset, .unset, .unset] [(.long q1)])) rfl (hb hby at_162) _ k) ?_
        refine own_st (t' := T4.setTop (mkF m 166 #[.val (.long q1), .second, .val (.long q2), .second, .val (.long q3), .second, .val (.long q4), .second, .val (.long q5), .second, .val (.long q6), .second, .val (.long ss), .second, .val (.long (0 : Int64)), .second, .val (.long (0 : Int64)), .second, .val (.long dd), .second, .val (.int ex), .val (.long sp), .second, .val (.long (own_maxL dd sp)), .second, .unset, .unset, .unset] [(.long (q1 &&& (9223372036854775807 : Int64)))])) (fun _ k => XS.land X4.here hx rfl (hb hby at_165) rfl k) ?_
        refine own_st (t' := T4.setTop (mkF m 169 #[.val (.long q1), .second, .val (.long q2), .second, .val (.long q3), .second, .val (.long q4), .second, .val (.long q5), .second, .val (.long q6), .second, .val (.long ss), .second, .val (.long (0 : Int64)), .second, .val (.long (0 : Int64)), .second, .val (.long dd), .second, .val (.int ex), .val (.long sp), .second, .val (.long (own_maxL dd sp)), .second, .unset, .unset, .unset] [(.long (9223372036854775807 : Int64)), (.long (q1 &&& (9223372036854775807 : Int64)))])) (fun _ k => X4.ldc2Long hx hown (mvT hZ (hw _ (List.mem_of_getElem? (i := 1) rfl))) (g := (mkF m 166 #[.val (.long q1), .second, .val (.long q2), .second, .val (.long q3), .second, .val (.long q4), .second, .val (.long q5), .second, .val (.long q6), .second, .val (.long ss), .second, .val (.long (0 : Int64)), .second, .val (.long (0 : Int64)), .second, .val (.long dd), .second, .val (.int ex), .val (.long sp), .second, .val (.long (own_maxL dd sp)), .second, .unset, .unset, .unset] [(.long (q1 &&& (9223372036854775807 : Int64)))])) rfl (hb hby at_166) _ k) ?_
        refine own_st (t' := T4.setTop (mkF m 171 #[.val (.long q1), .second, .val (.long q2), .second, .val (.long q3), .second, .val (.long q4), .second, .val (.long q5), .second, .val (.long q6), .second, .val (.long ss), .second, .val (.long (0 : Int64)), .second, .val (.long (0 : Int64)), .second, .val (.long dd), .second, .val (.int ex), .val (.long sp), .second, .val (.long (own_maxL dd sp)), .second, .unset, .unset, .unset] [(.long (own_maxL dd sp)), (.long (9223372036854775807 : Int64)), (.long (q1 &&& (9223372036854775807 : Int64)))])) (fun _ k => XS.lload X4.here hx rfl (hb hby at_169) rfl k) ?_
        refine own_st (t' := T4.setTop (mkF m 172 #[.val (.long q1), .second, .val (.long q2), .second, .val (.long q3), .second, .val (.long q4), .second, .val (.long q5), .second, .val (.long q6), .second, .val (.long ss), .second, .val (.long (0 : Int64)), .second, .val (.long (0 : Int64)), .second, .val (.long dd), .second, .val (.int ex), .val (.long sp), .second, .val (.long (own_maxL dd sp)), .second, .unset, .unset, .unset] [(.long ((9223372036854775807 : Int64) - (own_maxL dd sp))), (.long (q1 &&& (9223372036854775807 : Int64)))])) (fun _ k => XS.lsub X4.here hx rfl (hb hby at_171) rfl k) ?_
        obtain ⟨_, _, ⟨T5, L5, k5, n5⟩, -, X5, ⟨Lc5, hQ5, l5, y5, z5⟩, st5⟩ := Jvm.LawKit.callS X4 hx (y := (⟨"java/lang/Math", "min", "(JJ)J"⟩ : MethodName)) hown (mvT hZ (hw _ (List.mem_of_getElem? (i := 6) rfl))) (mvT hZ (hw _ (List.mem_of_getElem? (i := 7) rfl))) (mvT hZ (hw _ (List.mem_of_getElem? (i := 4) rfl))) (mvT hZ (hw _ (List.mem_of_getElem? (i := 8) rfl))) (by decide) (backOf (W := 0) (own_rm2 l Z a0 hw [] (q1 &&& (9223372036854775807 : Int64)) ((9223372036854775807 : Int64) - (own_maxL dd sp))  h0 n0 Z0 ) hZ (hw _ (List.mem_of_getElem? (i := 8) rfl)) (hw _ (List.mem_of_getElem? (i := 4) rfl)) (by decide) (by decide)) (g := (mkF m 172 #[.val (.long q1), .second, .val (.long q2), .second, .val (.long q3), .second, .val (.long q4), .second, .val (.long q5), .second, .val (.long q6), .second, .val (.long ss), .second, .val (.long (0 : Int64)), .second, .val (.long (0 : Int64)), .second, .val (.long dd), .second, .val (.int ex), .val (.long sp), .second, .val (.long (own_maxL dd sp)), .second, .unset, .unset, .unset] [(.long ((9223372036854775807 : Int64) - (own_maxL dd sp))), (.long (q1 &&& (9223372036854775807 : Int64)))])) rfl (by rw [hml]; rfl) (argsL := [(.long (q1 &&& (9223372036854775807 : Int64))), (.long ((9223372036854775807 : Int64) - (own_maxL dd sp)))]) (rest := []) (lenOf own_rm0_pd0 rfl) rfl (by show 2 * 0 + _ ≤ _; exact Nat.le_of_eq rfl) (hb hby at_172) (fun _ _ => ⟨rfl, e4, (by decide : 0 + 0 + 0 ≤ _), (by decide : 0 + 0 + 0 ≤ _)⟩)
        dsimp only [Pt.U, Pt.locs, Pt.cells, Pt.slots] at X5 l5 y5 z5 st5 hQ5
        subst l5 y5 z5
        obtain ⟨rfl, N5q, e5⟩ := hQ5
        have N5 := Fr.app N4 N5q
        refine own_st (t' := T5.setTop (mkF m 175 #[.val (.long q1), .second, .val (.long q2), .second, .val (.long q3), .second, .val (.long q4), .second, .val (.long q5), .second, .val (.long q6), .second, .val (.long ss), .second, .val (.long (0 : Int64)), .second, .val (.long (0 : Int64)), .second, .val (.long dd), .second, .val (.int ex), .val (.long sp), .second, .val (.long (own_maxL dd sp)), .second, .unset, .unset, .unset] [(.long (own_minL (q1 &&& (9223372036854775807 : Int64)) ((9223372036854775807 : Int64) - (own_maxL dd sp))))])) st5 ?_
        refine own_st (t' := T5.setTop (mkF m 177 #[.val (.long q1), .second, .val (.long q2), .second, .val (.long q3), .second, .val (.long q4), .second, .val (.long q5), .second, .val (.long q6), .second, .val (.long ss), .second, .val (.long (0 : Int64)), .second, .val (.long (0 : Int64)), .second, .val (.long dd), .second, .val (.int ex), .val (.long sp), .second, .val (.long (own_maxL dd sp)), .second, .val (.long (own_minL (q1 &&& (9223372036854775807 : Int64)) ((9223372036854775807 : Int64) - (own_maxL dd sp)))), .second, .unset] [])) (fun _ k => XS.lstore X5.here hx rfl (hb hby at_175) rfl (l' := #[.val (.long q1), .second, .val (.long q2), .second, .val (.long q3), .second, .val (.long q4), .second, .val (.long q5), .second, .val (.long q6), .second, .val (.long ss), .second, .val (.long (0 : Int64)), .second, .val (.long (0 : Int64)), .second, .val (.long dd), .second, .val (.int ex), .val (.long sp), .second, .val (.long (own_maxL dd sp)), .second, .val (.long (own_minL (q1 &&& (9223372036854775807 : Int64)) ((9223372036854775807 : Int64) - (own_maxL dd sp)))), .second, .unset]) rfl k) ?_
        have hf := own_f q1 hd hsp
        generalize (own_minL (q1 &&& (9223372036854775807 : Int64)) ((9223372036854775807 : Int64) - (own_maxL dd sp))) = f at hf ⊢
        obtain ⟨T6, h6, X6, e6, E6, A6, D6, -, st6⟩ := newO X5 hx hZ hown (hw _ (List.mem_of_getElem? (i := 9) rfl)) (hw _ (List.mem_of_getElem? (i := 10) rfl)) (hw _ (List.mem_of_getElem? (i := 11) rfl)) e5 (g := (mkF m 177 #[.val (.long q1), .second, .val (.long q2), .second, .val (.long q3), .second, .val (.long q4), .second, .val (.long q5), .second, .val (.long q6), .second, .val (.long ss), .second, .val (.long (0 : Int64)), .second, .val (.long (0 : Int64)), .second, .val (.long dd), .second, .val (.int ex), .val (.long sp), .second, .val (.long (own_maxL dd sp)), .second, .val (.long f), .second, .unset] [])) rfl (hb hby at_177) (by decide) (by decide)
        obtain ⟨b6, g6⟩ : ∃ z, z = h0.size := ⟨_, rfl⟩
        rw [← g6] at A6 D6 st6
        have bg_b6 : n0 ≤ b6 := Nat.le_trans Z0 (Nat.le_of_eq g6.symm)
        have Z6 : n0 ≤ h6.size := Nat.le_trans Z0 E6.1
        have F6_firstStart : Fld Z h6 b6 "com/example/ledgerwarden/ledgerwarden/EntryList$Group" "firstStart" "J" (.long (0 : Int64)) := D6 (Or.inr (hw _ (List.mem_of_getElem? (i := 19) rfl))) (ty := .long) (by decide)
        have F6_lastStart : Fld Z h6 b6 "com/example/ledgerwarden/ledgerwarden/EntryList$Group" "lastStart" "J" (.long (0 : Int64)) := D6 (Or.inr (hw _ (List.mem_of_getElem? (i := 21) rfl))) (ty := .long) (by decide)
        have F6_size : Fld Z h6 b6 "com/example/ledgerwarden/ledgerwarden/EntryList$Group" "size" "J" (.long (0 : Int64)) := D6 (Or.inr (hw _ (List.mem_of_getElem? (i := 23) rfl))) (ty := .long) (by decide)
        have F6_period : Fld Z h6 b6 "com/example/ledgerwarden/ledgerwarden/EntryList$Group" "period" "J" (.long (0 : Int64)) := D6 (Or.inr (hw _ (List.mem_of_getElem? (i := 25) rfl))) (ty := .long) (by decide)
        refine own_st (t' := T6.setTop (mkF m 180 #[.val (.long q1), .second, .val (.long q2), .second, .val (.long q3), .second, .val (.long q4), .second, .val (.long q5), .second, .val (.long q6), .second, .val (.long ss), .second, .val (.long (0 : Int64)), .second, .val (.long (0 : Int64)), .second, .val (.long dd), .second, .val (.int ex), .val (.long sp), .second, .val (.long (own_maxL dd sp)), .second, .val (.long f), .second, .unset] [(.ref b6)])) st6 ?_
        refine own_st (t' := T6.setTop (mkF m 181 #[.val (.long q1), .second, .val (.long q2), .second, .val (.long q3), .second, .val (.long q4), .second, .val (.long q5), .second, .val (.long q6), .second, .val (.long ss), .second, .val (.long (0 : Int64)), .second, .val (.long (0 : Int64)), .second, .val (.long dd), .second, .val (.int ex), .val (.long sp), .second, .val (.long (own_maxL dd sp)), .second, .val (.long f), .second, .unset] [(.ref b6), (.ref b6)])) (fun _ k => XS.dup X6.here hx rfl (hb hby at_180) rfl rfl k) ?_
        refine own_st (t' := T6.setTop (mkF m 183 #[.val (.long q1), .second, .val (.long q2), .second, .val (.long q3), .second, .val (.long q4), .second, .val (.long q5), .second, .val (.long q6), .second, .val (.long ss), .second, .val (.long (0 : Int64)), .second, .val (.long (0 : Int64)), .second, .val (.long dd), .second, .val (.int ex), .val (.long sp), .second, .val (.long (own_maxL dd sp)), .second, .val (.long f), .second, .unset] [(.long f), (.ref b6), (.ref b6)])) (fun _ k => XS.lload X6.here hx rfl (hb hby at_181) rfl k) ?_
        refine own_st (t' := T6.setTop (mkF m 185 #[.val (.long q1), .second, .val (.long q2), .second, .val (.long q3), .second, .val (.long q4), .second, .val (.long q5), .second, .val (.long q6), .second, .val (.long ss), .second, .val (.long (0 : Int64)), .second, .val (.long (0 : Int64)), .second, .val (.long dd), .second, .val (.int ex), .val (.long sp), .second, .val (.long (own_maxL dd sp)), .second, .val (.long f), .second, .unset] [(.long f), (.long f), (.ref b6), (.ref b6)])) (fun _ k => XS.lload X6.here hx rfl (hb hby at_183) rfl k) ?_
        refine own_st (t' := T6.setTop (mkF m 187 #[.val (.long q1), .second, .val (.long q2), .second, .val (.long q3), .second, .val (.long q4), .second, .val (.long q5), .second, .val (.long q6), .second, .val (.long ss), .second, .val (.long (0 : Int64)), .second, .val (.long (0 : Int64)), .second, .val (.long dd), .second, .val (.int ex), .val (.long sp), .second, .val (.long (own_maxL dd sp)), .second, .val (.long f), .second, .unset] [(.long (0 : Int64)), (.long f), (.long f), (.ref b6), (.ref b6)])) (fun _ k => XS.lload X6.here hx rfl (hb hby at_185) rfl k) ?_
        refine own_st (t' := T6.setTop (mkF m 189 #[.val (.long q1), .second, .val (.long q2), .second, .val (.long q3), .second, .val (.long q4), .second, .val (.long q5), .second, .val (.long q6), .second, .val (.long ss), .second, .val (.long (0 : Int64)), .second, .val (.long (0 : Int64)), .second, .val (.long dd), .second, .val (.int ex), .val (.long sp), .second, .val (.long (own_maxL dd sp)), .second, .val (.long f), .second, .unset] [(.long (0 : Int64)), (.long (0 : Int64)), (.long f), (.long f), (.ref b6), (.ref b6)])) (fun _ k => XS.lload X6.here hx rfl (hb hby at_187) rfl k) ?_
        refine own_st (t' := T6.setTop (mkF m 190 #[.val (.long q1), .second, .val (.long q2), .second, .val (.long q3), .second, .val (.long q4), .second, .val (.long q5), .second, .val (.long q6), .second, .val (.long ss), .second, .val (.long (0 : Int64)), .second, .val (.long (0 : Int64)), .second, .val (.long dd), .second, .val (.int ex), .val (.long sp), .second, .val (.long (own_maxL dd sp)), .second, .val (.long f), .second, .unset] [(.long ((0 : Int64) * (0 : Int64))), (.long f), (.long f), (.ref b6), (.ref b6)])) (fun _ k => XS.lmul X6.here hx rfl (hb hby at_189) rfl k) ?_
        refine own_st (t' := T6.setTop (mkF m 191 #[.val (.long q1), .second, .val (.long q2), .second, .val (.long q3), .second, .val (.long q4), .second, .val (.long q5), .second, .val (.long q6), .second, .val (.long ss), .second, .val (.long (0 : Int64)), .second, .val (.long (0 : Int64)), .second, .val (.long dd), .second, .val (.int ex), .val (.long sp), .second, .val (.long (own_maxL dd sp)), .second, .val (.long f), .second, .unset] [(.long (f + ((0 : Int64) * (0 : Int64)))), (.long f), (.ref b6), (.ref b6)])) (fun _ k => XS.ladd X6.here hx rfl (hb hby at_190) rfl k) ?_
        refine own_st (t' := T6.setTop (mkF m 193 #[.val (.long q1), .second, .val (.long q2), .second, .val (.long q3), .second, .val (.long q4), .second, .val (.long q5), .second, .val (.long q6), .second, .val (.long ss), .second, .val (.long (0 : Int64)), .second, .val (.long (0 : Int64)), .second, .val (.long dd), .second, .val (.int ex), .val (.long sp), .second, .val (.long (own_maxL dd sp)), .second, .val (.long f), .second, .unset] [(.long ss), (.long (f + ((0 : Int64) * (0 : Int64)))), (.long f), (.ref b6), (.ref b6)])) (fun _ k => XS.lload X6.here hx rfl (hb hby at_191) rfl k) ?_
        refine own_st (t' := T6.setTop (mkF m 195 #[.val (.long q1), .second, .val (.long q2), .second, .val (.long q3), .second, .val (.long q4), .second, .val (.long q5), .second, .val (.long q6), .second, .val (.long ss), .second, .val (.long (0 : Int64)), .second, .val (.long (0 : Int64)), .second, .val (.long dd), .second, .val (.int ex), .val (.long sp), .second, .val (.long (own_maxL dd sp)), .second, .val (.long f), .second, .unset] [(.long (0 : Int64)), (.long ss), (.long (f + ((0 : Int64) * (0 : Int64)))), (.long f), (.ref b6), (.ref b6)])) (fun _ k => XS.lload X6.here hx rfl (hb hby at_193) rfl k) ?_
        obtain ⟨_, _, ⟨T7, L7, k7, n7⟩, -, X7, ⟨Lc7, hQ7, l7, y7, z7⟩, st7⟩ := X6.specialBack hx (y := (⟨"com/example/ledgerwarden/ledgerwarden/EntryList$Group", "<init>", "(JJJJ)V"⟩ : MethodName)) rfl hown (mvT hZ (hw _ (List.mem_of_getElem? (i := 12) rfl))) (mvT hZ (hw _ (List.mem_of_getElem? (i := 13) rfl))) (mvT hZ (hw _ (List.mem_of_getElem? (i := 14) rfl))) (by decide) (backOf (W := 1) (own_rm3 l Z a0 hw [] b6 f (f + ((0 : Int64) * (0 : Int64))) ss (0 : Int64) h6 n0 Z6 A6 F6_firstStart F6_lastStart F6_size F6_period bg_b6 ) hZ (hw _ (List.mem_of_getElem? (i := 14) rfl)) (hw _ (List.mem_of_getElem? (i := 11) rfl)) (by decide) (by decide)) (g := (mkF m 195 #[.val (.long q1), .second, .val (.long q2), .second, .val (.long q3), .second, .val (.long q4), .second, .val (.long q5), .second, .val (.long q6), .second, .val (.long ss), .second, .val (.long (0 : Int64)), .second, .val (.long (0 : Int64)), .second, .val (.long dd), .second, .val (.int ex), .val (.long sp), .second, .val (.long (own_maxL dd sp)), .second, .val (.long f), .second, .unset] [(.long (0 : Int64)), (.long ss), (.long (f + ((0 : Int64) * (0 : Int64)))), (.long f), (.ref b6), (.ref b6)])) rfl (by rw [hml]; rfl) (Steps.refl _) (a := b6) (argsL := [(.long f), (.long (f + ((0 : Int64) * (0 : Int64)))), (.long ss), (.long (0 : Int64))]) (rest := [(.ref b6)]) (lenOf own_rm0_pd1 rfl) rfl (by show 2 * 0 + _ ≤ _; exact Nat.le_of_eq rfl) (hb hby at_195) (fun _ _ => ⟨rfl, e6, (by decide : 0 + 0 + 0 + 1 + 0 ≤ _), (by decide : 0 + 0 + 0 + 4 + 0 ≤ _)⟩)
        dsimp only [Pt.U, Pt.locs, Pt.cells, Pt.slots] at X7 l7 y7 z7 st7 hQ7
        subst l7 y7 z7
        obtain ⟨rfl, N7q, K7q, g7e, g7f0, g7f1, g7f2, g7f3⟩ := hQ7
        have N7 := Fr.app N5 N7q
        have f7_Exa_b6 := A6.keep K7q
        have Z7 : n0 ≤ T7.heap.size := Nat.le_trans Z6 K7q.1
        refine own_tr (t' := T7.setTop (mkF m 198 #[.val (.long q1), .second, .val (.long q2), .second, .val (.long q3), .second, .val (.long q4), .second, .val (.long q5), .second, .val (.long q6), .second, .val (.long ss), .second, .val (.long (0 : Int64)), .second, .val (.long (0 : Int64)), .second, .val (.long dd), .second, .val (.int ex), .val (.long sp), .second, .val (.long (own_maxL dd sp)), .second, .val (.long f), .second, .unset] [(.ref b6)])) st7 ?_
        refine own_st (t' := T7.setTop (mkF m 200 #[.val (.long q1), .second, .val (.long q2), .second, .val (.long q3), .second, .val (.long q4), .second, .val (.long q5), .second, .val (.long q6), .second, .val (.long ss), .second, .val (.long (0 : Int64)), .second, .val (.long (0 : Int64)), .second, .val (.long dd), .second, .val (.int ex), .val (.long sp), .second, .val (.long (own_maxL dd sp)), .second, .val (.long f), .second, .val (.ref b6)] [])) (fun _ k => XS.astore X7.here hx rfl (hb hby at_198) rfl rfl (l' := #[.val (.long q1), .second, .val (.long q2), .second, .val (.long q3), .second, .val (.long q4), .second, .val (.long q5), .second, .val (.long q6), .second, .val (.long ss), .second, .val (.long (0 : Int64)), .second, .val (.long (0 : Int64)), .second, .val (.long dd), .second, .val (.int ex), .val (.long sp), .second, .val (.long (own_maxL dd sp)), .second, .val (.long f), .second, .val (.ref b6)]) rfl k) ?_
        refine own_st (t' := T7.setTop (mkF m 202 #[.val (.long q1), .second, .val (.long q2), .second, .val (.long q3), .second, .val (.long q4), .second, .val (.long q5), .second, .val (.long q6), .second, .val (.long ss), .second, .val (.long (0 : Int64)), .second, .val (.long (0 : Int64)), .second, .val (.long dd), .second, .val (.int ex), .val (.long sp), .second, .val (.long (own_maxL dd sp)), .second, .val (.long f), .second, .val (.ref b6)] [(.ref b6)])) (fun _ k => XS.aload X7.here hx rfl (hb hby at_200) rfl rfl k) ?_
        refine own_st (t' := T7.setTop (mkF m 204 #[.val (.long q1), .second, .val (.long q2), .second, .val (.long q3), .second, .val (.long q4), .second, .val (.long q5), .second, .val (.long q6), .second, .val (.long ss), .second, .val (.long (0 : Int64)), .second, .val (.long (0 : Int64)), .second, .val (.long dd), .second, .val (.int ex), .val (.long sp), .second, .val (.long (own_maxL dd sp)), .second, .val (.long f), .second, .val (.ref b6)] [(.long f), (.ref b6)])) (fun _ k => XS.lload X7.here hx rfl (hb hby at_202) rfl k) ?_
        refine own_st (t' := T7.setTop (mkF m 206 #[.val (.long q1), .second, .val (.long q2), .second, .val (.long q3), .second, .val (.long q4), .second, .val (.long q5), .second, .val (.long q6), .second, .val (.long ss), .second, .val (.long (0 : Int64)), .second, .val (.long (0 : Int64)), .second, .val (.long dd), .second, .val (.int ex), .val (.long sp), .second, .val (.long (own_maxL dd sp)), .second, .val (.long f), .second, .val (.ref b6)] [(.long dd), (.long f), (.ref b6)])) (fun _ k => XS.lload X7.here hx rfl (hb hby at_204) rfl k) ?_
        refine own_st (t' := T7.setTop (mkF m 207 #[.val (.long q1), .second, .val (.long q2), .second, .val (.long q3), .second, .val (.long q4), .second, .val (.long q5), .second, .val (.long q6), .second, .val (.long ss), .second, .val (.long (0 : Int64)), .second, .val (.long (0 : Int64)), .second, .val (.long dd), .second, .val (.int ex), .val (.long sp), .second, .val (.long (own_maxL dd sp)), .second, .val (.long f), .second, .val (.ref b6)] [(.long (f + dd)), (.ref b6)])) (fun _ k => XS.ladd X7.here hx rfl (hb hby at_206) rfl k) ?_
        obtain ⟨cq8, kq8, q8a, q8b, q8c⟩ := isOf hZ rfl g7e
        obtain ⟨_, _, ⟨T8, L8, k8, n8⟩, -, X8, ⟨Lc8, hQ8, l8, y8, z8⟩, st8⟩ := X7.virtualBack hx (y := (⟨"com/example/ledgerwarden/ledgerwarden/EntryList$Group", "containsFromFirstStart", "(J)Z"⟩ : MethodName)) (z := (⟨"com/example/ledgerwarden/ledgerwarden/EntryList$Group", "containsFromFirstStart", "(J)Z"⟩ : MethodName)) hown (mvT hZ (hw _ (List.mem_of_getElem? (i := 26) rfl))) (mvT hZ (hw _ (List.mem_of_getElem? (i := 27) rfl))) (notFace_of_selects (args := #[]) (mvT hZ (hw _ (List.mem_of_getElem? (i := 29) rfl)))) (mvT hZ (hw _ (List.mem_of_getElem? (i := 29) rfl))) (mvT hZ (hw _ (List.mem_of_getElem? (i := 28) rfl))) (by decide) (backOf (W := 0) (own_rm4 l Z a0 hw [] b6 (f + dd) f (f + ((0 : Int64) * (0 : Int64))) ss (0 : Int64) T7.heap n0 Z7 g7f0 g7f1 g7f2 g7f3) hZ (hw _ (List.mem_of_getElem? (i := 30) rfl)) (hw _ (List.mem_of_getElem? (i := 11) rfl)) (by decide) (by decide)) q8a q8c (g := (mkF m 207 #[.val (.long q1), .second, .val (.long q2), .second, .val (.long q3), .second, .val (.long q4), .second, .val (.long q5), .second, .val (.long q6), .second, .val (.long ss), .second, .val (.long (0 : Int64)), .second, .val (.long (0 : Int64)), .second, .val (.long dd), .second, .val (.int ex), .val (.long sp), .second, .val (.long (own_maxL dd sp)), .second, .val (.long f), .second, .val (.ref b6)] [(.long (f + dd)), (.ref b6)])) rfl (by rw [hml]; rfl) (Steps.refl _) (argsL := [(.long (f + dd))]) (rest := []) (lenOf own_rm0_pd2 rfl) rfl (by show 2 * 0 + _ ≤ _; exact Nat.le_of_eq rfl) (hb hby at_207) (fun _ _ => ⟨rfl, rfl, (by decide : 0 + 0 + 0 + 1 + 0 + 0 ≤ _), (by decide : 0 + 0 + 0 + 4 + 0 + 0 ≤ _)⟩)
        dsimp only [Pt.U, Pt.locs, Pt.cells, Pt.slots] at X8 l8 y8 z8 st8 hQ8
        subst l8 y8 z8
        obtain ⟨rfl, N8q, e8⟩ := hQ8
        have N8 := Fr.app N7 N8q
        refine own_tr (t' := T8.setTop (mkF m 210 #[.val (.long q1), .second, .val (.long q2), .second, .val (.long q3), .second, .val (.long q4), .second, .val (.long q5), .second, .val (.long q6), .second, .val (.long ss), .second, .val (.long (0 : Int64)), .second, .val (.long (0 : Int64)), .second, .val (.long dd), .second, .val (.int ex), .val (.long sp), .second, .val (.long (own_maxL dd sp)), .second, .val (.long f), .second, .val (.ref b6)] [(.int (own_cff f (f + ((0 : Int64) * (0 : Int64))) ss (0 : Int64) (f + dd)))])) st8 ?_
        refine own_st (t' := T8.setTop (mkF m 212 #[.val (.long q1), .second, .val (.long q2), .second, .val (.long q3), .second, .val (.long q4), .second, .val (.long q5), .second, .val (.long q6), .second, .val (.long ss), .second, .val (.long (0 : Int64)), .second, .val (.long (0 : Int64)), .second, .val (.long dd), .second, .val (.int ex), .val (.long sp), .second, .val (.long (own_maxL dd sp)), .second, .val (.long f), .second, .val (.ref b6)] [(.int ex), (.int (own_cff f (f + ((0 : Int64) * (0 : Int64))) ss (0 : Int64) (f + dd)))])) (fun _ k => XS.iload X8.here hx rfl (hb hby at_210) rfl k) ?_
        refine own_st (t' := T8.setTop (mkF m 215 #[.val (.long q1), .second, .val (.long q2), .second, .val (.long q3), .second, .val (.long q4), .second, .val (.long q5), .second, .val (.long q6), .second, .val (.long ss), .second, .val (.long (0 : Int64)), .second, .val (.long (0 : Int64)), .second, .val (.long dd), .second, .val (.int ex), .val (.long sp), .second, .val (.long (own_maxL dd sp)), .second, .val (.long f), .second, .val (.ref b6)] [])) (fun _ k => XS.icmpNo X8.here hx rfl (hb hby at_212) rfl (teq (own_end0 hs hd hsp hf hz_ex)).2 k) ?_
        refine own_st (t' := T8.setTop (mkF m 216 #[.val (.long q1), .second, .val (.long q2), .second, .val (.long q3), .second, .val (.long q4), .second, .val (.long q5), .second, .val (.long q6), .second, .val (.long ss), .second, .val (.long (0 : Int64)), .second, .val (.long (0 : Int64)), .second, .val (.long dd), .second, .val (.int ex), .val (.long sp), .second, .val (.long (own_maxL dd sp)), .second, .val (.long f), .second, .val (.ref b6)] [(.int (1 : Int32))])) (fun _ k => XS.iconst X8.here hx rfl (hb hby at_215) k) ?_
        refine own_st (t' := T8.setTop (mkF m 220 #[.val (.long q1), .second, .val (.long q2), .second, .val (.long q3), .second, .val (.long q4), .second, .val (.long q5), .second, .val (.long q6), .second, .val (.long ss), .second, .val (.long (0 : Int64)), .second, .val (.long (0 : Int64)), .second, .val (.long dd), .second, .val (.int ex), .val (.long sp), .second, .val (.long (own_maxL dd sp)), .second, .val (.long f), .second, .val (.ref b6)] [(.int (1 : Int32))])) (fun _ k => XS.goto X8.here hx rfl (pc0 := 216) (pc' := 220) rfl (hb hby at_216) (by decide) (by decide) k) ?_
        have hv9 : (1 : Int32) = (1 : Int32) := rfl
        obtain ⟨fs, hr, hrun, hended, hW, hsame⟩ := X8.leave (v := some (.int (1 : Int32))) (fun h => by rw [Bd.returns] at h; cases h)
        exact ⟨_, _, retN X8 hx (t := .boolean) Bd.returns (by simp) (hb hby at_220) hr, hrun, hended, hP _ _ ⟨_, _, rfl, ⟨(congrArg (fun z => some (Value.int z)) hv9), N8⟩, ⟨_, rfl⟩, hW, hsame.mono (by decide) (by decide)⟩⟩
      refine own_st (t' := s₁.setTop (mkF m 42 #[.val (.long q1), .second, .val (.long q2), .second, .val (.long q3), .second, .val (.long q4), .second, .val (.long q5), .second, .val (.long q6), .second, .val (.long ss), .second, .val (.long (0 : Int64)), .second, .val (.long (0 : Int64)), .second, .val (.long dd), .second, .unset, .unset, .unset, .unset, .unset, .unset, .unset, .unset] [(.long dd)])) (fun _ k => XS.lload X0.here hx rfl (hb hby at_40) rfl k) ?_
      refine own_st (t' := s₁.setTop (mkF m 44 #[.val (.long q1), .second, .val (.long q2), .second, .val (.long q3), .second, .val (.long q4), .second, .val (.long q5), .second, .val (.long q6), .second, .val (.long ss), .second, .val (.long (0 : Int64)), .second, .val (.long (0 : Int64)), .second, .val (.long dd), .second, .unset, .unset, .unset, .unset, .unset, .unset, .unset, .unset] [(.long ss), (.long dd)])) (fun _ k => XS.lload X0.here hx rfl (hb hby at_42) rfl k) ?_
      refine own_st (t' := s₁.setTop (mkF m 45 #[.val (.long q1), .second, .val (.long q2), .second, .val (.long q3), .second, .val (.long q4), .second, .val (.long q5), .second, .val (.long q6), .second, .val (.long ss), .second, .val (.long (0 : Int64)), .second, .val (.long (0 : Int64)), .second, .val (.long dd), .second, .unset, .unset, .unset, .unset, .unset, .unset, .unset, .unset] [(.int (lcmpW dd ss))])) (fun _ k => XS.lcmp X0.here hx rfl (hb hby at_44) rfl k) ?_
      by_cases c45_10 : (lcmpW dd ss) < (0 : Int32)
      · refine own_st (t' := s₁.setTop (mkF m 48 #[.val (.long q1), .second, .val (.long q2), .second, .val (.long q3), .second, .val (.long q4), .second, .val (.long q5), .second, .val (.long q6), .second, .val (.long ss), .second, .val (.long (0 : Int64)), .second, .val (.long (0 : Int64)), .second, .val (.long dd), .second, .unset, .unset, .unset, .unset, .unset, .unset, .unset, .unset] [])) (fun _ k => XS.ifNo X0.here hx rfl (hb hby at_45) rfl ((if0 _ _).trans (tlt c45_10).2.1) k) ?_
        refine own_st (t' := s₁.setTop (mkF m 49 #[.val (.long q1), .second, .val (.long q2), .second, .val (.long q3), .second, .val (.long q4), .second, .val (.long q5), .second, .val (.long q6), .second, .val (.long ss), .second, .val (.long (0 : Int64)), .second, .val (.long (0 : Int64)), .second, .val (.long dd), .second, .unset, .unset, .unset, .unset, .unset, .unset, .unset, .unset] [(.int (1 : Int32))])) (fun _ k => XS.iconst X0.here hx rfl (hb hby at_48) k) ?_
        refine own_st (t' := s₁.setTop (mkF m 53 #[.val (.long q1), .second, .val (.long q2), .second, .val (.long q3), .second, .val (.long q4), .second, .val (.long q5), .second, .val (.long q6), .second, .val (.long ss), .second, .val (.long (0 : Int64)), .second, .val (.long (0 : Int64)), .second, .val (.long dd), .second, .unset, .unset, .unset, .unset, .unset, .unset, .unset, .unset] [(.int (1 : Int32))])) (fun _ k => XS.goto X0.here hx rfl (pc0 := 49) (pc' := 53) rfl (hb hby at_49) (by decide) (by decide) k) ?_
        refine own_st (t' := s₁.setTop (mkF m 55 #[.val (.long q1), .second, .val (.long q2), .second, .val (.long q3), .second, .val (.long q4), .second, .val (.long q5), .second, .val (.long q6), .second, .val (.long ss), .second, .val (.long (0 : Int64)), .second, .val (.long (0 : Int64)), .second, .val (.long dd), .second, .val (.int (1 : Int32)), .unset, .unset, .unset, .unset, .unset, .unset, .unset] [])) (fun _ k => XS.istore X0.here hx rfl (hb hby at_53) rfl (l' := #[.val (.long q1), .second, .val (.long q2), .second, .val (.long q3), .second, .val (.long q4), .second, .val (.long q5), .second, .val (.long q6), .second, .val (.long ss), .second, .val (.long (0 : Int64)), .second, .val (.long (0 : Int64)), .second, .val (.long dd), .second, .val (.int (1 : Int32)), .unset, .unset, .unset, .unset, .unset, .unset, .unset]) rfl k) ?_
        exact J3 _ (by rw [if_pos c45_10])
      · refine own_st (t' := s₁.setTop (mkF m 52 #[.val (.long q1), .second, .val (.long q2), .second, .val (.long q3), .second, .val (.long q4), .second, .val (.long q5), .second, .val (.long q6), .second, .val (.long ss), .second, .val (.long (0 : Int64)), .second, .val (.long (0 : Int64)), .second, .val (.long dd), .second, .unset, .unset, .unset, .unset, .unset, .unset, .unset, .unset] [])) (fun _ k => XS.ifYes X0.here hx rfl (pc0 := 45) (pc' := 52) rfl (hb hby at_45) rfl ((if0 _ _).trans (flt c45_10).2.1) (by decide) (by decide) k) ?_
        refine own_st (t' := s₁.setTop (mkF m 53 #[.val (.long q1), .second, .val (.long q2), .second, .val (.long q3), .second, .val (.long q4), .second, .val (.long q5), .second, .val (.long q6), .second, .val (.long ss), .second, .val (.long (0 : Int64)), .second, .val (.long (0 : Int64)), .second, .val (.long dd), .second, .unset, .unset, .unset, .unset, .unset, .unset, .unset, .unset] [(.int (0 : Int32))])) (fun _ k => XS.iconst X0.here hx rfl (hb hby at_52) k) ?_
        refine own_st (t' := s₁.setTop (mkF m 55 #[.val (.long q1), .second, .val (.long q2), .second, .val (.long q3), .second, .val (.long q4), .second, .val (.long q5), .second, .val (.long q6), .second, .val (.long ss), .second, .val (.long (0 : Int64)), .second, .val (.long (0 : Int64)), .second, .val (.long dd), .second, .val (.int (0 : Int32)), .unset, .unset, .unset, .unset, .unset, .unset, .unset] [])) (fun _ k => XS.istore X0.here hx rfl (hb hby at_53) rfl (l' := #[.val (.long q1), .second, .val (.long q2), .second, .val (.long q3), .second, .val (.long q4), .second, .val (.long q5), .second, .val (.long q6), .second, .val (.long ss), .second, .val (.long (0 : Int64)), .second, .val (.long (0 : Int64)), .second, .val (.long dd), .second, .val (.int (0 : Int32)), .unset, .unset, .unset, .unset, .unset, .unset, .unset]) rfl k) ?_
        exact J3 _ (by rw [if_neg c45_10])
    · refine own_st (t' := s₁.setTop (mkF m 58 #[.val (.long q1), .second, .val (.long q2), .second, .val (.long q3), .second, .val (.long q4), .second, .val (.long q5), .second, .val (.long q6), .second, .val (.long ss), .second, .val (.long (0 : Int64)), .second, .val (.long (0 : Int64)), .second, .unset, .unset, .unset, .unset, .unset, .unset, .unset, .unset, .unset, .unset] [])) (fun _ k => XS.ifYes X0.here hx rfl (pc0 := 29) (pc' := 58) rfl (hb hby at_29) rfl ((if0 _ _).trans (feq c29_2).2) (by decide) (by decide) k) ?_
      refine own_st (t' := s₁.setTop (mkF m 60 #[.val (.long q1), .second, .val (.long q2), .second, .val (.long q3), .second, .val (.long q4), .second, .val (.long q5), .second, .val (.long q6), .second, .val (.long ss), .second, .val (.long (0 : Int64)), .second, .val (.long (0 : Int64)), .second, .unset, .unset, .unset, .unset, .unset, .unset, .unset, .unset, .unset, .unset] [(.long ss)])) (fun _ k => XS.lload X0.here hx rfl (hb hby at_58) rfl k) ?_
      refine own_st (t' := s₁.setTop (mkF m 62 #[.val (.long q1), .second, .val (.long q2), .second, .val (.long q3), .second, .val (.long q4), .second, .val (.long q5), .second, .val (.long q6), .second, .val (.long ss), .second, .val (.long (0 : Int64)), .second, .val (.long (0 : Int64)), .second, .unset, .unset, .unset, .unset, .unset, .unset, .unset, .unset, .unset, .unset] [(.long q3), (.long ss)])) (fun _ k => XS.lload X0.here hx rfl (hb hby at_60) rfl k) ?_
      refine own_st (t' := s₁.setTop (mkF m 63 #[.val (.long q1), .second, .val (.long q2), .second, .val (.long q3), .second, .val (.long q4), .second, .val (.long q5), .second, .val (.long q6), .second, .val (.long ss), .second, .val (.long (0 : Int64)), .second, .val (.long (0 : Int64)), .second, .unset, .unset, .unset, .unset, .unset, .unset, .unset, .unset, .unset, .unset] [(.int (1 : Int32)), (.long q3), (.long ss)])) (fun _ k => XS.iconst X0.here hx rfl (hb hby at_62) k) ?_
      refine own_st (t' := s₁.setTop (mkF m 64 #[.val (.long q1), .second, .val (.long q2), .second, .val (.long q3), .second, .val (.long q4), .second, .val (.long q5), .second, .val (.long q6), .second, .val (.long ss), .second, .val (.long (0 : Int64)), .second, .val (.long (0 : Int64)), .second, .unset, .unset, .unset, .unset, .unset, .unset, .unset, .unset, .unset, .unset] [(.long ((q3.toUInt64 >>> ((1 : Int32) &&& 0x3f).toInt64.toUInt64).toInt64)), (.long ss)])) (fun _ k => XS.lushr X0.here hx rfl (hb hby at_63) rfl k) ?_
      refine own_st (t' := s₁.setTop (mkF m 67 #[.val (.long q1), .second, .val (.long q2), .second, .val (.long q3), .second, .val (.long q4), .second, .val (.long q5), .second, .val (.long q6), .second, .val (.long ss), .second, .val (.long (0 : Int64)), .second, .val (.long (0 : Int64)), .second, .unset, .unset, .unset, .unset, .unset, .unset, .unset, .unset, .unset, .unset] [(.long (4294967295 : Int64)), (.long ((q3.toUInt64 >>> ((1 : Int32) &&& 0x3f).toInt64.toUInt64).toInt64)), (.long ss)])) (fun _ k => X0.ldc2Long hx hown (mvT hZ (hw _ (List.mem_of_getElem? (i := 0) rfl))) (g := (mkF m 64 #[.val (.long q1), .second, .val (.long q2), .second, .val (.long q3), .second, .val (.long q4), .second, .val (.long q5), .second, .val (.long q6), .second, .val (.long ss), .second, .val (.long (0 : Int64)), .second, .val (.long (0 : Int64)), .second, .unset, .unset, .unset, .unset, .unset, .unset, .unset, .unset, .unset, .unset] [(.long ((q3.toUInt64 >>> ((1 : Int32) &&& 0x3f).toInt64.toUInt64).toInt64)), (.long ss)])) rfl (hb hby at_64) _ k) ?_
      refine own_st (t' := s₁.setTop (mkF m 68 #[.val (.long q1), .second, .val (.long q2), .second, .val (.long q3), .second, .val (.long q4), .second, .val (.long q5), .second, .val (.long q6), .second, .val (.long ss), .second, .val (.long (0 : Int64)), .second, .val (.long (0 : Int64)), .second, .unset, .unset, .unset, .unset, .unset, .unset, .unset, .unset, .unset, .unset] [(.long (((q3.toUInt64 >>> ((1 : Int32) &&& 0x3f).toInt64.toUInt64).toInt64) &&& (4294967295 : Int64))), (.long ss)])) (fun _ k => XS.land X0.here hx rfl (hb hby at_67) rfl k) ?_
      refine own_st (t' := s₁.setTop (mkF m 71 #[.val (.long q1), .second, .val (.long q2), .second, .val (.long q3), .second, .val (.long q4), .second, .val (.long q5), .second, .val (.long q6), .second, .val (.long ss), .second, .val (.long (0 : Int64)), .second, .val (.long (0 : Int64)), .second, .unset, .unset, .unset, .unset, .unset, .unset, .unset, .unset, .unset, .unset] [(.long (4294967296 : Int64)), (.long (((q3.toUInt64 >>> ((1 : Int32) &&& 0x3f).toInt64.toUInt64).toInt64) &&& (4294967295 : Int64))), (.long ss)])) (fun _ k => X0.ldc2Long hx hown (mvT hZ (hw _ (List.mem_of_getElem? (i := 31) rfl))) (g := (mkF m 68 #[.val (.long q1), .second, .val (.long q2), .second, .val (.long q3), .second, .val (.long q4), .second, .val (.long q5), .second, .val (.long q6), .second, .val (.long ss), .second, .val (.long (0 : Int64)), .second, .val (.long (0 : Int64)), .second, .unset, .unset, .unset, .unset, .unset, .unset, .unset, .unset, .unset, .unset] [(.long (((q3.toUInt64 >>> ((1 : Int32) &&& 0x3f).toInt64.toUInt64).toInt64) &&& (4294967295 : Int64))), (.long ss)])) rfl (hb hby at_68) _ k) ?_
      refine own_st (t' := s₁.setTop (mkF m 73 #[.val (.long q1), .second, .val (.long q2), .second, .val (.long q3), .second, .val (.long q4), .second, .val (.long q5), .second, .val (.long q6), .second, .val (.long ss), .second, .val (.long (0 : Int64)), .second, .val (.long (0 : Int64)), .second, .unset, .unset, .unset, .unset, .unset, .unset, .unset, .unset, .unset, .unset] [(.long ss), (.long (4294967296 : Int64)), (.long (((q3.toUInt64 >>> ((1 : Int32) &&& 0x3f).toInt64.toUInt64).toInt64) &&& (4294967295 : Int64))), (.long ss)])) (fun _ k => XS.lload X0.here hx rfl (hb hby at_71) rfl k) ?_
      refine own_st (t' := s₁.setTop (mkF m 74 #[.val (.long q1), .second, .val (.long q2), .second, .val (.long q3), .second, .val (.long q4), .second, .val (.long q5), .second, .val (.long q6), .second, .val (.long ss), .second, .val (.long (0 : Int64)), .second, .val (.long (0 : Int64)), .second, .unset, .unset, .unset, .unset, .unset, .unset, .unset, .unset, .unset, .unset] [(.long ((4294967296 : Int64) - ss)), (.long (((q3.toUInt64 >>> ((1 : Int32) &&& 0x3f).toInt64.toUInt64).toInt64) &&& (4294967295 : Int64))), (.long ss)])) (fun _ k => XS.lsub X0.here hx rfl (hb hby at_73) rfl k) ?_
      refine own_st (t' := s₁.setTop (mkF m 75 #[.val (.long q1), .second, .val (.long q2), .second, .val (.long q3), .second, .val (.long q4), .second, .val (.long q5), .second, .val (.long q6), .second, .val (.long ss), .second, .val (.long (0 : Int64)), .second, .val (.long (0 : Int64)), .second, .unset, .unset, .unset, .unset, .unset, .unset, .unset, .unset, .unset, .unset] [(.long ((((q3.toUInt64 >>> ((1 : Int32) &&& 0x3f).toInt64.toUInt64).toInt64) &&& (4294967295 : Int64)) - ((((q3.toUInt64 >>> ((1 : Int32) &&& 0x3f).toInt64.toUInt64).toInt64) &&& (4294967295 : Int64)) / ((4294967296 : Int64) - ss)) * ((4294967296 : Int64) - ss))), (.long ss)])) (fun _ k => XS.lrem X0.here hx rfl (hb hby at_74) rfl (own_nz1 hs) k) ?_
      refine own_st (t' := s₁.setTop (mkF m 76 #[.val (.long q1), .second, .val (.long q2), .second, .val (.long q3), .second, .val (.long q4), .second, .val (.long q5), .second, .val (.long q6), .second, .val (.long ss), .second, .val (.long (0 : Int64)), .second, .val (.long (0 : Int64)), .second, .unset, .unset, .unset, .unset, .unset, .unset, .unset, .unset, .unset, .unset] [(.long (ss + ((((q3.toUInt64 >>> ((1 : Int32) &&& 0x3f).toInt64.toUInt64).toInt64) &&& (4294967295 : Int64)) - ((((q3.toUInt64 >>> ((1 : Int32) &&& 0x3f).toInt64.toUInt64).toInt64) &&& (4294967295 : Int64)) / ((4294967296 : Int64) - ss)) * ((4294967296 : Int64) - ss))))])) (fun _ k => XS.ladd X0.here hx rfl (hb hby at_75) rfl k) ?_
      refine own_st (t' := s₁.setTop (mkF m 78 #[.val (.long q1), .second, .val (.long q2), .second, .val (.long q3), .second, .val (.long q4), .second, .val (.long q5), .second, .val (.long q6), .second, .val (.long ss), .second, .val (.long (ss + ((((q3.toUInt64 >>> ((1 : Int32) &&& 0x3f).toInt64.toUInt64).toInt64) &&& (4294967295 : Int64)) - ((((q3.toUInt64 >>> ((1 : Int32) &&& 0x3f).toInt64.toUInt64).toInt64) &&& (4294967295 : Int64)) / ((4294967296 : Int64) - ss)) * ((4294967296 : Int64) - ss)))), .second, .val (.long (0 : Int64)), .second, .unset, .unset, .unset, .unset, .unset, .unset, .unset, .unset, .unset, .unset] [])) (fun _ k => XS.lstore X0.here hx rfl (hb hby at_76) rfl (l' := #[.val (.long q1), .second, .val (.long q2), .second, .val (.long q3), .second, .val (.long q4), .second, .val (.long q5), .second, .val (.long q6), .second, .val (.long ss), .second, .val (.long (ss + ((((q3.toUInt64 >>> ((1 : Int32) &&& 0x3f).toInt64.toUInt64).toInt64) &&& (4294967295 : Int64)) - ((((q3.toUInt64 >>> ((1 : Int32) &&& 0x3f).toInt64.toUInt64).toInt64) &&& (4294967295 : Int64)) / ((4294967296 : Int64) - ss)) * ((4294967296 : Int64) - ss)))), .second, .val (.long (0 : Int64)), .second, .unset, .unset, .unset, .unset, .unset, .unset, .unset, .unset, .unset, .unset]) rfl k) ?_
      have hp := own_pp q3 hs
      generalize (ss + ((((q3.toUInt64 >>> ((1 : Int32) &&& 0x3f).toInt64.toUInt64).toInt64) &&& (4294967295 : Int64)) - ((((q3.toUInt64 >>> ((1 : Int32) &&& 0x3f).toInt64.toUInt64).toInt64) &&& (4294967295 : Int64)) / ((4294967296 : Int64) - ss)) * ((4294967296 : Int64) - ss))) = pp at hp ⊢
      refine own_st (t' := s₁.setTop (mkF m 79 #[.val (.long q1), .second, .val (.long q2), .second, .val (.long q3), .second, .val (.long q4), .second, .val (.long q5), .second, .val (.long q6), .second, .val (.long ss), .second, .val (.long pp), .second, .val (.long (0 : Int64)), .second, .unset, .unset, .unset, .unset, .unset, .unset, .unset, .unset, .unset, .unset] [(.long (1 : Int64))])) (fun _ k => XS.lconst X0.here hx rfl (hb hby at_78) k) ?_
      refine own_st (t' := s₁.setTop (mkF m 81 #[.val (.long q1), .second, .val (.long q2), .second, .val (.long q3), .second, .val (.long q4), .second, .val (.long q5), .second, .val (.long q6), .second, .val (.long ss), .second, .val (.long pp), .second, .val (.long (0 : Int64)), .second, .unset, .unset, .unset, .unset, .unset, .unset, .unset, .unset, .unset, .unset] [(.long q4), (.long (1 : Int64))])) (fun _ k => XS.lload X0.here hx rfl (hb hby at_79) rfl k) ?_
      refine own_st (t' := s₁.setTop (mkF m 84 #[.val (.long q1), .second, .val (.long q2), .second, .val (.long q3), .second, .val (.long q4), .second, .val (.long q5), .second, .val (.long q6), .second, .val (.long ss), .second, .val (.long pp), .second, .val (.long (0 : Int64)), .second, .unset, .unset, .unset, .unset, .unset, .unset, .unset, .unset, .unset, .unset] [(.long (1073741823 : Int64)), (.long q4), (.long (1 : Int64))])) (fun _ k => X0.ldc2Long hx hown (mvT hZ (hw _ (List.mem_of_getElem? (i := 32) rfl))) (g := (mkF m 81 #[.val (.long q1), .second, .val (.long q2), .second, .val (.long q3), .second, .val (.long q4), .second, .val (.long q5), .second, .val (.long q6), .second, .val (.long ss), .second, .val (.long pp), .second, .val (.long (0 : Int64)), .second, .unset, .unset, .unset, .unset, .unset, .unset, .unset, .unset, .unset, .unset] [(.long q4), (.long (1 : Int64))])) rfl (hb hby at_81) _ k) ?_
      refine own_st (t' := s₁.setTop (mkF m 85 #[.val (.long q1), .second, .val (.long q2), .second, .val (.long q3), .second, .val (.long q4), .second, .val (.long q5), .second, .val (.long q6), .second, .val (.long ss), .second, .val (.long pp), .second, .val (.long (0 : Int64)), .second, .unset, .unset, .unset, .unset, .unset, .unset, .unset, .unset, .unset, .unset] [(.long (q4 &&& (1073741823 : Int64))), (.long (1 : Int64))])) (fun _ k => XS.land X0.here hx rfl (hb hby at_84) rfl k) ?_
      refine own_st (t' := s₁.setTop (mkF m 86 #[.val (.long q1), .second, .val (.long q2), .second, .val (.long q3), .second, .val (.long q4), .second, .val (.long q5), .second, .val (.long q6), .second, .val (.long ss), .second, .val (.long pp), .second, .val (.long (0 : Int64)), .second, .unset, .unset, .unset, .unset, .unset, .unset, .unset, .unset, .unset, .unset] [(.long ((1 : Int64) + (q4 &&& (1073741823 : Int64))))])) (fun _ k => XS.ladd X0.here hx rfl (hb hby at_85) rfl k) ?_
      refine own_st (t' := s₁.setTop (mkF m 88 #[.val (.long q1), .second, .val (.long q2), .second, .val (.long q3), .second, .val (.long q4), .second, .val (.long q5), .second, .val (.long q6), .second, .val (.long ss), .second, .val (.long pp), .second, .val (.long ((1 : Int64) + (q4 &&& (1073741823 : Int64)))), .second, .unset, .unset, .unset, .unset, .unset, .unset, .unset, .unset, .unset, .unset] [])) (fun _ k => XS.lstore X0.here hx rfl (hb hby at_86) rfl (l' := #[.val (.long q1), .second, .val (.long q2), .second, .val (.long q3), .second, .val (.long q4), .second, .val (.long q5), .second, .val (.long q6), .second, .val (.long ss), .second, .val (.long pp), .second, .val (.long ((1 : Int64) + (q4 &&& (1073741823 : Int64)))), .second, .unset, .unset, .unset, .unset, .unset, .unset, .unset, .unset, .unset, .unset]) rfl k) ?_
      have hn := own_nn q4
      generalize ((1 : Int64) + (q4 &&& (1073741823 : Int64))) = nn at hn ⊢
      refine own_st (t' := s₁.setTop (mkF m 90 #[.val (.long q1), .second, .val (.long q2), .second, .val (.long q3), .second, .val (.long q4), .second, .val (.long q5), .second, .val (.long q6), .second, .val (.long ss), .second, .val (.long pp), .second, .val (.long nn), .second, .unset, .unset, .unset, .unset, .unset, .unset, .unset, .unset, .unset, .unset] [(.long q5)])) (fun _ k => XS.lload X0.here hx rfl (hb hby at_88) rfl k) ?_
      refine own_st (t' := s₁.setTop (mkF m 93 #[.val (.long q1), .second, .val (.long q2), .second, .val (.long q3), .second, .val (.long q4), .second, .val (.long q5), .second, .val (.long q6), .second, .val (.long ss), .second, .val (.long pp), .second, .val (.long nn), .second, .unset, .unset, .unset, .unset, .unset, .unset, .unset, .unset, .unset, .unset] [(.long (2147483647 : Int64)), (.long q5)])) (fun _ k => X0.ldc2Long hx hown (mvT hZ (hw _ (List.mem_of_getElem? (i := 33) rfl))) (g := (mkF m 90 #[.val (.long q1), .second, .val (.long q2), .second, .val (.long q3), .second, .val (.long q4), .second, .val (.long q5), .second, .val (.long q6), .second, .val (.long ss), .second, .val (.long pp), .second, .val (.long nn), .second, .unset, .unset, .unset, .unset, .unset, .unset, .unset, .unset, .unset, .unset] [(.long q5)])) rfl (hb hby at_90) _ k) ?_
      refine own_st (t' := s₁.setTop (mkF m 94 #[.val (.long q1), .second, .val (.long q2), .second, .val (.long q3), .second, .val (.long q4), .second, .val (.long q5), .second, .val (.long q6), .second, .val (.long ss), .second, .val (.long pp), .second, .val (.long nn), .second, .unset, .unset, .unset, .unset, .unset, .unset, .unset, .unset, .unset, .unset] [(.long (q5 &&& (2147483647 : Int64)))])) (fun _ k => XS.land X0.here hx rfl (hb hby at_93) rfl k) ?_
      refine own_st (t' := s₁.setTop (mkF m 96 #[.val (.long q1), .second, .val (.long q2), .second, .val (.long q3), .second, .val (.long q4), .second, .val (.long q5), .second, .val (.long q6), .second, .val (.long ss), .second, .val (.long pp), .second, .val (.long nn), .second, .unset, .unset, .unset, .val (.long (q5 &&& (2147483647 : Int64))), .second, .unset, .unset, .unset, .unset, .unset] [])) (fun _ k => XS.lstore X0.here hx rfl (hb hby at_94) rfl (l' := #[.val (.long q1), .second, .val (.long q2), .second, .val (.long q3), .second, .val (.long q4), .second, .val (.long q5), .second, .val (.long q6), .second, .val (.long ss), .second, .val (.long pp), .second, .val (.long nn), .second, .unset, .unset, .unset, .val (.long (q5 &&& (2147483647 : Int64))), .second, .unset, .unset, .unset, .unset, .unset]) rfl k) ?_
      have hk := own_kk q5
      generalize (q5 &&& (2147483647 : Int64)) = kk at hk ⊢
      refine own_st (t' := s₁.setTop (mkF m 98 #[.val (.long q1), .second, .val (.long q2), .second, .val (.long q3), .second, .val (.long q4), .second, .val (.long q5), .second, .val (.long q6), .second, .val (.long ss), .second, .val (.long pp), .second, .val (.long nn), .second, .unset, .unset, .unset, .val (.long kk), .second, .unset, .unset, .unset, .unset, .unset] [(.long q6)])) (fun _ k => XS.lload X0.here hx rfl (hb hby at_96) rfl k) ?_
      refine own_st (t' := s₁.setTop (mkF m 101 #[.val (.long q1), .second, .val (.long q2), .second, .val (.long q3), .second, .val (.long q4), .second, .val (.long q5), .second, .val (.long q6), .second, .val (.long ss), .second, .val (.long pp), .second, .val (.long nn), .second, .unset, .unset, .unset, .val (.long kk), .second, .unset, .unset, .unset, .unset, .unset] [(.long (4294967295 : Int64)), (.long q6)])) (fun _ k => X0.ldc2Long hx hown (mvT hZ (hw _ (List.mem_of_getElem? (i := 0) rfl))) (g := (mkF m 98 #[.val (.long q1), .second, .val (.long q2), .second, .val (.long q3), .second, .val (.long q4), .second, .val (.long q5), .second, .val (.long q6), .second, .val (.long ss), .second, .val (.long pp), .second, .val (.long nn), .second, .unset, .unset, .unset, .val (.long kk), .second, .unset, .unset, .unset, .unset, .unset] [(.long q6)])) rfl (hb hby at_98) _ k) ?_
      refine own_st (t' := s₁.setTop (mkF m 102 #[.val (.long q1), .second, .val (.long q2), .second, .val (.long q3), .second, .val (.long q4), .second, .val (.long q5), .second, .val (.long q6), .second, .val (.long ss), .second, .val (.long pp), .second, .val (.long nn), .second, .unset, .unset, .unset, .val (.long kk), .second, .unset, .unset, .unset, .unset, .unset] [(.long (q6 &&& (4294967295 : Int64)))])) (fun _ k => XS.land X0.here hx rfl (hb hby at_101) rfl k) ?_
      refine own_st (t' := s₁.setTop (mkF m 104 #[.val (.long q1), .second, .val (.long q2), .second, .val (.long q3), .second, .val (.long q4), .second, .val (.long q5), .second, .val (.long q6), .second, .val (.long ss), .second, .val (.long pp), .second, .val (.long nn), .second, .unset, .unset, .unset, .val (.long kk), .second, .unset, .unset, .unset, .unset, .unset] [(.long pp), (.long (q6 &&& (4294967295 : Int64)))])) (fun _ k => XS.lload X0.here hx rfl (hb hby at_102) rfl k) ?_
      refine own_st (t' := s₁.setTop (mkF m 105 #[.val (.long q1), .second, .val (.long q2), .second, .val (.long q3), .second, .val (.long q4), .second, .val (.long q5), .second, .val (.long q6), .second, .val (.long ss), .second, .val (.long pp), .second, .val (.long nn), .second, .unset, .unset, .unset, .val (.long kk), .second, .unset, .unset, .unset, .unset, .unset] [(.long ((q6 &&& (4294967295 : Int64)) - ((q6 &&& (4294967295 : Int64)) / pp) * pp))])) (fun _ k => XS.lrem X0.here hx rfl (hb hby at_104) rfl (own_nz2 hs hp) k) ?_
      refine own_st (t' := s₁.setTop (mkF m 107 #[.val (.long q1), .second, .val (.long q2), .second, .val (.long q3), .second, .val (.long q4), .second, .val (.long q5), .second, .val (.long q6), .second, .val (.long ss), .second, .val (.long pp), .second, .val (.long nn), .second, .unset, .unset, .unset, .val (.long kk), .second, .val (.long ((q6 &&& (4294967295 : Int64)) - ((q6 &&& (4294967295 : Int64)) / pp) * pp)), .second, .unset, .unset, .unset] [])) (fun _ k => XS.lstore X0.here hx rfl (hb hby at_105) rfl (l' := #[.val (.long q1), .second, .val (.long q2), .second, .val (.long q3), .second, .val (.long q4), .second, .val (.long q5), .second, .val (.long q6), .second, .val (.long ss), .second, .val (.long pp), .second, .val (.long nn), .second, .unset, .unset, .unset, .val (.long kk), .second, .val (.long ((q6 &&& (4294967295 : Int64)) - ((q6 &&& (4294967295 : Int64)) / pp) * pp)), .second, .unset, .unset, .unset]) rfl k) ?_
      have ho := own_oo q6 hs hp
      generalize ((q6 &&& (4294967295 : Int64)) - ((q6 &&& (4294967295 : Int64)) / pp) * pp) = oo at ho ⊢
      refine own_st (t' := s₁.setTop (mkF m 109 #[.val (.long q1), .second, .val (.long q2), .second, .val (.long q3), .second, .val (.long q4), .second, .val (.long q5), .second, .val (.long q6), .second, .val (.long ss), .second, .val (.long pp), .second, .val (.long nn), .second, .unset, .unset, .unset, .val (.long kk), .second, .val (.long oo), .second, .unset, .unset, .unset] [(.long kk)])) (fun _ k => XS.lload X0.here hx rfl (hb hby at_107) rfl k) ?_
      refine own_st (t' := s₁.setTop (mkF m 111 #[.val (.long q1), .second, .val (.long q2), .second, .val (.long q3), .second, .val (.long q4), .second, .val (.long q5), .second, .val (.long q6), .second, .val (.long ss), .second, .val (.long pp), .second, .val (.long nn), .second, .unset, .unset, .unset, .val (.long kk), .second, .val (.long oo), .second, .unset, .unset, .unset] [(.long pp), (.long kk)])) (fun _ k => XS.lload X0.here hx rfl (hb hby at_109) rfl k) ?_
      refine own_st (t' := s₁.setTop (mkF m 112 #[.val (.long q1), .second, .val (.long q2), .second, .val (.long q3), .second, .val (.long q4), .second, .val (.long q5), .second, .val (.long q6), .second, .val (.long ss), .second, .val (.long pp), .second, .val (.long nn), .second, .unset, .unset, .unset, .val (.long kk), .second, .val (.long oo), .second, .unset, .unset, .unset] [(.long (kk * pp))])) (fun _ k => XS.lmul X0.here hx rfl (hb hby at_111) rfl k) ?_
      refine own_st (t' := s₁.setTop (mkF m 114 #[.val (.long q1), .second, .val (.long q2), .second, .val (.long q3), .second, .val (.long q4), .second, .val (.long q5), .second, .val (.long q6), .second, .val (.long ss), .second, .val (.long pp), .second, .val (.long nn), .second, .unset, .unset, .unset, .val (.long kk), .second, .val (.long oo), .second, .unset, .unset, .unset] [(.long oo), (.long (kk * pp))])) (fun _ k => XS.lload X0.here hx rfl (hb hby at_112) rfl k) ?_
      refine own_st (t' := s₁.setTop (mkF m 115 #[.val (.long q1), .second, .val (.long q2), .second, .val (.long q3), .second, .val (.long q4), .second, .val (.long q5), .second, .val (.long q6), .second, .val (.long ss), .second, .val (.long pp), .second, .val (.long nn), .second, .unset, .unset, .unset, .val (.long kk), .second, .val (.long oo), .second, .unset, .unset, .unset] [(.long ((kk * pp) + oo))])) (fun _ k => XS.ladd X0.here hx rfl (hb hby at_114) rfl k) ?_
      refine own_st (t' := s₁.setTop (mkF m 117 #[.val (.long q1), .second, .val (.long q2), .second, .val (.long q3), .second, .val (.long q4), .second, .val (.long q5), .second, .val (.long q6), .second, .val (.long ss), .second, .val (.long pp), .second, .val (.long nn), .second, .val (.long ((kk * pp) + oo)), .second, .unset, .val (.long kk), .second, .val (.long oo), .second, .unset, .unset, .unset] [])) (fun _ k => XS.lstore X0.here hx rfl (hb hby at_115) rfl (l' := #[.val (.long q1), .second, .val (.long q2), .second, .val (.long q3), .second, .val (.long q4), .second, .val (.long q5), .second, .val (.long q6), .second, .val (.long ss), .second, .val (.long pp), .second, .val (.long nn), .second, .val (.long ((kk * pp) + oo)), .second, .unset, .val (.long kk), .second, .val (.long oo), .second, .unset, .unset, .unset]) rfl k) ?_
      have hd := own_dd hs hp hk ho
      generalize ((kk * pp) + oo) = dd at hd ⊢
      have J11 : ∀ ex : Int32, ex = (if (0 : Int32) < lcmpW kk nn then (0 : Int32) else if lcmpW oo ss < (0 : Int32) then (1 : Int32) else (0 : Int32)) → own_At p e below P (s₁.setTop (mkF m 140 #[.val (.long q1), .second, .val (.long q2), .second, .val (.long q3), .second, .val (.long q4), .second, .val (.long q5), .second, .val (.long q6), .second, .val (.long ss), .second, .val (.long pp), .second, .val (.long nn), .second, .val (.long dd), .second, .val (.int ex), .val (.long kk), .second, .val (.long oo), .second, .unset, .unset, .unset] [])) := by
        intro ex  hz_ex
        refine own_st (t' := s₁.setTop (mkF m 142 #[.val (.long q1), .second, .val (.long q2), .second, .val (.long q3), .second, .val (.long q4), .second, .val (.long q5), .second, .val (.long q6), .second, .val (.long ss), .second, .val (.long pp), .second, .val (.long nn), .second, .val (.long dd), .second, .val (.int ex), .val (.long kk), .second, .val (.long oo), .second, .unset, .unset, .unset] [(.long nn)])) (fun _ k => XS.lload X0.here hx rfl (hb hby at_140) rfl k) ?_
        refine own_st (t' := s₁.setTop (mkF m 144 #[.val (.long q1), .second, .val (.long q2), .second, .val (.long q3), .second, .val (.long q4), .second, .val (.long q5), .second, .val (.long q6), .second, .val (.long ss), .second, .val (.long pp), .second, .val (.long nn), .second, .val (.long dd), .second, .val (.int ex), .val (.long kk), .second, .val (.long oo), .second, .unset, .unset, .unset] [(.long pp), (.long nn)])) (fun _ k => XS.lload X0.here hx rfl (hb hby at_142) rfl k) ?_
        refine own_st (t' := s₁.setTop (mkF m 145 #[.val (.long q1), .second, .val (.long q2), .second, .val (.long q3), .second, .val (.long q4), .second, .val (.long q5), .second, .val (.long q6), .second, .val (.long ss), .second, .val (.long pp), .second, .val (.long nn), .second, .val (.long dd), .second, .val (.int ex), .val (.long kk), .second, .val (.long oo), .second, .unset, .unset, .unset] [(.long (nn * pp))])) (fun _ k => XS.lmul X0.here hx rfl (hb hby at_144) rfl k) ?_
        refine own_st (t' := s₁.setTop (mkF m 147 #[.val (.long q1), .second, .val (.long q2), .second, .val (.long q3), .second, .val (.long q4), .second, .val (.long q5), .second, .val (.long q6), .second, .val (.long ss), .second, .val (.long pp), .second, .val (.long nn), .second, .val (.long dd), .second, .val (.int ex), .val (.long kk), .second, .val (.long oo), .second, .unset, .unset, .unset] [(.long ss), (.long (nn * pp))])) (fun _ k => XS.lload X0.here hx rfl (hb hby at_145) rfl k) ?_
        refine own_st (t' := s₁.setTop (mkF m 148 #[.val (.long q1), .second, .val (.long q2), .second, .val (.long q3), .second, .val (.long q4), .second, .val (.long q5), .second, .val (.long q6), .second, .val (.long ss), .second, .val (.long pp), .second, .val (.long nn), .second, .val (.long dd), .second, .val (.int ex), .val (.long kk), .second, .val (.long oo), .second, .unset, .unset, .unset] [(.long (1 : Int64)), (.long ss), (.long (nn * pp))])) (fun _ k => XS.lconst X0.here hx rfl (hb hby at_147) k) ?_
        refine own_st (t' := s₁.setTop (mkF m 149 #[.val (.long q1), .second, .val (.long q2), .second, .val (.long q3), .second, .val (.long q4), .second, .val (.long q5), .second, .val (.long q6), .second, .val (.long ss), .second, .val (.long pp), .second, .val (.long nn), .second, .val (.long dd), .second, .val (.int ex), .val (.long kk), .second, .val (.long oo), .second, .unset, .unset, .unset] [(.long (ss - (1 : Int64))), (.long (nn * pp))])) (fun _ k => XS.lsub X0.here hx rfl (hb hby at_148) rfl k) ?_
        refine own_st (t' := s₁.setTop (mkF m 150 #[.val (.long q1), .second, .val (.long q2), .second, .val (.long q3), .second, .val (.long q4), .second, .val (.long q5), .second, .val (.long q6), .second, .val (.long ss), .second, .val (.long pp), .second, .val (.long nn), .second, .val (.long dd), .second, .val (.int ex), .val (.long kk), .second, .val (.long oo), .second, .unset, .unset, .unset] [(.long ((nn * pp) + (ss - (1 : Int64))))])) (fun _ k => XS.ladd X0.here hx rfl (hb hby at_149) rfl k) ?_
        refine own_st (t' := s₁.setTop (mkF m 152 #[.val (.long q1), .second, .val (.long q2), .second, .val (.long q3), .second, .val (.long q4), .second, .val (.long q5), .second, .val (.long q6), .second, .val (.long ss), .second, .val (.long pp), .second, .val (.long nn), .second, .val (.long dd), .second, .val (.int ex), .val (.long ((nn * pp) + (ss - (1 : Int64)))), .second, .val (.long oo), .second, .unset, .unset, .unset] [])) (fun _ k => XS.lstore X0.here hx rfl (hb hby at_150) rfl (l' := #[.val (.long q1), .second, .val (.long q2), .second, .val (.long q3), .second, .val (.long q4), .second, .val (.long q5), .second, .val (.long q6), .second, .val (.long ss), .second, .val (.long pp), .second, .val (.long nn), .second, .val (.long dd), .second, .val (.int ex), .val (.long ((nn * pp) + (ss - (1 : Int64)))), .second, .val (.long oo), .second, .unset, .unset, .unset]) rfl k) ?_
        have hsp := own_sp1 hs hp hn
        generalize ((nn * pp) + (ss - (1 : Int64))) = sp at hsp ⊢
        refine own_st (t' := s₁.setTop (mkF m 154 #[.val (.long q1), .second, .val (.long q2), .second, .val (.long q3), .second, .val (.long q4), .second, .val (.long q5), .second, .val (.long q6), .second, .val (.long ss), .second, .val (.long pp), .second, .val (.long nn), .second, .val (.long dd), .second, .val (.int ex), .val (.long sp), .second, .val (.long oo), .second, .unset, .unset, .unset] [(.long dd)])) (fun _ k => XS.lload X0.here hx rfl (hb hby at_152) rfl k) ?_
        refine own_st (t' := s₁.setTop (mkF m 156 #[.val (.long q1), .second, .val (.long q2), .second, .val (.long q3), .second, .val (.long q4), .second, .val (.long q5), .second, .val (.long q6), .second, .val (.long ss), .second, .val (.long pp), .second, .val (.long nn), .second, .val (.long dd), .second, .val (.int ex), .val (.long sp), .second, .val (.long oo), .second, .unset, .unset, .unset] [(.long sp), (.long dd)])) (fun _ k => XS.lload X0.here hx rfl (hb hby at_154) rfl k) ?_
        obtain ⟨_, _, ⟨T12, L12, k12, n12⟩, -, X12, ⟨Lc12, hQ12, l12, y12, z12⟩, st12⟩ := Jvm.LawKit.callS X0 hx (y := (⟨"java/lang/Math", "max", "(JJ)J"⟩ : MethodName)) hown (mvT hZ (hw _ (List.mem_of_getElem? (i := 2) rfl))) (mvT hZ (hw _ (List.mem_of_getElem? (i := 3) rfl))) (mvT hZ (hw _ (List.mem_of_getElem? (i := 4) rfl))) (mvT hZ (hw _ (List.mem_of_getElem? (i := 5) rfl))) (by decide) (backOf (W := 0) (own_rm1 l Z a0 hw [] dd sp  h0 n0 Z0 ) hZ (hw _ (List.mem_of_getElem? (i := 5) rfl)) (hw _ (List.mem_of_getElem? (i := 4) rfl)) (by decide) (by decide)) (g := (mkF m 156 #[.val (.long q1), .second, .val (.long q2), .second, .val (.long q3), .second, .val (.long q4), .second, .val (.long q5), .second, .val (.long q6), .second, .val (.long ss), .second, .val (.long pp), .second, .val (.long nn), .second, .val (.long dd), .second, .val (.int ex), .val (.long sp), .second, .val (.long oo), .second, .unset, .unset, .unset] [(.long sp), (.long dd)])) rfl (by rw [hml]; rfl) (argsL := [(.long dd), (.long sp)]) (rest := []) (lenOf own_rm0_pd0 rfl) rfl (by show 2 * 0 + _ ≤ _; exact Nat.le_of_eq rfl) (hb hby at_156) (fun _ _ => ⟨rfl, e0, (by decide : 0 + 0 ≤ _), (by decide : 0 + 0 ≤ _)⟩)
        dsimp only [Pt.U, Pt.locs, Pt.cells, Pt.slots] at X12 l12 y12 z12 st12 hQ12
        subst l12 y12 z12
        obtain ⟨rfl, N12q, e12⟩ := hQ12
        have N12 := Fr.app N0 N12q
        refine own_st (t' := T12.setTop (mkF m 159 #[.val (.long q1), .second, .val (.long q2), .second, .val (.long q3), .second, .val (.long q4), .second, .val (.long q5), .second, .val (.long q6), .second, .val (.long ss), .second, .val (.long pp), .second, .val (.long nn), .second, .val (.long dd), .second, .val (.int ex), .val (.long sp), .second, .val (.long oo), .second, .unset, .unset, .unset] [(.long (own_maxL dd sp))])) st12 ?_
        refine own_st (t' := T12.setTop (mkF m 161 #[.val (.long q1), .second, .val (.long q2), .second, .val (.long q3), .second, .val (.long q4), .second, .val (.long q5), .second, .val (.long q6), .second, .val (.long ss), .second, .val (.long pp), .second, .val (.long nn), .second, .val (.long dd), .second, .val (.int ex), .val (.long sp), .second, .val (.long (own_maxL dd sp)), .second, .unset, .unset, .unset] [])) (fun _ k => XS.lstore X12.here hx rfl (hb hby at_159) rfl (l' := #[.val (.long q1), .second, .val (.long q2), .second, .val (.long q3), .second, .val (.long q4), .second, .val (.long q5), .second, .val (.long q6), .second, .val (.long ss), .second, .val (.long pp), .second, .val (.long nn), .second, .val (.long dd), .second, .val (.int ex), .val (.long sp), .second, .val (.long (own_maxL dd sp)), .second, .unset, .unset, .unset]) rfl k) ?_
        refine own_st (t' := T12.setTop (mkF m 162 #[.val (.long q1), .second, .val (.long q2), .second, .val (.long q3), .second, .val (.long q4), .second, .val (.long q5), .second, .val (.long q6), .second, .val (.long ss), .second, .val (.long pp), .second, .val (.long nn), .second, .val (.long dd), .second, .val (.int ex), .val (.long sp), .second, .val (.long (own_maxL dd sp)), .second, .unset, .unset, .unset] [(.long q1)])) (fun _ k => XS.lloadN X12.here hx rfl (hb hby at_161) rfl k) ?_
        refine own_st (t' := T12.setTop (mkF m 165 #[.val (.long q1), .second, .val (.long q2), .second, .val (.long q3), .second, .val (.long q4), .second, .val (.long q5), .second, .val (.long q6), .second, .val (.long ss), .second, .val (.long pp), .second, .val (.long nn), .second, .val (.long dd), .second, .val (.int ex), .val (.long sp), .second, .val (.long (own_maxL dd sp)), .second, .unset, .unset, .unset] [(.long (9223372036854775807 : Int64)), (.long q1)])) (fun _ k => X12.ldc2Long hx hown (mvT hZ (hw _ (List.mem_of_getElem? (i := 1) rfl))) (g := (mkF m 162 #[.val (.long q1), .second, .val (.long q2), .second, .val (.long q3), .second, .val (.long q4), .second, .val (.long q5), .second, .val (.long q6), .second, .val (.long ss), .second, .val (.long pp), .second, .val (.long nn), .second, .val (.long dd), .second, .val (.int ex), .val (.long sp), .second, .val (.long (own_maxL dd sp)), .second, .unset, .unset, .unset] [(.long q1)])) rfl (hb hby at_162) _ k) ?_
        refine own_st (t' := T12.setTop (mkF m 166 #[.val (.long q1), .second, .val (.long q2), .second, .val (.long q3), .second, .val (.long q4), .second, .val (.long q5), .second, .val (.long q6), .second, .val (.long ss), .second, .val (.long pp), .second, .val (.long nn), .second, .val (.long dd), .second, .val (.int ex), .val (.long sp), .second, .val (.long (own_maxL dd sp)), .second, .unset, .unset, .unset] [(.long (q1 &&& (9223372036854775807 : Int64)))])) (fun _ k => XS.land X12.here hx rfl (hb hby at_165) rfl k) ?_
        refine own_st (t' := T12.setTop (mkF m 169 #[.val (.long q1), .second, .val (.long q2), .second, .val (.long q3), .second, .val (.long q4), .second, .val (.long q5), .second, .val (.long q6), .second, .val (.long ss), .second, .val (.long pp), .second, .val (.long nn), .second, .val (.long dd), .second, .val (.int ex), .val (.long sp), .second, .val (.long (own_maxL dd sp)), .second, .unset, .unset, .unset] [(.long (9223372036854775807 : Int64)), (.long (q1 &&& (9223372036854775807 : Int64)))])) (fun _ k => X12.ldc2Long hx hown (mvT hZ (hw _ (List.mem_of_getElem? (i := 1) rfl))) (g := (mkF m 166 #[.val (.long q1), .second, .val (.long q2), .second, .val (.long q3), .second, .val (.long q4), .second, .val (.long q5), .second, .val (.long q6), .second, .val (.long ss), .second, .val (.long pp), .second, .val (.long nn), .second, .val (.long dd), .second, .val (.int ex), .val (.long sp), .second, .val (.long (own_maxL dd sp)), .second, .unset, .unset, .unset] [(.long (q1 &&& (9223372036854775807 : Int64)))])) rfl (hb hby at_166) _ k) ?_
        refine own_st (t' := T12.setTop (mkF m 171 #[.val (.long q1), .second, .val (.long q2), .second, .val (.long q3), .second, .val (.long q4), .second, .val (.long q5), .second, .val (.long q6), .second, .val (.long ss), .second, .val (.long pp), .second, .val (.long nn), .second, .val (.long dd), .second, .val (.int ex), .val (.long sp), .second, .val (.long (own_maxL dd sp)), .second, .unset, .unset, .unset] [(.long (own_maxL dd sp)), (.long (9223372036854775807 : Int64)), (.long (q1 &&& (9223372036854775807 : Int64)))])) (fun _ k => XS.lload X12.here hx rfl (hb hby at_169) rfl k) ?_
        refine own_st (t' := T12.setTop (mkF m 172 #[.val (.long q1), .second, .val (.long q2), .second, .val (.long q3), .second, .val (.long q4), .second, .val (.long q5), .second, .val (.long q6), .second, .val (.long ss), .second, .val (.long pp), .second, .val (.long nn), .second, .val (.long dd), .second, .val (.int ex), .val (.long sp), .second, .val (.long (own_maxL dd sp)), .second, .unset, .unset, .unset] [(.long ((9223372036854775807 : Int64) - (own_maxL dd sp))), (.long (q1 &&& (9223372036854775807 : Int64)))])) (fun _ k => XS.lsub X12.here hx rfl (hb hby at_171) rfl k) ?_
        obtain ⟨_, _, ⟨T13, L13, k13, n13⟩, -, X13, ⟨Lc13, hQ13, l13, y13, z13⟩, st13⟩ := Jvm.LawKit.callS X12 hx (y := (⟨"java/lang/Math", "min", "(JJ)J"⟩ : MethodName)) hown (mvT hZ (hw _ (List.mem_of_getElem? (i := 6) rfl))) (mvT hZ (hw _ (List.mem_of_getElem? (i := 7) rfl))) (mvT hZ (hw _ (List.mem_of_getElem? (i := 4) rfl))) (mvT hZ (hw _ (List.mem_of_getElem? (i := 8) rfl))) (by decide) (backOf (W := 0) (own_rm2 l Z a0 hw [] (q1 &&& (9223372036854775807 : Int64)) ((9223372036854775807 : Int64) - (own_maxL dd sp))  h0 n0 Z0 ) hZ (hw _ (List.mem_of_getElem? (i := 8) rfl)) (hw _ (List.mem_of_getElem? (i := 4) rfl)) (by decide) (by decide)) (g := (mkF m 172 #[.val (.long q1), .second, .val (.long q2), .second, .val (.long q3), .second, .val (.long q4), .second, .val (.long q5), .second, .val (.long q6), .second, .val (.long ss), .second, .val (.long pp), .second, .val (.long nn), .second, .val (.long dd), .second, .val (.int ex), .val (.long sp), .second, .val (.long (own_maxL dd sp)), .second, .unset, .unset, .unset] [(.long ((9223372036854775807 : Int64) - (own_maxL dd sp))), (.long (q1 &&& (9223372036854775807 : Int64)))])) rfl (by rw [hml]; rfl) (argsL := [(.long (q1 &&& (9223372036854775807 : Int64))), (.long ((9223372036854775807 : Int64) - (own_maxL dd sp)))]) (rest := []) (lenOf own_rm0_pd0 rfl) rfl (by show 2 * 0 + _ ≤ _; exact Nat.le_of_eq rfl) (hb hby at_172) (fun _ _ => ⟨rfl, e12, (by decide : 0 + 0 + 0 ≤ _), (by decide : 0 + 0 + 0 ≤ _)⟩)
        dsimp only [Pt.U, Pt.locs, Pt.cells, Pt.slots] at X13 l13 y13 z13 st13 hQ13
        subst l13 y13 z13
        obtain ⟨rfl, N13q, e13⟩ := hQ13
        have N13 := Fr.app N12 N13q
        refine own_st (t' := T13.setTop (mkF m 175 #[.val (.long q1), .second, .val (.long q2), .second, .val (.long q3), .second, .val (.long q4), .second, .val (.long q5), .second, .val (.long q6), .second, .val (.long ss), .second, .val (.long pp), .second, .val (.long nn), .second, .val (.long dd), .second, .val (.int ex), .val (.long sp), .second, .val (.long (own_maxL dd sp)), .second, .unset, .unset, .unset] [(.long (own_minL (q1 &&& (9223372036854775807 : Int64)) ((9223372036854775807 : Int64) - (own_maxL dd sp))))])) st13 ?_
        refine own_st (t' := T13.setTop (mkF m 177 #[.val (.long q1), .second, .val (.long q2), .second, .val (.long q3), .second, .val (.long q4), .second, .val (.long q5), .second, .val (.long q6), .second, .val (.long ss), .second, .val (.long pp), .second, .val (.long nn), .second, .val (.long dd), .second, .val (.int ex), .val (.long sp), .second, .val (.long (own_maxL dd sp)), .second, .val (.long (own_minL (q1 &&& (9223372036854775807 : Int64)) ((9223372036854775807 : Int64) - (own_maxL dd sp)))), .second, .unset] [])) (fun _ k => XS.lstore X13.here hx rfl (hb hby at_175) rfl (l' := #[.val (.long q1), .second, .val (.long q2), .second, .val (.long q3), .second, .val (.long q4), .second, .val (.long q5), .second, .val (.long q6), .second, .val (.long ss), .second, .val (.long pp), .second, .val (.long nn), .second, .val (.long dd), .second, .val (.int ex), .val (.long sp), .second, .val (.long (own_maxL dd sp)), .second, .val (.long (own_minL (q1 &&& (9223372036854775807 : Int64)) ((9223372036854775807 : Int64) - (own_maxL dd sp)))), .second, .unset]) rfl k) ?_
        have hf := own_f q1 hd.2 hsp
        generalize (own_minL (q1 &&& (9223372036854775807 : Int64)) ((9223372036854775807 : Int64) - (own_maxL dd sp))) = f at hf ⊢
        obtain ⟨T14, h14, X14, e14, E14, A14, D14, -, st14⟩ := newO X13 hx hZ hown (hw _ (List.mem_of_getElem? (i := 9) rfl)) (hw _ (List.mem_of_getElem? (i := 10) rfl)) (hw _ (List.mem_of_getElem? (i := 11) rfl)) e13 (g := (mkF m 177 #[.val (.long q1), .second, .val (.long q2), .second, .val (.long q3), .second, .val (.long q4), .second, .val (.long q5), .second, .val (.long q6), .second, .val (.long ss), .second, .val (.long pp), .second, .val (.long nn), .second, .val (.long dd), .second, .val (.int ex), .val (.long sp), .second, .val (.long (own_maxL dd sp)), .second, .val (.long f), .second, .unset] [])) rfl (hb hby at_177) (by decide) (by decide)
        obtain ⟨b14, g14⟩ : ∃ z, z = h0.size := ⟨_, rfl⟩
        rw [← g14] at A14 D14 st14
        have bg_b14 : n0 ≤ b14 := Nat.le_trans Z0 (Nat.le_of_eq g14.symm)
        have Z14 : n0 ≤ h14.size := Nat.le_trans Z0 E14.1
        have F14_firstStart : Fld Z h14 b14 "com/example/ledgerwarden/ledgerwarden/EntryList$Group" "firstStart" "J" (.long (0 : Int64)) := D14 (Or.inr (hw _ (List.mem_of_getElem? (i := 19) rfl))) (ty := .long) (by decide)
        have F14_lastStart : Fld Z h14 b14 "com/example/ledgerwarden/ledgerwarden/EntryList$Group" "lastStart" "J" (.long (0 : Int64)) := D14 (Or.inr (hw _ (List.mem_of_getElem? (i := 21) rfl))) (ty := .long) (by decide)
        have F14_size : Fld Z h14 b14 "com/example/ledgerwarden/ledgerwarden/EntryList$Group" "size" "J" (.long (0 : Int64)) := D14 (Or.inr (hw _ (List.mem_of_getElem? (i := 23) rfl))) (ty := .long) (by decide)
        have F14_period : Fld Z h14 b14 "com/example/ledgerwarden/ledgerwarden/EntryList$Group" "period" "J" (.long (0 : Int64)) := D14 (Or.inr (hw _ (List.mem_of_getElem? (i := 25) rfl))) (ty := .long) (by decide)
        refine own_st (t' := T14.setTop (mkF m 180 #[.val (.long q1), .second, .val (.long q2), .second, .val (.long q3), .second, .val (.long q4), .second, .val (.long q5), .second, .val (.long q6), .second, .val (.long ss), .second, .val (.long pp), .second, .val (.long nn), .second, .val (.long dd), .second, .val (.int ex), .val (.long sp), .second, .val (.long (own_maxL dd sp)), .second, .val (.long f), .second, .unset] [(.ref b14)])) st14 ?_
        refine own_st (t' := T14.setTop (mkF m 181 #[.val (.long q1), .second, .val (.long q2), .second, .val (.long q3), .second, .val (.long q4), .second, .val (.long q5), .second, .val (.long q6), .second, .val (.long ss), .second, .val (.long pp), .second, .val (.long nn), .second, .val (.long dd), .second, .val (.int ex), .val (.long sp), .second, .val (.long (own_maxL dd sp)), .second, .val (.long f), .second, .unset] [(.ref b14), (.ref b14)])) (fun _ k => XS.dup X14.here hx rfl (hb hby at_180) rfl rfl k) ?_
        refine own_st (t' := T14.setTop (mkF m 183 #[.val (.long q1), .second, .val (.long q2), .second, .val (.long q3), .second, .val (.long q4), .second, .val (.long q5), .second, .val (.long q6), .second, .val (.long ss), .second, .val (.long pp), .second, .val (.long nn), .second, .val (.long dd), .second, .val (.int ex), .val (.long sp), .second, .val (.long (own_maxL dd sp)), .second, .val (.long f), .second, .unset] [(.long f), (.ref b14), (.ref b14)])) (fun _ k => XS.lload X14.here hx rfl (hb hby at_181) rfl k) ?_
        refine own_st (t' := T14.setTop (mkF m 185 #[.val (.long q1), .second, .val (.long q2), .second, .val (.long q3), .second, .val (.long q4), .second, .val (.long q5), .second, .val (.long q6), .second, .val (.long ss), .second, .val (.long pp), .second, .val (.long nn), .second, .val (.long dd), .second, .val (.int ex), .val (.long sp), .second, .val (.long (own_maxL dd sp)), .second, .val (.long f), .second, .unset] [(.long f), (.long f), (.ref b14), (.ref b14)])) (fun _ k => XS.lload X14.here hx rfl (hb hby at_183) rfl k) ?_
        refine own_st (t' := T14.setTop (mkF m 187 #[.val (.long q1), .second, .val (.long q2), .second, .val (.long q3), .second, .val (.long q4), .second, .val (.long q5), .second, .val (.long q6), .second, .val (.long ss), .second, .val (.long pp), .second, .val (.long nn), .second, .val (.long dd), .second, .val (.int ex), .val (.long sp), .second, .val (.long (own_maxL dd sp)), .second, .val (.long f), .second, .unset] [(.long nn), (.long f), (.long f), (.ref b14), (.ref b14)])) (fun _ k => XS.lload X14.here hx rfl (hb hby at_185) rfl k) ?_
        refine own_st (t' := T14.setTop (mkF m 189 #[.val (.long q1), .second, .val (.long q2), .second, .val (.long q3), .second, .val (.long q4), .second, .val (.long q5), .second, .val (.long q6), .second, .val (.long ss), .second, .val (.long pp), .second, .val (.long nn), .second, .val (.long dd), .second, .val (.int ex), .val (.long sp), .second, .val (.long (own_maxL dd sp)), .second, .val (.long f), .second, .unset] [(.long pp), (.long nn), (.long f), (.long f), (.ref b14), (.ref b14)])) (fun _ k => XS.lload X14.here hx rfl (hb hby at_187) rfl k) ?_
        refine own_st (t' := T14.setTop (mkF m 190 #[.val (.long q1), .second, .val (.long q2), .second, .val (.long q3), .second, .val (.long q4), .second, .val (.long q5), .second, .val (.long q6), .second, .val (.long ss), .second, .val (.long pp), .second, .val (.long nn), .second, .val (.long dd), .second, .val (.int ex), .val (.long sp), .second, .val (.long (own_maxL dd sp)), .second, .val (.long f), .second, .unset] [(.long (nn * pp)), (.long f), (.long f), (.ref b14), (.ref b14)])) (fun _ k => XS.lmul X14.here hx rfl (hb hby at_189) rfl k) ?_
        refine own_st (t' := T14.setTop (mkF m 191 #[.val (.long q1), .second, .val (.long q2), .second, .val (.long q3), .second, .val (.long q4), .second, .val (.long q5), .second, .val (.long q6), .second, .val (.long ss), .second, .val (.long pp), .second, .val (.long nn), .second, .val (.long dd), .second, .val (.int ex), .val (.long sp), .second, .val (.long (own_maxL dd sp)), .second, .val (.long f), .second, .unset] [(.long (f + (nn * pp))), (.long f), (.ref b14), (.ref b14)])) (fun _ k => XS.ladd X14.here hx rfl (hb hby at_190) rfl k) ?_
        refine own_st (t' := T14.setTop (mkF m 193 #[.val (.long q1), .second, .val (.long q2), .second, .val (.long q3), .second, .val (.long q4), .second, .val (.long q5), .second, .val (.long q6), .second, .val (.long ss), .second, .val (.long pp), .second, .val (.long nn), .second, .val (.long dd), .second, .val (.int ex), .val (.long sp), .second, .val (.long (own_maxL dd sp)), .second, .val (.long f), .second, .unset] [(.long ss), (.long (f + (nn * pp))), (.long f), (.ref b14), (.ref b14)])) (fun _ k => XS.lload X14.here hx rfl (hb hby at_191) rfl k) ?_
        refine own_st (t' := T14.setTop (mkF m 195 #[.val (.long q1), .second, .val (.long q2), .second, .val (.long q3), .second, .val (.long q4), .second, .val (.long q5), .second, .val (.long q6), .second, .val (.long ss), .second, .val (.long pp), .second, .val (.long nn), .second, .val (.long dd), .second, .val (.int ex), .val (.long sp), .second, .val (.long (own_maxL dd sp)), .second, .val (.long f), .second, .unset] [(.long pp), (.long ss), (.long (f + (nn * pp))), (.long f), (.ref b14), (.ref b14)])) (fun _ k => XS.lload X14.here hx rfl (hb hby at_193) rfl k) ?_
        obtain ⟨_, _, ⟨T15, L15, k15, n15⟩, -, X15, ⟨Lc15, hQ15, l15, y15, z15⟩, st15⟩ := X14.specialBack hx (y := (⟨"com/example/ledgerwarden/ledgerwarden/EntryList$Group", "<init>", "(JJJJ)V"⟩ : MethodName)) rfl hown (mvT hZ (hw _ (List.mem_of_getElem? (i := 12) rfl))) (mvT hZ (hw _ (List.mem_of_getElem? (i := 13) rfl))) (mvT hZ (hw _ (List.mem_of_getElem? (i := 14) rfl))) (by decide) (backOf (W := 1) (own_rm3 l Z a0 hw [] b14 f (f + (nn * pp)) ss pp h14 n0 Z14 A14 F14_firstStart F14_lastStart F14_size F14_period bg_b14 ) hZ (hw _ (List.mem_of_getElem? (i := 14) rfl)) (hw _ (List.mem_of_getElem? (i := 11) rfl)) (by decide) (by decide)) (g := (mkF m 195 #[.val (.long q1), .second, .val (.long q2), .second, .val (.long q3), .second, .val (.long q4), .second, .val (.long q5), .second, .val (.long q6), .second, .val (.long ss), .second, .val (.long pp), .second, .val (.long nn), .second, .val (.long dd), .second, .val (.int ex), .val (.long sp), .second, .val (.long (own_maxL dd sp)), .second, .val (.long f), .second, .unset] [(.long pp), (.long ss), (.long (f + (nn * pp))), (.long f), (.ref b14), (.ref b14)])) rfl (by rw [hml]; rfl) (Steps.refl _) (a := b14) (argsL := [(.long f), (.long (f + (nn * pp))), (.long ss), (.long pp)]) (rest := [(.ref b14)]) (lenOf own_rm0_pd1 rfl) rfl (by show 2 * 0 + _ ≤ _; exact Nat.le_of_eq rfl) (hb hby at_195) (fun _ _ => ⟨rfl, e14, (by decide : 0 + 0 + 0 + 1 + 0 ≤ _), (by decide : 0 + 0 + 0 + 4 + 0 ≤ _)⟩)
        dsimp only [Pt.U, Pt.locs, Pt.cells, Pt.slots] at X15 l15 y15 z15 st15 hQ15
        subst l15 y15 z15
        obtain ⟨rfl, N15q, K15q, g15e, g15f0, g15f1, g15f2, g15f3⟩ := hQ15
        have N15 := Fr.app N13 N15q
        have f15_Exa_b14 := A14.keep K15q
        have Z15 : n0 ≤ T15.heap.size := Nat.le_trans Z14 K15q.1
        refine own_tr (t' := T15.setTop (mkF m 198 #[.val (.long q1), .second, .val (.long q2), .second, .val (.long q3), .second, .val (.long q4), .second, .val (.long q5), .second, .val (.long q6), .second, .val (.long ss), .second, .val (.long pp), .second, .val (.long nn), .second, .val (.long dd), .second, .val (.int ex), .val (.long sp), .second, .val (.long (own_maxL dd sp)), .second, .val (.long f), .second, .unset] [(.ref b14)])) st15 ?_
        refine own_st (t' := T15.setTop (mkF m 200 #[.val (.long q1), .second, .val (.long q2), .second, .val (.long q3), .second, .val (.long q4), .second, .val (.long q5), .second, .val (.long q6), .second, .val (.long ss), .second, .val (.long pp), .second, .val (.long nn), .second, .val (.long dd), .second, .val (.int ex), .val (.long sp), .second, .val (.long (own_maxL dd sp)), .second, .val (.long f), .second, .val (.ref b14)] [])) (fun _ k => XS.astore X15.here hx rfl (hb hby at_198) rfl rfl (l' := #[.val (.long q1), .second, .val (.long q2), .second, .val (.long q3), .second, .val (.long q4), .second, .val (.long q5), .second, .val (.long q6), .second, .val (.long ss), .second, .val (.long pp), .second, .val (.long nn), .second, .val (.long dd), .second, .val (.int ex), .val (.long sp), .second, .val (.long (own_maxL dd sp)), .second, .val (.long f), .second, .val (.ref b14)]) rfl k) ?_
        refine own_st (t' := T15.setTop (mkF m 202 #[.val (.long q1), .second, .val (.long q2), .second, .val (.long q3), .second, .val (.long q4), .second, .val (.long q5), .second, .val (.long q6), .second, .val (.long ss), .second, .val (.long pp), .second, .val (.long nn), .second, .val (.long dd), .second, .val (.int ex), .val (.long sp), .second, .val (.long (own_maxL dd sp)), .second, .val (.long f), .second, .val (.ref b14)] [(.ref b14)])) (fun _ k => XS.aload X15.here hx rfl (hb hby at_200) rfl rfl k) ?_
        refine own_st (t' := T15.setTop (mkF m 204 #[.val (.long q1), .second, .val (.long q2), .second, .val (.long q3), .second, .val (.long q4), .second, .val (.long q5), .second, .val (.long q6), .second, .val (.long ss), .second, .val (.long pp), .second, .val (.long nn), .second, .val (.long dd), .second, .val (.int ex), .val (.long sp), .second, .val (.long (own_maxL dd sp)), .second, .val (.long f), .second, .val (.ref b14)] [(.long f), (.ref b14)])) (fun _ k => XS.lload X15.here hx rfl (hb hby at_202) rfl k) ?_
        refine own_st (t' := T15.setTop (mkF m 206 #[.val (.long q1), .second, .val (.long q2), .second, .val (.long q3), .second, .val (.long q4), .second, .val (.long q5), .second, .val (.long q6), .second, .val (.long ss), .second, .val (.long pp), .second, .val (.long nn), .second, .val (.long dd), .second, .val (.int ex), .val (.long sp), .second, .val (.long (own_maxL dd sp)), .second, .val (.long f), .second, .val (.ref b14)] [(.long dd), (.long f), (.ref b14)])) (fun _ k => XS.lload X15.here hx rfl (hb hby at_204) rfl k) ?_
        refine own_st (t' := T15.setTop (mkF m 207 #[.val (.long q1), .second, .val (.long q2), .second, .val (.long q3), .second, .val (.long q4), .second, .val (.long q5), .second, .val (.long q6), .second, .val (.long ss), .second, .val (.long pp), .second, .val (.long nn), .second, .val (.long dd), .second, .val (.int ex), .val (.long sp), .second, .val (.long (own_maxL dd sp)), .second, .val (.long f), .second, .val (.ref b14)] [(.long (f + dd)), (.ref b14)])) (fun _ k => XS.ladd X15.here hx rfl (hb hby at_206) rfl k) ?_
        obtain ⟨cq16, kq16, q16a, q16b, q16c⟩ := isOf hZ rfl g15e
        obtain ⟨_, _, ⟨T16, L16, k16, n16⟩, -, X16, ⟨Lc16, hQ16, l16, y16, z16⟩, st16⟩ := X15.virtualBack hx (y := (⟨"com/example/ledgerwarden/ledgerwarden/EntryList$Group", "containsFromFirstStart", "(J)Z"⟩ : MethodName)) (z := (⟨"com/example/ledgerwarden/ledgerwarden/EntryList$Group", "containsFromFirstStart", "(J)Z"⟩ : MethodName)) hown (mvT hZ (hw _ (List.mem_of_getElem? (i := 26) rfl))) (mvT hZ (hw _ (List.mem_of_getElem? (i := 27) rfl))) (notFace_of_selects (args := #[]) (mvT hZ (hw _ (List.mem_of_getElem? (i := 29) rfl)))) (mvT hZ (hw _ (List.mem_of_getElem? (i := 29) rfl))) (mvT hZ (hw _ (List.mem_of_getElem? (i := 28) rfl))) (by decide) (backOf (W := 0) (own_rm4 l Z a0 hw [] b14 (f + dd) f (f + (nn * pp)) ss pp T15.heap n0 Z15 g15f0 g15f1 g15f2 g15f3) hZ (hw _ (List.mem_of_getElem? (i := 30) rfl)) (hw _ (List.mem_of_getElem? (i := 11) rfl)) (by decide) (by decide)) q16a q16c (g := (mkF m 207 #[.val (.long q1), .second, .val (.long q2), .second, .val (.long q3), .second, .val (.long q4), .second, .val (.long q5), .second, .val (.long q6), .second, .val (.long ss), .second, .val (.long pp), .second, .val (.long nn), .second, .val (.long dd), .second, .val (.int ex), .val (.long sp), .second, .val (.long (own_maxL dd sp)), .second, .val (.long f), .second, .val (.ref b14)] [(.long (f + dd)), (.ref b14)])) rfl (by rw [hml]; rfl) (Steps.refl _) (argsL := [(.long (f + dd))]) (rest := []) (lenOf own_rm0_pd2 rfl) rfl (by show 2 * 0 + _ ≤ _; exact Nat.le_of_eq rfl) (hb hby at_207) (fun _ _ => ⟨rfl, rfl, (by decide : 0 + 0 + 0 + 1 + 0 + 0 ≤ _), (by decide : 0 + 0 + 0 + 4 + 0 + 0 ≤ _)⟩)
        dsimp only [Pt.U, Pt.locs, Pt.cells, Pt.slots] at X16 l16 y16 z16 st16 hQ16
        subst l16 y16 z16
        obtain ⟨rfl, N16q, e16⟩ := hQ16
        have N16 := Fr.app N15 N16q
        refine own_tr (t' := T16.setTop (mkF m 210 #[.val (.long q1), .second, .val (.long q2), .second, .val (.long q3), .second, .val (.long q4), .second, .val (.long q5), .second, .val (.long q6), .second, .val (.long ss), .second, .val (.long pp), .second, .val (.long nn), .second, .val (.long dd), .second, .val (.int ex), .val (.long sp), .second, .val (.long (own_maxL dd sp)), .second, .val (.long f), .second, .val (.ref b14)] [(.int (own_cff f (f + (nn * pp)) ss pp (f + dd)))])) st16 ?_
        refine own_st (t' := T16.setTop (mkF m 212 #[.val (.long q1), .second, .val (.long q2), .second, .val (.long q3), .second, .val (.long q4), .second, .val (.long q5), .second, .val (.long q6), .second, .val (.long ss), .second, .val (.long pp), .second, .val (.long nn), .second, .val (.long dd), .second, .val (.int ex), .val (.long sp), .second, .val (.long (own_maxL dd sp)), .second, .val (.long f), .second, .val (.ref b14)] [(.int ex), (.int (own_cff f (f + (nn * pp)) ss pp (f + dd)))])) (fun _ k => XS.iload X16.here hx rfl (hb hby at_210) rfl k) ?_
        refine own_st (t' := T16.setTop (mkF m 215 #[.val (.long q1), .second, .val (.long q2), .second, .val (.long q3), .second, .val (.long q4), .second, .val (.long q5), .second, .val (.long q6), .second, .val (.long ss), .second, .val (.long pp), .second, .val (.long nn), .second, .val (.long dd), .second, .val (.int ex), .val (.long sp), .second, .val (.long (own_maxL dd sp)), .second, .val (.long f), .second, .val (.ref b14)] [])) (fun _ k => XS.icmpNo X16.here hx rfl (hb hby at_212) rfl (teq (own_end1 hs hp hn hk ho hd hsp hf hz_ex)).2 k) ?_
        refine own_st (t' := T16.setTop (mkF m 216 #[.val (.long q1), .second, .val (.long q2), .second, .val (.long q3), .second, .val (.long q4), .second, .val (.long q5), .second, .val (.long q6), .second, .val (.long ss), .second, .val (.long pp), .second, .val (.long nn), .second, .val (.long dd), .second, .val (.int ex), .val (.long sp), .second, .val (.long (own_maxL dd sp)), .second, .val (.long f), .second, .val (.ref b14)] [(.int (1 : Int32))])) (fun _ k => XS.iconst X16.here hx rfl (hb hby at_215) k) ?_
        refine own_st (t' := T16.setTop (mkF m 220 #[.val (.long q1), .second, .val (.long q2), .second, .val (.long q3), .second, .val (.long q4), .second, .val (.long q5), .second, .val (.long q6), .second, .val (.long ss), .second, .val (.long pp), .second, .val (.long nn), .second, .val (.long dd), .second, .val (.int ex), .val (.long sp), .second, .val (.long (own_maxL dd sp)), .second, .val (.long f), .second, .val (.ref b14)] [(.int (1 : Int32))])) (fun _ k => XS.goto X16.here hx rfl (pc0 := 216) (pc' := 220) rfl (hb hby at_216) (by decide) (by decide) k) ?_
        have hv17 : (1 : Int32) = (1 : Int32) := rfl
        obtain ⟨fs, hr, hrun, hended, hW, hsame⟩ := X16.leave (v := some (.int (1 : Int32))) (fun h => by rw [Bd.returns] at h; cases h)
        exact ⟨_, _, retN X16 hx (t := .boolean) Bd.returns (by simp) (hb hby at_220) hr, hrun, hended, hP _ _ ⟨_, _, rfl, ⟨(congrArg (fun z => some (Value.int z)) hv17), N16⟩, ⟨_, rfl⟩, hW, hsame.mono (by decide) (by decide)⟩⟩
      refine own_st (t' := s₁.setTop (mkF m 119 #[.val (.long q1), .second, .val (.long q2), .second, .val (.long q3), .second, .val (.long q4), .second, .val (.long q5), .second, .val (.long q6), .second, .val (.long ss), .second, .val (.long pp), .second, .val (.long nn), .second, .val (.long dd), .second, .unset, .val (.long kk), .second, .val (.long oo), .second, .unset, .unset, .unset] [(.long kk)])) (fun _ k => XS.lload X0.here hx rfl (hb hby at_117) rfl k) ?_
      refine own_st (t' := s₁.setTop (mkF m 121 #[.val (.long q1), .second, .val (.long q2), .second, .val (.long q3), .second, .val (.long q4), .second, .val (.long q5), .second, .val (.long q6), .second, .val (.long ss), .second, .val (.long pp), .second, .val (.long nn), .second, .val (.long dd), .second, .unset, .val (.long kk), .second, .val (.long oo), .second, .unset, .unset, .unset] [(.long nn), (.long kk)])) (fun _ k => XS.lload X0.here hx rfl (hb hby at_119) rfl k) ?_
      refine own_st (t' := s₁.setTop (mkF m 122 #[.val (.long q1), .second, .val (.long q2), .second, .val (.long q3), .second, .val (.long q4), .second, .val (.long q5), .second, .val (.long q6), .second, .val (.long ss), .second, .val (.long pp), .second, .val (.long nn), .second, .val (.long dd), .second, .unset, .val (.long kk), .second, .val (.long oo), .second, .unset, .unset, .unset] [(.int (lcmpW kk nn))])) (fun _ k => XS.lcmp X0.here hx rfl (hb hby at_121) rfl k) ?_
      by_cases c122_18 : (0 : Int32) < (lcmpW kk nn)
      · refine own_st (t' := s₁.setTop (mkF m 137 #[.val (.long q1), .second, .val (.long q2), .second, .val (.long q3), .second, .val (.long q4), .second, .val (.long q5), .second, .val (.long q6), .second, .val (.long ss), .second, .val (.long pp), .second, .val (.long nn), .second, .val (.long dd), .second, .unset, .val (.long kk), .second, .val (.long oo), .second, .unset, .unset, .unset] [])) (fun _ k => XS.ifYes X0.here hx rfl (pc0 := 122) (pc' := 137) rfl (hb hby at_122) rfl ((if0 _ _).trans (tlt c122_18).2.2.1) (by decide) (by decide) k) ?_
        refine own_st (t' := s₁.setTop (mkF m 138 #[.val (.long q1), .second, .val (.long q2), .second, .val (.long q3), .second, .val (.long q4), .second, .val (.long q5), .second, .val (.long q6), .second, .val (.long ss), .second, .val (.long pp), .second, .val (.long nn), .second, .val (.long dd), .second, .unset, .val (.long kk), .second, .val (.long oo), .second, .unset, .unset, .unset] [(.int (0 : Int32))])) (fun _ k => XS.iconst X0.here hx rfl (hb hby at_137) k) ?_
        refine own_st (t' := s₁.setTop (mkF m 140 #[.val (.long q1), .second, .val (.long q2), .second, .val (.long q3), .second, .val (.long q4), .second, .val (.long q5), .second, .val (.long q6), .second, .val (.long ss), .second, .val (.long pp), .second, .val (.long nn), .second, .val (.long dd), .second, .val (.int (0 : Int32)), .val (.long kk), .second, .val (.long oo), .second, .unset, .unset, .unset] [])) (fun _ k => XS.istore X0.here hx rfl (hb hby at_138) rfl (l' := #[.val (.long q1), .second, .val (.long q2), .second, .val (.long q3), .second, .val (.long q4), .second, .val (.long q5), .second, .val (.long q6), .second, .val (.long ss), .second, .val (.long pp), .second, .val (.long nn), .second, .val (.long dd), .second, .val (.int (0 : Int32)), .val (.long kk), .second, .val (.long oo), .second, .unset, .unset, .unset]) rfl k) ?_
        exact J11 _ (by rw [if_pos c122_18])
      · refine own_st (t' := s₁.setTop (mkF m 125 #[.val (.long q1), .second, .val (.long q2), .second, .val (.long q3), .second, .val (.long q4), .second, .val (.long q5), .second, .val (.long q6), .second, .val (.long ss), .second, .val (.long pp), .second, .val (.long nn), .second, .val (.long dd), .second, .unset, .val (.long kk), .second, .val (.long oo), .second, .unset, .unset, .unset] [])) (fun _ k => XS.ifNo X0.here hx rfl (hb hby at_122) rfl ((if0 _ _).trans (flt c122_18).2.2.1) k) ?_
        refine own_st (t' := s₁.setTop (mkF m 127 #[.val (.long q1), .second, .val (.long q2), .second, .val (.long q3), .second, .val (.long q4), .second, .val (.long q5), .second, .val (.long q6), .second, .val (.long ss), .second, .val (.long pp), .second, .val (.long nn), .second, .val (.long dd), .second, .unset, .val (.long kk), .second, .val (.long oo), .second, .unset, .unset, .unset] [(.long oo)])) (fun _ k => XS.lload X0.here hx rfl (hb hby at_125) rfl k) ?_
        refine own_st (t' := s₁.setTop (mkF m 129 #[.val (.long q1), .second, .val (.long q2), .second, .val (.long q3), .second, .val (.long q4), .second, .val (.long q5), .second, .val (.long q6), .second, .val (.long ss), .second, .val (.long pp), .second, .val (.long nn), .second, .val (.long dd), .second, .unset, .val (.long kk), .second, .val (.long oo), .second, .unset, .unset, .unset] [(.long ss), (.long oo)])) (fun _ k => XS.lload X0.here hx rfl (hb hby at_127) rfl k) ?_
        refine own_st (t' := s₁.setTop (mkF m 130 #[.val (.long q1), .second, .val (.long q2), .second, .val (.long q3), .second, .val (.long q4), .second, .val (.long q5), .second, .val (.long q6), .second, .val (.long ss), .second, .val (.long pp), .second, .val (.long nn), .second, .val (.long dd), .second, .unset, .val (.long kk), .second, .val (.long oo), .second, .unset, .unset, .unset] [(.int (lcmpW oo ss))])) (fun _ k => XS.lcmp X0.here hx rfl (hb hby at_129) rfl k) ?_
        by_cases c130_19 : (lcmpW oo ss) < (0 : Int32)
        · refine own_st (t' := s₁.setTop (mkF m 133 #[.val (.long q1), .second, .val (.long q2), .second, .val (.long q3), .second, .val (.long q4), .second, .val (.long q5), .second, .val (.long q6), .second, .val (.long ss), .second, .val (.long pp), .second, .val (.long nn), .second, .val (.long dd), .second, .unset, .val (.long kk), .second, .val (.long oo), .second, .unset, .unset, .unset] [])) (fun _ k => XS.ifNo X0.here hx rfl (hb hby at_130) rfl ((if0 _ _).trans (tlt c130_19).2.1) k) ?_
          refine own_st (t' := s₁.setTop (mkF m 134 #[.val (.long q1), .second, .val (.long q2), .second, .val (.long q3), .second, .val (.long q4), .second, .val (.long q5), .second, .val (.long q6), .second, .val (.long ss), .second, .val (.long pp), .second, .val (.long nn), .second, .val (.long dd), .second, .unset, .val (.long kk), .second, .val (.long oo), .second, .unset, .unset, .unset] [(.int (1 : Int32))])) (fun _ k => XS.iconst X0.here hx rfl (hb hby at_133) k) ?_
          refine own_st (t' := s₁.setTop (mkF m 138 #[.val (.long q1), .second, .val (.long q2), .second, .val (.long q3), .second, .val (.long q4), .second, .val (.long q5), .second, .val (.long q6), .second, .val (.long ss), .second, .val (.long pp), .second, .val (.long nn), .second, .val (.long dd), .second, .unset, .val (.long kk), .second, .val (.long oo), .second, .unset, .unset, .unset] [(.int (1 : Int32))])) (fun _ k => XS.goto X0.here hx rfl (pc0 := 134) (pc' := 138) rfl (hb hby at_134) (by decide) (by decide) k) ?_
          refine own_st (t' := s₁.setTop (mkF m 140 #[.val (.long q1), .second, .val (.long q2), .second, .val (.long q3), .second, .val (.long q4), .second, .val (.long q5), .second, .val (.long q6), .second, .val (.long ss), .second, .val (.long pp), .second, .val (.long nn), .second, .val (.long dd), .second, .val (.int (1 : Int32)), .val (.long kk), .second, .val (.long oo), .second, .unset, .unset, .unset] [])) (fun _ k => XS.istore X0.here hx rfl (hb hby at_138) rfl (l' := #[.val (.long q1), .second, .val (.long q2), .second, .val (.long q3), .second, .val (.long q4), .second, .val (.long q5), .second, .val (.long q6), .second, .val (.long ss), .second, .val (.long pp), .second, .val (.long nn), .second, .val (.long dd), .second, .val (.int (1 : Int32)), .val (.long kk), .second, .val (.long oo), .second, .unset, .unset, .unset]) rfl k) ?_
          exact J11 _ (by rw [if_neg c122_18, if_pos c130_19])
        · refine own_st (t' := s₁.setTop (mkF m 137 #[.val (.long q1), .second, .val (.long q2), .second, .val (.long q3), .second, .val (.long q4), .second, .val (.long q5), .second, .val (.long q6), .second, .val (.long ss), .second, .val (.long pp), .second, .val (.long nn), .second, .val (.long dd), .second, .unset, .val (.long kk), .second, .val (.long oo), .second, .unset, .unset, .unset] [])) (fun _ k => XS.ifYes X0.here hx rfl (pc0 := 130) (pc' := 137) rfl (hb hby at_130) rfl ((if0 _ _).trans (flt c130_19).2.1) (by decide) (by decide) k) ?_
          refine own_st (t' := s₁.setTop (mkF m 138 #[.val (.long q1), .second, .val (.long q2), .second, .val (.long q3), .second, .val (.long q4), .second, .val (.long q5), .second, .val (.long q6), .second, .val (.long ss), .second, .val (.long pp), .second, .val (.long nn), .second, .val (.long dd), .second, .unset, .val (.long kk), .second, .val (.long oo), .second, .unset, .unset, .unset] [(.int (0 : Int32))])) (fun _ k => XS.iconst X0.here hx rfl (hb hby at_137) k) ?_
          refine own_st (t' := s₁.setTop (mkF m 140 #[.val (.long q1), .second, .val (.long q2), .second, .val (.long q3), .second, .val (.long q4), .second, .val (.long q5), .second, .val (.long q6), .second, .val (.long ss), .second, .val (.long pp), .second, .val (.long nn), .second, .val (.long dd), .second, .val (.int (0 : Int32)), .val (.long kk), .second, .val (.long oo), .second, .unset, .unset, .unset] [])) (fun _ k => XS.istore X0.here hx rfl (hb hby at_138) rfl (l' := #[.val (.long q1), .second, .val (.long q2), .second, .val (.long q3), .second, .val (.long q4), .second, .val (.long q5), .second, .val (.long q6), .second, .val (.long ss), .second, .val (.long pp), .second, .val (.long nn), .second, .val (.long dd), .second, .val (.int (0 : Int32)), .val (.long kk), .second, .val (.long oo), .second, .unset, .unset, .unset]) rfl k) ?_
          exact J11 _ (by rw [if_neg c122_18, if_neg c130_19])
  refine own_st (t' := s₁.setTop (mkF m 9 #[.val (.long q1), .second, .val (.long q2), .second, .val (.long q3), .second, .val (.long q4), .second, .val (.long q5), .second, .val (.long q6), .second, .val (.long s0), .second, .unset, .unset, .unset, .unset, .unset, .unset, .unset, .unset, .unset, .unset, .unset, .unset, .unset, .unset] [(.long s0)])) (fun _ k => XS.lload X0.here hx rfl (hb hby at_7) rfl k) ?_
  refine own_st (t' := s₁.setTop (mkF m 10 #[.val (.long q1), .second, .val (.long q2), .second, .val (.long q3), .second, .val (.long q4), .second, .val (.long q5), .second, .val (.long q6), .second, .val (.long s0), .second, .unset, .unset, .unset, .unset, .unset, .unset, .unset, .unset, .unset, .unset, .unset, .unset, .unset, .unset] [(.long (0 : Int64)), (.long s0)])) (fun _ k => XS.lconst X0.here hx rfl (hb hby at_9) k) ?_
  refine own_st (t' := s₁.setTop (mkF m 11 #[.val (.long q1), .second, .val (.long q2), .second, .val (.long q3), .second, .val (.long q4), .second, .val (.long q5), .second, .val (.long q6), .second, .val (.long s0), .second, .unset, .unset, .unset, .unset, .unset, .unset, .unset, .unset, .unset, .unset, .unset, .unset, .unset, .unset] [(.int (lcmpW s0 (0 : Int64)))])) (fun _ k => XS.lcmp X0.here hx rfl (hb hby at_10) rfl k) ?_
  by_cases c11_20 : (lcmpW s0 (0 : Int64)) = (0 : Int32)
  · refine own_st (t' := s₁.setTop (mkF m 14 #[.val (.long q1), .second, .val (.long q2), .second, .val (.long q3), .second, .val (.long q4), .second, .val (.long q5), .second, .val (.long q6), .second, .val (.long s0), .second, .unset, .unset, .unset, .unset, .unset, .unset, .unset, .unset, .unset, .unset, .unset, .unset, .unset, .unset] [])) (fun _ k => XS.ifNo X0.here hx rfl (hb hby at_11) rfl ((if0 _ _).trans (teq c11_20).2) k) ?_
    refine own_st (t' := s₁.setTop (mkF m 15 #[.val (.long q1), .second, .val (.long q2), .second, .val (.long q3), .second, .val (.long q4), .second, .val (.long q5), .second, .val (.long q6), .second, .val (.long s0), .second, .unset, .unset, .unset, .unset, .unset, .unset, .unset, .unset, .unset, .unset, .unset, .unset, .unset, .unset] [(.long (1 : Int64))])) (fun _ k => XS.lconst X0.here hx rfl (hb hby at_14) k) ?_
    refine own_st (t' := s₁.setTop (mkF m 17 #[.val (.long q1), .second, .val (.long q2), .second, .val (.long q3), .second, .val (.long q4), .second, .val (.long q5), .second, .val (.long q6), .second, .val (.long (1 : Int64)), .second, .unset, .unset, .unset, .unset, .unset, .unset, .unset, .unset, .unset, .unset, .unset, .unset, .unset, .unset] [])) (fun _ k => XS.lstore X0.here hx rfl (hb hby at_15) rfl (l' := #[.val (.long q1), .second, .val (.long q2), .second, .val (.long q3), .second, .val (.long q4), .second, .val (.long q5), .second, .val (.long q6), .second, .val (.long (1 : Int64)), .second, .unset, .unset, .unset, .unset, .unset, .unset, .unset, .unset, .unset, .unset, .unset, .unset, .unset, .unset]) rfl k) ?_
    exact J1 _ (by rw [if_pos c11_20])
  · refine own_st (t' := s₁.setTop (mkF m 17 #[.val (.long q1), .second, .val (.long q2), .second, .val (.long q3), .second, .val (.long q4), .second, .val (.long q5), .second, .val (.long q6), .second, .val (.long s0), .second, .unset, .unset, .unset, .unset, .unset, .unset, .unset, .unset, .unset, .unset, .unset, .unset, .unset, .unset] [])) (fun _ k => XS.ifYes X0.here hx rfl (pc0 := 11) (pc' := 17) rfl (hb hby at_11) rfl ((if0 _ _).trans (feq c11_20).2) (by decide) (by decide) k) ?_
    exact J1 _ (by rw [if_neg c11_20])

set_option maxRecDepth 65536 in
set_option maxHeartbeats 40000000 in
theorem comes_1 {Post : Tables → Env → Array Value → State → Outcome → State → Prop} (hpost : ∀ tb e args s v u, (limb_1_1.after args s (.returned v) u = true ∧ limb_1_2.after args s (.returned v) u = true ∧ True) → FrameEnd s (.returned v) u (Jvm.fieldLocs frame_1_writes args s ++ Jvm.arrayLocs frame_1_arrays args s ++ Jvm.staticLocs frame_1_statics s) 16 128 → Post tb e args s (.returned v) u) :
    ArmFor flags0 classFile x code maxLocals ret World_1 tables_1 room_1 Calls_1 rest_1 Pre_1 Post := by
  intro l hfl _ _ p e ha hc hk s m args below hf hA hF happ hP
  obtain ⟨hcalls, hrest, hpre⟩ := hP
  obtain ⟨-, -, -, hnamed, -, -, -, hat⟩ := (Spec.applies_iff hf).mp happ
  obtain ⟨hg, hn⟩ := and_e (Cond.before_iff.mp (show (Jvm.Cond.and given_1 narrow_1).before args s = true from hpre))
  obtain ⟨hcnt, hg0⟩ := and_e hg
  obtain ⟨ga0, hg1⟩ := and_e hg0
  obtain ⟨ga1, hg2⟩ := and_e hg1
  obtain ⟨ga2, hg3⟩ := and_e hg2
  obtain ⟨ga3, hg4⟩ := and_e hg3
  obtain ⟨ga4, hg5⟩ := and_e hg4
  obtain ⟨w0, w1, w2, w3, w4, w5, rfl⟩ : ∃ w0 w1 w2 w3 w4 w5 : Value, args = #[w0, w1, w2, w3, w4, w5] := by
    have hs : args.size = 6 := by simpa [Cond.value, given_1] using hcnt
    obtain ⟨L⟩ := args
    match L, hs with
    | [w0, w1, w2, w3, w4, w5], _ => exact ⟨w0, w1, w2, w3, w4, w5, rfl⟩
  have hw := fun d (hd : d ∈ tables_1) => atoms_spec (ws := Jvm.Cond.code x code maxLocals ret :: tables_1) hat d (List.mem_cons_of_mem _ hd)
  have hfit : Fit s := fun {y c} hc i hi => by
    obtain ⟨ha, rfl⟩ := Array.getElem?_eq_some_iff.mp hc
    have q := List.all_eq_true.mp ((Array.all_eq_true_iff_forall_mem.mp hF) _ (Array.getElem_mem ha)) i (List.mem_range.mpr hi)
    simpa [Array.getElem?_eq_getElem hi] using q
  obtain ⟨i0, ei0⟩ := isL_v ga0
  obtain rfl : w0 = (.long i0) := Option.some.inj ei0
  obtain ⟨i1, ei1⟩ := isL_v ga1
  obtain rfl : w1 = (.long i1) := Option.some.inj ei1
  obtain ⟨i2, ei2⟩ := isL_v ga2
  obtain rfl : w2 = (.long i2) := Option.some.inj ei2
  obtain ⟨i3, ei3⟩ := isL_v ga3
  obtain rfl : w3 = (.long i3) := Option.some.inj ei3
  obtain ⟨i4, ei4⟩ := isL_v ga4
  obtain rfl : w4 = (.long i4) := Option.some.inj ei4
  obtain ⟨i5, ei5⟩ := isL_v hg5
  obtain rfl : w5 = (.long i5) := Option.some.inj ei5
  obtain ⟨n, o, h1, h2, h3, _, L, rfl, ⟨rfl, N⟩, hq⟩ := own_rm0 l s _ hw tables_1 i0 i1 i2 i3 i4 i5  s.heap s.heap.size (Nat.le_refl _)  p e ha hc hk s m _ below hf ((Spec.applies_iff_loose hf).mp happ).1 ⟨rfl, State.Warmed39.refl s, rfl⟩ trivial
  refine ⟨n, _, h1, h2, h3, hpost _ _ _ _ _ _ ⟨Cond.after_iff.mpr rfl, Cond.after_iff.mpr (eq_i res_at (Term.int_eval (1)) rfl), trivial⟩ ⟨hq.1, hq.2.1, (hq.2.2.sift fun y hy => Or.inr (N y hy)).mono (by decide) (by decide)⟩⟩
theorem main_1_1 : Claimed_1_1 := comes_1 fun _ _ _ _ _ _ h hF => ⟨h.1, hF⟩
theorem main_1_2 : Claimed_1_2 := comes_1 fun _ _ _ _ _ _ h hF => ⟨h.2.1, hF⟩
end Jvm.Pilot.@@N@@
namespace Jvm.Pilot.@@N@@
open Jvm Jvm.ClassFile Sem Op Lib Jvm.Free Jvm.Stand Jvm.Pilot.@@N@@.Jvm.D
/-! MADE BY PROGRAM (witnessworld.py) out of the Statement's table words and the real class files: 8 classes; the members and pool entries that the words name. The judged class is class 1, her method 1. -/
namespace start1
open Jvm.ClassFile
def u (s : String) : CpInfo := .utf8 (stringToUtf16 s)
/-- a pool by its gaps: so many unusable entries, then the entry; so many at the end -/
def gap : Nat → List CpInfo → List CpInfo
  | 0, r => r
  | n + 1, r => .unusable :: gap n r
def poolList (es : List (Nat × CpInfo)) (last : Nat) : List CpInfo := es.foldr (fun e r => gap e.1 (e.2 :: r)) (gap last [])
def pool (es : List (Nat × CpInfo)) (last : Nat) : Array CpInfo := ⟨poolList es last⟩
def fileOf (pool : Array CpInfo) (this : Nat) (attrs : Array Attribute := #[]) (ms : Array MethodInfo := #[]) (fl : Nat := 33) (sup : Nat := 0) (ifs : Array Nat := #[]) (fds : Array FieldInfo := #[]) : ClassFile where
  minorVersion := 0
  majorVersion := 65
  constantPool := pool
  accessFlags := fl
  thisClass := this
  superClass := sup
  interfaces := ifs
  fields := fds
  methods := ms
  attributes := attrs
def plain (name : String) (sup : Option ClassId) : Class where
  name := name
  kind := .ordinary
  loader := none
  accessFlags := 33
  super := sup
  interfaces := #[]
  cf := none
  fields := #[]
  methods := #[]
  instanceTypes := #[]
  staticTypes := #[]
  resolved := #[]
  callSites := []
  init := .initialized
  statics := none
  mirror := none

def pool0 : Array CpInfo := pool [(5, u "<init>"), (0, u "()V"), (1, .class_ 10), (1, u "java/lang/Object")] 113

def k0c0 : Code := { maxStack := 0, maxLocals := 1, code := object_method_1_code, exceptionTable := #[], attributes := #[] }
def k0m0 : Method := { name := "<init>", desc := "()V", sig := { parameters := [], returnType := none }, accessFlags := 1, code := some k0c0 }
/-- java/lang/Object -/
def k0 : Class := { plain "java/lang/Object" none with
  accessFlags := 33
  interfaces := #[]
  cf := some (fileOf pool0 8 #[] #[{ accessFlags := 1, nameIndex := 5, descriptorIndex := 6, attributes := #[] }] 33 0 #[] #[])
  fields := #[]
  methods := #[k0m0]
  instanceTypes := #[]
  staticTypes := #[]
  resolved := Array.replicate 124 none
  statics := none }

def pool1 : Array CpInfo := pool [(2, .class_ 4), (1, u "java/lang/Object"), (0, u "<init>"), (0, u "()V"), (0, .long 4294967295), (3, .long 9223372036854775807), (1, .long 4294967296), (1, .long 1073741823), (1, .long 2147483647), (1, .methodref 20 21), (0, .class_ 22), (0, .nameAndType 23 24), (0, u "java/lang/Math"), (0, u "max"), (0, u "(JJ)J"), (0, .methodref 20 26), (0, .nameAndType 27 24), (0, u "min"), (0, .class_ 29), (0, u "com/example/ledgerwarden/ledgerwarden/EntryList$Group"), (0, .methodref 28 31), (0, .nameAndType 5 32), (0, u "(JJJJ)V"), (0, .methodref 28 34), (0, .nameAndType 35 36), (0, u "containsFromFirstStart"), (0, u "(J)Z"), (0, .class_ 38), (0, u "com/example/ledgerwarden/ledgerwarden/GroupContainsFromFirstStartPinLaw"), (2, u "law"), (0, u "(JJJJJJ)Z")] 7

def k1m0 : Method := { name := "<init>", desc := "()V", sig := { parameters := [], returnType := none }, accessFlags := 1, code := none }
def k1c1 : Code := { maxStack := 10, maxLocals := 28, code := code, exceptionTable := #[], attributes := #[] }
def k1m1 : Method := { name := "law", desc := "(JJJJJJ)Z", sig := { parameters := [.long, .long, .long, .long, .long, .long], returnType := some .boolean }, accessFlags := 9, code := some k1c1 }
/-- com/example/ledgerwarden/ledgerwarden/GroupContainsFromFirstStartPinLaw -/
def k1 : Class := { plain "com/example/ledgerwarden/ledgerwarden/GroupContainsFromFirstStartPinLaw" (some 0) with
  accessFlags := 49
  interfaces := #[]
  cf := some (fileOf pool1 37 #[] #[{ accessFlags := 1, nameIndex := 5, descriptorIndex := 6, attributes := #[] }, { accessFlags := 9, nameIndex := 41, descriptorIndex := 42, attributes := #[] }] 49 2 #[] #[])
  fields := #[]
  methods := #[k1m0, k1m1]
  instanceTypes := #[]
  staticTypes := #[]
  resolved := Array.replicate 50 none
  statics := none }

def pool2 : Array CpInfo := pool [(1, .class_ 2), (0, u "java/lang/Math"), (1, .class_ 6), (1, u "java/lang/Object"), (0, u "<init>"), (0, u "()V"), (89, .class_ 100), (1, u "java/lang/Math$RandomNumberGeneratorHolder"), (20, u "(JJ)J"), (50, u "negativeZeroFloatBits"), (0, u "J"), (2, u "negativeZeroDoubleBits"), (21, u "max"), (2, u "min"), (43, u "$assertionsDisabled"), (0, u "Z"), (91, u "twoToTheDoubleScaleDown"), (0, u "D"), (4, u "twoToTheDoubleScaleUp"), (9, u "E"), (3, u "PI"), (2, u "TAU"), (2, u "DEGREES_TO_RADIANS"), (0, u "RADIANS_TO_DEGREES")] 94

def k2m0 : Method := { name := "<init>", desc := "()V", sig := { parameters := [], returnType := none }, accessFlags := 2, code := none }
def k2c1 : Code := { maxStack := 4, maxLocals := 4, code := jdk_29_method_66_code, exceptionTable := #[], attributes := #[] }
def k2m1 : Method := { name := "max", desc := "(JJ)J", sig := { parameters := [.long, .long], returnType := some .long }, accessFlags := 9, code := some k2c1 }
def k2c2 : Code := { maxStack := 4, maxLocals := 4, code := jdk_29_method_70_code, exceptionTable := #[], attributes := #[] }
def k2m2 : Method := { name := "min", desc := "(JJ)J", sig := { parameters := [.long, .long], returnType := some .long }, accessFlags := 9, code := some k2c2 }
/-- java/lang/Math -/
def k2 : Class := { plain "java/lang/Math" (some 0) with
  accessFlags := 49
  interfaces := #[]
  cf := some (fileOf pool2 1 #[.nestMembers #[98]] #[{ accessFlags := 2, nameIndex := 7, descriptorIndex := 8, attributes := #[] }, { accessFlags := 9, nameIndex := 198, descriptorIndex := 121, attributes := #[] }, { accessFlags := 9, nameIndex := 201, descriptorIndex := 121, attributes := #[] }] 49 4 #[] #[{ accessFlags := 25, nameIndex := 354, descriptorIndex := 339, attributes := #[] }, { accessFlags := 25, nameIndex := 358, descriptorIndex := 339, attributes := #[] }, { accessFlags := 25, nameIndex := 361, descriptorIndex := 339, attributes := #[] }, { accessFlags := 26, nameIndex := 364, descriptorIndex := 339, attributes := #[] }, { accessFlags := 26, nameIndex := 365, descriptorIndex := 339, attributes := #[] }, { accessFlags := 26, nameIndex := 172, descriptorIndex := 173, attributes := #[] }, { accessFlags := 26, nameIndex := 176, descriptorIndex := 173, attributes := #[] }, { accessFlags := 8, nameIndex := 344, descriptorIndex := 339, attributes := #[] }, { accessFlags := 8, nameIndex := 338, descriptorIndex := 339, attributes := #[] }, { accessFlags := 4120, nameIndex := 245, descriptorIndex := 246, attributes := #[] }])
  fields := #[{ name := "E", type := .double, accessFlags := 25, slot := 0, constantValue := 0 }, { name := "PI", type := .double, accessFlags := 25, slot := 1, constantValue := 0 }, { name := "TAU", type := .double, accessFlags := 25, slot := 2, constantValue := 0 }, { name := "DEGREES_TO_RADIANS", type := .double, accessFlags := 26, slot := 3, constantValue := 0 }, { name := "RADIANS_TO_DEGREES", type := .double, accessFlags := 26, slot := 4, constantValue := 0 }, { name := "negativeZeroFloatBits", type := .long, accessFlags := 26, slot := 5, constantValue := 0 }, { name := "negativeZeroDoubleBits", type := .long, accessFlags := 26, slot := 6, constantValue := 0 }, { name := "twoToTheDoubleScaleUp", type := .double, accessFlags := 8, slot := 7, constantValue := 0 }, { name := "twoToTheDoubleScaleDown", type := .double, accessFlags := 8, slot := 8, constantValue := 0 }, { name := "$assertionsDisabled", type := .boolean, accessFlags := 4120, slot := 9, constantValue := 0 }]
  methods := #[k2m0, k2m1, k2m2]
  instanceTypes := #[]
  staticTypes := #[.double, .double, .double, .double, .double, .long, .long, .double, .double, .boolean]
  resolved := Array.replicate 460 none
  statics := none }

def pool3 : Array CpInfo := pool [(1, .methodref 2 3), (0, .class_ 4), (0, .nameAndType 5 6), (0, u "java/lang/Object"), (0, u "<init>"), (0, u "()V"), (0, .fieldref 8 9), (0, .class_ 10), (0, .nameAndType 11 12), (0, u "com/example/ledgerwarden/ledgerwarden/EntryList$Group"), (0, u "firstStart"), (0, u "J"), (0, .fieldref 8 14), (0, .nameAndType 15 12), (0, u "lastStart"), (0, .fieldref 8 17), (0, .nameAndType 18 12), (0, u "size"), (0, .fieldref 8 20), (0, .nameAndType 21 12), (0, u "period"), (73, u "(JJJJ)V"), (11, u "containsFromFirstStart"), (0, u "(J)Z"), (9, .class_ 119), (0, u "com/example/ledgerwarden/ledgerwarden/EntryList")] 40

def k3c0 : Code := { maxStack := 3, maxLocals := 9, code := prog_3_method_1_code, exceptionTable := #[], attributes := #[] }
def k3m0 : Method := { name := "<init>", desc := "(JJJJ)V", sig := { parameters := [.long, .long, .long, .long], returnType := none }, accessFlags := 0, code := some k3c0 }
def k3c1 : Code := { maxStack := 4, maxLocals := 3, code := prog_3_method_10_code, exceptionTable := #[], attributes := #[] }
def k3m1 : Method := { name := "containsFromFirstStart", desc := "(J)Z", sig := { parameters := [.long], returnType := some .boolean }, accessFlags := 0, code := some k3c1 }
/-- com/example/ledgerwarden/ledgerwarden/EntryList$Group -/
def k3 : Class := { plain "com/example/ledgerwarden/ledgerwarden/EntryList$Group" (some 0) with
  accessFlags := 49
  interfaces := #[]
  cf := some (fileOf pool3 8 #[.nestHost 118] #[{ accessFlags := 0, nameIndex := 5, descriptorIndex := 95, attributes := #[] }, { accessFlags := 0, nameIndex := 107, descriptorIndex := 108, attributes := #[] }] 49 2 #[] #[{ accessFlags := 18, nameIndex := 11, descriptorIndex := 12, attributes := #[] }, { accessFlags := 18, nameIndex := 15, descriptorIndex := 12, attributes := #[] }, { accessFlags := 18, nameIndex := 18, descriptorIndex := 12, attributes := #[] }, { accessFlags := 18, nameIndex := 21, descriptorIndex := 12, attributes := #[] }])
  fields := #[{ name := "firstStart", type := .long, accessFlags := 18, slot := 0, constantValue := 0 }, { name := "lastStart", type := .long, accessFlags := 18, slot := 1, constantValue := 0 }, { name := "size", type := .long, accessFlags := 18, slot := 2, constantValue := 0 }, { name := "period", type := .long, accessFlags := 18, slot := 3, constantValue := 0 }]
  methods := #[k3m0, k3m1]
  instanceTypes := #[.long, .long, .long, .long]
  staticTypes := #[]
  resolved := Array.replicate 160 none
  statics := none }

def pool4 : Array CpInfo := pool [(1, u "java/lang/Cloneable"), (0, .class_ 1), (0, u "java/lang/Object"), (0, .class_ 3)] 3

/-- java/lang/Cloneable -/
def k4 : Class := { plain "java/lang/Cloneable" (some 0) with
  accessFlags := 1537
  interfaces := #[]
  cf := some (fileOf pool4 2 #[] #[] 1537 4 #[] #[])
  fields := #[]
  methods := #[]
  instanceTypes := #[]
  staticTypes := #[]
  resolved := Array.replicate 8 none
  statics := none }

def pool5 : Array CpInfo := pool [(1, u "java/io/Serializable"), (0, .class_ 1), (0, u "java/lang/Object"), (0, .class_ 3)] 3

/-- java/io/Serializable -/
def k5 : Class := { plain "java/io/Serializable" (some 0) with
  accessFlags := 1537
  interfaces := #[]
  cf := some (fileOf pool5 2 #[] #[] 1537 4 #[] #[])
  fields := #[]
  methods := #[]
  instanceTypes := #[]
  staticTypes := #[]
  resolved := Array.replicate 8 none
  statics := none }

/-- the primitive byte -/
def k6 : Class := { plain "byte" none with kind := .primitive 'B', accessFlags := 0x411 }
/-- [B -/
def k7 : Class := { plain "[B" (some 0) with kind := .array 6 .byte, interfaces := #[4, 5], accessFlags := 1041 }

def heap : Heap := #[]
def classes : Array Class := #[k0, k1, k2, k3, k4, k5, k6, k7]
def interned : List (Array UInt16 × Addr) := []
def slotsUsed : Nat := 0
def theMethod : MethodId := ⟨1, 1⟩
def args0 : Array Value := #[.long 5, .long 5, .long 5, .long 5, .long 5, .long 5]
def aboutOver (below : List Frame) : State where
  vm := { classes := classes, interned := interned.toArray }
  heap := heap
  slotsUsed := slotsUsed
  threads := #[{ frames := .invoking theMethod args0 :: below }]
def below0 : List Frame := [.native { method := ⟨0, 0⟩, args := #[] }]
def about1 : State := aboutOver below0
def p0 : Program := .bare "" "" ""
def e0 : Env := launch0.env 0 0 0
theorem w_frames : about1.frames = Frame.invoking theMethod args0 :: below0 := rfl
set_option maxRecDepth 65536 in
theorem w_args : argsFit about1.vm theMethod args0 = true := by decide +kernel
set_option maxRecDepth 65536 in
theorem w_heap : heapFits about1 = true := by decide +kernel
set_option maxRecDepth 65536 in
theorem w_runnable : about1.curStatus? = some .runnable := by decide +kernel
set_option maxRecDepth 65536 in
theorem w_alone : about1.alone = true := by decide +kernel
set_option maxRecDepth 65536 in
theorem w_named : about1.methodNamed? x = some theMethod := by decide +kernel
set_option maxRecDepth 65536 in
theorem w_hears : about1.hears theMethod below0 = true := by decide +kernel
set_option maxRecDepth 65536 in
theorem w_ripe : about1.ripe theMethod args0 below0 = true := by decide +kernel
theorem w_running : about1.status = .running := rfl
set_option maxRecDepth 65536 in
theorem w_room : about1.hasRoom e0.platform room_1 = true :=
  launch0.hasRoom_least _ room_1 (by decide +kernel) (by decide +kernel) (by decide +kernel) (by decide +kernel) (by decide +kernel) (by decide +kernel)
theorem allAtoms_all (ts : List Jvm.Cond) (a : Array Jvm.Value) (st : Jvm.State) : (allAtoms ts).before a st = ts.all (fun c => c.before a st) := by
  induction ts with
  | nil => rfl
  | cons c t ih =>
    show (Jvm.Cond.and c (allAtoms t)).before a st = _
    rw [Jvm.Cond.before_and, ih, List.all_cons]
def words1 : List Jvm.Cond := Jvm.Cond.code x code maxLocals ret :: tables_1
/-- a 'code' word, met by the world's own term for the bytes: nothing is compared byte by byte -/
theorem code_word {y : MethodName} {bytes : ByteArray} {mx : Nat} {rt : Option FieldType} {a : Array Value} {s : State} {m : MethodId} {meth : Method} {c : Code} (h1 : s.methodNamed? y = some m) (h2 : s.vm.method? m = some meth) (h3 : meth.code = some c) (h4 : c.code = bytes)
    (h5 : (c.maxLocals == mx && c.exceptionTable.isEmpty && decide (c.maxStack ≤ mostOperands) && decide (meth.sig.returnType = rt) && !meth.locks && decide (parseMethodDescriptor y.desc = some meth.sig)) = true) : (Jvm.Cond.code y bytes mx rt).before a s = true := by
  simp only [Bool.and_eq_true, beq_iff_eq, Bool.not_eq_true', decide_eq_true_eq] at h5
  obtain ⟨⟨⟨⟨⟨g1, g2⟩, g3⟩, g4⟩, g5⟩, g6⟩ := h5
  simp [Cond.before, Cond.holds, Cond.value, h1, h2, h3, h4, g1, g2, g3, g4, g5, g6]
def isCode : Jvm.Cond → Bool
  | .code _ _ _ _ => true
  | _ => false
theorem all_split {L : List Jvm.Cond} {P : Jvm.Cond → Bool} (h1 : L.all (fun c => isCode c || P c) = true) (h2 : ∀ c ∈ L.filter isCode, P c = true) : L.all P = true := by
  refine List.all_eq_true.mpr fun c hc => ?_
  have h := List.all_eq_true.mp h1 c hc
  rcases Bool.eq_false_or_eq_true (isCode c) with hi | hi
  · exact h2 c (List.mem_filter.mpr ⟨hc, hi⟩)
  · simpa [hi] using h
set_option maxRecDepth 65536 in
theorem w_c0 : (Jvm.Cond.code x code maxLocals ret).before args0 about1 = true := code_word (m := ⟨1, 1⟩) (meth := k1m1) (c := k1c1) (by decide +kernel) rfl rfl rfl (by decide +kernel)
set_option maxRecDepth 65536 in
theorem w_c1 : (Jvm.Cond.code ({ cls := "java/lang/Math", name := "max", desc := "(JJ)J" } : Jvm.MethodName) jdk_29_method_66_code (4 : Nat) (Option.some Jvm.ClassFile.FieldType.long)).before args0 about1 = true := code_word (m := ⟨2, 1⟩) (meth := k2m1) (c := k2c1) (by decide +kernel) rfl rfl rfl (by decide +kernel)
set_option maxRecDepth 65536 in
theorem w_c2 : (Jvm.Cond.code ({ cls := "java/lang/Math", name := "min", desc := "(JJ)J" } : Jvm.MethodName) jdk_29_method_70_code (4 : Nat) (Option.some Jvm.ClassFile.FieldType.long)).before args0 about1 = true := code_word (m := ⟨2, 2⟩) (meth := k2m2) (c := k2c2) (by decide +kernel) rfl rfl rfl (by decide +kernel)
set_option maxRecDepth 65536 in
theorem w_c3 : (Jvm.Cond.code ({ cls := "com/example/ledgerwarden/ledgerwarden/EntryList$Group", name := "<init>", desc := "(JJJJ)V" } : Jvm.MethodName) prog_3_method_1_code (9 : Nat) (Option.none : Option Jvm.ClassFile.FieldType)).before args0 about1 = true := code_word (m := ⟨3, 0⟩) (meth := k3m0) (c := k3c0) (by decide +kernel) rfl rfl rfl (by decide +kernel)
set_option maxRecDepth 65536 in
theorem w_c4 : (Jvm.Cond.code ({ cls := "java/lang/Object", name := "<init>", desc := "()V" } : Jvm.MethodName) object_method_1_code (1 : Nat) (Option.none : Option Jvm.ClassFile.FieldType)).before args0 about1 = true := code_word (m := ⟨0, 0⟩) (meth := k0m0) (c := k0c0) (by decide +kernel) rfl rfl rfl (by decide +kernel)
set_option maxRecDepth 65536 in
theorem w_c5 : (Jvm.Cond.code ({ cls := "com/example/ledgerwarden/ledgerwarden/EntryList$Group", name := "containsFromFirstStart", desc := "(J)Z" } : Jvm.MethodName) prog_3_method_10_code (3 : Nat) (Option.some Jvm.ClassFile.FieldType.boolean)).before args0 about1 = true := code_word (m := ⟨3, 1⟩) (meth := k3m1) (c := k3c1) (by decide +kernel) rfl rfl rfl (by decide +kernel)
def codes1 : List Jvm.Cond := [Jvm.Cond.code x code maxLocals ret, Jvm.Cond.code ({ cls := "java/lang/Math", name := "max", desc := "(JJ)J" } : Jvm.MethodName) jdk_29_method_66_code (4 : Nat) (Option.some Jvm.ClassFile.FieldType.long), Jvm.Cond.code ({ cls := "java/lang/Math", name := "min", desc := "(JJ)J" } : Jvm.MethodName) jdk_29_method_70_code (4 : Nat) (Option.some Jvm.ClassFile.FieldType.long), Jvm.Cond.code ({ cls := "com/example/ledgerwarden/ledgerwarden/EntryList$Group", name := "<init>", desc := "(JJJJ)V" } : Jvm.MethodName) prog_3_method_1_code (9 : Nat) (Option.none : Option Jvm.ClassFile.FieldType), Jvm.Cond.code ({ cls := "java/lang/Object", name := "<init>", desc := "()V" } : Jvm.MethodName) object_method_1_code (1 : Nat) (Option.none : Option Jvm.ClassFile.FieldType), Jvm.Cond.code ({ cls := "com/example/ledgerwarden/ledgerwarden/EntryList$Group", name := "containsFromFirstStart", desc := "(J)Z" } : Jvm.MethodName) prog_3_method_10_code (3 : Nat) (Option.some Jvm.ClassFile.FieldType.boolean)]
set_option maxRecDepth 65536 in
theorem codes_eq : words1.filter isCode = codes1 := rfl
theorem w_codes : ∀ c ∈ words1.filter isCode, c.before args0 about1 = true := by
  rw [codes_eq]
  intro c hc
  simp only [codes1, List.mem_cons, List.not_mem_nil, or_false] at hc
  rcases hc with rfl | rfl | rfl | rfl | rfl | rfl
  · exact w_c0
  · exact w_c1
  · exact w_c2
  · exact w_c3
  · exact w_c4
  · exact w_c5
set_option maxRecDepth 65536 in
theorem w_t1 : (words1.take 24).all (fun c => isCode c || c.before args0 about1) = true := by decide +kernel
set_option maxRecDepth 65536 in
theorem w_t2 : (words1.drop 24).all (fun c => isCode c || c.before args0 about1) = true := by decide +kernel
theorem w_tables : (allAtoms (Jvm.Cond.code x code maxLocals ret :: tables_1)).before args0 about1 = true := by
  rw [allAtoms_all]
  show words1.all (fun c => c.before args0 about1) = true
  refine all_split ?_ w_codes
  rw [← List.take_append_drop 24 words1, List.all_append, w_t1, w_t2]
  rfl
set_option maxRecDepth 65536 in
theorem w_case : (Jvm.Cond.and given_1 narrow_1).before args0 about1 = true := by decide +kernel
theorem w_applies : (headSpec (Jvm.Cond.code x code maxLocals ret :: tables_1) room_1).applies x e0.platform about1 = true :=
  (Spec.applies_iff w_frames).mpr ⟨w_running, w_runnable, w_alone, w_named, w_hears, w_ripe, w_room, w_tables⟩
theorem atStart : AtStart classFile x code maxLocals ret World_1 tables_1 room_1 Calls_1 rest_1 Pre_1 launch0 p0 e0 about1 theMethod args0 below0 :=
  ⟨lists_1, trivial, launch0.admits_env _ _ _, launch0.least_env, fairChoices_fair.cas, fairChoices_fair.clock, w_frames, w_args, w_heap, w_applies, trivial, trivial, w_case⟩
end start1
theorem witness_1 : WitnessClaimed_1 := ⟨start1.p0, start1.e0, start1.about1, start1.theMethod, start1.args0, start1.below0, start1.atStart⟩
end Jvm.Pilot.@@N@@
