import JvmDerived
import JvmDerived.Pilot.@@N@@Statement
import JvmDerived.Pilot.@@N@@Code
set_option linter.unusedVariables false
set_option linter.unusedSimpArgs false
@@BLOCK:NumsL.lean.txt@@
namespace Jvm.RoadKit
open Sem ClassFile Op Lib Jvm.Stand Jvm.Free Jvm.LawKit
section New
variable {p : Program} {l : Launch} {e : Env} {R : Room} {s : State} {m : MethodId} {args : Array Value} {below : List Frame} {meth : Method} {c : Code} {T : State} {locs : List Loc} {cells slots : Nat}
theorem retI (X : Stand p l e R s m args below meth c T locs cells slots) (hx : p.tables.exec = Jvm.exec) {pc : Nat} {Ls : Array Slot} {z : Int32} {rest : List Value} (hret : meth.sig.returnType = some .int) (hd : decode c.code pc = .ok (.ireturn, 1)) {fs : List Frame}
    (hl : ∀ (f : JFrame) (acts : List Action), f.method = m → f.locked = none → f.entered = [] → (doReturn e (T.setTop f) acts (some (.int z))).1 = T.setFrames fs) : Steps p.tables e below (T.setTop (mkF m pc Ls (.int z :: rest))) (T.setFrames fs) := by
  have hm' : T.vm.method? m = some meth := X.method'
  have hn : narrow .int (.int z) = .int z := rfl
  show Steps p.tables e below (T.setTop { method := m, pc := pc, locals := Ls, stack := _ :: rest, locked := none }) _
  jvm_step X.here [X.here.top, hx, hd, hm', hret, hn]
  first | (intro acts; rw [hl _ acts rfl rfl rfl]) | rw [hl _ _ rfl rfl rfl]
  exact Steps.refl _
end New
end Jvm.RoadKit
namespace Jvm.Pilot.@@N@@
open Jvm Jvm.ClassFile Sem Op Lib Jvm.Free Jvm.Stand Jvm.LawKit Jvm.RoadKit Bundle Jvm.Pilot.@@N@@.Jvm.D
/-! the rest of a run, from the state t on: it comes to an end of which P holds -/
def own_At (p : Program) (e : Env) (below : List Frame) (P : Outcome → State → Prop) (t : State) : Prop := ∃ s₂ o, Steps p.tables e below t s₂ ∧ s₂.status = .running ∧ Ended s₂ below o ∧ P o s₂
theorem own_body {p : Program} {e : Env} {below : List Frame} {P : Outcome → State → Prop} {t : State} (h : ∀ P' : Outcome → State → Prop, (∀ o u, P o u → P' o u) → own_At p e below P' t) : own_At p e below P t := h P fun _ _ q => q
theorem own_st {p : Program} {e : Env} {below : List Frame} {P : Outcome → State → Prop} {t t' : State} (h : ∀ target, Steps p.tables e below t' target → Steps p.tables e below t target) (k : own_At p e below P t') : own_At p e below P t := by
  obtain ⟨s₂, o, h1, h2⟩ := k
  exact ⟨s₂, o, h _ h1, h2⟩
theorem own_tr {p : Program} {e : Env} {below : List Frame} {P : Outcome → State → Prop} {t t' : State} (h : Steps p.tables e below t t') (k : own_At p e below P t') : own_At p e below P t := by
  obtain ⟨s₂, o, h1, h2⟩ := k
  exact ⟨s₂, o, h.trans h1, h2⟩
theorem own_sta {s : State} {a : Array Value} {C n d : String} {z : Int32} (h : (Jvm.Cond.eq (Jvm.Term.static C n d) (Jvm.Term.int z)).value a s none s [] = some true) (hi : (Cond.initializedFor C n d).before a s = true ∨ ((Cond.initialized C).before a s = true ∧ (Cond.laysStatic C n d).before a s = true)) : Sta s s.heap C n d (.int z) := Sta.start (eqv_i rfl h) hi
theorem own_staL {s : State} {a : Array Value} {C n d : String} {z : Int64} (h : (Jvm.Cond.eq (Jvm.Term.static C n d) (Jvm.Term.long z)).value a s none s [] = some true) (hi : (Cond.initializedFor C n d).before a s = true ∨ ((Cond.initialized C).before a s = true ∧ (Cond.laysStatic C n d).before a s = true)) : Sta s s.heap C n d (.long z) := Sta.start (eqv_l rfl h) hi
theorem own_enum {s : State} {a : Array Value} {C n d K : String} (h : (Jvm.Cond.exactly (Jvm.Term.static C n d) K).value a s none s [] = some true) (hi : (Cond.initializedFor C n d).before a s = true ∨ ((Cond.initialized C).before a s = true ∧ (Cond.laysStatic C n d).before a s = true)) : ∃ r : Addr, (Jvm.Term.static C n d).eval a s none [] s = some (.ref r) ∧ Sta s s.heap C n d (.ref r) ∧ Exa s s.heap r K := by
  obtain ⟨r, c', cell, k, e1, -⟩ := Cond.exactly_spec (Cond.before_iff.mpr h)
  exact ⟨r, e1, Sta.start e1 hi, Exa.start e1 h⟩
theorem own_ord {s : State} {a : Array Value} {t : Jvm.Term} {C n d : String} {r : Addr} {z : Int32} (e : t.eval a s none [] s = some (.ref r)) (h : (Jvm.Cond.eq (Jvm.Term.field t C n d) (Jvm.Term.int z)).value a s none s [] = some true) : s.fieldOf? r C n d = some (.int z) := by
  have q := eqv_i (F := Jvm.Term.int z) rfl h
  simpa [Term.eval, e] using q
theorem own_ne {s : State} {r r' : Addr} {C n d : String} {z z' : Int32} (h : s.fieldOf? r C n d = some (.int z)) (h' : s.fieldOf? r' C n d = some (.int z')) (q : z ≠ z') : r ≠ r' := fun e => by
  subst e
  exact q (Value.int.inj (Option.some.inj (h.symm.trans h')))

def own_low (p : Int32) : Int32 := if p < (65 : Int32) then p else if (90 : Int32) < p then p else p + (32 : Int32)

def own_ch (b i : Int32) : Int32 := b + i
def own_vl : List Value := [.int 97, .int 98, .int 99, .int 100, .int 101, .int 102, .int 103, .int 104, .int 105, .int 106, .int 107, .int 108, .int 109, .int 110, .int 111, .int 112, .int 113, .int 114, .int 115, .int 116, .int 117, .int 118, .int 119, .int 120, .int 121, .int 122]
def own_vu : List Value := [.int 65, .int 66, .int 67, .int 68, .int 69, .int 70, .int 71, .int 72, .int 73, .int 74, .int 75, .int 76, .int 77, .int 78, .int 79, .int 80, .int 81, .int 82, .int 83, .int 84, .int 85, .int 86, .int 87, .int 88, .int 89, .int 90]
theorem own_tl : (∀ c ∈ "abcdefghijklmnopqrstuvwxyz".toList, c.toNat < 256) ∧ "abcdefghijklmnopqrstuvwxyz".toList.map (fun c => Value.int (Jvm.Lit.byteI c.toNat.toUInt16)) = own_vl := ⟨by decide, rfl⟩
theorem own_tu : (∀ c ∈ "ABCDEFGHIJKLMNOPQRSTUVWXYZ".toList, c.toNat < 256) ∧ "ABCDEFGHIJKLMNOPQRSTUVWXYZ".toList.map (fun c => Value.int (Jvm.Lit.byteI c.toNat.toUInt16)) = own_vu := ⟨by decide, rfl⟩
theorem own_sio {Z : State} {h h' : Heap} {C n d : String} (E : Ext h h') (q : (∃ w : Addr, Sta Z h C n d (.ref w)) ∨ Sta Z h C n d .null) : (∃ w : Addr, Sta Z h' C n d (.ref w)) ∨ Sta Z h' C n d .null := q.imp (fun ⟨w, F⟩ => ⟨w, F.ext E⟩) fun F => F.ext E
theorem own_i (p : Int32) : 0 ≤ ((p &&& (2147483647 : Int32)) % (26 : Int32)).toInt ∧ ((p &&& (2147483647 : Int32)) % (26 : Int32)).toInt ≤ 25 := by
  have e1 : (p &&& (2147483647 : Int32)).toInt = p.toInt % 2 ^ 31 := Jvm.Kit.i32_mask p 2147483647 (k := 31) (by decide) (by decide)
  have e2 : ((p &&& (2147483647 : Int32)) % (26 : Int32)).toInt = (p.toInt % 2147483648) % 26 := by
    rw [Int32.toInt_mod, e1, Int.tmod_eq_emod_of_nonneg (by omega)]; rfl
  omega
theorem own_i2 {p : Int32} (c1 : ¬ p < (65 : Int32)) (c2 : ¬ (90 : Int32) < p) : 0 ≤ (p - (65 : Int32)).toInt ∧ (p - (65 : Int32)).toInt ≤ 25 := by
  have l1 : (65 : Int32).toInt = 65 := rfl
  have l2 : (90 : Int32).toInt = 90 := rfl
  rw [Int32.lt_iff_toInt_lt] at c1 c2
  rw [Jvm.Kit.i32_sub (by omega) (by omega)]
  omega
theorem own_c0 {i : Int32} (h : 0 ≤ i.toInt ∧ i.toInt ≤ 25) : ¬ i < (0 : Int32) := by
  have l0 : (0 : Int32).toInt = 0 := rfl
  rw [Int32.lt_iff_toInt_lt]; omega
theorem own_c1 {i : Int32} (h : 0 ≤ i.toInt ∧ i.toInt ≤ 25) : i < (26 : Int32) := by
  have l0 : (26 : Int32).toInt = 26 := rfl
  rw [Int32.lt_iff_toInt_lt]; omega
theorem own_26 {i : Int32} (h : 0 ≤ i.toInt ∧ i.toInt ≤ 25) : ∃ n : Nat, n < 26 ∧ i = Int32.ofNat n := by
  refine ⟨i.toInt.toNat, by omega, ?_⟩
  rw [← Int32.toInt_inj, Int32.toInt_ofNat_small (by omega)]
  omega
theorem own_all {P : Int32 → Prop} (h : ∀ n : Nat, n < 26 → P (Int32.ofNat n)) {i : Int32} (hi : 0 ≤ i.toInt ∧ i.toInt ≤ 25) : P i := by
  obtain ⟨n, h1, rfl⟩ := own_26 hi
  exact h n h1
theorem own_gl {i : Int32} (h : 0 ≤ i.toInt ∧ i.toInt ≤ 25) : own_vl.getD i.toNatClampNeg (.int (0 : Int32)) = .int (own_ch (97 : Int32) i) := own_all (P := fun i => own_vl.getD i.toNatClampNeg (.int (0 : Int32)) = .int (own_ch (97 : Int32) i)) (by decide +kernel) h
theorem own_gu {i : Int32} (h : 0 ≤ i.toInt ∧ i.toInt ≤ 25) : own_vu.getD i.toNatClampNeg (.int (0 : Int32)) = .int (own_ch (65 : Int32) i) := own_all (P := fun i => own_vu.getD i.toNatClampNeg (.int (0 : Int32)) = .int (own_ch (65 : Int32) i)) (by decide +kernel) h
theorem own_n1l {i : Int32} (h : 0 ≤ i.toInt ∧ i.toInt ≤ 25) : nar .char (((own_ch (97 : Int32) i &&& (255 : Int32)).toUInt32.toUInt16.toUInt32.toInt32)) = own_ch (97 : Int32) i := own_all (P := fun i => nar .char (((own_ch (97 : Int32) i &&& (255 : Int32)).toUInt32.toUInt16.toUInt32.toInt32)) = own_ch (97 : Int32) i) (by decide +kernel) h
theorem own_n1u {i : Int32} (h : 0 ≤ i.toInt ∧ i.toInt ≤ 25) : nar .char (((own_ch (65 : Int32) i &&& (255 : Int32)).toUInt32.toUInt16.toUInt32.toInt32)) = own_ch (65 : Int32) i := own_all (P := fun i => nar .char (((own_ch (65 : Int32) i &&& (255 : Int32)).toUInt32.toUInt16.toUInt32.toInt32)) = own_ch (65 : Int32) i) (by decide +kernel) h
theorem own_n2l {i : Int32} (h : 0 ≤ i.toInt ∧ i.toInt ≤ 25) : nar .char (own_ch (97 : Int32) i) = own_ch (97 : Int32) i := own_all (P := fun i => nar .char (own_ch (97 : Int32) i) = own_ch (97 : Int32) i) (by decide +kernel) h
theorem own_n2u {i : Int32} (h : 0 ≤ i.toInt ∧ i.toInt ≤ 25) : nar .char (own_ch (65 : Int32) i) = own_ch (65 : Int32) i := own_all (P := fun i => nar .char (own_ch (65 : Int32) i) = own_ch (65 : Int32) i) (by decide +kernel) h
theorem own_l1 {i : Int32} (h : 0 ≤ i.toInt ∧ i.toInt ≤ 25) : (own_low (own_ch (65 : Int32) i)) = (own_ch (97 : Int32) i) := own_all (P := fun i => (own_low (own_ch (65 : Int32) i)) = (own_ch (97 : Int32) i)) (by decide +kernel) h
theorem own_l2 {i : Int32} (h : 0 ≤ i.toInt ∧ i.toInt ≤ 25) : (own_low (own_ch (97 : Int32) i)) = (own_ch (97 : Int32) i) := own_all (P := fun i => (own_low (own_ch (97 : Int32) i)) = (own_ch (97 : Int32) i)) (by decide +kernel) h
theorem own_w1 {p : Int32} (c1 : ¬ p < (65 : Int32)) (c2 : ¬ (90 : Int32) < p) : (own_low p) = (own_ch (97 : Int32) (p - (65 : Int32))) := by
  rw [own_low, if_neg c1, if_neg c2, own_ch]
  have l1 : (65 : Int32).toInt = 65 := rfl
  have l2 : (90 : Int32).toInt = 90 := rfl
  have l3 : (32 : Int32).toInt = 32 := rfl
  have l4 : (97 : Int32).toInt = 97 := rfl
  rw [Int32.lt_iff_toInt_lt] at c1 c2
  have e : (p - (65 : Int32)).toInt = p.toInt - 65 := by rw [Jvm.Kit.i32_sub (by omega) (by omega), l1]
  rw [← Int32.toInt_inj, Jvm.Kit.i32_add (by omega) (by omega), Jvm.Kit.i32_add (by omega) (by omega), e, l3, l4]
  omega
theorem own_w2 {p : Int32} (c : p < (65 : Int32)) : (own_low p) = p := by rw [own_low, if_pos c]
theorem own_w3 {p : Int32} (c : (90 : Int32) < p) : (own_low p) = p := by
  rw [own_low, if_pos c]
  split <;> rfl

theorem own_rm1_d0 : decode jdk_41_method_11_code 0 = .ok (.iload_n 0, 1) := by decide +kernel
theorem own_rm1_d1 : decode jdk_41_method_11_code 1 = .ok (.ifCond .lt 8, 3) := by decide +kernel
theorem own_rm1_d4 : decode jdk_41_method_11_code 4 = .ok (.iload_n 0, 1) := by decide +kernel
theorem own_rm1_d5 : decode jdk_41_method_11_code 5 = .ok (.iload_n 1, 1) := by decide +kernel
theorem own_rm1_d6 : decode jdk_41_method_11_code 6 = .ok (.if_icmp .lt 10, 3) := by decide +kernel
theorem own_rm1_d16 : decode jdk_41_method_11_code 16 = .ok (.iload_n 0, 1) := by decide +kernel
theorem own_rm1_d17 : decode jdk_41_method_11_code 17 = .ok (.ireturn, 1) := by decide +kernel
theorem own_rm1_pn : plainName "jdk/internal/util/Preconditions" = true := by first | (simp [plainName, overriddenIn]; done) | decide +kernel
theorem own_rm1_ef (m : MethodId) (x0 : Int32) (x1 : Int32) (x2 : Addr) : entryFrame m #[(.int x0), (.int x1), (.ref x2)] 3 = mkF m 0 #[.val (.int x0), .val (.int x1), .val (.ref x2)] [] := by first | (simp [entryFrame, mkF, argsToLocals, Value.category]; done) | rfl
def own_rm1_Q (Z : State) (p1 : Int32) (p2 : Int32) (a1 : Addr) (h0 : Heap) (n0 : Nat) (v : Option Value) (h : Heap) (L : List Loc) : Prop := v = some (.int (p1)) ∧ Fr n0 L ∧ h = h0
set_option maxRecDepth 65536 in
set_option maxHeartbeats 40000000 in
theorem own_rm1 (l : Launch) (Z : State) (a0 : Array Value) (hw : ∀ d ∈ tables_1, d.before a0 Z = true) (ws : List Jvm.Cond) (p1 : Int32) (p2 : Int32) (a1 : Addr) (h0 : Heap) (n0 : Nat) (Z0 : n0 ≤ h0.size) (hi : ¬ p1 < (0 : Int32)) (hl : p1 < p2) :
    MetFree l (⟨"jdk/internal/util/Preconditions", "checkIndex", "(IILjava/util/function/BiFunction;)I"⟩ : MethodName) (head1 (Jvm.Cond.code (⟨"jdk/internal/util/Preconditions", "checkIndex", "(IILjava/util/function/BiFunction;)I"⟩ : MethodName) jdk_41_method_11_code 3 (some .int) :: ws) ({ frames := 0, cells := 0, slots := 0, locals := 0 } : Room)) (fun a U => a = #[(.int p1), (.int p2), (.ref a1)] ∧ Z.Warmed39 U.vm ∧ U.heap = h0) (fun _ _ _ _ _ => True) (fun _ U o U' => ∃ v L, o = .returned v ∧ own_rm1_Q Z p1 p2 a1 h0 n0 v U'.heap L ∧ FrameEnd U o U' L ({ frames := 0, cells := 0, slots := 0, locals := 0 } : Room).cells ({ frames := 0, cells := 0, slots := 0, locals := 0 } : Room).slots) := by
  refine MetFree.of_bodySF (plainFor_of_name own_rm1_pn) hisR ?_
  intro p e s m args below meth c s₁ Bd hml0 hPre hK
  obtain ⟨rfl, hZ, hh⟩ := hPre
  have hx := Bd.exec
  have hby := Bd.bytes
  have hml : c.maxLocals = 3 := hml0
  have hown : s.vm.findClass "jdk/internal/util/Preconditions" = some m.cls := findClass_of_methodNamed Bd.named
  have hnm := (name_of_methodNamed Bd.named Bd.method).1
  have X0 : Stand p l e ({ frames := 0, cells := 0, slots := 0, locals := 0 } : Room) s m #[(.int p1), (.int p2), (.ref a1)] below meth c s₁ [] 0 0 := Stand.of_body Bd
  have e0 : s₁.heap = h0 := by rw [← hh, Bd.state]; rfl
  have N0 := Fr.nil n0
  refine own_body fun P hP => ?_
  refine own_st (t' := s₁.setTop (mkF m 0 #[.val (.int p1), .val (.int p2), .val (.ref a1)] [])) (fun _ k => castTop (own_rm1_ef m p1 p2 a1) k) ?_
  refine own_st (t' := s₁.setTop (mkF m 1 #[.val (.int p1), .val (.int p2), .val (.ref a1)] [(.int p1)])) (fun _ k => XS.iloadN X0.here hx rfl (hb hby own_rm1_d0) rfl k) ?_
  refine own_st (t' := s₁.setTop (mkF m 4 #[.val (.int p1), .val (.int p2), .val (.ref a1)] [])) (fun _ k => XS.ifNo X0.here hx rfl (hb hby own_rm1_d1) rfl ((if0 _ _).trans (flt hi).1) k) ?_
  refine own_st (t' := s₁.setTop (mkF m 5 #[.val (.int p1), .val (.int p2), .val (.ref a1)] [(.int p1)])) (fun _ k => XS.iloadN X0.here hx rfl (hb hby own_rm1_d4) rfl k) ?_
  refine own_st (t' := s₁.setTop (mkF m 6 #[.val (.int p1), .val (.int p2), .val (.ref a1)] [(.int p2), (.int p1)])) (fun _ k => XS.iloadN X0.here hx rfl (hb hby own_rm1_d5) rfl k) ?_
  refine own_st (t' := s₁.setTop (mkF m 16 #[.val (.int p1), .val (.int p2), .val (.ref a1)] [])) (fun _ k => XS.icmpYes X0.here hx rfl (pc0 := 6) (pc' := 16) rfl (hb hby own_rm1_d6) rfl (tlt hl).1 (by decide) (by decide) k) ?_
  refine own_st (t' := s₁.setTop (mkF m 17 #[.val (.int p1), .val (.int p2), .val (.ref a1)] [(.int p1)])) (fun _ k => XS.iloadN X0.here hx rfl (hb hby own_rm1_d16) rfl k) ?_
  have hv1 : p1 = p1 := rfl
  obtain ⟨fs, hr, hrun, hended, hW, hsame⟩ := X0.leave (v := some (.int p1)) (fun h => by rw [Bd.returns] at h; cases h)
  exact ⟨_, _, retI X0 hx Bd.returns (hb hby own_rm1_d17) hr, hrun, hended, hP _ _ ⟨_, _, rfl, ⟨(congrArg (fun z => some (Value.int z)) hv1), N0, e0⟩, ⟨_, rfl⟩, hW, hsame.mono (by decide) (by decide)⟩⟩

theorem own_rm2_d0 : decode jdk_41_method_11_code 0 = .ok (.iload_n 0, 1) := by decide +kernel
theorem own_rm2_d1 : decode jdk_41_method_11_code 1 = .ok (.ifCond .lt 8, 3) := by decide +kernel
theorem own_rm2_d4 : decode jdk_41_method_11_code 4 = .ok (.iload_n 0, 1) := by decide +kernel
theorem own_rm2_d5 : decode jdk_41_method_11_code 5 = .ok (.iload_n 1, 1) := by decide +kernel
theorem own_rm2_d6 : decode jdk_41_method_11_code 6 = .ok (.if_icmp .lt 10, 3) := by decide +kernel
theorem own_rm2_d16 : decode jdk_41_method_11_code 16 = .ok (.iload_n 0, 1) := by decide +kernel
theorem own_rm2_d17 : decode jdk_41_method_11_code 17 = .ok (.ireturn, 1) := by decide +kernel
theorem own_rm2_pn : plainName "jdk/internal/util/Preconditions" = true := by first | (simp [plainName, overriddenIn]; done) | decide +kernel
theorem own_rm2_ef (m : MethodId) (x0 : Int32) (x1 : Int32) : entryFrame m #[(.int x0), (.int x1), .null] 3 = mkF m 0 #[.val (.int x0), .val (.int x1), .val .null] [] := by first | (simp [entryFrame, mkF, argsToLocals, Value.category]; done) | rfl
def own_rm2_Q (Z : State) (p1 : Int32) (p2 : Int32) (h0 : Heap) (n0 : Nat) (v : Option Value) (h : Heap) (L : List Loc) : Prop := v = some (.int (p1)) ∧ Fr n0 L ∧ h = h0
set_option maxRecDepth 65536 in
set_option maxHeartbeats 40000000 in
theorem own_rm2 (l : Launch) (Z : State) (a0 : Array Value) (hw : ∀ d ∈ tables_1, d.before a0 Z = true) (ws : List Jvm.Cond) (p1 : Int32) (p2 : Int32) (h0 : Heap) (n0 : Nat) (Z0 : n0 ≤ h0.size) (hi : ¬ p1 < (0 : Int32)) (hl : p1 < p2) :
    MetFree l (⟨"jdk/internal/util/Preconditions", "checkIndex", "(IILjava/util/function/BiFunction;)I"⟩ : MethodName) (head1 (Jvm.Cond.code (⟨"jdk/internal/util/Preconditions", "checkIndex", "(IILjava/util/function/BiFunction;)I"⟩ : MethodName) jdk_41_method_11_code 3 (some .int) :: ws) ({ frames := 0, cells := 0, slots := 0, locals := 0 } : Room)) (fun a U => a = #[(.int p1), (.int p2), .null] ∧ Z.Warmed39 U.vm ∧ U.heap = h0) (fun _ _ _ _ _ => True) (fun _ U o U' => ∃ v L, o = .returned v ∧ own_rm2_Q Z p1 p2 h0 n0 v U'.heap L ∧ FrameEnd U o U' L ({ frames := 0, cells := 0, slots := 0, locals := 0 } : Room).cells ({ frames := 0, cells := 0, slots := 0, locals := 0 } : Room).slots) := by
  refine MetFree.of_bodySF (plainFor_of_name own_rm2_pn) hisR ?_
  intro p e s m args below meth c s₁ Bd hml0 hPre hK
  obtain ⟨rfl, hZ, hh⟩ := hPre
  have hx := Bd.exec
  have hby := Bd.bytes
  have hml : c.maxLocals = 3 := hml0
  have hown : s.vm.findClass "jdk/internal/util/Preconditions" = some m.cls := findClass_of_methodNamed Bd.named
  have hnm := (name_of_methodNamed Bd.named Bd.method).1
  have X0 : Stand p l e ({ frames := 0, cells := 0, slots := 0, locals := 0 } : Room) s m #[(.int p1), (.int p2), .null] below meth c s₁ [] 0 0 := Stand.of_body Bd
  have e0 : s₁.heap = h0 := by rw [← hh, Bd.state]; rfl
  have N0 := Fr.nil n0
  refine own_body fun P hP => ?_
  refine own_st (t' := s₁.setTop (mkF m 0 #[.val (.int p1), .val (.int p2), .val .null] [])) (fun _ k => castTop (own_rm2_ef m p1 p2) k) ?_
  refine own_st (t' := s₁.setTop (mkF m 1 #[.val (.int p1), .val (.int p2), .val .null] [(.int p1)])) (fun _ k => XS.iloadN X0.here hx rfl (hb hby own_rm2_d0) rfl k) ?_
  refine own_st (t' := s₁.setTop (mkF m 4 #[.val (.int p1), .val (.int p2), .val .null] [])) (fun _ k => XS.ifNo X0.here hx rfl (hb hby own_rm2_d1) rfl ((if0 _ _).trans (flt hi).1) k) ?_
  refine own_st (t' := s₁.setTop (mkF m 5 #[.val (.int p1), .val (.int p2), .val .null] [(.int p1)])) (fun _ k => XS.iloadN X0.here hx rfl (hb hby own_rm2_d4) rfl k) ?_
  refine own_st (t' := s₁.setTop (mkF m 6 #[.val (.int p1), .val (.int p2), .val .null] [(.int p2), (.int p1)])) (fun _ k => XS.iloadN X0.here hx rfl (hb hby own_rm2_d5) rfl k) ?_
  refine own_st (t' := s₁.setTop (mkF m 16 #[.val (.int p1), .val (.int p2), .val .null] [])) (fun _ k => XS.icmpYes X0.here hx rfl (pc0 := 6) (pc' := 16) rfl (hb hby own_rm2_d6) rfl (tlt hl).1 (by decide) (by decide) k) ?_
  refine own_st (t' := s₁.setTop (mkF m 17 #[.val (.int p1), .val (.int p2), .val .null] [(.int p1)])) (fun _ k => XS.iloadN X0.here hx rfl (hb hby own_rm2_d16) rfl k) ?_
  have hv1 : p1 = p1 := rfl
  obtain ⟨fs, hr, hrun, hended, hW, hsame⟩ := X0.leave (v := some (.int p1)) (fun h => by rw [Bd.returns] at h; cases h)
  exact ⟨_, _, retI X0 hx Bd.returns (hb hby own_rm2_d17) hr, hrun, hended, hP _ _ ⟨_, _, rfl, ⟨(congrArg (fun z => some (Value.int z)) hv1), N0, e0⟩, ⟨_, rfl⟩, hW, hsame.mono (by decide) (by decide)⟩⟩

theorem own_rm3_d0 : decode jdk_42_method_155_code 0 = .ok (.iload_n 0, 1) := by decide +kernel
theorem own_rm3_d1 : decode jdk_42_method_155_code 1 = .ok (.iload_n 1, 1) := by decide +kernel
theorem own_rm3_d2 : decode jdk_42_method_155_code 2 = .ok (.getstatic 1053, 3) := by decide +kernel
theorem own_rm3_d5 : decode jdk_42_method_155_code 5 = .ok (.invokestatic 1059, 3) := by decide +kernel
theorem own_rm3_d8 : decode jdk_42_method_155_code 8 = .ok (.pop, 1) := by decide +kernel
theorem own_rm3_d9 : decode jdk_42_method_155_code 9 = .ok (.return_, 1) := by decide +kernel
theorem own_rm3_pn : plainName "java/lang/String" = true := by first | (simp [plainName, overriddenIn]; done) | decide +kernel
theorem own_rm3_pd0 : parseMethodDescriptor "(IILjava/util/function/BiFunction;)I" = some ⟨[.int, .int, (.object "java/util/function/BiFunction")], some .int⟩ := by decide +kernel
theorem own_rm3_ef (m : MethodId) (x0 : Int32) (x1 : Int32) : entryFrame m #[(.int x0), (.int x1)] 2 = mkF m 0 #[.val (.int x0), .val (.int x1)] [] := by first | (simp [entryFrame, mkF, argsToLocals, Value.category]; done) | rfl
def own_rm3_Q (Z : State) (p1 : Int32) (p2 : Int32) (h0 : Heap) (n0 : Nat) (v : Option Value) (h : Heap) (L : List Loc) : Prop := v = none ∧ Fr n0 L ∧ h = h0
set_option maxRecDepth 65536 in
set_option maxHeartbeats 40000000 in
theorem own_rm3 (l : Launch) (Z : State) (a0 : Array Value) (hw : ∀ d ∈ tables_1, d.before a0 Z = true) (ws : List Jvm.Cond) (p1 : Int32) (p2 : Int32) (h0 : Heap) (n0 : Nat) (Z0 : n0 ≤ h0.size) (hi : ¬ p1 < (0 : Int32)) (hl : p1 < p2) (hS : (∃ w : Addr, Sta Z h0 "jdk/internal/util/Preconditions" "SIOOBE_FORMATTER" "Ljava/util/function/BiFunction;" (.ref w)) ∨ Sta Z h0 "jdk/internal/util/Preconditions" "SIOOBE_FORMATTER" "Ljava/util/function/BiFunction;" .null) :
    MetFree l (⟨"java/lang/String", "checkIndex", "(II)V"⟩ : MethodName) (head1 (Jvm.Cond.code (⟨"java/lang/String", "checkIndex", "(II)V"⟩ : MethodName) jdk_42_method_155_code 2 none :: ws) ({ frames := 1, cells := 0, slots := 0, locals := 14 } : Room)) (fun a U => a = #[(.int p1), (.int p2)] ∧ Z.Warmed39 U.vm ∧ U.heap = h0) (fun _ _ _ _ _ => True) (fun _ U o U' => ∃ v L, o = .returned v ∧ own_rm3_Q Z p1 p2 h0 n0 v U'.heap L ∧ FrameEnd U o U' L ({ frames := 1, cells := 0, slots := 0, locals := 14 } : Room).cells ({ frames := 1, cells := 0, slots := 0, locals := 14 } : Room).slots) := by
  refine MetFree.of_bodySF (plainFor_of_name own_rm3_pn) hisR ?_
  intro p e s m args below meth c s₁ Bd hml0 hPre hK
  obtain ⟨rfl, hZ, hh⟩ := hPre
  have hx := Bd.exec
  have hby := Bd.bytes
  have hml : c.maxLocals = 2 := hml0
  have hown : s.vm.findClass "java/lang/String" = some m.cls := findClass_of_methodNamed Bd.named
  have hnm := (name_of_methodNamed Bd.named Bd.method).1
  have X0 : Stand p l e ({ frames := 1, cells := 0, slots := 0, locals := 14 } : Room) s m #[(.int p1), (.int p2)] below meth c s₁ [] 0 0 := Stand.of_body Bd
  have e0 : s₁.heap = h0 := by rw [← hh, Bd.state]; rfl
  have N0 := Fr.nil n0
  refine own_body fun P hP => ?_
  refine own_st (t' := s₁.setTop (mkF m 0 #[.val (.int p1), .val (.int p2)] [])) (fun _ k => castTop (own_rm3_ef m p1 p2) k) ?_
  refine own_st (t' := s₁.setTop (mkF m 1 #[.val (.int p1), .val (.int p2)] [(.int p1)])) (fun _ k => XS.iloadN X0.here hx rfl (hb hby own_rm3_d0) rfl k) ?_
  refine own_st (t' := s₁.setTop (mkF m 2 #[.val (.int p1), .val (.int p2)] [(.int p2), (.int p1)])) (fun _ k => XS.iloadN X0.here hx rfl (hb hby own_rm3_d1) rfl k) ?_
  rcases hS with ⟨wF, S_F⟩ | S_F
  · obtain ⟨T1, X1, e1, st1⟩ := getS2 X0 hx hZ hown (host := "") (Or.inl (hw _ (List.mem_of_getElem? (i := 30) rfl))) Via.refl e0 S_F (g := (mkF m 2 #[.val (.int p1), .val (.int p2)] [(.int p2), (.int p1)])) rfl (hb hby own_rm3_d2)
    refine own_st (t' := T1.setTop (mkF m 5 #[.val (.int p1), .val (.int p2)] [(.ref wF), (.int p2), (.int p1)])) st1 ?_
    obtain ⟨_, _, ⟨T2, L2, k2, n2⟩, -, X2, ⟨Lc2, hQ2, l2, y2, z2⟩, st2⟩ := Jvm.LawKit.callS X1 hx (y := (⟨"jdk/internal/util/Preconditions", "checkIndex", "(IILjava/util/function/BiFunction;)I"⟩ : MethodName)) hown (mvT hZ (hw _ (List.mem_of_getElem? (i := 32) rfl))) (mvT hZ (hw _ (List.mem_of_getElem? (i := 33) rfl))) (mvT hZ (hw _ (List.mem_of_getElem? (i := 31) rfl))) (mvT hZ (hw _ (List.mem_of_getElem? (i := 34) rfl))) (by decide) (backOf (W := 0) (own_rm1 l Z a0 hw [] p1 p2 wF h0 n0 Z0 hi hl) hZ (hw _ (List.mem_of_getElem? (i := 34) rfl)) (hw _ (List.mem_of_getElem? (i := 31) rfl)) (by decide) (by decide)) (g := (mkF m 5 #[.val (.int p1), .val (.int p2)] [(.ref wF), (.int p2), (.int p1)])) rfl (by rw [hml]; rfl) (argsL := [(.int p1), (.int p2), (.ref wF)]) (rest := []) (lenOf own_rm3_pd0 rfl) rfl (by show 2 * 0 + _ ≤ _; exact Nat.le_of_eq rfl) (hb hby own_rm3_d5) (fun _ _ => ⟨rfl, e1, (by decide : 0 + 0 ≤ _), (by decide : 0 + 0 ≤ _)⟩)
    dsimp only [Pt.U, Pt.locs, Pt.cells, Pt.slots] at X2 l2 y2 z2 st2 hQ2
    subst l2 y2 z2
    obtain ⟨rfl, N2q, e2⟩ := hQ2
    have N2 := Fr.app N0 N2q
    refine own_st (t' := T2.setTop (mkF m 8 #[.val (.int p1), .val (.int p2)] [(.int p1)])) st2 ?_
    refine own_st (t' := T2.setTop (mkF m 9 #[.val (.int p1), .val (.int p2)] [])) (fun _ k => XS.pop X2.here hx rfl (hb hby own_rm3_d8) rfl rfl k) ?_
    obtain ⟨fs, hr, hrun, hended, hW, hsame⟩ := X2.leave (v := none) (fun _ => rfl)
    exact ⟨_, _, X2.returnOut hx Bd.returns (hb hby own_rm3_d9) hr, hrun, hended, hP _ _ ⟨_, _, rfl, ⟨rfl, N2, e2⟩, ⟨_, rfl⟩, hW, hsame.mono (by decide) (by decide)⟩⟩
  · obtain ⟨T3, X3, e3, st3⟩ := getS2 X0 hx hZ hown (host := "") (Or.inl (hw _ (List.mem_of_getElem? (i := 30) rfl))) Via.refl e0 S_F (g := (mkF m 2 #[.val (.int p1), .val (.int p2)] [(.int p2), (.int p1)])) rfl (hb hby own_rm3_d2)
    refine own_st (t' := T3.setTop (mkF m 5 #[.val (.int p1), .val (.int p2)] [.null, (.int p2), (.int p1)])) st3 ?_
    obtain ⟨_, _, ⟨T4, L4, k4, n4⟩, -, X4, ⟨Lc4, hQ4, l4, y4, z4⟩, st4⟩ := Jvm.LawKit.callS X3 hx (y := (⟨"jdk/internal/util/Preconditions", "checkIndex", "(IILjava/util/function/BiFunction;)I"⟩ : MethodName)) hown (mvT hZ (hw _ (List.mem_of_getElem? (i := 32) rfl))) (mvT hZ (hw _ (List.mem_of_getElem? (i := 33) rfl))) (mvT hZ (hw _ (List.mem_of_getElem? (i := 31) rfl))) (mvT hZ (hw _ (List.mem_of_getElem? (i := 34) rfl))) (by decide) (backOf (W := 0) (own_rm2 l Z a0 hw [] p1 p2 h0 n0 Z0 hi hl) hZ (hw _ (List.mem_of_getElem? (i := 34) rfl)) (hw _ (List.mem_of_getElem? (i := 31) rfl)) (by decide) (by decide)) (g := (mkF m 5 #[.val (.int p1), .val (.int p2)] [.null, (.int p2), (.int p1)])) rfl (by rw [hml]; rfl) (argsL := [(.int p1), (.int p2), .null]) (rest := []) (lenOf own_rm3_pd0 rfl) rfl (by show 2 * 0 + _ ≤ _; exact Nat.le_of_eq rfl) (hb hby own_rm3_d5) (fun _ _ => ⟨rfl, e3, (by decide : 0 + 0 ≤ _), (by decide : 0 + 0 ≤ _)⟩)
    dsimp only [Pt.U, Pt.locs, Pt.cells, Pt.slots] at X4 l4 y4 z4 st4 hQ4
    subst l4 y4 z4
    obtain ⟨rfl, N4q, e4⟩ := hQ4
    have N4 := Fr.app N0 N4q
    refine own_st (t' := T4.setTop (mkF m 8 #[.val (.int p1), .val (.int p2)] [(.int p1)])) st4 ?_
    refine own_st (t' := T4.setTop (mkF m 9 #[.val (.int p1), .val (.int p2)] [])) (fun _ k => XS.pop X4.here hx rfl (hb hby own_rm3_d8) rfl rfl k) ?_
    obtain ⟨fs, hr, hrun, hended, hW, hsame⟩ := X4.leave (v := none) (fun _ => rfl)
    exact ⟨_, _, X4.returnOut hx Bd.returns (hb hby own_rm3_d9) hr, hrun, hended, hP _ _ ⟨_, _, rfl, ⟨rfl, N4, e4⟩, ⟨_, rfl⟩, hW, hsame.mono (by decide) (by decide)⟩⟩

theorem own_rm4_d0 : decode jdk_43_method_2_code 0 = .ok (.iload_n 1, 1) := by decide +kernel
theorem own_rm4_d1 : decode jdk_43_method_2_code 1 = .ok (.aload_n 0, 1) := by decide +kernel
theorem own_rm4_d2 : decode jdk_43_method_2_code 2 = .ok (.arraylength, 1) := by decide +kernel
theorem own_rm4_d3 : decode jdk_43_method_2_code 3 = .ok (.invokestatic 9, 3) := by decide +kernel
theorem own_rm4_d6 : decode jdk_43_method_2_code 6 = .ok (.aload_n 0, 1) := by decide +kernel
theorem own_rm4_d7 : decode jdk_43_method_2_code 7 = .ok (.iload_n 1, 1) := by decide +kernel
theorem own_rm4_d8 : decode jdk_43_method_2_code 8 = .ok (.baload, 1) := by decide +kernel
theorem own_rm4_d9 : decode jdk_43_method_2_code 9 = .ok (.sipush 255, 3) := by decide +kernel
theorem own_rm4_d12 : decode jdk_43_method_2_code 12 = .ok (.iand, 1) := by decide +kernel
theorem own_rm4_d13 : decode jdk_43_method_2_code 13 = .ok (.i2c, 1) := by decide +kernel
theorem own_rm4_d14 : decode jdk_43_method_2_code 14 = .ok (.ireturn, 1) := by decide +kernel
theorem own_rm4_pn : plainName "java/lang/StringLatin1" = true := by first | (simp [plainName, overriddenIn]; done) | decide +kernel
theorem own_rm4_pd0 : parseMethodDescriptor "(II)V" = some ⟨[.int, .int], none⟩ := by decide +kernel
theorem own_rm4_ef (m : MethodId) (x0 : Addr) (x1 : Int32) : entryFrame m #[(.ref x0), (.int x1)] 2 = mkF m 0 #[.val (.ref x0), .val (.int x1)] [] := by first | (simp [entryFrame, mkF, argsToLocals, Value.category]; done) | rfl
def own_rm4_Q (Z : State) (a1 : Addr) (p1 : Int32) (kb : ClassId) (vs : List Value) (w : Int32) (h0 : Heap) (n0 : Nat) (v : Option Value) (h : Heap) (L : List Loc) : Prop := v = some (.int (w)) ∧ Fr n0 L ∧ h = h0
set_option maxRecDepth 65536 in
set_option maxHeartbeats 40000000 in
theorem own_rm4 (l : Launch) (Z : State) (a0 : Array Value) (hw : ∀ d ∈ tables_1, d.before a0 Z = true) (ws : List Jvm.Cond) (a1 : Addr) (p1 : Int32) (kb : ClassId) (vs : List Value) (w : Int32) (h0 : Heap) (n0 : Nat) (Z0 : n0 ≤ h0.size) (V : Arv Z h0 a1 kb .byte (26 : Int32) vs (.int (0 : Int32))) (hi : ¬ p1 < (0 : Int32)) (hl : p1 < (26 : Int32)) (hget : vs.getD p1.toNatClampNeg (.int (0 : Int32)) = .int w) (hc : nar .char (((w &&& (255 : Int32)).toUInt32.toUInt16.toUInt32.toInt32)) = w) (hS : (∃ w : Addr, Sta Z h0 "jdk/internal/util/Preconditions" "SIOOBE_FORMATTER" "Ljava/util/function/BiFunction;" (.ref w)) ∨ Sta Z h0 "jdk/internal/util/Preconditions" "SIOOBE_FORMATTER" "Ljava/util/function/BiFunction;" .null) :
    MetFree l (⟨"java/lang/StringLatin1", "charAt", "([BI)C"⟩ : MethodName) (head1 (Jvm.Cond.code (⟨"java/lang/StringLatin1", "charAt", "([BI)C"⟩ : MethodName) jdk_43_method_2_code 2 (some .char) :: ws) ({ frames := 2, cells := 0, slots := 0, locals := 27 } : Room)) (fun a U => a = #[(.ref a1), (.int p1)] ∧ Z.Warmed39 U.vm ∧ U.heap = h0) (fun _ _ _ _ _ => True) (fun _ U o U' => ∃ v L, o = .returned v ∧ own_rm4_Q Z a1 p1 kb vs w h0 n0 v U'.heap L ∧ FrameEnd U o U' L ({ frames := 2, cells := 0, slots := 0, locals := 27 } : Room).cells ({ frames := 2, cells := 0, slots := 0, locals := 27 } : Room).slots) := by
  refine MetFree.of_bodySF (plainFor_of_name own_rm4_pn) hisR ?_
  intro p e s m args below meth c s₁ Bd hml0 hPre hK
  obtain ⟨rfl, hZ, hh⟩ := hPre
  have hx := Bd.exec
  have hby := Bd.bytes
  have hml : c.maxLocals = 2 := hml0
  have hown : s.vm.findClass "java/lang/StringLatin1" = some m.cls := findClass_of_methodNamed Bd.named
  have hnm := (name_of_methodNamed Bd.named Bd.method).1
  have X0 : Stand p l e ({ frames := 2, cells := 0, slots := 0, locals := 27 } : Room) s m #[(.ref a1), (.int p1)] below meth c s₁ [] 0 0 := Stand.of_body Bd
  have e0 : s₁.heap = h0 := by rw [← hh, Bd.state]; rfl
  have N0 := Fr.nil n0
  refine own_body fun P hP => ?_
  refine own_st (t' := s₁.setTop (mkF m 0 #[.val (.ref a1), .val (.int p1)] [])) (fun _ k => castTop (own_rm4_ef m a1 p1) k) ?_
  refine own_st (t' := s₁.setTop (mkF m 1 #[.val (.ref a1), .val (.int p1)] [(.int p1)])) (fun _ k => XS.iloadN X0.here hx rfl (hb hby own_rm4_d0) rfl k) ?_
  refine own_st (t' := s₁.setTop (mkF m 2 #[.val (.ref a1), .val (.int p1)] [(.ref a1), (.int p1)])) (fun _ k => XS.aloadN X0.here hx rfl (hb hby own_rm4_d1) rfl rfl k) ?_
  obtain ⟨cl_1, Ar_1, qa_1, Sa_1, Ma_1, Ha_1, Ga_1⟩ := id V
  refine own_st (t' := s₁.setTop (mkF m 3 #[.val (.ref a1), .val (.int p1)] [(.int cl_1.slots.size.toInt32), (.int p1)])) (fun _ k => X0.arraylength hx (by rw [e0]; exact Ar_1.1) (State.isArrayOf_alike hZ.alike Ar_1.2.1) (g := (mkF m 2 #[.val (.ref a1), .val (.int p1)] [(.ref a1), (.int p1)])) rfl rfl (hb hby own_rm4_d2) _ k) ?_
  rw [len_of Sa_1 Ma_1]
  obtain ⟨_, _, ⟨T2, L2, k2, n2⟩, -, X2, ⟨Lc2, hQ2, l2, y2, z2⟩, st2⟩ := Jvm.LawKit.callS X0 hx (y := (⟨"java/lang/String", "checkIndex", "(II)V"⟩ : MethodName)) hown (mvT hZ (hw _ (List.mem_of_getElem? (i := 27) rfl))) (mvT hZ (hw _ (List.mem_of_getElem? (i := 28) rfl))) (mvT hZ (hw _ (List.mem_of_getElem? (i := 1) rfl))) (mvT hZ (hw _ (List.mem_of_getElem? (i := 29) rfl))) (by decide) (backOf (W := 0) (own_rm3 l Z a0 hw [] p1 (26 : Int32) h0 n0 Z0 hi hl hS) hZ (hw _ (List.mem_of_getElem? (i := 29) rfl)) (hw _ (List.mem_of_getElem? (i := 1) rfl)) (by decide) (by decide)) (g := (mkF m 3 #[.val (.ref a1), .val (.int p1)] [(.int (26 : Int32)), (.int p1)])) rfl (by rw [hml]; rfl) (argsL := [(.int p1), (.int (26 : Int32))]) (rest := []) (lenOf own_rm4_pd0 rfl) rfl (by show 2 * 0 + _ ≤ _; exact Nat.le_of_eq rfl) (hb hby own_rm4_d3) (fun _ _ => ⟨rfl, e0, (by decide : 0 + 0 ≤ _), (by decide : 0 + 0 ≤ _)⟩)
  dsimp only [Pt.U, Pt.locs, Pt.cells, Pt.slots] at X2 l2 y2 z2 st2 hQ2
  subst l2 y2 z2
  obtain ⟨rfl, N2q, e2⟩ := hQ2
  have N2 := Fr.app N0 N2q
  refine own_st (t' := T2.setTop (mkF m 6 #[.val (.ref a1), .val (.int p1)] [])) st2 ?_
  refine own_st (t' := T2.setTop (mkF m 7 #[.val (.ref a1), .val (.int p1)] [(.ref a1)])) (fun _ k => XS.aloadN X2.here hx rfl (hb hby own_rm4_d6) rfl rfl k) ?_
  refine own_st (t' := T2.setTop (mkF m 8 #[.val (.ref a1), .val (.int p1)] [(.int p1), (.ref a1)])) (fun _ k => XS.iloadN X2.here hx rfl (hb hby own_rm4_d7) rfl k) ?_
  obtain ⟨cl_3, Ar_3, qa_3, Sa_3, Ma_3, Ha_3, Ga_3⟩ := id V
  have hin_3 : ¬ (p1 < 0 ∨ cl_3.slots.size ≤ (p1).toNatClampNeg) := inb_of Sa_3 ⟨hi, hl⟩
  refine own_st (t' := T2.setTop (mkF m 9 #[.val (.ref a1), .val (.int p1)] [(.int w)])) (fun _ k => X2.baloadBytes hx (j := p1) (v := (.int w)) (by rw [e2]; exact Ar_3.1) (State.isArrayOf_alike hZ.alike Ar_3.2.1) Ar_3.2.2 hin_3 (Has.at Ha_3 hin_3 hget) (g := (mkF m 8 #[.val (.ref a1), .val (.int p1)] [(.int p1), (.ref a1)])) rfl rfl (hb hby own_rm4_d8) _ k) ?_
  refine own_st (t' := T2.setTop (mkF m 12 #[.val (.ref a1), .val (.int p1)] [(.int (255 : Int32)), (.int w)])) (fun _ k => XS.sipush X2.here hx rfl (hb hby own_rm4_d9) k) ?_
  refine own_st (t' := T2.setTop (mkF m 13 #[.val (.ref a1), .val (.int p1)] [(.int (w &&& (255 : Int32)))])) (fun _ k => XS.iand X2.here hx rfl (hb hby own_rm4_d12) rfl k) ?_
  refine own_st (t' := T2.setTop (mkF m 14 #[.val (.ref a1), .val (.int p1)] [(.int ((w &&& (255 : Int32)).toUInt32.toUInt16.toUInt32.toInt32))])) (fun _ k => XS.i2c X2.here hx rfl (hb hby own_rm4_d13) rfl k) ?_
  have hv4 : (nar .char ((w &&& (255 : Int32)).toUInt32.toUInt16.toUInt32.toInt32)) = w := hc
  obtain ⟨fs, hr, hrun, hended, hW, hsame⟩ := X2.leave (v := some (.int (nar .char ((w &&& (255 : Int32)).toUInt32.toUInt16.toUInt32.toInt32)))) (fun h => by rw [Bd.returns] at h; cases h)
  exact ⟨_, _, retN X2 hx (t := .char) Bd.returns (by simp) (hb hby own_rm4_d14) hr, hrun, hended, hP _ _ ⟨_, _, rfl, ⟨(congrArg (fun z => some (Value.int z)) hv4), N2, e2⟩, ⟨_, rfl⟩, hW, hsame.mono (by decide) (by decide)⟩⟩

theorem own_rm5_d0 : decode jdk_42_method_154_code 0 = .ok (.getstatic 38, 3) := by decide +kernel
theorem own_rm5_d3 : decode jdk_42_method_154_code 3 = .ok (.ifCond .eq 14, 3) := by decide +kernel
theorem own_rm5_d6 : decode jdk_42_method_154_code 6 = .ok (.aload_n 0, 1) := by decide +kernel
theorem own_rm5_d7 : decode jdk_42_method_154_code 7 = .ok (.getfield 15, 3) := by decide +kernel
theorem own_rm5_d10 : decode jdk_42_method_154_code 10 = .ok (.ifCond .ne 7, 3) := by decide +kernel
theorem own_rm5_d13 : decode jdk_42_method_154_code 13 = .ok (.iconst 1, 1) := by decide +kernel
theorem own_rm5_d14 : decode jdk_42_method_154_code 14 = .ok (.goto 4, 3) := by decide +kernel
theorem own_rm5_d18 : decode jdk_42_method_154_code 18 = .ok (.ireturn, 1) := by decide +kernel
theorem own_rm5_pn : plainName "java/lang/String" = true := by first | (simp [plainName, overriddenIn]; done) | decide +kernel
theorem own_rm5_ef (m : MethodId) (x0 : Addr) : entryFrame m #[(.ref x0)] 1 = mkF m 0 #[.val (.ref x0)] [] := by first | (simp [entryFrame, mkF, argsToLocals, Value.category]; done) | rfl
def own_rm5_Q (Z : State) (a1 : Addr) (cs : Int32) (h0 : Heap) (n0 : Nat) (v : Option Value) (h : Heap) (L : List Loc) : Prop := v = some (.int ((1 : Int32))) ∧ Fr n0 L ∧ h = h0
set_option maxRecDepth 65536 in
set_option maxHeartbeats 40000000 in
theorem own_rm5 (l : Launch) (Z : State) (a0 : Array Value) (hw : ∀ d ∈ tables_1, d.before a0 Z = true) (ws : List Jvm.Cond) (a1 : Addr) (cs : Int32) (h0 : Heap) (n0 : Nat) (Z0 : n0 ≤ h0.size) (S_C : Sta Z h0 "java/lang/String" "COMPACT_STRINGS" "Z" (.int cs)) (hcs : ¬ cs = (0 : Int32)) (F_c : Fld Z h0 a1 "java/lang/String" "coder" "B" (.int 0)) :
    MetFree l (⟨"java/lang/String", "isLatin1", "()Z"⟩ : MethodName) (head1 (Jvm.Cond.code (⟨"java/lang/String", "isLatin1", "()Z"⟩ : MethodName) jdk_42_method_154_code 1 (some .boolean) :: ws) ({ frames := 0, cells := 0, slots := 0, locals := 0 } : Room)) (fun a U => a = #[(.ref a1)] ∧ Z.Warmed39 U.vm ∧ U.heap = h0) (fun _ _ _ _ _ => True) (fun _ U o U' => ∃ v L, o = .returned v ∧ own_rm5_Q Z a1 cs h0 n0 v U'.heap L ∧ FrameEnd U o U' L ({ frames := 0, cells := 0, slots := 0, locals := 0 } : Room).cells ({ frames := 0, cells := 0, slots := 0, locals := 0 } : Room).slots) := by
  refine MetFree.of_bodySF (plainFor_of_name own_rm5_pn) hisR ?_
  intro p e s m args below meth c s₁ Bd hml0 hPre hK
  obtain ⟨rfl, hZ, hh⟩ := hPre
  have hx := Bd.exec
  have hby := Bd.bytes
  have hml : c.maxLocals = 1 := hml0
  have hown : s.vm.findClass "java/lang/String" = some m.cls := findClass_of_methodNamed Bd.named
  have hnm := (name_of_methodNamed Bd.named Bd.method).1
  have X0 : Stand p l e ({ frames := 0, cells := 0, slots := 0, locals := 0 } : Room) s m #[(.ref a1)] below meth c s₁ [] 0 0 := Stand.of_body Bd
  have e0 : s₁.heap = h0 := by rw [← hh, Bd.state]; rfl
  have N0 := Fr.nil n0
  refine own_body fun P hP => ?_
  refine own_st (t' := s₁.setTop (mkF m 0 #[.val (.ref a1)] [])) (fun _ k => castTop (own_rm5_ef m a1) k) ?_
  obtain ⟨T1, X1, e1, st1⟩ := getS2 X0 hx hZ hown (host := "") (Or.inl (hw _ (List.mem_of_getElem? (i := 20) rfl))) Via.refl e0 S_C (g := (mkF m 0 #[.val (.ref a1)] [])) rfl (hb hby own_rm5_d0)
  refine own_st (t' := T1.setTop (mkF m 3 #[.val (.ref a1)] [(.int cs)])) st1 ?_
  refine own_st (t' := T1.setTop (mkF m 6 #[.val (.ref a1)] [])) (fun _ k => XS.ifNo X1.here hx rfl (hb hby own_rm5_d3) rfl ((if0 _ _).trans (feq hcs).1) k) ?_
  refine own_st (t' := T1.setTop (mkF m 7 #[.val (.ref a1)] [(.ref a1)])) (fun _ k => XS.aloadN X1.here hx rfl (hb hby own_rm5_d6) rfl rfl k) ?_
  obtain ⟨T2, X2, e2, st2⟩ := getF X1 hx hZ hown (host := "") (Or.inl (hw _ (List.mem_of_getElem? (i := 21) rfl))) Via.refl e1 F_c (g := (mkF m 7 #[.val (.ref a1)] [(.ref a1)])) rfl rfl (hb hby own_rm5_d7)
  refine own_st (t' := T2.setTop (mkF m 10 #[.val (.ref a1)] [(.int (0 : Int32))])) st2 ?_
  refine own_st (t' := T2.setTop (mkF m 13 #[.val (.ref a1)] [])) (fun _ k => XS.ifNo X2.here hx rfl (hb hby own_rm5_d10) rfl ((if0 _ _).trans (teq (rfl : (0 : Int32) = (0 : Int32))).2) k) ?_
  refine own_st (t' := T2.setTop (mkF m 14 #[.val (.ref a1)] [(.int (1 : Int32))])) (fun _ k => XS.iconst X2.here hx rfl (hb hby own_rm5_d13) k) ?_
  refine own_st (t' := T2.setTop (mkF m 18 #[.val (.ref a1)] [(.int (1 : Int32))])) (fun _ k => XS.goto X2.here hx rfl (pc0 := 14) (pc' := 18) rfl (hb hby own_rm5_d14) (by decide) (by decide) k) ?_
  have hv3 : (1 : Int32) = (1 : Int32) := rfl
  obtain ⟨fs, hr, hrun, hended, hW, hsame⟩ := X2.leave (v := some (.int (1 : Int32))) (fun h => by rw [Bd.returns] at h; cases h)
  exact ⟨_, _, retN X2 hx (t := .boolean) Bd.returns (by simp) (hb hby own_rm5_d18) hr, hrun, hended, hP _ _ ⟨_, _, rfl, ⟨(congrArg (fun z => some (Value.int z)) hv3), N0, e2⟩, ⟨_, rfl⟩, hW, hsame.mono (by decide) (by decide)⟩⟩

theorem own_rm6_d0 : decode jdk_42_method_56_code 0 = .ok (.aload_n 0, 1) := by decide +kernel
theorem own_rm6_d1 : decode jdk_42_method_56_code 1 = .ok (.invokevirtual 492, 3) := by decide +kernel
theorem own_rm6_d4 : decode jdk_42_method_56_code 4 = .ok (.ifCond .eq 12, 3) := by decide +kernel
theorem own_rm6_d7 : decode jdk_42_method_56_code 7 = .ok (.aload_n 0, 1) := by decide +kernel
theorem own_rm6_d8 : decode jdk_42_method_56_code 8 = .ok (.getfield 9, 3) := by decide +kernel
theorem own_rm6_d11 : decode jdk_42_method_56_code 11 = .ok (.iload_n 1, 1) := by decide +kernel
theorem own_rm6_d12 : decode jdk_42_method_56_code 12 = .ok (.invokestatic 495, 3) := by decide +kernel
theorem own_rm6_d15 : decode jdk_42_method_56_code 15 = .ok (.ireturn, 1) := by decide +kernel
theorem own_rm6_pn : plainName "java/lang/String" = true := by first | (simp [plainName, overriddenIn]; done) | decide +kernel
theorem own_rm6_pd0 : parseMethodDescriptor "()Z" = some ⟨[], some .boolean⟩ := by decide +kernel
theorem own_rm6_pd1 : parseMethodDescriptor "([BI)C" = some ⟨[(.array .byte), .int], some .char⟩ := by decide +kernel
theorem own_rm6_ef (m : MethodId) (x0 : Addr) (x1 : Int32) : entryFrame m #[(.ref x0), (.int x1)] 2 = mkF m 0 #[.val (.ref x0), .val (.int x1)] [] := by first | (simp [entryFrame, mkF, argsToLocals, Value.category]; done) | rfl
def own_rm6_Q (Z : State) (a1 : Addr) (p1 : Int32) (cs : Int32) (bb : Addr) (kb : ClassId) (vs : List Value) (w : Int32) (h0 : Heap) (n0 : Nat) (v : Option Value) (h : Heap) (L : List Loc) : Prop := v = some (.int (w)) ∧ Fr n0 L ∧ h = h0
set_option maxRecDepth 65536 in
set_option maxHeartbeats 40000000 in
theorem own_rm6 (l : Launch) (Z : State) (a0 : Array Value) (hw : ∀ d ∈ tables_1, d.before a0 Z = true) (ws : List Jvm.Cond) (a1 : Addr) (p1 : Int32) (cs : Int32) (bb : Addr) (kb : ClassId) (vs : List Value) (w : Int32) (h0 : Heap) (n0 : Nat) (Z0 : n0 ≤ h0.size) (E_a1 : Exa Z h0 a1 "java/lang/String") (S_C : Sta Z h0 "java/lang/String" "COMPACT_STRINGS" "Z" (.int cs)) (hcs : ¬ cs = (0 : Int32)) (F_c : Fld Z h0 a1 "java/lang/String" "coder" "B" (.int 0)) (F_v : Fld Z h0 a1 "java/lang/String" "value" "[B" (.ref bb)) (V : Arv Z h0 bb kb .byte (26 : Int32) vs (.int (0 : Int32))) (hi : ¬ p1 < (0 : Int32)) (hl : p1 < (26 : Int32)) (hget : vs.getD p1.toNatClampNeg (.int (0 : Int32)) = .int w) (hc : nar .char (((w &&& (255 : Int32)).toUInt32.toUInt16.toUInt32.toInt32)) = w) (hc2 : nar .char w = w) (hS : (∃ w : Addr, Sta Z h0 "jdk/internal/util/Preconditions" "SIOOBE_FORMATTER" "Ljava/util/function/BiFunction;" (.ref w)) ∨ Sta Z h0 "jdk/internal/util/Preconditions" "SIOOBE_FORMATTER" "Ljava/util/function/BiFunction;" .null) :
    MetFree l (⟨"java/lang/String", "charAt", "(I)C"⟩ : MethodName) (head1 (Jvm.Cond.code (⟨"java/lang/String", "charAt", "(I)C"⟩ : MethodName) jdk_42_method_56_code 2 (some .char) :: ws) ({ frames := 3, cells := 0, slots := 0, locals := 40 } : Room)) (fun a U => a = #[(.ref a1), (.int p1)] ∧ Z.Warmed39 U.vm ∧ U.heap = h0) (fun _ _ _ _ _ => True) (fun _ U o U' => ∃ v L, o = .returned v ∧ own_rm6_Q Z a1 p1 cs bb kb vs w h0 n0 v U'.heap L ∧ FrameEnd U o U' L ({ frames := 3, cells := 0, slots := 0, locals := 40 } : Room).cells ({ frames := 3, cells := 0, slots := 0, locals := 40 } : Room).slots) := by
  refine MetFree.of_bodySF (plainFor_of_name own_rm6_pn) hisR ?_
  intro p e s m args below meth c s₁ Bd hml0 hPre hK
  obtain ⟨rfl, hZ, hh⟩ := hPre
  have hx := Bd.exec
  have hby := Bd.bytes
  have hml : c.maxLocals = 2 := hml0
  have hown : s.vm.findClass "java/lang/String" = some m.cls := findClass_of_methodNamed Bd.named
  have hnm := (name_of_methodNamed Bd.named Bd.method).1
  have X0 : Stand p l e ({ frames := 3, cells := 0, slots := 0, locals := 40 } : Room) s m #[(.ref a1), (.int p1)] below meth c s₁ [] 0 0 := Stand.of_body Bd
  have e0 : s₁.heap = h0 := by rw [← hh, Bd.state]; rfl
  have N0 := Fr.nil n0
  refine own_body fun P hP => ?_
  refine own_st (t' := s₁.setTop (mkF m 0 #[.val (.ref a1), .val (.int p1)] [])) (fun _ k => castTop (own_rm6_ef m a1 p1) k) ?_
  refine own_st (t' := s₁.setTop (mkF m 1 #[.val (.ref a1), .val (.int p1)] [(.ref a1)])) (fun _ k => XS.aloadN X0.here hx rfl (hb hby own_rm6_d0) rfl rfl k) ?_
  obtain ⟨cq1, kq1, q1a, q1b, q1c⟩ := isOf hZ e0 E_a1
  obtain ⟨_, _, ⟨T1, L1, k1, n1⟩, -, X1, ⟨Lc1, hQ1, l1, y1, z1⟩, st1⟩ := X0.virtualBack hx (y := (⟨"java/lang/String", "isLatin1", "()Z"⟩ : MethodName)) (z := (⟨"java/lang/String", "isLatin1", "()Z"⟩ : MethodName)) hown (mvT hZ (hw _ (List.mem_of_getElem? (i := 15) rfl))) (mvT hZ (hw _ (List.mem_of_getElem? (i := 16) rfl))) (notFace_of_selects (args := #[]) (mvT hZ (hw _ (List.mem_of_getElem? (i := 18) rfl)))) (mvT hZ (hw _ (List.mem_of_getElem? (i := 18) rfl))) (mvT hZ (hw _ (List.mem_of_getElem? (i := 17) rfl))) (by decide) (backOf (W := 0) (own_rm5 l Z a0 hw [] a1 cs h0 n0 Z0 S_C hcs F_c) hZ (hw _ (List.mem_of_getElem? (i := 19) rfl)) (hw _ (List.mem_of_getElem? (i := 1) rfl)) (by decide) (by decide)) q1a q1c (g := (mkF m 1 #[.val (.ref a1), .val (.int p1)] [(.ref a1)])) rfl (by rw [hml]; rfl) (Steps.refl _) (argsL := []) (rest := []) (lenOf own_rm6_pd0 rfl) rfl (by show 2 * 0 + _ ≤ _; exact Nat.le_of_eq rfl) (hb hby own_rm6_d1) (fun _ _ => ⟨rfl, e0, (by decide : 0 + 0 ≤ _), (by decide : 0 + 0 ≤ _)⟩)
  dsimp only [Pt.U, Pt.locs, Pt.cells, Pt.slots] at X1 l1 y1 z1 st1 hQ1
  subst l1 y1 z1
  obtain ⟨rfl, N1q, e1⟩ := hQ1
  have N1 := Fr.app N0 N1q
  refine own_tr (t' := T1.setTop (mkF m 4 #[.val (.ref a1), .val (.int p1)] [(.int (1 : Int32))])) st1 ?_
  refine own_st (t' := T1.setTop (mkF m 7 #[.val (.ref a1), .val (.int p1)] [])) (fun _ k => XS.ifNo X1.here hx rfl (hb hby own_rm6_d4) rfl ((if0 _ _).trans (feq (by decide : ¬ ((1 : Int32) = (0 : Int32)))).1) k) ?_
  refine own_st (t' := T1.setTop (mkF m 8 #[.val (.ref a1), .val (.int p1)] [(.ref a1)])) (fun _ k => XS.aloadN X1.here hx rfl (hb hby own_rm6_d7) rfl rfl k) ?_
  obtain ⟨T2, X2, e2, st2⟩ := getF X1 hx hZ hown (host := "") (Or.inl (hw _ (List.mem_of_getElem? (i := 22) rfl))) Via.refl e1 F_v (g := (mkF m 8 #[.val (.ref a1), .val (.int p1)] [(.ref a1)])) rfl rfl (hb hby own_rm6_d8)
  refine own_st (t' := T2.setTop (mkF m 11 #[.val (.ref a1), .val (.int p1)] [(.ref bb)])) st2 ?_
  refine own_st (t' := T2.setTop (mkF m 12 #[.val (.ref a1), .val (.int p1)] [(.int p1), (.ref bb)])) (fun _ k => XS.iloadN X2.here hx rfl (hb hby own_rm6_d11) rfl k) ?_
  obtain ⟨_, _, ⟨T3, L3, k3, n3⟩, -, X3, ⟨Lc3, hQ3, l3, y3, z3⟩, st3⟩ := Jvm.LawKit.callS X2 hx (y := (⟨"java/lang/StringLatin1", "charAt", "([BI)C"⟩ : MethodName)) hown (mvT hZ (hw _ (List.mem_of_getElem? (i := 23) rfl))) (mvT hZ (hw _ (List.mem_of_getElem? (i := 24) rfl))) (mvT hZ (hw _ (List.mem_of_getElem? (i := 25) rfl))) (mvT hZ (hw _ (List.mem_of_getElem? (i := 26) rfl))) (by decide) (backOf (W := 0) (own_rm4 l Z a0 hw [] bb p1 kb vs w h0 n0 Z0 V hi hl hget hc hS) hZ (hw _ (List.mem_of_getElem? (i := 26) rfl)) (hw _ (List.mem_of_getElem? (i := 25) rfl)) (by decide) (by decide)) (g := (mkF m 12 #[.val (.ref a1), .val (.int p1)] [(.int p1), (.ref bb)])) rfl (by rw [hml]; rfl) (argsL := [(.ref bb), (.int p1)]) (rest := []) (lenOf own_rm6_pd1 rfl) rfl (by show 2 * 0 + _ ≤ _; exact Nat.le_of_eq rfl) (hb hby own_rm6_d12) (fun _ _ => ⟨rfl, e2, (by decide : 0 + 0 + 0 ≤ _), (by decide : 0 + 0 + 0 ≤ _)⟩)
  dsimp only [Pt.U, Pt.locs, Pt.cells, Pt.slots] at X3 l3 y3 z3 st3 hQ3
  subst l3 y3 z3
  obtain ⟨rfl, N3q, e3⟩ := hQ3
  have N3 := Fr.app N1 N3q
  refine own_st (t' := T3.setTop (mkF m 15 #[.val (.ref a1), .val (.int p1)] [(.int w)])) st3 ?_
  have hv4 : (nar .char w) = w := hc2
  obtain ⟨fs, hr, hrun, hended, hW, hsame⟩ := X3.leave (v := some (.int (nar .char w))) (fun h => by rw [Bd.returns] at h; cases h)
  exact ⟨_, _, retN X3 hx (t := .char) Bd.returns (by simp) (hb hby own_rm6_d15) hr, hrun, hended, hP _ _ ⟨_, _, rfl, ⟨(congrArg (fun z => some (Value.int z)) hv4), N3, e3⟩, ⟨_, rfl⟩, hW, hsame.mono (by decide) (by decide)⟩⟩

theorem own_rm7_d0 : decode prog_15_method_7_code 0 = .ok (.iload_n 0, 1) := by decide +kernel
theorem own_rm7_d1 : decode prog_15_method_7_code 1 = .ok (.bipush 65, 2) := by decide +kernel
theorem own_rm7_d3 : decode prog_15_method_7_code 3 = .ok (.if_icmp .lt 16, 3) := by decide +kernel
theorem own_rm7_d6 : decode prog_15_method_7_code 6 = .ok (.iload_n 0, 1) := by decide +kernel
theorem own_rm7_d7 : decode prog_15_method_7_code 7 = .ok (.bipush 90, 2) := by decide +kernel
theorem own_rm7_d9 : decode prog_15_method_7_code 9 = .ok (.if_icmp .gt 10, 3) := by decide +kernel
theorem own_rm7_d12 : decode prog_15_method_7_code 12 = .ok (.iload_n 0, 1) := by decide +kernel
theorem own_rm7_d13 : decode prog_15_method_7_code 13 = .ok (.bipush 32, 2) := by decide +kernel
theorem own_rm7_d15 : decode prog_15_method_7_code 15 = .ok (.iadd, 1) := by decide +kernel
theorem own_rm7_d16 : decode prog_15_method_7_code 16 = .ok (.goto 4, 3) := by decide +kernel
theorem own_rm7_d19 : decode prog_15_method_7_code 19 = .ok (.iload_n 0, 1) := by decide +kernel
theorem own_rm7_d20 : decode prog_15_method_7_code 20 = .ok (.ireturn, 1) := by decide +kernel
theorem own_rm7_pn : plainName "com/example/aftersettle/aftersettle/http/EscapedText" = true := by first | (simp [plainName, overriddenIn]; done) | decide +kernel
theorem own_rm7_ef (m : MethodId) (x0 : Int32) : entryFrame m #[(.int x0)] 1 = mkF m 0 #[.val (.int x0)] [] := by first | (simp [entryFrame, mkF, argsToLocals, Value.category]; done) | rfl
def own_rm7_Q (Z : State) (p1 : Int32) (h0 : Heap) (n0 : Nat) (v : Option Value) (h : Heap) (L : List Loc) : Prop := v = some (.int (own_low p1)) ∧ Fr n0 L ∧ h = h0
set_option maxRecDepth 65536 in
set_option maxHeartbeats 40000000 in
theorem own_rm7 (l : Launch) (Z : State) (a0 : Array Value) (hw : ∀ d ∈ tables_1, d.before a0 Z = true) (ws : List Jvm.Cond) (p1 : Int32) (h0 : Heap) (n0 : Nat) (Z0 : n0 ≤ h0.size) :
    MetFree l (⟨"com/example/aftersettle/aftersettle/http/EscapedText", "lowerCase", "(I)I"⟩ : MethodName) (head1 (Jvm.Cond.code (⟨"com/example/aftersettle/aftersettle/http/EscapedText", "lowerCase", "(I)I"⟩ : MethodName) prog_15_method_7_code 1 (some .int) :: ws) ({ frames := 0, cells := 0, slots := 0, locals := 0 } : Room)) (fun a U => a = #[(.int p1)] ∧ Z.Warmed39 U.vm ∧ U.heap = h0) (fun _ _ _ _ _ => True) (fun _ U o U' => ∃ v L, o = .returned v ∧ own_rm7_Q Z p1 h0 n0 v U'.heap L ∧ FrameEnd U o U' L ({ frames := 0, cells := 0, slots := 0, locals := 0 } : Room).cells ({ frames := 0, cells := 0, slots := 0, locals := 0 } : Room).slots) := by
  refine MetFree.of_bodySF (plainFor_of_name own_rm7_pn) hisR ?_
  intro p e s m args below meth c s₁ Bd hml0 hPre hK
  obtain ⟨rfl, hZ, hh⟩ := hPre
  have hx := Bd.exec
  have hby := Bd.bytes
  have hml : c.maxLocals = 1 := hml0
  have hown : s.vm.findClass "com/example/aftersettle/aftersettle/http/EscapedText" = some m.cls := findClass_of_methodNamed Bd.named
  have hnm := (name_of_methodNamed Bd.named Bd.method).1
  have X0 : Stand p l e ({ frames := 0, cells := 0, slots := 0, locals := 0 } : Room) s m #[(.int p1)] below meth c s₁ [] 0 0 := Stand.of_body Bd
  have e0 : s₁.heap = h0 := by rw [← hh, Bd.state]; rfl
  have N0 := Fr.nil n0
  refine own_body fun P hP => ?_
  refine own_st (t' := s₁.setTop (mkF m 0 #[.val (.int p1)] [])) (fun _ k => castTop (own_rm7_ef m p1) k) ?_
  refine own_st (t' := s₁.setTop (mkF m 1 #[.val (.int p1)] [(.int p1)])) (fun _ k => XS.iloadN X0.here hx rfl (hb hby own_rm7_d0) rfl k) ?_
  refine own_st (t' := s₁.setTop (mkF m 3 #[.val (.int p1)] [(.int (65 : Int32)), (.int p1)])) (fun _ k => XS.bipush X0.here hx rfl (hb hby own_rm7_d1) k) ?_
  by_cases c3_1 : p1 < (65 : Int32)
  · refine own_st (t' := s₁.setTop (mkF m 19 #[.val (.int p1)] [])) (fun _ k => XS.icmpYes X0.here hx rfl (pc0 := 3) (pc' := 19) rfl (hb hby own_rm7_d3) rfl (tlt c3_1).1 (by decide) (by decide) k) ?_
    refine own_st (t' := s₁.setTop (mkF m 20 #[.val (.int p1)] [(.int p1)])) (fun _ k => XS.iloadN X0.here hx rfl (hb hby own_rm7_d19) rfl k) ?_
    have hv2 : p1 = own_low p1 := by rw [own_low, if_pos c3_1]
    obtain ⟨fs, hr, hrun, hended, hW, hsame⟩ := X0.leave (v := some (.int p1)) (fun h => by rw [Bd.returns] at h; cases h)
    exact ⟨_, _, retI X0 hx Bd.returns (hb hby own_rm7_d20) hr, hrun, hended, hP _ _ ⟨_, _, rfl, ⟨(congrArg (fun z => some (Value.int z)) hv2), N0, e0⟩, ⟨_, rfl⟩, hW, hsame.mono (by decide) (by decide)⟩⟩
  · refine own_st (t' := s₁.setTop (mkF m 6 #[.val (.int p1)] [])) (fun _ k => XS.icmpNo X0.here hx rfl (hb hby own_rm7_d3) rfl (flt c3_1).1 k) ?_
    refine own_st (t' := s₁.setTop (mkF m 7 #[.val (.int p1)] [(.int p1)])) (fun _ k => XS.iloadN X0.here hx rfl (hb hby own_rm7_d6) rfl k) ?_
    refine own_st (t' := s₁.setTop (mkF m 9 #[.val (.int p1)] [(.int (90 : Int32)), (.int p1)])) (fun _ k => XS.bipush X0.here hx rfl (hb hby own_rm7_d7) k) ?_
    by_cases c9_3 : (90 : Int32) < p1
    · refine own_st (t' := s₁.setTop (mkF m 19 #[.val (.int p1)] [])) (fun _ k => XS.icmpYes X0.here hx rfl (pc0 := 9) (pc' := 19) rfl (hb hby own_rm7_d9) rfl (tlt c9_3).2.2.1 (by decide) (by decide) k) ?_
      refine own_st (t' := s₁.setTop (mkF m 20 #[.val (.int p1)] [(.int p1)])) (fun _ k => XS.iloadN X0.here hx rfl (hb hby own_rm7_d19) rfl k) ?_
      have hv4 : p1 = own_low p1 := by rw [own_low, if_neg c3_1, if_pos c9_3]
      obtain ⟨fs, hr, hrun, hended, hW, hsame⟩ := X0.leave (v := some (.int p1)) (fun h => by rw [Bd.returns] at h; cases h)
      exact ⟨_, _, retI X0 hx Bd.returns (hb hby own_rm7_d20) hr, hrun, hended, hP _ _ ⟨_, _, rfl, ⟨(congrArg (fun z => some (Value.int z)) hv4), N0, e0⟩, ⟨_, rfl⟩, hW, hsame.mono (by decide) (by decide)⟩⟩
    · refine own_st (t' := s₁.setTop (mkF m 12 #[.val (.int p1)] [])) (fun _ k => XS.icmpNo X0.here hx rfl (hb hby own_rm7_d9) rfl (flt c9_3).2.2.1 k) ?_
      refine own_st (t' := s₁.setTop (mkF m 13 #[.val (.int p1)] [(.int p1)])) (fun _ k => XS.iloadN X0.here hx rfl (hb hby own_rm7_d12) rfl k) ?_
      refine own_st (t' := s₁.setTop (mkF m 15 #[.val (.int p1)] [(.int (32 : Int32)), (.int p1)])) (fun _ k => XS.bipush X0.here hx rfl (hb hby own_rm7_d13) k) ?_
      refine own_st (t' := s₁.setTop (mkF m 16 #[.val (.int p1)] [(.int (p1 + (32 : Int32)))])) (fun _ k => XS.iadd X0.here hx rfl (hb hby own_rm7_d15) rfl k) ?_
      refine own_st (t' := s₁.setTop (mkF m 20 #[.val (.int p1)] [(.int (p1 + (32 : Int32)))])) (fun _ k => XS.goto X0.here hx rfl (pc0 := 16) (pc' := 20) rfl (hb hby own_rm7_d16) (by decide) (by decide) k) ?_
      have hv5 : (p1 + (32 : Int32)) = own_low p1 := by rw [own_low, if_neg c3_1, if_neg c9_3]
      obtain ⟨fs, hr, hrun, hended, hW, hsame⟩ := X0.leave (v := some (.int (p1 + (32 : Int32)))) (fun h => by rw [Bd.returns] at h; cases h)
      exact ⟨_, _, retI X0 hx Bd.returns (hb hby own_rm7_d20) hr, hrun, hended, hP _ _ ⟨_, _, rfl, ⟨(congrArg (fun z => some (Value.int z)) hv5), N0, e0⟩, ⟨_, rfl⟩, hW, hsame.mono (by decide) (by decide)⟩⟩

theorem own_rm0_pn : plainName "com/example/aftersettle/aftersettle/http/EscapedTextLowerCasePinLaw" = true := by first | (simp [plainName, overriddenIn]; done) | decide +kernel
theorem own_rm0_pd0 : parseMethodDescriptor "(I)C" = some ⟨[.int], some .char⟩ := by decide +kernel
theorem own_rm0_pd1 : parseMethodDescriptor "(I)I" = some ⟨[.int], some .int⟩ := by decide +kernel
theorem own_rm0_ef (m : MethodId) (x0 : Int32) (x1 : Int32) : entryFrame m #[(.int x0), (.int x1)] maxLocals = mkF m 0 #[.val (.int x0), .val (.int x1), .unset, .unset, .unset, .unset, .unset, .unset] [] := by first | (simp [entryFrame, mkF, argsToLocals, Value.category, maxLocals]; done) | rfl
def own_rm0_Q (Z : State) (p1 : Int32) (p2 : Int32) (cs : Int32) (h0 : Heap) (n0 : Nat) (v : Option Value) (h : Heap) (L : List Loc) : Prop := v = some (.int ((1 : Int32))) ∧ Fr n0 L
set_option maxRecDepth 65536 in
set_option maxHeartbeats 40000000 in
theorem own_rm0 (l : Launch) (Z : State) (a0 : Array Value) (hw : ∀ d ∈ tables_1, d.before a0 Z = true) (ws : List Jvm.Cond) (p1 : Int32) (p2 : Int32) (cs : Int32) (h0 : Heap) (n0 : Nat) (Z0 : n0 ≤ h0.size) (S_C : Sta Z h0 "java/lang/String" "COMPACT_STRINGS" "Z" (.int cs)) (hcs : ¬ cs = (0 : Int32)) (hS : (∃ w : Addr, Sta Z h0 "jdk/internal/util/Preconditions" "SIOOBE_FORMATTER" "Ljava/util/function/BiFunction;" (.ref w)) ∨ Sta Z h0 "jdk/internal/util/Preconditions" "SIOOBE_FORMATTER" "Ljava/util/function/BiFunction;" .null) (hH1 : Jvm.Lit.constHeld Z "com/example/aftersettle/aftersettle/http/EscapedTextLowerCasePinLaw" 7) (hH2 : Jvm.Lit.constHeld Z "com/example/aftersettle/aftersettle/http/EscapedTextLowerCasePinLaw" 9) (hcw : Jvm.Lit.compactW.before a0 Z = true) :
    MetFree l x (head1 (Jvm.Cond.code x code maxLocals ret :: ws) room_1) (fun a U => a = #[(.int p1), (.int p2)] ∧ U = Z ∧ U.heap = h0) (fun _ _ _ _ _ => True) (fun _ U o U' => ∃ v L, o = .returned v ∧ own_rm0_Q Z p1 p2 cs h0 n0 v U'.heap L ∧ ReturnedEndW U o U' L room_1.cells room_1.slots) := by
  refine MetFree.of_bodySF (plainFor_of_name own_rm0_pn) hisR ?_
  intro p e s m args below meth c s₁ Bd hml0 hPre hK
  obtain ⟨rfl, hU, hh⟩ := hPre
  have hZ : Z.Warmed39 s.vm := by rw [hU]; exact State.Warmed39.refl Z
  have hIB : IB Z s.vm [] := by rw [hU]; exact IB.start
  have hkp : ∀ (b : Addr) (cl : Cell), Z.heap[b]? = some cl → s.heap[b]? = some cl := by rw [hU]; exact fun _ _ q => q
  have hx := Bd.exec
  have hby := Bd.bytes
  have hml : c.maxLocals = 8 := hml0
  have hown : s.vm.findClass "com/example/aftersettle/aftersettle/http/EscapedTextLowerCasePinLaw" = some m.cls := findClass_of_methodNamed Bd.named
  have hnm := (name_of_methodNamed Bd.named Bd.method).1
  have X0 : Stand p l e room_1 s m #[(.int p1), (.int p2)] below meth c s₁ [] 0 0 := Stand.of_body Bd
  have e0 : s₁.heap = h0 := by rw [← hh, Bd.state]; rfl
  have N0 := Fr.nil n0
  have hSi : s.Since s.vm h0.size := State.WarmedH.since (State.WarmedH.refl s) _
  have hki : h0.size ≤ h0.size := Nat.le_refl _
  have wS : ∀ d ∈ Bundle.stringAtoms, d.before a0 Z = true := by
    intro d hd
    simp only [Bundle.stringAtoms, List.mem_cons, List.not_mem_nil, or_false] at hd
    rcases hd with rfl | rfl | rfl | rfl | rfl | rfl | rfl
    · exact (hw _ (List.mem_of_getElem? (i := 1) rfl))
    · exact (hw _ (List.mem_of_getElem? (i := 2) rfl))
    · exact (hw _ (List.mem_of_getElem? (i := 3) rfl))
    · exact (hw _ (List.mem_of_getElem? (i := 4) rfl))
    · exact (hw _ (List.mem_of_getElem? (i := 5) rfl))
    · exact (hw _ (List.mem_of_getElem? (i := 6) rfl))
    · exact (hw _ (List.mem_of_getElem? (i := 7) rfl))
  refine own_body fun P hP => ?_
  refine own_st (t' := s₁.setTop (mkF m 0 #[.val (.int p1), .val (.int p2), .unset, .unset, .unset, .unset, .unset, .unset] [])) (fun _ k => castTop (own_rm0_ef m p1 p2) k) ?_
  obtain ⟨c1, T1, h1, kn1, bb1, kb1, X1, e1, E1, hSi, hki, hZ, hown, A1, C1, V1, R1, -, -, hIB, st1⟩ := ldcSV (s := s) (vm0 := s.vm) X0 hx hZ hown (hw _ (List.mem_of_getElem? (i := 0) rfl)) wS e0 hSi hki (Fr.nil _) hkp hIB (by decide) hH1 hcw (vs := own_vl) (z := (26 : Int32)) own_tl (by decide) rfl (g := (mkF m 0 #[.val (.int p1), .val (.int p2), .unset, .unset, .unset, .unset, .unset, .unset] [])) rfl (hb hby at_0) (n := 104) (by decide) (by decide) (by decide) (by decide)
  have f1_Sta_java_lang_String_COMPACT_STRINGS := S_C.ext E1
  have f1_Gen_SIO := own_sio E1 hS
  have Z1 : n0 ≤ h1.size := Nat.le_trans Z0 E1.1
  refine own_st (t' := T1.setTop (mkF m 2 #[.val (.int p1), .val (.int p2), .unset, .unset, .unset, .unset, .unset, .unset] [(.ref c1)])) st1 ?_
  refine own_st (t' := T1.setTop (mkF m 3 #[.val (.int p1), .val (.int p2), .val (.ref c1), .unset, .unset, .unset, .unset, .unset] [])) (fun _ k => XS.astoreN X1.here hx rfl (hb hby at_2) rfl rfl (l' := #[.val (.int p1), .val (.int p2), .val (.ref c1), .unset, .unset, .unset, .unset, .unset]) rfl k) ?_
  obtain ⟨c2, T2, h2, kn2, bb2, kb2, X2, e2, E2, hSi, hki, hZ, hown, A2, C2, V2, R2, -, -, hIB, st2⟩ := ldcSV (s := s) (vm0 := T1.vm) X1 hx hZ hown (hw _ (List.mem_of_getElem? (i := 8) rfl)) wS e1 hSi hki (Fr.nil _) hkp hIB (by decide) hH2 hcw (vs := own_vu) (z := (26 : Int32)) own_tu (by decide) rfl (g := (mkF m 3 #[.val (.int p1), .val (.int p2), .val (.ref c1), .unset, .unset, .unset, .unset, .unset] [])) rfl (hb hby at_3) (n := 104) (by decide) (by decide) (by decide) (by decide)
  have f2_Sta_java_lang_String_COMPACT_STRINGS := f1_Sta_java_lang_String_COMPACT_STRINGS.ext E2
  have f2_Gen_SIO := own_sio E2 f1_Gen_SIO
  have f2_Exa_c1 := A1.ext E2
  have f2_Fld_c1_coder := C1.ext E2
  have f2_Fld_c1_value := V1.ext E2
  have f2_Arv_bb1 := R1.ext E2
  have Z2 : n0 ≤ h2.size := Nat.le_trans Z1 E2.1
  refine own_st (t' := T2.setTop (mkF m 5 #[.val (.int p1), .val (.int p2), .val (.ref c1), .unset, .unset, .unset, .unset, .unset] [(.ref c2)])) st2 ?_
  refine own_st (t' := T2.setTop (mkF m 6 #[.val (.int p1), .val (.int p2), .val (.ref c1), .val (.ref c2), .unset, .unset, .unset, .unset] [])) (fun _ k => XS.astoreN X2.here hx rfl (hb hby at_5) rfl rfl (l' := #[.val (.int p1), .val (.int p2), .val (.ref c1), .val (.ref c2), .unset, .unset, .unset, .unset]) rfl k) ?_
  refine own_st (t' := T2.setTop (mkF m 7 #[.val (.int p1), .val (.int p2), .val (.ref c1), .val (.ref c2), .unset, .unset, .unset, .unset] [(.int p2)])) (fun _ k => XS.iloadN X2.here hx rfl (hb hby at_6) rfl k) ?_
  refine own_st (t' := T2.setTop (mkF m 9 #[.val (.int p1), .val (.int p2), .val (.ref c1), .val (.ref c2), .unset, .unset, .unset, .unset] [(.int (2147483647 : Int32)), (.int p2)])) (fun _ k => X2.ldcInt hx hown (mvT hZ (hw _ (List.mem_of_getElem? (i := 9) rfl))) (g := (mkF m 7 #[.val (.int p1), .val (.int p2), .val (.ref c1), .val (.ref c2), .unset, .unset, .unset, .unset] [(.int p2)])) rfl (hb hby at_7) _ k) ?_
  refine own_st (t' := T2.setTop (mkF m 10 #[.val (.int p1), .val (.int p2), .val (.ref c1), .val (.ref c2), .unset, .unset, .unset, .unset] [(.int (p2 &&& (2147483647 : Int32)))])) (fun _ k => XS.iand X2.here hx rfl (hb hby at_9) rfl k) ?_
  refine own_st (t' := T2.setTop (mkF m 12 #[.val (.int p1), .val (.int p2), .val (.ref c1), .val (.ref c2), .unset, .unset, .unset, .unset] [(.int (26 : Int32)), (.int (p2 &&& (2147483647 : Int32)))])) (fun _ k => XS.bipush X2.here hx rfl (hb hby at_10) k) ?_
  refine own_st (t' := T2.setTop (mkF m 13 #[.val (.int p1), .val (.int p2), .val (.ref c1), .val (.ref c2), .unset, .unset, .unset, .unset] [(.int ((p2 &&& (2147483647 : Int32)) % (26 : Int32)))])) (fun _ k => iremM (g := (mkF m 12 #[.val (.int p1), .val (.int p2), .val (.ref c1), .val (.ref c2), .unset, .unset, .unset, .unset] [(.int (26 : Int32)), (.int (p2 &&& (2147483647 : Int32)))])) X2 hx rfl (hb hby at_12) rfl (by decide) k) ?_
  refine own_st (t' := T2.setTop (mkF m 15 #[.val (.int p1), .val (.int p2), .val (.ref c1), .val (.ref c2), .val (.int ((p2 &&& (2147483647 : Int32)) % (26 : Int32))), .unset, .unset, .unset] [])) (fun _ k => XS.istore X2.here hx rfl (hb hby at_13) rfl (l' := #[.val (.int p1), .val (.int p2), .val (.ref c1), .val (.ref c2), .val (.int ((p2 &&& (2147483647 : Int32)) % (26 : Int32))), .unset, .unset, .unset]) rfl k) ?_
  have hj := own_i p2
  generalize ((p2 &&& (2147483647 : Int32)) % (26 : Int32)) = i at hj ⊢
  refine own_st (t' := T2.setTop (mkF m 16 #[.val (.int p1), .val (.int p2), .val (.ref c1), .val (.ref c2), .val (.int i), .unset, .unset, .unset] [(.ref c2)])) (fun _ k => XS.aloadN X2.here hx rfl (hb hby at_15) rfl rfl k) ?_
  refine own_st (t' := T2.setTop (mkF m 18 #[.val (.int p1), .val (.int p2), .val (.ref c1), .val (.ref c2), .val (.int i), .unset, .unset, .unset] [(.int i), (.ref c2)])) (fun _ k => XS.iload X2.here hx rfl (hb hby at_16) rfl k) ?_
  obtain ⟨cq3, kq3, q3a, q3b, q3c⟩ := isOf hZ e2 A2
  obtain ⟨_, _, ⟨T3, L3, k3, n3⟩, -, X3, ⟨Lc3, hQ3, l3, y3, z3⟩, st3⟩ := X2.virtualBack hx (y := (⟨"java/lang/String", "charAt", "(I)C"⟩ : MethodName)) (z := (⟨"java/lang/String", "charAt", "(I)C"⟩ : MethodName)) hown (mvT hZ (hw _ (List.mem_of_getElem? (i := 10) rfl))) (mvT hZ (hw _ (List.mem_of_getElem? (i := 11) rfl))) (notFace_of_selects (args := #[]) (mvT hZ (hw _ (List.mem_of_getElem? (i := 13) rfl)))) (mvT hZ (hw _ (List.mem_of_getElem? (i := 13) rfl))) (mvT hZ (hw _ (List.mem_of_getElem? (i := 12) rfl))) (by decide) (backOf (W := 0) (own_rm6 l Z a0 hw [] c2 i cs bb2 kb2 own_vu (own_ch (65 : Int32) i) h2 n0 Z2 A2 f2_Sta_java_lang_String_COMPACT_STRINGS hcs C2 V2 R2 (own_c0 hj) (own_c1 hj) (own_gu hj) (own_n1u hj) (own_n2u hj) f2_Gen_SIO) hZ (hw _ (List.mem_of_getElem? (i := 14) rfl)) (hw _ (List.mem_of_getElem? (i := 1) rfl)) (by decide) (by decide)) q3a q3c (g := (mkF m 18 #[.val (.int p1), .val (.int p2), .val (.ref c1), .val (.ref c2), .val (.int i), .unset, .unset, .unset] [(.int i), (.ref c2)])) rfl (by rw [hml]; rfl) (Steps.refl _) (argsL := [(.int i)]) (rest := []) (lenOf own_rm0_pd0 rfl) rfl (by show 2 * 0 + _ ≤ _; exact Nat.le_of_eq rfl) (hb hby at_18) (fun _ _ => ⟨rfl, e2, (by decide : 0 + 2 + 2 + 0 ≤ _), (by decide : 0 + (104 + 4) + (104 + 4) + 0 ≤ _)⟩)
  dsimp only [Pt.U, Pt.locs, Pt.cells, Pt.slots] at X3 l3 y3 z3 st3 hQ3
  subst l3 y3 z3
  obtain ⟨rfl, N3q, e3⟩ := hQ3
  have N3 := Fr.app N0 N3q
  refine own_tr (t' := T3.setTop (mkF m 21 #[.val (.int p1), .val (.int p2), .val (.ref c1), .val (.ref c2), .val (.int i), .unset, .unset, .unset] [(.int (own_ch (65 : Int32) i))])) st3 ?_
  obtain ⟨_, _, ⟨T4, L4, k4, n4⟩, -, X4, ⟨Lc4, hQ4, l4, y4, z4⟩, st4⟩ := Jvm.LawKit.callS X3 hx (y := (⟨"com/example/aftersettle/aftersettle/http/EscapedText", "lowerCase", "(I)I"⟩ : MethodName)) hown (mvT hZ (hw _ (List.mem_of_getElem? (i := 35) rfl))) (mvT hZ (hw _ (List.mem_of_getElem? (i := 36) rfl))) (mvT hZ (hw _ (List.mem_of_getElem? (i := 37) rfl))) (mvT hZ (hw _ (List.mem_of_getElem? (i := 38) rfl))) (by decide) (backOf (W := 0) (own_rm7 l Z a0 hw [] (own_ch (65 : Int32) i)  h2 n0 Z2 ) hZ (hw _ (List.mem_of_getElem? (i := 38) rfl)) (hw _ (List.mem_of_getElem? (i := 37) rfl)) (by decide) (by decide)) (g := (mkF m 21 #[.val (.int p1), .val (.int p2), .val (.ref c1), .val (.ref c2), .val (.int i), .unset, .unset, .unset] [(.int (own_ch (65 : Int32) i))])) rfl (by rw [hml]; rfl) (argsL := [(.int (own_ch (65 : Int32) i))]) (rest := []) (lenOf own_rm0_pd1 rfl) rfl (by show 2 * 0 + _ ≤ _; exact Nat.le_of_eq rfl) (hb hby at_21) (fun _ _ => ⟨rfl, e3, (by decide : 0 + 2 + 2 + 0 + 0 ≤ _), (by decide : 0 + (104 + 4) + (104 + 4) + 0 + 0 ≤ _)⟩)
  dsimp only [Pt.U, Pt.locs, Pt.cells, Pt.slots] at X4 l4 y4 z4 st4 hQ4
  subst l4 y4 z4
  obtain ⟨rfl, N4q, e4⟩ := hQ4
  have N4 := Fr.app N3 N4q
  refine own_st (t' := T4.setTop (mkF m 24 #[.val (.int p1), .val (.int p2), .val (.ref c1), .val (.ref c2), .val (.int i), .unset, .unset, .unset] [(.int (own_low (own_ch (65 : Int32) i)))])) st4 ?_
  refine own_st (t' := T4.setTop (mkF m 25 #[.val (.int p1), .val (.int p2), .val (.ref c1), .val (.ref c2), .val (.int i), .unset, .unset, .unset] [(.ref c1), (.int (own_low (own_ch (65 : Int32) i)))])) (fun _ k => XS.aloadN X4.here hx rfl (hb hby at_24) rfl rfl k) ?_
  refine own_st (t' := T4.setTop (mkF m 27 #[.val (.int p1), .val (.int p2), .val (.ref c1), .val (.ref c2), .val (.int i), .unset, .unset, .unset] [(.int i), (.ref c1), (.int (own_low (own_ch (65 : Int32) i)))])) (fun _ k => XS.iload X4.here hx rfl (hb hby at_25) rfl k) ?_
  obtain ⟨cq5, kq5, q5a, q5b, q5c⟩ := isOf hZ e4 f2_Exa_c1
  obtain ⟨_, _, ⟨T5, L5, k5, n5⟩, -, X5, ⟨Lc5, hQ5, l5, y5, z5⟩, st5⟩ := X4.virtualBack hx (y := (⟨"java/lang/String", "charAt", "(I)C"⟩ : MethodName)) (z := (⟨"java/lang/String", "charAt", "(I)C"⟩ : MethodName)) hown (mvT hZ (hw _ (List.mem_of_getElem? (i := 10) rfl))) (mvT hZ (hw _ (List.mem_of_getElem? (i := 11) rfl))) (notFace_of_selects (args := #[]) (mvT hZ (hw _ (List.mem_of_getElem? (i := 13) rfl)))) (mvT hZ (hw _ (List.mem_of_getElem? (i := 13) rfl))) (mvT hZ (hw _ (List.mem_of_getElem? (i := 12) rfl))) (by decide) (backOf (W := 1) (own_rm6 l Z a0 hw [] c1 i cs bb1 kb1 own_vl (own_ch (97 : Int32) i) h2 n0 Z2 f2_Exa_c1 f2_Sta_java_lang_String_COMPACT_STRINGS hcs f2_Fld_c1_coder f2_Fld_c1_value f2_Arv_bb1 (own_c0 hj) (own_c1 hj) (own_gl hj) (own_n1l hj) (own_n2l hj) f2_Gen_SIO) hZ (hw _ (List.mem_of_getElem? (i := 14) rfl)) (hw _ (List.mem_of_getElem? (i := 1) rfl)) (by decide) (by decide)) q5a q5c (g := (mkF m 27 #[.val (.int p1), .val (.int p2), .val (.ref c1), .val (.ref c2), .val (.int i), .unset, .unset, .unset] [(.int i), (.ref c1), (.int (own_low (own_ch (65 : Int32) i)))])) rfl (by rw [hml]; rfl) (Steps.refl _) (argsL := [(.int i)]) (rest := [(.int (own_low (own_ch (65 : Int32) i)))]) (lenOf own_rm0_pd0 rfl) rfl (by show 2 * 0 + _ ≤ _; exact Nat.le_of_eq rfl) (hb hby at_27) (fun _ _ => ⟨rfl, e4, (by decide : 0 + 2 + 2 + 0 + 0 + 0 ≤ _), (by decide : 0 + (104 + 4) + (104 + 4) + 0 + 0 + 0 ≤ _)⟩)
  dsimp only [Pt.U, Pt.locs, Pt.cells, Pt.slots] at X5 l5 y5 z5 st5 hQ5
  subst l5 y5 z5
  obtain ⟨rfl, N5q, e5⟩ := hQ5
  have N5 := Fr.app N4 N5q
  refine own_tr (t' := T5.setTop (mkF m 30 #[.val (.int p1), .val (.int p2), .val (.ref c1), .val (.ref c2), .val (.int i), .unset, .unset, .unset] [(.int (own_ch (97 : Int32) i)), (.int (own_low (own_ch (65 : Int32) i)))])) st5 ?_
  refine own_st (t' := T5.setTop (mkF m 33 #[.val (.int p1), .val (.int p2), .val (.ref c1), .val (.ref c2), .val (.int i), .unset, .unset, .unset] [])) (fun _ k => XS.icmpNo X5.here hx rfl (hb hby at_30) rfl (teq (own_l1 hj)).2 k) ?_
  refine own_st (t' := T5.setTop (mkF m 34 #[.val (.int p1), .val (.int p2), .val (.ref c1), .val (.ref c2), .val (.int i), .unset, .unset, .unset] [(.ref c1)])) (fun _ k => XS.aloadN X5.here hx rfl (hb hby at_33) rfl rfl k) ?_
  refine own_st (t' := T5.setTop (mkF m 36 #[.val (.int p1), .val (.int p2), .val (.ref c1), .val (.ref c2), .val (.int i), .unset, .unset, .unset] [(.int i), (.ref c1)])) (fun _ k => XS.iload X5.here hx rfl (hb hby at_34) rfl k) ?_
  obtain ⟨cq6, kq6, q6a, q6b, q6c⟩ := isOf hZ e5 f2_Exa_c1
  obtain ⟨_, _, ⟨T6, L6, k6, n6⟩, -, X6, ⟨Lc6, hQ6, l6, y6, z6⟩, st6⟩ := X5.virtualBack hx (y := (⟨"java/lang/String", "charAt", "(I)C"⟩ : MethodName)) (z := (⟨"java/lang/String", "charAt", "(I)C"⟩ : MethodName)) hown (mvT hZ (hw _ (List.mem_of_getElem? (i := 10) rfl))) (mvT hZ (hw _ (List.mem_of_getElem? (i := 11) rfl))) (notFace_of_selects (args := #[]) (mvT hZ (hw _ (List.mem_of_getElem? (i := 13) rfl)))) (mvT hZ (hw _ (List.mem_of_getElem? (i := 13) rfl))) (mvT hZ (hw _ (List.mem_of_getElem? (i := 12) rfl))) (by decide) (backOf (W := 0) (own_rm6 l Z a0 hw [] c1 i cs bb1 kb1 own_vl (own_ch (97 : Int32) i) h2 n0 Z2 f2_Exa_c1 f2_Sta_java_lang_String_COMPACT_STRINGS hcs f2_Fld_c1_coder f2_Fld_c1_value f2_Arv_bb1 (own_c0 hj) (own_c1 hj) (own_gl hj) (own_n1l hj) (own_n2l hj) f2_Gen_SIO) hZ (hw _ (List.mem_of_getElem? (i := 14) rfl)) (hw _ (List.mem_of_getElem? (i := 1) rfl)) (by decide) (by decide)) q6a q6c (g := (mkF m 36 #[.val (.int p1), .val (.int p2), .val (.ref c1), .val (.ref c2), .val (.int i), .unset, .unset, .unset] [(.int i), (.ref c1)])) rfl (by rw [hml]; rfl) (Steps.refl _) (argsL := [(.int i)]) (rest := []) (lenOf own_rm0_pd0 rfl) rfl (by show 2 * 0 + _ ≤ _; exact Nat.le_of_eq rfl) (hb hby at_36) (fun _ _ => ⟨rfl, e5, (by decide : 0 + 2 + 2 + 0 + 0 + 0 + 0 ≤ _), (by decide : 0 + (104 + 4) + (104 + 4) + 0 + 0 + 0 + 0 ≤ _)⟩)
  dsimp only [Pt.U, Pt.locs, Pt.cells, Pt.slots] at X6 l6 y6 z6 st6 hQ6
  subst l6 y6 z6
  obtain ⟨rfl, N6q, e6⟩ := hQ6
  have N6 := Fr.app N5 N6q
  refine own_tr (t' := T6.setTop (mkF m 39 #[.val (.int p1), .val (.int p2), .val (.ref c1), .val (.ref c2), .val (.int i), .unset, .unset, .unset] [(.int (own_ch (97 : Int32) i))])) st6 ?_
  obtain ⟨_, _, ⟨T7, L7, k7, n7⟩, -, X7, ⟨Lc7, hQ7, l7, y7, z7⟩, st7⟩ := Jvm.LawKit.callS X6 hx (y := (⟨"com/example/aftersettle/aftersettle/http/EscapedText", "lowerCase", "(I)I"⟩ : MethodName)) hown (mvT hZ (hw _ (List.mem_of_getElem? (i := 35) rfl))) (mvT hZ (hw _ (List.mem_of_getElem? (i := 36) rfl))) (mvT hZ (hw _ (List.mem_of_getElem? (i := 37) rfl))) (mvT hZ (hw _ (List.mem_of_getElem? (i := 38) rfl))) (by decide) (backOf (W := 0) (own_rm7 l Z a0 hw [] (own_ch (97 : Int32) i)  h2 n0 Z2 ) hZ (hw _ (List.mem_of_getElem? (i := 38) rfl)) (hw _ (List.mem_of_getElem? (i := 37) rfl)) (by decide) (by decide)) (g := (mkF m 39 #[.val (.int p1), .val (.int p2), .val (.ref c1), .val (.ref c2), .val (.int i), .unset, .unset, .unset] [(.int (own_ch (97 : Int32) i))])) rfl (by rw [hml]; rfl) (argsL := [(.int (own_ch (97 : Int32) i))]) (rest := []) (lenOf own_rm0_pd1 rfl) rfl (by show 2 * 0 + _ ≤ _; exact Nat.le_of_eq rfl) (hb hby at_39) (fun _ _ => ⟨rfl, e6, (by decide : 0 + 2 + 2 + 0 + 0 + 0 + 0 + 0 ≤ _), (by decide : 0 + (104 + 4) + (104 + 4) + 0 + 0 + 0 + 0 + 0 ≤ _)⟩)
  dsimp only [Pt.U, Pt.locs, Pt.cells, Pt.slots] at X7 l7 y7 z7 st7 hQ7
  subst l7 y7 z7
  obtain ⟨rfl, N7q, e7⟩ := hQ7
  have N7 := Fr.app N6 N7q
  refine own_st (t' := T7.setTop (mkF m 42 #[.val (.int p1), .val (.int p2), .val (.ref c1), .val (.ref c2), .val (.int i), .unset, .unset, .unset] [(.int (own_low (own_ch (97 : Int32) i)))])) st7 ?_
  refine own_st (t' := T7.setTop (mkF m 43 #[.val (.int p1), .val (.int p2), .val (.ref c1), .val (.ref c2), .val (.int i), .unset, .unset, .unset] [(.ref c1), (.int (own_low (own_ch (97 : Int32) i)))])) (fun _ k => XS.aloadN X7.here hx rfl (hb hby at_42) rfl rfl k) ?_
  refine own_st (t' := T7.setTop (mkF m 45 #[.val (.int p1), .val (.int p2), .val (.ref c1), .val (.ref c2), .val (.int i), .unset, .unset, .unset] [(.int i), (.ref c1), (.int (own_low (own_ch (97 : Int32) i)))])) (fun _ k => XS.iload X7.here hx rfl (hb hby at_43) rfl k) ?_
  obtain ⟨cq8, kq8, q8a, q8b, q8c⟩ := isOf hZ e7 f2_Exa_c1
  obtain ⟨_, _, ⟨T8, L8, k8, n8⟩, -, X8, ⟨Lc8, hQ8, l8, y8, z8⟩, st8⟩ := X7.virtualBack hx (y := (⟨"java/lang/String", "charAt", "(I)C"⟩ : MethodName)) (z := (⟨"java/lang/String", "charAt", "(I)C"⟩ : MethodName)) hown (mvT hZ (hw _ (List.mem_of_getElem? (i := 10) rfl))) (mvT hZ (hw _ (List.mem_of_getElem? (i := 11) rfl))) (notFace_of_selects (args := #[]) (mvT hZ (hw _ (List.mem_of_getElem? (i := 13) rfl)))) (mvT hZ (hw _ (List.mem_of_getElem? (i := 13) rfl))) (mvT hZ (hw _ (List.mem_of_getElem? (i := 12) rfl))) (by decide) (backOf (W := 1) (own_rm6 l Z a0 hw [] c1 i cs bb1 kb1 own_vl (own_ch (97 : Int32) i) h2 n0 Z2 f2_Exa_c1 f2_Sta_java_lang_String_COMPACT_STRINGS hcs f2_Fld_c1_coder f2_Fld_c1_value f2_Arv_bb1 (own_c0 hj) (own_c1 hj) (own_gl hj) (own_n1l hj) (own_n2l hj) f2_Gen_SIO) hZ (hw _ (List.mem_of_getElem? (i := 14) rfl)) (hw _ (List.mem_of_getElem? (i := 1) rfl)) (by decide) (by decide)) q8a q8c (g := (mkF m 45 #[.val (.int p1), .val (.int p2), .val (.ref c1), .val (.ref c2), .val (.int i), .unset, .unset, .unset] [(.int i), (.ref c1), (.int (own_low (own_ch (97 : Int32) i)))])) rfl (by rw [hml]; rfl) (Steps.refl _) (argsL := [(.int i)]) (rest := [(.int (own_low (own_ch (97 : Int32) i)))]) (lenOf own_rm0_pd0 rfl) rfl (by show 2 * 0 + _ ≤ _; exact Nat.le_of_eq rfl) (hb hby at_45) (fun _ _ => ⟨rfl, e7, (by decide : 0 + 2 + 2 + 0 + 0 + 0 + 0 + 0 + 0 ≤ _), (by decide : 0 + (104 + 4) + (104 + 4) + 0 + 0 + 0 + 0 + 0 + 0 ≤ _)⟩)
  dsimp only [Pt.U, Pt.locs, Pt.cells, Pt.slots] at X8 l8 y8 z8 st8 hQ8
  subst l8 y8 z8
  obtain ⟨rfl, N8q, e8⟩ := hQ8
  have N8 := Fr.app N7 N8q
  refine own_tr (t' := T8.setTop (mkF m 48 #[.val (.int p1), .val (.int p2), .val (.ref c1), .val (.ref c2), .val (.int i), .unset, .unset, .unset] [(.int (own_ch (97 : Int32) i)), (.int (own_low (own_ch (97 : Int32) i)))])) st8 ?_
  refine own_st (t' := T8.setTop (mkF m 51 #[.val (.int p1), .val (.int p2), .val (.ref c1), .val (.ref c2), .val (.int i), .unset, .unset, .unset] [])) (fun _ k => XS.icmpNo X8.here hx rfl (hb hby at_48) rfl (teq (own_l2 hj)).2 k) ?_
  refine own_st (t' := T8.setTop (mkF m 52 #[.val (.int p1), .val (.int p2), .val (.ref c1), .val (.ref c2), .val (.int i), .unset, .unset, .unset] [(.int (1 : Int32))])) (fun _ k => XS.iconst X8.here hx rfl (hb hby at_51) k) ?_
  refine own_st (t' := T8.setTop (mkF m 56 #[.val (.int p1), .val (.int p2), .val (.ref c1), .val (.ref c2), .val (.int i), .unset, .unset, .unset] [(.int (1 : Int32))])) (fun _ k => XS.goto X8.here hx rfl (pc0 := 52) (pc' := 56) rfl (hb hby at_52) (by decide) (by decide) k) ?_
  refine own_st (t' := T8.setTop (mkF m 58 #[.val (.int p1), .val (.int p2), .val (.ref c1), .val (.ref c2), .val (.int i), .val (.int (1 : Int32)), .unset, .unset] [])) (fun _ k => XS.istore X8.here hx rfl (hb hby at_56) rfl (l' := #[.val (.int p1), .val (.int p2), .val (.ref c1), .val (.ref c2), .val (.int i), .val (.int (1 : Int32)), .unset, .unset]) rfl k) ?_
  refine own_st (t' := T8.setTop (mkF m 59 #[.val (.int p1), .val (.int p2), .val (.ref c1), .val (.ref c2), .val (.int i), .val (.int (1 : Int32)), .unset, .unset] [(.int p1)])) (fun _ k => XS.iloadN X8.here hx rfl (hb hby at_58) rfl k) ?_
  obtain ⟨_, _, ⟨T9, L9, k9, n9⟩, -, X9, ⟨Lc9, hQ9, l9, y9, z9⟩, st9⟩ := Jvm.LawKit.callS X8 hx (y := (⟨"com/example/aftersettle/aftersettle/http/EscapedText", "lowerCase", "(I)I"⟩ : MethodName)) hown (mvT hZ (hw _ (List.mem_of_getElem? (i := 35) rfl))) (mvT hZ (hw _ (List.mem_of_getElem? (i := 36) rfl))) (mvT hZ (hw _ (List.mem_of_getElem? (i := 37) rfl))) (mvT hZ (hw _ (List.mem_of_getElem? (i := 38) rfl))) (by decide) (backOf (W := 0) (own_rm7 l Z a0 hw [] p1  h2 n0 Z2 ) hZ (hw _ (List.mem_of_getElem? (i := 38) rfl)) (hw _ (List.mem_of_getElem? (i := 37) rfl)) (by decide) (by decide)) (g := (mkF m 59 #[.val (.int p1), .val (.int p2), .val (.ref c1), .val (.ref c2), .val (.int i), .val (.int (1 : Int32)), .unset, .unset] [(.int p1)])) rfl (by rw [hml]; rfl) (argsL := [(.int p1)]) (rest := []) (lenOf own_rm0_pd1 rfl) rfl (by show 2 * 0 + _ ≤ _; exact Nat.le_of_eq rfl) (hb hby at_59) (fun _ _ => ⟨rfl, e8, (by decide : 0 + 2 + 2 + 0 + 0 + 0 + 0 + 0 + 0 + 0 ≤ _), (by decide : 0 + (104 + 4) + (104 + 4) + 0 + 0 + 0 + 0 + 0 + 0 + 0 ≤ _)⟩)
  dsimp only [Pt.U, Pt.locs, Pt.cells, Pt.slots] at X9 l9 y9 z9 st9 hQ9
  subst l9 y9 z9
  obtain ⟨rfl, N9q, e9⟩ := hQ9
  have N9 := Fr.app N8 N9q
  refine own_st (t' := T9.setTop (mkF m 62 #[.val (.int p1), .val (.int p2), .val (.ref c1), .val (.ref c2), .val (.int i), .val (.int (1 : Int32)), .unset, .unset] [(.int (own_low p1))])) st9 ?_
  refine own_st (t' := T9.setTop (mkF m 64 #[.val (.int p1), .val (.int p2), .val (.ref c1), .val (.ref c2), .val (.int i), .val (.int (1 : Int32)), .val (.int (own_low p1)), .unset] [])) (fun _ k => XS.istore X9.here hx rfl (hb hby at_62) rfl (l' := #[.val (.int p1), .val (.int p2), .val (.ref c1), .val (.ref c2), .val (.int i), .val (.int (1 : Int32)), .val (.int (own_low p1)), .unset]) rfl k) ?_
  refine own_st (t' := T9.setTop (mkF m 65 #[.val (.int p1), .val (.int p2), .val (.ref c1), .val (.ref c2), .val (.int i), .val (.int (1 : Int32)), .val (.int (own_low p1)), .unset] [(.int p1)])) (fun _ k => XS.iloadN X9.here hx rfl (hb hby at_64) rfl k) ?_
  refine own_st (t' := T9.setTop (mkF m 67 #[.val (.int p1), .val (.int p2), .val (.ref c1), .val (.ref c2), .val (.int i), .val (.int (1 : Int32)), .val (.int (own_low p1)), .unset] [(.int (65 : Int32)), (.int p1)])) (fun _ k => XS.bipush X9.here hx rfl (hb hby at_65) k) ?_
  by_cases c67_10 : p1 < (65 : Int32)
  · refine own_st (t' := T9.setTop (mkF m 99 #[.val (.int p1), .val (.int p2), .val (.ref c1), .val (.ref c2), .val (.int i), .val (.int (1 : Int32)), .val (.int (own_low p1)), .unset] [])) (fun _ k => XS.icmpYes X9.here hx rfl (pc0 := 67) (pc' := 99) rfl (hb hby at_67) rfl (tlt c67_10).1 (by decide) (by decide) k) ?_
    refine own_st (t' := T9.setTop (mkF m 101 #[.val (.int p1), .val (.int p2), .val (.ref c1), .val (.ref c2), .val (.int i), .val (.int (1 : Int32)), .val (.int (own_low p1)), .unset] [(.int (own_low p1))])) (fun _ k => XS.iload X9.here hx rfl (hb hby at_99) rfl k) ?_
    refine own_st (t' := T9.setTop (mkF m 102 #[.val (.int p1), .val (.int p2), .val (.ref c1), .val (.ref c2), .val (.int i), .val (.int (1 : Int32)), .val (.int (own_low p1)), .unset] [(.int p1), (.int (own_low p1))])) (fun _ k => XS.iloadN X9.here hx rfl (hb hby at_101) rfl k) ?_
    refine own_st (t' := T9.setTop (mkF m 105 #[.val (.int p1), .val (.int p2), .val (.ref c1), .val (.ref c2), .val (.int i), .val (.int (1 : Int32)), .val (.int (own_low p1)), .unset] [])) (fun _ k => XS.icmpNo X9.here hx rfl (hb hby at_102) rfl (teq (own_w2 c67_10)).2 k) ?_
    refine own_st (t' := T9.setTop (mkF m 106 #[.val (.int p1), .val (.int p2), .val (.ref c1), .val (.ref c2), .val (.int i), .val (.int (1 : Int32)), .val (.int (own_low p1)), .unset] [(.int (1 : Int32))])) (fun _ k => XS.iconst X9.here hx rfl (hb hby at_105) k) ?_
    refine own_st (t' := T9.setTop (mkF m 110 #[.val (.int p1), .val (.int p2), .val (.ref c1), .val (.ref c2), .val (.int i), .val (.int (1 : Int32)), .val (.int (own_low p1)), .unset] [(.int (1 : Int32))])) (fun _ k => XS.goto X9.here hx rfl (pc0 := 106) (pc' := 110) rfl (hb hby at_106) (by decide) (by decide) k) ?_
    refine own_st (t' := T9.setTop (mkF m 112 #[.val (.int p1), .val (.int p2), .val (.ref c1), .val (.ref c2), .val (.int i), .val (.int (1 : Int32)), .val (.int (own_low p1)), .val (.int (1 : Int32))] [])) (fun _ k => XS.istore X9.here hx rfl (hb hby at_110) rfl (l' := #[.val (.int p1), .val (.int p2), .val (.ref c1), .val (.ref c2), .val (.int i), .val (.int (1 : Int32)), .val (.int (own_low p1)), .val (.int (1 : Int32))]) rfl k) ?_
    refine own_st (t' := T9.setTop (mkF m 114 #[.val (.int p1), .val (.int p2), .val (.ref c1), .val (.ref c2), .val (.int i), .val (.int (1 : Int32)), .val (.int (own_low p1)), .val (.int (1 : Int32))] [(.int (1 : Int32))])) (fun _ k => XS.iload X9.here hx rfl (hb hby at_112) rfl k) ?_
    refine own_st (t' := T9.setTop (mkF m 117 #[.val (.int p1), .val (.int p2), .val (.ref c1), .val (.ref c2), .val (.int i), .val (.int (1 : Int32)), .val (.int (own_low p1)), .val (.int (1 : Int32))] [])) (fun _ k => XS.ifNo X9.here hx rfl (hb hby at_114) rfl ((if0 _ _).trans (feq (by decide : ¬ ((1 : Int32) = (0 : Int32)))).1) k) ?_
    refine own_st (t' := T9.setTop (mkF m 119 #[.val (.int p1), .val (.int p2), .val (.ref c1), .val (.ref c2), .val (.int i), .val (.int (1 : Int32)), .val (.int (own_low p1)), .val (.int (1 : Int32))] [(.int (1 : Int32))])) (fun _ k => XS.iload X9.here hx rfl (hb hby at_117) rfl k) ?_
    refine own_st (t' := T9.setTop (mkF m 122 #[.val (.int p1), .val (.int p2), .val (.ref c1), .val (.ref c2), .val (.int i), .val (.int (1 : Int32)), .val (.int (own_low p1)), .val (.int (1 : Int32))] [])) (fun _ k => XS.ifNo X9.here hx rfl (hb hby at_119) rfl ((if0 _ _).trans (feq (by decide : ¬ ((1 : Int32) = (0 : Int32)))).1) k) ?_
    refine own_st (t' := T9.setTop (mkF m 123 #[.val (.int p1), .val (.int p2), .val (.ref c1), .val (.ref c2), .val (.int i), .val (.int (1 : Int32)), .val (.int (own_low p1)), .val (.int (1 : Int32))] [(.int (1 : Int32))])) (fun _ k => XS.iconst X9.here hx rfl (hb hby at_122) k) ?_
    refine own_st (t' := T9.setTop (mkF m 127 #[.val (.int p1), .val (.int p2), .val (.ref c1), .val (.ref c2), .val (.int i), .val (.int (1 : Int32)), .val (.int (own_low p1)), .val (.int (1 : Int32))] [(.int (1 : Int32))])) (fun _ k => XS.goto X9.here hx rfl (pc0 := 123) (pc' := 127) rfl (hb hby at_123) (by decide) (by decide) k) ?_
    have hv11 : (1 : Int32) = (1 : Int32) := rfl
    obtain ⟨fs, hr, hrun, hended, hEnd⟩ := Stand.leaveW (s := s) (vm₁ := T2.vm) X9 hSi (by rw [e9]; exact hki) (v := some (.int (1 : Int32))) (fun h => by rw [Bd.returns] at h; cases h)
    exact ⟨_, _, retN X9 hx (t := .boolean) Bd.returns (by simp) (hb hby at_127) hr, hrun, hended, hP _ _ ⟨_, _, rfl, ⟨(congrArg (fun z => some (Value.int z)) hv11), N9⟩, ⟨_, rfl⟩, hEnd.2.1, hEnd.2.2.1, hEnd.2.2.2.mono (by decide) (by decide)⟩⟩
  · refine own_st (t' := T9.setTop (mkF m 70 #[.val (.int p1), .val (.int p2), .val (.ref c1), .val (.ref c2), .val (.int i), .val (.int (1 : Int32)), .val (.int (own_low p1)), .unset] [])) (fun _ k => XS.icmpNo X9.here hx rfl (hb hby at_67) rfl (flt c67_10).1 k) ?_
    refine own_st (t' := T9.setTop (mkF m 71 #[.val (.int p1), .val (.int p2), .val (.ref c1), .val (.ref c2), .val (.int i), .val (.int (1 : Int32)), .val (.int (own_low p1)), .unset] [(.int p1)])) (fun _ k => XS.iloadN X9.here hx rfl (hb hby at_70) rfl k) ?_
    refine own_st (t' := T9.setTop (mkF m 73 #[.val (.int p1), .val (.int p2), .val (.ref c1), .val (.ref c2), .val (.int i), .val (.int (1 : Int32)), .val (.int (own_low p1)), .unset] [(.int (90 : Int32)), (.int p1)])) (fun _ k => XS.bipush X9.here hx rfl (hb hby at_71) k) ?_
    by_cases c73_12 : (90 : Int32) < p1
    · refine own_st (t' := T9.setTop (mkF m 99 #[.val (.int p1), .val (.int p2), .val (.ref c1), .val (.ref c2), .val (.int i), .val (.int (1 : Int32)), .val (.int (own_low p1)), .unset] [])) (fun _ k => XS.icmpYes X9.here hx rfl (pc0 := 73) (pc' := 99) rfl (hb hby at_73) rfl (tlt c73_12).2.2.1 (by decide) (by decide) k) ?_
      refine own_st (t' := T9.setTop (mkF m 101 #[.val (.int p1), .val (.int p2), .val (.ref c1), .val (.ref c2), .val (.int i), .val (.int (1 : Int32)), .val (.int (own_low p1)), .unset] [(.int (own_low p1))])) (fun _ k => XS.iload X9.here hx rfl (hb hby at_99) rfl k) ?_
      refine own_st (t' := T9.setTop (mkF m 102 #[.val (.int p1), .val (.int p2), .val (.ref c1), .val (.ref c2), .val (.int i), .val (.int (1 : Int32)), .val (.int (own_low p1)), .unset] [(.int p1), (.int (own_low p1))])) (fun _ k => XS.iloadN X9.here hx rfl (hb hby at_101) rfl k) ?_
      refine own_st (t' := T9.setTop (mkF m 105 #[.val (.int p1), .val (.int p2), .val (.ref c1), .val (.ref c2), .val (.int i), .val (.int (1 : Int32)), .val (.int (own_low p1)), .unset] [])) (fun _ k => XS.icmpNo X9.here hx rfl (hb hby at_102) rfl (teq (own_w3 c73_12)).2 k) ?_
      refine own_st (t' := T9.setTop (mkF m 106 #[.val (.int p1), .val (.int p2), .val (.ref c1), .val (.ref c2), .val (.int i), .val (.int (1 : Int32)), .val (.int (own_low p1)), .unset] [(.int (1 : Int32))])) (fun _ k => XS.iconst X9.here hx rfl (hb hby at_105) k) ?_
      refine own_st (t' := T9.setTop (mkF m 110 #[.val (.int p1), .val (.int p2), .val (.ref c1), .val (.ref c2), .val (.int i), .val (.int (1 : Int32)), .val (.int (own_low p1)), .unset] [(.int (1 : Int32))])) (fun _ k => XS.goto X9.here hx rfl (pc0 := 106) (pc' := 110) rfl (hb hby at_106) (by decide) (by decide) k) ?_
      refine own_st (t' := T9.setTop (mkF m 112 #[.val (.int p1), .val (.int p2), .val (.ref c1), .val (.ref c2), .val (.int i), .val (.int (1 : Int32)), .val (.int (own_low p1)), .val (.int (1 : Int32))] [])) (fun _ k => XS.istore X9.here hx rfl (hb hby at_110) rfl (l' := #[.val (.int p1), .val (.int p2), .val (.ref c1), .val (.ref c2), .val (.int i), .val (.int (1 : Int32)), .val (.int (own_low p1)), .val (.int (1 : Int32))]) rfl k) ?_
      refine own_st (t' := T9.setTop (mkF m 114 #[.val (.int p1), .val (.int p2), .val (.ref c1), .val (.ref c2), .val (.int i), .val (.int (1 : Int32)), .val (.int (own_low p1)), .val (.int (1 : Int32))] [(.int (1 : Int32))])) (fun _ k => XS.iload X9.here hx rfl (hb hby at_112) rfl k) ?_
      refine own_st (t' := T9.setTop (mkF m 117 #[.val (.int p1), .val (.int p2), .val (.ref c1), .val (.ref c2), .val (.int i), .val (.int (1 : Int32)), .val (.int (own_low p1)), .val (.int (1 : Int32))] [])) (fun _ k => XS.ifNo X9.here hx rfl (hb hby at_114) rfl ((if0 _ _).trans (feq (by decide : ¬ ((1 : Int32) = (0 : Int32)))).1) k) ?_
      refine own_st (t' := T9.setTop (mkF m 119 #[.val (.int p1), .val (.int p2), .val (.ref c1), .val (.ref c2), .val (.int i), .val (.int (1 : Int32)), .val (.int (own_low p1)), .val (.int (1 : Int32))] [(.int (1 : Int32))])) (fun _ k => XS.iload X9.here hx rfl (hb hby at_117) rfl k) ?_
      refine own_st (t' := T9.setTop (mkF m 122 #[.val (.int p1), .val (.int p2), .val (.ref c1), .val (.ref c2), .val (.int i), .val (.int (1 : Int32)), .val (.int (own_low p1)), .val (.int (1 : Int32))] [])) (fun _ k => XS.ifNo X9.here hx rfl (hb hby at_119) rfl ((if0 _ _).trans (feq (by decide : ¬ ((1 : Int32) = (0 : Int32)))).1) k) ?_
      refine own_st (t' := T9.setTop (mkF m 123 #[.val (.int p1), .val (.int p2), .val (.ref c1), .val (.ref c2), .val (.int i), .val (.int (1 : Int32)), .val (.int (own_low p1)), .val (.int (1 : Int32))] [(.int (1 : Int32))])) (fun _ k => XS.iconst X9.here hx rfl (hb hby at_122) k) ?_
      refine own_st (t' := T9.setTop (mkF m 127 #[.val (.int p1), .val (.int p2), .val (.ref c1), .val (.ref c2), .val (.int i), .val (.int (1 : Int32)), .val (.int (own_low p1)), .val (.int (1 : Int32))] [(.int (1 : Int32))])) (fun _ k => XS.goto X9.here hx rfl (pc0 := 123) (pc' := 127) rfl (hb hby at_123) (by decide) (by decide) k) ?_
      have hv13 : (1 : Int32) = (1 : Int32) := rfl
      obtain ⟨fs, hr, hrun, hended, hEnd⟩ := Stand.leaveW (s := s) (vm₁ := T2.vm) X9 hSi (by rw [e9]; exact hki) (v := some (.int (1 : Int32))) (fun h => by rw [Bd.returns] at h; cases h)
      exact ⟨_, _, retN X9 hx (t := .boolean) Bd.returns (by simp) (hb hby at_127) hr, hrun, hended, hP _ _ ⟨_, _, rfl, ⟨(congrArg (fun z => some (Value.int z)) hv13), N9⟩, ⟨_, rfl⟩, hEnd.2.1, hEnd.2.2.1, hEnd.2.2.2.mono (by decide) (by decide)⟩⟩
    · refine own_st (t' := T9.setTop (mkF m 76 #[.val (.int p1), .val (.int p2), .val (.ref c1), .val (.ref c2), .val (.int i), .val (.int (1 : Int32)), .val (.int (own_low p1)), .unset] [])) (fun _ k => XS.icmpNo X9.here hx rfl (hb hby at_73) rfl (flt c73_12).2.2.1 k) ?_
      refine own_st (t' := T9.setTop (mkF m 78 #[.val (.int p1), .val (.int p2), .val (.ref c1), .val (.ref c2), .val (.int i), .val (.int (1 : Int32)), .val (.int (own_low p1)), .unset] [(.int (own_low p1))])) (fun _ k => XS.iload X9.here hx rfl (hb hby at_76) rfl k) ?_
      refine own_st (t' := T9.setTop (mkF m 79 #[.val (.int p1), .val (.int p2), .val (.ref c1), .val (.ref c2), .val (.int i), .val (.int (1 : Int32)), .val (.int (own_low p1)), .unset] [(.ref c1), (.int (own_low p1))])) (fun _ k => XS.aloadN X9.here hx rfl (hb hby at_78) rfl rfl k) ?_
      refine own_st (t' := T9.setTop (mkF m 80 #[.val (.int p1), .val (.int p2), .val (.ref c1), .val (.ref c2), .val (.int i), .val (.int (1 : Int32)), .val (.int (own_low p1)), .unset] [(.int p1), (.ref c1), (.int (own_low p1))])) (fun _ k => XS.iloadN X9.here hx rfl (hb hby at_79) rfl k) ?_
      refine own_st (t' := T9.setTop (mkF m 82 #[.val (.int p1), .val (.int p2), .val (.ref c1), .val (.ref c2), .val (.int i), .val (.int (1 : Int32)), .val (.int (own_low p1)), .unset] [(.int (65 : Int32)), (.int p1), (.ref c1), (.int (own_low p1))])) (fun _ k => XS.bipush X9.here hx rfl (hb hby at_80) k) ?_
      refine own_st (t' := T9.setTop (mkF m 83 #[.val (.int p1), .val (.int p2), .val (.ref c1), .val (.ref c2), .val (.int i), .val (.int (1 : Int32)), .val (.int (own_low p1)), .unset] [(.int (p1 - (65 : Int32))), (.ref c1), (.int (own_low p1))])) (fun _ k => XS.isub X9.here hx rfl (hb hby at_82) rfl k) ?_
      have hj2 := own_i2 c67_10 c73_12
      obtain ⟨cq14, kq14, q14a, q14b, q14c⟩ := isOf hZ e9 f2_Exa_c1
      obtain ⟨_, _, ⟨T14, L14, k14, n14⟩, -, X14, ⟨Lc14, hQ14, l14, y14, z14⟩, st14⟩ := X9.virtualBack hx (y := (⟨"java/lang/String", "charAt", "(I)C"⟩ : MethodName)) (z := (⟨"java/lang/String", "charAt", "(I)C"⟩ : MethodName)) hown (mvT hZ (hw _ (List.mem_of_getElem? (i := 10) rfl))) (mvT hZ (hw _ (List.mem_of_getElem? (i := 11) rfl))) (notFace_of_selects (args := #[]) (mvT hZ (hw _ (List.mem_of_getElem? (i := 13) rfl)))) (mvT hZ (hw _ (List.mem_of_getElem? (i := 13) rfl))) (mvT hZ (hw _ (List.mem_of_getElem? (i := 12) rfl))) (by decide) (backOf (W := 1) (own_rm6 l Z a0 hw [] c1 (p1 - (65 : Int32)) cs bb1 kb1 own_vl (own_ch (97 : Int32) (p1 - (65 : Int32))) h2 n0 Z2 f2_Exa_c1 f2_Sta_java_lang_String_COMPACT_STRINGS hcs f2_Fld_c1_coder f2_Fld_c1_value f2_Arv_bb1 (own_c0 hj2) (own_c1 hj2) (own_gl hj2) (own_n1l hj2) (own_n2l hj2) f2_Gen_SIO) hZ (hw _ (List.mem_of_getElem? (i := 14) rfl)) (hw _ (List.mem_of_getElem? (i := 1) rfl)) (by decide) (by decide)) q14a q14c (g := (mkF m 83 #[.val (.int p1), .val (.int p2), .val (.ref c1), .val (.ref c2), .val (.int i), .val (.int (1 : Int32)), .val (.int (own_low p1)), .unset] [(.int (p1 - (65 : Int32))), (.ref c1), (.int (own_low p1))])) rfl (by rw [hml]; rfl) (Steps.refl _) (argsL := [(.int (p1 - (65 : Int32)))]) (rest := [(.int (own_low p1))]) (lenOf own_rm0_pd0 rfl) rfl (by show 2 * 0 + _ ≤ _; exact Nat.le_of_eq rfl) (hb hby at_83) (fun _ _ => ⟨rfl, e9, (by decide : 0 + 2 + 2 + 0 + 0 + 0 + 0 + 0 + 0 + 0 + 0 ≤ _), (by decide : 0 + (104 + 4) + (104 + 4) + 0 + 0 + 0 + 0 + 0 + 0 + 0 + 0 ≤ _)⟩)
      dsimp only [Pt.U, Pt.locs, Pt.cells, Pt.slots] at X14 l14 y14 z14 st14 hQ14
      subst l14 y14 z14
      obtain ⟨rfl, N14q, e14⟩ := hQ14
      have N14 := Fr.app N9 N14q
      refine own_tr (t' := T14.setTop (mkF m 86 #[.val (.int p1), .val (.int p2), .val (.ref c1), .val (.ref c2), .val (.int i), .val (.int (1 : Int32)), .val (.int (own_low p1)), .unset] [(.int (own_ch (97 : Int32) (p1 - (65 : Int32)))), (.int (own_low p1))])) st14 ?_
      refine own_st (t' := T14.setTop (mkF m 89 #[.val (.int p1), .val (.int p2), .val (.ref c1), .val (.ref c2), .val (.int i), .val (.int (1 : Int32)), .val (.int (own_low p1)), .unset] [])) (fun _ k => XS.icmpNo X14.here hx rfl (hb hby at_86) rfl (teq (own_w1 c67_10 c73_12)).2 k) ?_
      refine own_st (t' := T14.setTop (mkF m 90 #[.val (.int p1), .val (.int p2), .val (.ref c1), .val (.ref c2), .val (.int i), .val (.int (1 : Int32)), .val (.int (own_low p1)), .unset] [(.int (1 : Int32))])) (fun _ k => XS.iconst X14.here hx rfl (hb hby at_89) k) ?_
      refine own_st (t' := T14.setTop (mkF m 94 #[.val (.int p1), .val (.int p2), .val (.ref c1), .val (.ref c2), .val (.int i), .val (.int (1 : Int32)), .val (.int (own_low p1)), .unset] [(.int (1 : Int32))])) (fun _ k => XS.goto X14.here hx rfl (pc0 := 90) (pc' := 94) rfl (hb hby at_90) (by decide) (by decide) k) ?_
      refine own_st (t' := T14.setTop (mkF m 96 #[.val (.int p1), .val (.int p2), .val (.ref c1), .val (.ref c2), .val (.int i), .val (.int (1 : Int32)), .val (.int (own_low p1)), .val (.int (1 : Int32))] [])) (fun _ k => XS.istore X14.here hx rfl (hb hby at_94) rfl (l' := #[.val (.int p1), .val (.int p2), .val (.ref c1), .val (.ref c2), .val (.int i), .val (.int (1 : Int32)), .val (.int (own_low p1)), .val (.int (1 : Int32))]) rfl k) ?_
      refine own_st (t' := T14.setTop (mkF m 112 #[.val (.int p1), .val (.int p2), .val (.ref c1), .val (.ref c2), .val (.int i), .val (.int (1 : Int32)), .val (.int (own_low p1)), .val (.int (1 : Int32))] [])) (fun _ k => XS.goto X14.here hx rfl (pc0 := 96) (pc' := 112) rfl (hb hby at_96) (by decide) (by decide) k) ?_
      refine own_st (t' := T14.setTop (mkF m 114 #[.val (.int p1), .val (.int p2), .val (.ref c1), .val (.ref c2), .val (.int i), .val (.int (1 : Int32)), .val (.int (own_low p1)), .val (.int (1 : Int32))] [(.int (1 : Int32))])) (fun _ k => XS.iload X14.here hx rfl (hb hby at_112) rfl k) ?_
      refine own_st (t' := T14.setTop (mkF m 117 #[.val (.int p1), .val (.int p2), .val (.ref c1), .val (.ref c2), .val (.int i), .val (.int (1 : Int32)), .val (.int (own_low p1)), .val (.int (1 : Int32))] [])) (fun _ k => XS.ifNo X14.here hx rfl (hb hby at_114) rfl ((if0 _ _).trans (feq (by decide : ¬ ((1 : Int32) = (0 : Int32)))).1) k) ?_
      refine own_st (t' := T14.setTop (mkF m 119 #[.val (.int p1), .val (.int p2), .val (.ref c1), .val (.ref c2), .val (.int i), .val (.int (1 : Int32)), .val (.int (own_low p1)), .val (.int (1 : Int32))] [(.int (1 : Int32))])) (fun _ k => XS.iload X14.here hx rfl (hb hby at_117) rfl k) ?_
      refine own_st (t' := T14.setTop (mkF m 122 #[.val (.int p1), .val (.int p2), .val (.ref c1), .val (.ref c2), .val (.int i), .val (.int (1 : Int32)), .val (.int (own_low p1)), .val (.int (1 : Int32))] [])) (fun _ k => XS.ifNo X14.here hx rfl (hb hby at_119) rfl ((if0 _ _).trans (feq (by decide : ¬ ((1 : Int32) = (0 : Int32)))).1) k) ?_
      refine own_st (t' := T14.setTop (mkF m 123 #[.val (.int p1), .val (.int p2), .val (.ref c1), .val (.ref c2), .val (.int i), .val (.int (1 : Int32)), .val (.int (own_low p1)), .val (.int (1 : Int32))] [(.int (1 : Int32))])) (fun _ k => XS.iconst X14.here hx rfl (hb hby at_122) k) ?_
      refine own_st (t' := T14.setTop (mkF m 127 #[.val (.int p1), .val (.int p2), .val (.ref c1), .val (.ref c2), .val (.int i), .val (.int (1 : Int32)), .val (.int (own_low p1)), .val (.int (1 : Int32))] [(.int (1 : Int32))])) (fun _ k => XS.goto X14.here hx rfl (pc0 := 123) (pc' := 127) rfl (hb hby at_123) (by decide) (by decide) k) ?_
      have hv15 : (1 : Int32) = (1 : Int32) := rfl
      obtain ⟨fs, hr, hrun, hended, hEnd⟩ := Stand.leaveW (s := s) (vm₁ := T2.vm) X14 hSi (by rw [e14]; exact hki) (v := some (.int (1 : Int32))) (fun h => by rw [Bd.returns] at h; cases h)
      exact ⟨_, _, retN X14 hx (t := .boolean) Bd.returns (by simp) (hb hby at_127) hr, hrun, hended, hP _ _ ⟨_, _, rfl, ⟨(congrArg (fun z => some (Value.int z)) hv15), N14⟩, ⟨_, rfl⟩, hEnd.2.1, hEnd.2.2.1, hEnd.2.2.2.mono (by decide) (by decide)⟩⟩

set_option maxRecDepth 65536 in
set_option maxHeartbeats 40000000 in
theorem comes_1 {Post : Tables → Env → Array Value → State → Outcome → State → Prop} (hpost : ∀ tb e args s v u, (limb_1_1.after args s (.returned v) u = true ∧ limb_1_2.after args s (.returned v) u = true ∧ True) → ReturnedEndW s (.returned v) u (Jvm.fieldLocs frame_1_writes args s ++ Jvm.arrayLocs frame_1_arrays args s ++ Jvm.staticLocs frame_1_statics s) 8 2112 → Post tb e args s (.returned v) u) :
    ArmFor flags0 classFile x code maxLocals ret World_1 tables_1 room_1 Calls_1 rest_1 Pre_1 Post := by
  intro l hfl _ _ p e ha hc hk s m args below hf hA hF happ hP
  obtain ⟨hcalls, hrest, hpre⟩ := hP
  obtain ⟨-, -, -, hnamed, -, -, -, hat⟩ := (Spec.applies_iff hf).mp happ
  obtain ⟨hg, hn⟩ := and_e (Cond.before_iff.mp (show (Jvm.Cond.and given_1 narrow_1).before args s = true from hpre))
  obtain ⟨hcnt, hg0⟩ := and_e hg
  obtain ⟨ga0, hg1⟩ := and_e hg0
  obtain ⟨w0, w1, rfl⟩ : ∃ w0 w1 : Value, args = #[w0, w1] := by
    have hs : args.size = 2 := by simpa [Cond.value, given_1] using hcnt
    obtain ⟨L⟩ := args
    match L, hs with
    | [w0, w1], _ => exact ⟨w0, w1, rfl⟩
  have hw := fun d (hd : d ∈ tables_1) => atoms_spec (ws := Jvm.Cond.code x code maxLocals ret :: tables_1) hat d (List.mem_cons_of_mem _ hd)
  have hfit : Fit s := fun {y c} hc i hi => by
    obtain ⟨ha, rfl⟩ := Array.getElem?_eq_some_iff.mp hc
    have q := List.all_eq_true.mp ((Array.all_eq_true_iff_forall_mem.mp hF) _ (Array.getElem_mem ha)) i (List.mem_range.mpr hi)
    simpa [Array.getElem?_eq_getElem hi] using q
  obtain ⟨hsets, hown0⟩ := atoms_of _ (rest_1_c_eq ▸ (show rest_1_c.before _ s = true from hrest))
  have hr0 := Cond.before_iff.mp hown0
  obtain ⟨i0, ei0⟩ := is_v ga0
  obtain rfl : w0 = (.int i0) := Option.some.inj ei0
  obtain ⟨i1, ei1⟩ := is_v hg1
  obtain rfl : w1 = (.int i1) := Option.some.inj ei1
  obtain ⟨cs, ecs⟩ := is_v (Cond.before_iff.mp (hsets _ (List.mem_of_getElem? (i := 1) rfl)))
  have SCS := Sta.start ecs (Or.inl (hsets _ (List.mem_of_getElem? (i := 0) rfl)))
  have hcs : ¬ cs = (0 : Int32) := gotF (Cond.eq_ints ecs rfl) (not_v (Cond.before_iff.mp (hsets _ (List.mem_of_getElem? (i := 2) rfl))))
  obtain ⟨vF, eF, rF⟩ := isR_v (Cond.before_iff.mp (hsets _ (List.mem_of_getElem? (i := 8) rfl)))
  have SF := Sta.start eF (Or.inl (hsets _ (List.mem_of_getElem? (i := 7) rfl)))
  have hS : (∃ w : Addr, Sta s s.heap "jdk/internal/util/Preconditions" "SIOOBE_FORMATTER" "Ljava/util/function/BiFunction;" (.ref w)) ∨ Sta s s.heap "jdk/internal/util/Preconditions" "SIOOBE_FORMATTER" "Ljava/util/function/BiFunction;" .null := by
    rcases ref_cases rF with rfl | ⟨w, rfl⟩
    · exact Or.inr SF
    · exact Or.inl ⟨w, SF⟩
  have hH1 : Jvm.Lit.constHeld s "com/example/aftersettle/aftersettle/http/EscapedTextLowerCasePinLaw" 7 := hcalls.1 _ (List.mem_cons_self ..)
  have hH2 : Jvm.Lit.constHeld s "com/example/aftersettle/aftersettle/http/EscapedTextLowerCasePinLaw" 9 := hcalls.1 _ (List.mem_cons_of_mem _ (List.mem_cons_self ..))
  obtain ⟨n, o, h1, h2, h3, _, L, rfl, ⟨rfl, N⟩, hq⟩ := own_rm0 l s _ hw tables_1 i0 i1 cs s.heap s.heap.size (Nat.le_refl _) SCS hcs hS hH1 hH2 (hsets _ (List.mem_of_getElem? (i := 2) rfl)) p e ha hc hk s m _ below hf ((Spec.applies_iff_loose hf).mp happ).1 ⟨rfl, rfl, rfl⟩ trivial
  refine ⟨n, _, h1, h2, h3, hpost _ _ _ _ _ _ ⟨Cond.after_iff.mpr rfl, Cond.after_iff.mpr (eq_i res_at (Term.int_eval (1)) rfl), trivial⟩ ⟨hq.1, hq.2.1, hq.2.2.1, (hq.2.2.2.sift fun y hy => Or.inr (N y hy)).mono (by decide) (by decide)⟩⟩
theorem main_1_1 : Claimed_1_1 := comes_1 fun _ _ _ _ _ _ h hF => ⟨h.1, hF⟩
theorem main_1_2 : Claimed_1_2 := comes_1 fun _ _ _ _ _ _ h hF => ⟨h.2.1, hF⟩
end Jvm.Pilot.@@N@@
namespace Jvm.Pilot.@@N@@
open Jvm Jvm.ClassFile Sem Op Lib Jvm.Free Jvm.Stand Jvm.Pilot.@@N@@.Jvm.D
/-! MADE BY PROGRAM (witnessworld.py) out of the Statement's table words and the real class files: 17 classes; the members and pool entries that the words name. The judged class is class 1, her method 1. -/
namespace start1
open Jvm.ClassFile
def u (s : String) : CpInfo := .utf8 (stringToUtf16 s)
/-- a pool by its gaps: so many unusable entries, then the entry; so many at the end -/
def gap : Nat → List CpInfo → List CpInfo
  | 0, r => r
  | n + 1, r => .unusable :: gap n r
def poolList (es : List (Nat × CpInfo)) (last : Nat) : List CpInfo := es.foldr (fun e r => gap e.1 (e.2 :: r)) (gap last [])
def pool (es : List (Nat × CpInfo)) (last : Nat) : Array CpInfo := ⟨poolList es last⟩
def fileOf (pool : Array CpInfo) (this : Nat) (attrs : Array Attribute := #[]) (ms : Array MethodInfo := #[]) (fl : Nat := 33) (sup : Nat := 0) (ifs : Array Nat := #[]) (fds : Array FieldInfo := #[]) : ClassFile where
  minorVersion := 0
  majorVersion := 65
  constantPool := pool
  accessFlags := fl
  thisClass := this
  superClass := sup
  interfaces := ifs
  fields := fds
  methods := ms
  attributes := attrs
def plain (name : String) (sup : Option ClassId) : Class where
  name := name
  kind := .ordinary
  loader := none
  accessFlags := 33
  super := sup
  interfaces := #[]
  cf := none
  fields := #[]
  methods := #[]
  instanceTypes := #[]
  staticTypes := #[]
  resolved := #[]
  callSites := []
  init := .initialized
  statics := none
  mirror := none

def pool0 : Array CpInfo := pool [(5, u "<init>"), (0, u "()V"), (1, .class_ 10), (1, u "java/lang/Object")] 113

def k0m0 : Method := { name := "<init>", desc := "()V", sig := { parameters := [], returnType := none }, accessFlags := 1, code := none }
/-- java/lang/Object -/
def k0 : Class := { plain "java/lang/Object" none with
  accessFlags := 33
  interfaces := #[]
  cf := some (fileOf pool0 8 #[] #[{ accessFlags := 1, nameIndex := 5, descriptorIndex := 6, attributes := #[] }] 33 0 #[] #[])
  fields := #[]
  methods := #[k0m0]
  instanceTypes := #[]
  staticTypes := #[]
  resolved := Array.replicate 124 none
  statics := none }

def pool1 : Array CpInfo := pool [(2, .class_ 4), (1, u "java/lang/Object"), (0, u "<init>"), (0, u "()V"), (0, .string 8), (0, u "abcdefghijklmnopqrstuvwxyz"), (0, .string 10), (0, u "ABCDEFGHIJKLMNOPQRSTUVWXYZ"), (0, .integer 2147483647), (0, .methodref 13 14), (0, .class_ 15), (0, .nameAndType 16 17), (0, u "java/lang/String"), (0, u "charAt"), (0, u "(I)C"), (0, .methodref 19 20), (0, .class_ 21), (0, .nameAndType 22 23), (0, u "com/example/aftersettle/aftersettle/http/EscapedText"), (0, u "lowerCase"), (0, u "(I)I"), (0, .class_ 25), (0, u "com/example/aftersettle/aftersettle/http/EscapedTextLowerCasePinLaw"), (2, u "law"), (0, u "(II)Z")] 3

def k1m0 : Method := { name := "<init>", desc := "()V", sig := { parameters := [], returnType := none }, accessFlags := 1, code := none }
def k1c1 : Code := { maxStack := 4, maxLocals := 8, code := code, exceptionTable := #[], attributes := #[] }
def k1m1 : Method := { name := "law", desc := "(II)Z", sig := { parameters := [.int, .int], returnType := some .boolean }, accessFlags := 9, code := some k1c1 }
/-- com/example/aftersettle/aftersettle/http/EscapedTextLowerCasePinLaw -/
def k1 : Class := { plain "com/example/aftersettle/aftersettle/http/EscapedTextLowerCasePinLaw" (some 0) with
  accessFlags := 49
  interfaces := #[]
  cf := some (fileOf pool1 24 #[] #[{ accessFlags := 1, nameIndex := 5, descriptorIndex := 6, attributes := #[] }, { accessFlags := 9, nameIndex := 28, descriptorIndex := 29, attributes := #[] }] 49 2 #[] #[])
  fields := #[]
  methods := #[k1m0, k1m1]
  instanceTypes := #[]
  staticTypes := #[]
  resolved := Array.replicate 33 none
  statics := none }

def pool2 : Array CpInfo := pool [(1, .class_ 2), (0, u "java/io/Serializable"), (0, .class_ 4), (0, u "java/lang/Object")] 2

/-- java/io/Serializable -/
def k2 : Class := { plain "java/io/Serializable" (some 0) with
  accessFlags := 1537
  interfaces := #[]
  cf := some (fileOf pool2 1 #[] #[] 1537 3 #[] #[])
  fields := #[]
  methods := #[]
  instanceTypes := #[]
  staticTypes := #[]
  resolved := Array.replicate 7 none
  statics := none }

def pool3 : Array CpInfo := pool [(1, .class_ 2), (0, u "java/lang/Comparable"), (0, .class_ 4), (0, u "java/lang/Object")] 7

/-- java/lang/Comparable -/
def k3 : Class := { plain "java/lang/Comparable" (some 0) with
  accessFlags := 1537
  interfaces := #[]
  cf := some (fileOf pool3 1 #[] #[] 1537 3 #[] #[])
  fields := #[]
  methods := #[]
  instanceTypes := #[]
  staticTypes := #[]
  resolved := Array.replicate 12 none
  statics := none }

def pool4 : Array CpInfo := pool [(2, .class_ 4), (1, u "java/lang/CharSequence"), (42, .class_ 48), (0, u "java/lang/CharSequence$1CodePointIterator"), (10, .class_ 60), (0, u "java/lang/CharSequence$1CharIterator"), (5, .class_ 67), (0, u "java/lang/Object")] 63

/-- java/lang/CharSequence -/
def k4 : Class := { plain "java/lang/CharSequence" (some 0) with
  accessFlags := 1537
  interfaces := #[]
  cf := some (fileOf pool4 2 #[.nestMembers #[47, 59]] #[] 1537 66 #[] #[])
  fields := #[]
  methods := #[]
  instanceTypes := #[]
  staticTypes := #[]
  resolved := Array.replicate 131 none
  statics := none }

def pool5 : Array CpInfo := pool [(1, .class_ 2), (0, u "java/lang/constant/Constable"), (0, .class_ 4), (0, u "java/lang/Object")] 6

/-- java/lang/constant/Constable -/
def k5 : Class := { plain "java/lang/constant/Constable" (some 0) with
  accessFlags := 1537
  interfaces := #[]
  cf := some (fileOf pool5 1 #[] #[] 1537 3 #[] #[])
  fields := #[]
  methods := #[]
  instanceTypes := #[]
  staticTypes := #[]
  resolved := Array.replicate 11 none
  statics := none }

def pool6 : Array CpInfo := pool [(1, .class_ 2), (0, u "java/lang/constant/ConstantDesc"), (0, .class_ 4), (0, u "java/lang/Object")] 32

/-- java/lang/constant/ConstantDesc -/
def k6 : Class := { plain "java/lang/constant/ConstantDesc" (some 0) with
  accessFlags := 1537
  interfaces := #[]
  cf := some (fileOf pool6 1 #[] #[] 1537 3 #[] #[])
  fields := #[]
  methods := #[]
  instanceTypes := #[]
  staticTypes := #[]
  resolved := Array.replicate 37 none
  statics := none }

def pool7 : Array CpInfo := pool [(2, .class_ 4), (1, u "java/lang/Object"), (0, u "<init>"), (0, u "()V"), (2, .fieldref 10 11), (0, .class_ 12), (0, .nameAndType 13 14), (0, u "java/lang/String"), (0, u "value"), (0, u "[B"), (0, .fieldref 10 16), (0, .nameAndType 17 18), (0, u "coder"), (0, u "B"), (2, u "hash"), (0, u "I"), (2, u "hashIsZero"), (0, u "Z"), (11, .fieldref 10 39), (0, .nameAndType 40 26), (0, u "COMPACT_STRINGS"), (66, .class_ 109), (1, u "java/lang/StringLatin1"), (32, u "()Z"), (220, u "([BI)C"), (27, u "(II)V"), (35, u "(I)C"), (64, .methodref 10 493), (0, .nameAndType 494 142), (0, u "isLatin1"), (0, .methodref 107 496), (0, .nameAndType 497 363), (0, u "charAt"), (3, u "checkIndex"), (73, .class_ 576), (0, u "java/lang/CharSequence"), (22, u "CASE_INSENSITIVE_ORDER"), (0, u "Ljava/util/Comparator;"), (452, .fieldref 1054 1055), (0, .class_ 1056), (0, .nameAndType 1057 1058), (0, u "jdk/internal/util/Preconditions"), (0, u "SIOOBE_FORMATTER"), (0, u "Ljava/util/function/BiFunction;"), (0, .methodref 1054 1060), (0, .nameAndType 501 1061), (0, u "(IILjava/util/function/BiFunction;)I"), (39, u "serialPersistentFields"), (0, u "[Ljava/io/ObjectStreamField;"), (0, .class_ 1104), (0, u "java/lang/String$CaseInsensitiveComparator"), (1, .class_ 1107), (0, u "java/io/Serializable"), (0, .class_ 1109), (0, u "java/lang/Comparable"), (0, .class_ 1111), (0, u "java/lang/constant/Constable"), (0, .class_ 1113), (0, u "java/lang/constant/ConstantDesc"), (2, u "serialVersionUID"), (0, u "J"), (3, u "REPL"), (0, u "C"), (2, u "LATIN1"), (1, u "UTF16")] 323

def k7m0 : Method := { name := "<init>", desc := "()V", sig := { parameters := [], returnType := none }, accessFlags := 1, code := none }
def k7c1 : Code := { maxStack := 2, maxLocals := 2, code := jdk_42_method_56_code, exceptionTable := #[], attributes := #[] }
def k7m1 : Method := { name := "charAt", desc := "(I)C", sig := { parameters := [.int], returnType := some .char }, accessFlags := 1, code := some k7c1 }
def k7c2 : Code := { maxStack := 1, maxLocals := 1, code := jdk_42_method_154_code, exceptionTable := #[], attributes := #[] }
def k7m2 : Method := { name := "isLatin1", desc := "()Z", sig := { parameters := [], returnType := some .boolean }, accessFlags := 0, code := some k7c2 }
def k7c3 : Code := { maxStack := 3, maxLocals := 2, code := jdk_42_method_155_code, exceptionTable := #[], attributes := #[] }
def k7m3 : Method := { name := "checkIndex", desc := "(II)V", sig := { parameters := [.int, .int], returnType := none }, accessFlags := 8, code := some k7c3 }
/-- java/lang/String -/
def k7 : Class := { plain "java/lang/String" (some 0) with
  accessFlags := 49
  interfaces := #[2, 3, 4, 5, 6]
  cf := some (fileOf pool7 10 #[.nestMembers #[1103]] #[{ accessFlags := 1, nameIndex := 5, descriptorIndex := 6, attributes := #[] }, { accessFlags := 1, nameIndex := 497, descriptorIndex := 427, attributes := #[] }, { accessFlags := 0, nameIndex := 494, descriptorIndex := 142, attributes := #[] }, { accessFlags := 8, nameIndex := 501, descriptorIndex := 391, attributes := #[] }] 49 2 #[1106, 1108, 575, 1110, 1112] #[{ accessFlags := 18, nameIndex := 13, descriptorIndex := 14, attributes := #[] }, { accessFlags := 18, nameIndex := 17, descriptorIndex := 18, attributes := #[] }, { accessFlags := 2, nameIndex := 21, descriptorIndex := 22, attributes := #[] }, { accessFlags := 2, nameIndex := 25, descriptorIndex := 26, attributes := #[] }, { accessFlags := 26, nameIndex := 1116, descriptorIndex := 1117, attributes := #[] }, { accessFlags := 24, nameIndex := 40, descriptorIndex := 26, attributes := #[] }, { accessFlags := 26, nameIndex := 1101, descriptorIndex := 1102, attributes := #[] }, { accessFlags := 26, nameIndex := 1121, descriptorIndex := 1122, attributes := #[] }, { accessFlags := 25, nameIndex := 599, descriptorIndex := 600, attributes := #[] }, { accessFlags := 24, nameIndex := 1125, descriptorIndex := 18, attributes := #[] }, { accessFlags := 24, nameIndex := 1127, descriptorIndex := 18, attributes := #[] }])
  fields := #[{ name := "value", type := (.array .byte), accessFlags := 18, slot := 0, constantValue := 0 }, { name := "coder", type := .byte, accessFlags := 18, slot := 1, constantValue := 0 }, { name := "hash", type := .int, accessFlags := 2, slot := 2, constantValue := 0 }, { name := "hashIsZero", type := .boolean, accessFlags := 2, slot := 3, constantValue := 0 }, { name := "serialVersionUID", type := .long, accessFlags := 26, slot := 0, constantValue := 0 }, { name := "COMPACT_STRINGS", type := .boolean, accessFlags := 24, slot := 1, constantValue := 0 }, { name := "serialPersistentFields", type := (.array (.object "java/io/ObjectStreamField")), accessFlags := 26, slot := 2, constantValue := 0 }, { name := "REPL", type := .char, accessFlags := 26, slot := 3, constantValue := 0 }, { name := "CASE_INSENSITIVE_ORDER", type := (.object "java/util/Comparator"), accessFlags := 25, slot := 4, constantValue := 0 }, { name := "LATIN1", type := .byte, accessFlags := 24, slot := 5, constantValue := 0 }, { name := "UTF16", type := .byte, accessFlags := 24, slot := 6, constantValue := 0 }]
  methods := #[k7m0, k7m1, k7m2, k7m3]
  instanceTypes := #[(.array .byte), .byte, .int, .boolean]
  staticTypes := #[.long, .boolean, (.array (.object "java/io/ObjectStreamField")), .char, (.object "java/util/Comparator"), .byte, .byte]
  resolved := Array.replicate 1451 none
  statics := some 0 }

def pool8 : Array CpInfo := pool [(1, .class_ 2), (0, u "java/lang/String"), (1, .class_ 6), (1, u "java/lang/Object"), (0, u "<init>"), (0, u "()V"), (0, .methodref 1 10), (0, .nameAndType 11 12), (0, u "checkIndex"), (0, u "(II)V"), (1, .class_ 16), (1, u "java/lang/StringLatin1"), (36, u "([BI)C"), (67, u "$assertionsDisabled"), (0, u "Z"), (98, .class_ 223), (1, u "java/lang/StringLatin1$LinesSpliterator"), (28, u "charAt"), (137, .class_ 391), (0, u "java/lang/StringLatin1$CharsSpliterator")] 3

def k8m0 : Method := { name := "<init>", desc := "()V", sig := { parameters := [], returnType := none }, accessFlags := 0, code := none }
def k8c1 : Code := { maxStack := 2, maxLocals := 2, code := jdk_43_method_2_code, exceptionTable := #[], attributes := #[] }
def k8m1 : Method := { name := "charAt", desc := "([BI)C", sig := { parameters := [(.array .byte), .int], returnType := some .char }, accessFlags := 9, code := some k8c1 }
/-- java/lang/StringLatin1 -/
def k8 : Class := { plain "java/lang/StringLatin1" (some 0) with
  accessFlags := 48
  interfaces := #[]
  cf := some (fileOf pool8 14 #[.nestMembers #[390, 221]] #[{ accessFlags := 0, nameIndex := 7, descriptorIndex := 8, attributes := #[] }, { accessFlags := 9, nameIndex := 252, descriptorIndex := 53, attributes := #[] }] 48 4 #[] #[{ accessFlags := 4120, nameIndex := 121, descriptorIndex := 122, attributes := #[] }])
  fields := #[{ name := "$assertionsDisabled", type := .boolean, accessFlags := 4120, slot := 0, constantValue := 0 }]
  methods := #[k8m0, k8m1]
  instanceTypes := #[]
  staticTypes := #[.boolean]
  resolved := Array.replicate 395 none
  statics := none }

def pool9 : Array CpInfo := pool [(2, .class_ 4), (1, u "java/lang/Object"), (0, u "<init>"), (0, u "()V"), (17, .class_ 26), (1, u "jdk/internal/util/Preconditions"), (6, u "checkIndex"), (21, .class_ 56), (0, u "jdk/internal/util/Preconditions$4"), (57, .class_ 115), (0, u "jdk/internal/util/Preconditions$1"), (7, u "SIOOBE_FORMATTER"), (0, u "Ljava/util/function/BiFunction;"), (0, .class_ 126), (0, u "jdk/internal/util/Preconditions$2"), (3, u "AIOOBE_FORMATTER"), (0, .class_ 132), (0, u "jdk/internal/util/Preconditions$3"), (3, u "IOOBE_FORMATTER"), (41, u "(IILjava/util/function/BiFunction;)I")] 15

def k9m0 : Method := { name := "<init>", desc := "()V", sig := { parameters := [], returnType := none }, accessFlags := 1, code := none }
def k9c1 : Code := { maxStack := 3, maxLocals := 3, code := jdk_41_method_11_code, exceptionTable := #[], attributes := #[] }
def k9m1 : Method := { name := "checkIndex", desc := "(IILjava/util/function/BiFunction;)I", sig := { parameters := [.int, .int, (.object "java/util/function/BiFunction")], returnType := some .int }, accessFlags := 9, code := some k9c1 }
/-- jdk/internal/util/Preconditions -/
def k9 : Class := { plain "jdk/internal/util/Preconditions" (some 0) with
  accessFlags := 33
  interfaces := #[]
  cf := some (fileOf pool9 24 #[.nestMembers #[55, 131, 125, 114]] #[{ accessFlags := 1, nameIndex := 5, descriptorIndex := 6, attributes := #[] }, { accessFlags := 9, nameIndex := 33, descriptorIndex := 178, attributes := #[] }] 33 2 #[] #[{ accessFlags := 25, nameIndex := 123, descriptorIndex := 124, attributes := #[] }, { accessFlags := 25, nameIndex := 130, descriptorIndex := 124, attributes := #[] }, { accessFlags := 25, nameIndex := 136, descriptorIndex := 124, attributes := #[] }])
  fields := #[{ name := "SIOOBE_FORMATTER", type := (.object "java/util/function/BiFunction"), accessFlags := 25, slot := 0, constantValue := 0 }, { name := "AIOOBE_FORMATTER", type := (.object "java/util/function/BiFunction"), accessFlags := 25, slot := 1, constantValue := 0 }, { name := "IOOBE_FORMATTER", type := (.object "java/util/function/BiFunction"), accessFlags := 25, slot := 2, constantValue := 0 }]
  methods := #[k9m0, k9m1]
  instanceTypes := #[]
  staticTypes := #[(.object "java/util/function/BiFunction"), (.object "java/util/function/BiFunction"), (.object "java/util/function/BiFunction")]
  resolved := Array.replicate 194 none
  statics := some 1 }

def pool10 : Array CpInfo := pool [(4, .class_ 6), (1, u "java/lang/Object"), (9, .class_ 18), (1, u "com/example/aftersettle/aftersettle/http/EscapedText"), (0, u "cut"), (0, u "Ljava/util/Optional;"), (8, u "character"), (0, u "[I"), (2, u "end"), (6, u "lowerCase"), (0, u "(I)I"), (24, .class_ 67), (0, u "com/example/aftersettle/aftersettle/http/EscapedText$CutEscape"), (9, u "PAST_CHARACTERS"), (0, u "I"), (1, u "ESCAPE_DIGITS")] 14

def k10c0 : Code := { maxStack := 2, maxLocals := 1, code := prog_15_method_7_code, exceptionTable := #[], attributes := #[] }
def k10m0 : Method := { name := "lowerCase", desc := "(I)I", sig := { parameters := [.int], returnType := some .int }, accessFlags := 8, code := some k10c0 }
/-- com/example/aftersettle/aftersettle/http/EscapedText -/
def k10 : Class := { plain "com/example/aftersettle/aftersettle/http/EscapedText" (some 0) with
  accessFlags := 48
  interfaces := #[]
  cf := some (fileOf pool10 16 #[.nestMembers #[66]] #[{ accessFlags := 8, nameIndex := 40, descriptorIndex := 41, attributes := #[] }] 48 4 #[] #[{ accessFlags := 26, nameIndex := 77, descriptorIndex := 78, attributes := #[] }, { accessFlags := 26, nameIndex := 80, descriptorIndex := 78, attributes := #[] }, { accessFlags := 18, nameIndex := 29, descriptorIndex := 30, attributes := #[] }, { accessFlags := 18, nameIndex := 33, descriptorIndex := 30, attributes := #[] }, { accessFlags := 2, nameIndex := 19, descriptorIndex := 20, attributes := #[] }])
  fields := #[{ name := "PAST_CHARACTERS", type := .int, accessFlags := 26, slot := 0, constantValue := 0 }, { name := "ESCAPE_DIGITS", type := .int, accessFlags := 26, slot := 1, constantValue := 0 }, { name := "character", type := (.array .int), accessFlags := 18, slot := 0, constantValue := 0 }, { name := "end", type := (.array .int), accessFlags := 18, slot := 1, constantValue := 0 }, { name := "cut", type := (.object "java/util/Optional"), accessFlags := 2, slot := 2, constantValue := 0 }]
  methods := #[k10m0]
  instanceTypes := #[(.array .int), (.array .int), (.object "java/util/Optional")]
  staticTypes := #[.int, .int]
  resolved := Array.replicate 95 none
  statics := none }

def pool11 : Array CpInfo := pool [(9, u "<init>"), (6, .class_ 18), (1, u "java/lang/Object"), (0, u "()V"), (1, .class_ 23), (1, u "jdk/internal/util/ArraysSupport"), (0, u "LOG2_ARRAY_LONG_INDEX_SCALE"), (0, u "I"), (2, u "U"), (0, u "Ljdk/internal/misc/Unsafe;"), (8, u "BIG_ENDIAN"), (0, u "Z"), (8, u "LOG2_BYTE_BIT_SIZE"), (4, u "LOG2_ARRAY_INT_INDEX_SCALE"), (54, u "JLA"), (0, u "Ljdk/internal/access/JavaLangAccess;"), (11, u "LOG2_ARRAY_BOOLEAN_INDEX_SCALE"), (9, u "LOG2_ARRAY_BYTE_INDEX_SCALE"), (5, u "LOG2_ARRAY_CHAR_INDEX_SCALE"), (5, u "LOG2_ARRAY_SHORT_INDEX_SCALE"), (18, u "LOG2_ARRAY_FLOAT_INDEX_SCALE"), (24, u "LOG2_ARRAY_DOUBLE_INDEX_SCALE"), (89, u "T_BOOLEAN"), (2, u "T_CHAR"), (1, u "T_FLOAT"), (1, u "T_DOUBLE"), (1, u "T_BYTE"), (1, u "T_SHORT"), (1, u "T_INT"), (1, u "T_LONG"), (1, u "SOFT_MAX_ARRAY_LENGTH")] 83

def k11m0 : Method := { name := "<init>", desc := "()V", sig := { parameters := [], returnType := none }, accessFlags := 2, code := none }
/-- jdk/internal/util/ArraysSupport -/
def k11 : Class := { plain "jdk/internal/util/ArraysSupport" (some 0) with
  accessFlags := 33
  interfaces := #[]
  cf := some (fileOf pool11 21 #[] #[{ accessFlags := 2, nameIndex := 9, descriptorIndex := 19, attributes := #[] }] 33 16 #[] #[{ accessFlags := 24, nameIndex := 28, descriptorIndex := 29, attributes := #[] }, { accessFlags := 26, nameIndex := 38, descriptorIndex := 39, attributes := #[] }, { accessFlags := 25, nameIndex := 121, descriptorIndex := 25, attributes := #[] }, { accessFlags := 25, nameIndex := 131, descriptorIndex := 25, attributes := #[] }, { accessFlags := 25, nameIndex := 137, descriptorIndex := 25, attributes := #[] }, { accessFlags := 25, nameIndex := 143, descriptorIndex := 25, attributes := #[] }, { accessFlags := 25, nameIndex := 53, descriptorIndex := 25, attributes := #[] }, { accessFlags := 25, nameIndex := 24, descriptorIndex := 25, attributes := #[] }, { accessFlags := 25, nameIndex := 162, descriptorIndex := 25, attributes := #[] }, { accessFlags := 25, nameIndex := 187, descriptorIndex := 25, attributes := #[] }, { accessFlags := 26, nameIndex := 48, descriptorIndex := 25, attributes := #[] }, { accessFlags := 25, nameIndex := 277, descriptorIndex := 25, attributes := #[] }, { accessFlags := 25, nameIndex := 280, descriptorIndex := 25, attributes := #[] }, { accessFlags := 25, nameIndex := 282, descriptorIndex := 25, attributes := #[] }, { accessFlags := 25, nameIndex := 284, descriptorIndex := 25, attributes := #[] }, { accessFlags := 25, nameIndex := 286, descriptorIndex := 25, attributes := #[] }, { accessFlags := 25, nameIndex := 288, descriptorIndex := 25, attributes := #[] }, { accessFlags := 25, nameIndex := 290, descriptorIndex := 25, attributes := #[] }, { accessFlags := 25, nameIndex := 292, descriptorIndex := 25, attributes := #[] }, { accessFlags := 26, nameIndex := 108, descriptorIndex := 109, attributes := #[] }, { accessFlags := 25, nameIndex := 294, descriptorIndex := 25, attributes := #[] }])
  fields := #[{ name := "U", type := (.object "jdk/internal/misc/Unsafe"), accessFlags := 24, slot := 0, constantValue := 0 }, { name := "BIG_ENDIAN", type := .boolean, accessFlags := 26, slot := 1, constantValue := 0 }, { name := "LOG2_ARRAY_BOOLEAN_INDEX_SCALE", type := .int, accessFlags := 25, slot := 2, constantValue := 0 }, { name := "LOG2_ARRAY_BYTE_INDEX_SCALE", type := .int, accessFlags := 25, slot := 3, constantValue := 0 }, { name := "LOG2_ARRAY_CHAR_INDEX_SCALE", type := .int, accessFlags := 25, slot := 4, constantValue := 0 }, { name := "LOG2_ARRAY_SHORT_INDEX_SCALE", type := .int, accessFlags := 25, slot := 5, constantValue := 0 }, { name := "LOG2_ARRAY_INT_INDEX_SCALE", type := .int, accessFlags := 25, slot := 6, constantValue := 0 }, { name := "LOG2_ARRAY_LONG_INDEX_SCALE", type := .int, accessFlags := 25, slot := 7, constantValue := 0 }, { name := "LOG2_ARRAY_FLOAT_INDEX_SCALE", type := .int, accessFlags := 25, slot := 8, constantValue := 0 }, { name := "LOG2_ARRAY_DOUBLE_INDEX_SCALE", type := .int, accessFlags := 25, slot := 9, constantValue := 0 }, { name := "LOG2_BYTE_BIT_SIZE", type := .int, accessFlags := 26, slot := 10, constantValue := 0 }, { name := "T_BOOLEAN", type := .int, accessFlags := 25, slot := 11, constantValue := 0 }, { name := "T_CHAR", type := .int, accessFlags := 25, slot := 12, constantValue := 0 }, { name := "T_FLOAT", type := .int, accessFlags := 25, slot := 13, constantValue := 0 }, { name := "T_DOUBLE", type := .int, accessFlags := 25, slot := 14, constantValue := 0 }, { name := "T_BYTE", type := .int, accessFlags := 25, slot := 15, constantValue := 0 }, { name := "T_SHORT", type := .int, accessFlags := 25, slot := 16, constantValue := 0 }, { name := "T_INT", type := .int, accessFlags := 25, slot := 17, constantValue := 0 }, { name := "T_LONG", type := .int, accessFlags := 25, slot := 18, constantValue := 0 }, { name := "JLA", type := (.object "jdk/internal/access/JavaLangAccess"), accessFlags := 26, slot := 19, constantValue := 0 }, { name := "SOFT_MAX_ARRAY_LENGTH", type := .int, accessFlags := 25, slot := 20, constantValue := 0 }]
  methods := #[k11m0]
  instanceTypes := #[]
  staticTypes := #[(.object "jdk/internal/misc/Unsafe"), .boolean, .int, .int, .int, .int, .int, .int, .int, .int, .int, .int, .int, .int, .int, .int, .int, .int, .int, (.object "jdk/internal/access/JavaLangAccess"), .int]
  resolved := Array.replicate 378 none
  statics := none }

def pool12 : Array CpInfo := pool [(1, u "java/lang/Cloneable"), (0, .class_ 1), (0, u "java/lang/Object"), (0, .class_ 3)] 3

/-- java/lang/Cloneable -/
def k12 : Class := { plain "java/lang/Cloneable" (some 0) with
  accessFlags := 1537
  interfaces := #[]
  cf := some (fileOf pool12 2 #[] #[] 1537 4 #[] #[])
  fields := #[]
  methods := #[]
  instanceTypes := #[]
  staticTypes := #[]
  resolved := Array.replicate 8 none
  statics := none }

/-- the primitive byte -/
def k13 : Class := { plain "byte" none with kind := .primitive 'B', accessFlags := 0x411 }
/-- [B -/
def k14 : Class := { plain "[B" (some 0) with kind := .array 13 .byte, interfaces := #[12, 2], accessFlags := 1041 }

/-- the primitive int -/
def k15 : Class := { plain "int" none with kind := .primitive 'I', accessFlags := 0x411 }
/-- [I -/
def k16 : Class := { plain "[I" (some 0) with kind := .array 15 .int, interfaces := #[12, 2], accessFlags := 1041 }

def heap : Heap := #[{ cls := 7, slots := #[.long 0, .int 1, .null, .int 0, .null, .int 0, .int 0], vm := .statics 7 },
  { cls := 9, slots := #[.null, .null, .null], vm := .statics 9 }]
def classes : Array Class := #[k0, k1, k2, k3, k4, k5, k6, k7, k8, k9, k10, k11, k12, k13, k14, k15, k16]
def interned : List (Array UInt16 × Addr) := []
def slotsUsed : Nat := 10
def theMethod : MethodId := ⟨1, 1⟩
def args0 : Array Value := #[.int 5, .int 3]
def aboutOver (below : List Frame) : State where
  vm := { classes := classes, interned := interned.toArray }
  heap := heap
  slotsUsed := slotsUsed
  threads := #[{ frames := .invoking theMethod args0 :: below }]
def below0 : List Frame := [.native { method := ⟨0, 0⟩, args := #[] }]
def about1 : State := aboutOver below0
def p0 : Program := .bare "" "" ""
def e0 : Env := launch0.env 0 0 0
theorem w_frames : about1.frames = Frame.invoking theMethod args0 :: below0 := rfl
set_option maxRecDepth 65536 in
theorem w_args : argsFit about1.vm theMethod args0 = true := by decide +kernel
set_option maxRecDepth 65536 in
theorem w_heap : heapFits about1 = true := by decide +kernel
set_option maxRecDepth 65536 in
theorem w_runnable : about1.curStatus? = some .runnable := by decide +kernel
set_option maxRecDepth 65536 in
theorem w_alone : about1.alone = true := by decide +kernel
set_option maxRecDepth 65536 in
theorem w_named : about1.methodNamed? x = some theMethod := by decide +kernel
set_option maxRecDepth 65536 in
theorem w_hears : about1.hears theMethod below0 = true := by decide +kernel
set_option maxRecDepth 65536 in
theorem w_ripe : about1.ripe theMethod args0 below0 = true := by decide +kernel
theorem w_running : about1.status = .running := rfl
set_option maxRecDepth 65536 in
theorem w_room : about1.hasRoom e0.platform room_1 = true :=
  launch0.hasRoom_least _ room_1 (by decide +kernel) (by decide +kernel) (by decide +kernel) (by decide +kernel) (by decide +kernel) (by decide +kernel)
theorem allAtoms_all (ts : List Jvm.Cond) (a : Array Jvm.Value) (st : Jvm.State) : (allAtoms ts).before a st = ts.all (fun c => c.before a st) := by
  induction ts with
  | nil => rfl
  | cons c t ih =>
    show (Jvm.Cond.and c (allAtoms t)).before a st = _
    rw [Jvm.Cond.before_and, ih, List.all_cons]
def words1 : List Jvm.Cond := Jvm.Cond.code x code maxLocals ret :: tables_1
/-- a 'code' word, met by the world's own term for the bytes: nothing is compared byte by byte -/
theorem code_word {y : MethodName} {bytes : ByteArray} {mx : Nat} {rt : Option FieldType} {a : Array Value} {s : State} {m : MethodId} {meth : Method} {c : Code} (h1 : s.methodNamed? y = some m) (h2 : s.vm.method? m = some meth) (h3 : meth.code = some c) (h4 : c.code = bytes)
    (h5 : (c.maxLocals == mx && c.exceptionTable.isEmpty && decide (c.maxStack ≤ mostOperands) && decide (meth.sig.returnType = rt) && !meth.locks && decide (parseMethodDescriptor y.desc = some meth.sig)) = true) : (Jvm.Cond.code y bytes mx rt).before a s = true := by
  simp only [Bool.and_eq_true, beq_iff_eq, Bool.not_eq_true', decide_eq_true_eq] at h5
  obtain ⟨⟨⟨⟨⟨g1, g2⟩, g3⟩, g4⟩, g5⟩, g6⟩ := h5
  simp [Cond.before, Cond.holds, Cond.value, h1, h2, h3, h4, g1, g2, g3, g4, g5, g6]
def isCode : Jvm.Cond → Bool
  | .code _ _ _ _ => true
  | _ => false
theorem all_split {L : List Jvm.Cond} {P : Jvm.Cond → Bool} (h1 : L.all (fun c => isCode c || P c) = true) (h2 : ∀ c ∈ L.filter isCode, P c = true) : L.all P = true := by
  refine List.all_eq_true.mpr fun c hc => ?_
  have h := List.all_eq_true.mp h1 c hc
  rcases Bool.eq_false_or_eq_true (isCode c) with hi | hi
  · exact h2 c (List.mem_filter.mpr ⟨hc, hi⟩)
  · simpa [hi] using h
set_option maxRecDepth 65536 in
theorem w_c0 : (Jvm.Cond.code x code maxLocals ret).before args0 about1 = true := code_word (m := ⟨1, 1⟩) (meth := k1m1) (c := k1c1) (by decide +kernel) rfl rfl rfl (by decide +kernel)
set_option maxRecDepth 65536 in
theorem w_c1 : (Jvm.Cond.code ({ cls := "java/lang/String", name := "charAt", desc := "(I)C" } : Jvm.MethodName) jdk_42_method_56_code (2 : Nat) (Option.some Jvm.ClassFile.FieldType.char)).before args0 about1 = true := code_word (m := ⟨7, 1⟩) (meth := k7m1) (c := k7c1) (by decide +kernel) rfl rfl rfl (by decide +kernel)
set_option maxRecDepth 65536 in
theorem w_c2 : (Jvm.Cond.code ({ cls := "java/lang/String", name := "isLatin1", desc := "()Z" } : Jvm.MethodName) jdk_42_method_154_code (1 : Nat) (Option.some Jvm.ClassFile.FieldType.boolean)).before args0 about1 = true := code_word (m := ⟨7, 2⟩) (meth := k7m2) (c := k7c2) (by decide +kernel) rfl rfl rfl (by decide +kernel)
set_option maxRecDepth 65536 in
theorem w_c3 : (Jvm.Cond.code ({ cls := "java/lang/StringLatin1", name := "charAt", desc := "([BI)C" } : Jvm.MethodName) jdk_43_method_2_code (2 : Nat) (Option.some Jvm.ClassFile.FieldType.char)).before args0 about1 = true := code_word (m := ⟨8, 1⟩) (meth := k8m1) (c := k8c1) (by decide +kernel) rfl rfl rfl (by decide +kernel)
set_option maxRecDepth 65536 in
theorem w_c4 : (Jvm.Cond.code ({ cls := "java/lang/String", name := "checkIndex", desc := "(II)V" } : Jvm.MethodName) jdk_42_method_155_code (2 : Nat) (Option.none : Option Jvm.ClassFile.FieldType)).before args0 about1 = true := code_word (m := ⟨7, 3⟩) (meth := k7m3) (c := k7c3) (by decide +kernel) rfl rfl rfl (by decide +kernel)
set_option maxRecDepth 65536 in
theorem w_c5 : (Jvm.Cond.code ({ cls := "jdk/internal/util/Preconditions", name := "checkIndex", desc := "(IILjava/util/function/BiFunction;)I" } : Jvm.MethodName) jdk_41_method_11_code (3 : Nat) (Option.some Jvm.ClassFile.FieldType.int)).before args0 about1 = true := code_word (m := ⟨9, 1⟩) (meth := k9m1) (c := k9c1) (by decide +kernel) rfl rfl rfl (by decide +kernel)
set_option maxRecDepth 65536 in
theorem w_c6 : (Jvm.Cond.code ({ cls := "com/example/aftersettle/aftersettle/http/EscapedText", name := "lowerCase", desc := "(I)I" } : Jvm.MethodName) prog_15_method_7_code (1 : Nat) (Option.some Jvm.ClassFile.FieldType.int)).before args0 about1 = true := code_word (m := ⟨10, 0⟩) (meth := k10m0) (c := k10c0) (by decide +kernel) rfl rfl rfl (by decide +kernel)
def codes1 : List Jvm.Cond := [Jvm.Cond.code x code maxLocals ret, Jvm.Cond.code ({ cls := "java/lang/String", name := "charAt", desc := "(I)C" } : Jvm.MethodName) jdk_42_method_56_code (2 : Nat) (Option.some Jvm.ClassFile.FieldType.char), Jvm.Cond.code ({ cls := "java/lang/String", name := "isLatin1", desc := "()Z" } : Jvm.MethodName) jdk_42_method_154_code (1 : Nat) (Option.some Jvm.ClassFile.FieldType.boolean), Jvm.Cond.code ({ cls := "java/lang/StringLatin1", name := "charAt", desc := "([BI)C" } : Jvm.MethodName) jdk_43_method_2_code (2 : Nat) (Option.some Jvm.ClassFile.FieldType.char), Jvm.Cond.code ({ cls := "java/lang/String", name := "checkIndex", desc := "(II)V" } : Jvm.MethodName) jdk_42_method_155_code (2 : Nat) (Option.none : Option Jvm.ClassFile.FieldType), Jvm.Cond.code ({ cls := "jdk/internal/util/Preconditions", name := "checkIndex", desc := "(IILjava/util/function/BiFunction;)I" } : Jvm.MethodName) jdk_41_method_11_code (3 : Nat) (Option.some Jvm.ClassFile.FieldType.int), Jvm.Cond.code ({ cls := "com/example/aftersettle/aftersettle/http/EscapedText", name := "lowerCase", desc := "(I)I" } : Jvm.MethodName) prog_15_method_7_code (1 : Nat) (Option.some Jvm.ClassFile.FieldType.int)]
set_option maxRecDepth 65536 in
theorem codes_eq : words1.filter isCode = codes1 := rfl
theorem w_codes : ∀ c ∈ words1.filter isCode, c.before args0 about1 = true := by
  rw [codes_eq]
  intro c hc
  simp only [codes1, List.mem_cons, List.not_mem_nil, or_false] at hc
  rcases hc with rfl | rfl | rfl | rfl | rfl | rfl | rfl
  · exact w_c0
  · exact w_c1
  · exact w_c2
  · exact w_c3
  · exact w_c4
  · exact w_c5
  · exact w_c6
set_option maxRecDepth 65536 in
theorem w_t1 : (words1.take 24).all (fun c => isCode c || c.before args0 about1) = true := by decide +kernel
set_option maxRecDepth 65536 in
theorem w_t2 : (words1.drop 24).all (fun c => isCode c || c.before args0 about1) = true := by decide +kernel
theorem w_tables : (allAtoms (Jvm.Cond.code x code maxLocals ret :: tables_1)).before args0 about1 = true := by
  rw [allAtoms_all]
  show words1.all (fun c => c.before args0 about1) = true
  refine all_split ?_ w_codes
  rw [← List.take_append_drop 24 words1, List.all_append, w_t1, w_t2]
  rfl
set_option maxRecDepth 65536 in
theorem w_rest : rest_1_c.before args0 about1 = true := by decide +kernel
set_option maxRecDepth 65536 in
theorem w_case : (Jvm.Cond.and given_1 narrow_1).before args0 about1 = true := by decide +kernel
set_option maxRecDepth 65536 in
theorem w_consts : constsHeld consts_1 about1 := Jvm.Lit.constsHeldB_iff.mp (by decide +kernel)
theorem w_applies : (headSpec (Jvm.Cond.code x code maxLocals ret :: tables_1) room_1).applies x e0.platform about1 = true :=
  (Spec.applies_iff w_frames).mpr ⟨w_running, w_runnable, w_alone, w_named, w_hears, w_ripe, w_room, w_tables⟩
theorem atStart : AtStart classFile x code maxLocals ret World_1 tables_1 room_1 Calls_1 rest_1 Pre_1 launch0 p0 e0 about1 theMethod args0 below0 :=
  ⟨lists_1, trivial, launch0.admits_env _ _ _, launch0.least_env, fairChoices_fair.cas, fairChoices_fair.clock, w_frames, w_args, w_heap, w_applies, ⟨w_consts, trivial⟩, w_rest, w_case⟩
end start1
theorem witness_1 : WitnessClaimed_1 := ⟨start1.p0, start1.e0, start1.about1, start1.theMethod, start1.args0, start1.below0, start1.atStart⟩
end Jvm.Pilot.@@N@@
