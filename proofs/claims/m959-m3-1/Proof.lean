import JvmDerived
import JvmDerived.Pilot.@@N@@Statement
import JvmDerived.Pilot.@@N@@Code
set_option linter.unusedVariables false
set_option linter.unusedSimpArgs false
@@BLOCK:NumsL.lean.txt@@
namespace Jvm.RoadKit
open Sem ClassFile Op Lib Jvm.Stand Jvm.Free Jvm.LawKit
section New
variable {p : Program} {l : Launch} {e : Env} {R : Room} {s : State} {m : MethodId} {args : Array Value} {below : List Frame} {meth : Method} {c : Code} {T : State} {locs : List Loc} {cells slots : Nat}
theorem retI (X : Stand p l e R s m args below meth c T locs cells slots) (hx : p.tables.exec = Jvm.exec) {pc : Nat} {Ls : Array Slot} {z : Int32} {rest : List Value} (hret : meth.sig.returnType = some .int) (hd : decode c.code pc = .ok (.ireturn, 1)) {fs : List Frame}
    (hl : ∀ (f : JFrame) (acts : List Action), f.method = m → f.locked = none → f.entered = [] → (doReturn e (T.setTop f) acts (some (.int z))).1 = T.setFrames fs) : Steps p.tables e below (T.setTop (mkF m pc Ls (.int z :: rest))) (T.setFrames fs) := by
  have hm' : T.vm.method? m = some meth := X.method'
  have hn : narrow .int (.int z) = .int z := rfl
  show Steps p.tables e below (T.setTop { method := m, pc := pc, locals := Ls, stack := _ :: rest, locked := none }) _
  jvm_step X.here [X.here.top, hx, hd, hm', hret, hn]
  first | (intro acts; rw [hl _ acts rfl rfl rfl]) | rw [hl _ _ rfl rfl rfl]
  exact Steps.refl _
end New
end Jvm.RoadKit
namespace Jvm.Pilot.@@N@@
open Jvm Jvm.ClassFile Sem Op Lib Jvm.Free Jvm.Stand Jvm.LawKit Jvm.RoadKit Bundle Jvm.Pilot.@@N@@.Jvm.D
/-! the rest of a run, from the state t on: it comes to an end of which P holds -/
def own_At (p : Program) (e : Env) (below : List Frame) (P : Outcome → State → Prop) (t : State) : Prop := ∃ s₂ o, Steps p.tables e below t s₂ ∧ s₂.status = .running ∧ Ended s₂ below o ∧ P o s₂
theorem own_body {p : Program} {e : Env} {below : List Frame} {P : Outcome → State → Prop} {t : State} (h : ∀ P' : Outcome → State → Prop, (∀ o u, P o u → P' o u) → own_At p e below P' t) : own_At p e below P t := h P fun _ _ q => q
theorem own_st {p : Program} {e : Env} {below : List Frame} {P : Outcome → State → Prop} {t t' : State} (h : ∀ target, Steps p.tables e below t' target → Steps p.tables e below t target) (k : own_At p e below P t') : own_At p e below P t := by
  obtain ⟨s₂, o, h1, h2⟩ := k
  exact ⟨s₂, o, h _ h1, h2⟩
theorem own_tr {p : Program} {e : Env} {below : List Frame} {P : Outcome → State → Prop} {t t' : State} (h : Steps p.tables e below t t') (k : own_At p e below P t') : own_At p e below P t := by
  obtain ⟨s₂, o, h1, h2⟩ := k
  exact ⟨s₂, o, h.trans h1, h2⟩
theorem own_sta {s : State} {a : Array Value} {C n d : String} {z : Int32} (h : (Jvm.Cond.eq (Jvm.Term.static C n d) (Jvm.Term.int z)).value a s none s [] = some true) (hi : (Cond.initializedFor C n d).before a s = true ∨ ((Cond.initialized C).before a s = true ∧ (Cond.laysStatic C n d).before a s = true)) : Sta s s.heap C n d (.int z) := Sta.start (eqv_i rfl h) hi
theorem own_staL {s : State} {a : Array Value} {C n d : String} {z : Int64} (h : (Jvm.Cond.eq (Jvm.Term.static C n d) (Jvm.Term.long z)).value a s none s [] = some true) (hi : (Cond.initializedFor C n d).before a s = true ∨ ((Cond.initialized C).before a s = true ∧ (Cond.laysStatic C n d).before a s = true)) : Sta s s.heap C n d (.long z) := Sta.start (eqv_l rfl h) hi
theorem own_enum {s : State} {a : Array Value} {C n d K : String} (h : (Jvm.Cond.exactly (Jvm.Term.static C n d) K).value a s none s [] = some true) (hi : (Cond.initializedFor C n d).before a s = true ∨ ((Cond.initialized C).before a s = true ∧ (Cond.laysStatic C n d).before a s = true)) : ∃ r : Addr, (Jvm.Term.static C n d).eval a s none [] s = some (.ref r) ∧ Sta s s.heap C n d (.ref r) ∧ Exa s s.heap r K := by
  obtain ⟨r, c', cell, k, e1, -⟩ := Cond.exactly_spec (Cond.before_iff.mpr h)
  exact ⟨r, e1, Sta.start e1 hi, Exa.start e1 h⟩
theorem own_ord {s : State} {a : Array Value} {t : Jvm.Term} {C n d : String} {r : Addr} {z : Int32} (e : t.eval a s none [] s = some (.ref r)) (h : (Jvm.Cond.eq (Jvm.Term.field t C n d) (Jvm.Term.int z)).value a s none s [] = some true) : s.fieldOf? r C n d = some (.int z) := by
  have q := eqv_i (F := Jvm.Term.int z) rfl h
  simpa [Term.eval, e] using q
theorem own_ne {s : State} {r r' : Addr} {C n d : String} {z z' : Int32} (h : s.fieldOf? r C n d = some (.int z)) (h' : s.fieldOf? r' C n d = some (.int z')) (q : z ≠ z') : r ≠ r' := fun e => by
  subst e
  exact q (Value.int.inj (Option.some.inj (h.symm.trans h')))

theorem own_staK {Z : State} {h h' : Heap} {C n d B : String} {w : Value} {x : Addr} (F : Sta Z h C n d w) (K : Keep h h' [x]) (E : Exa Z h x B) : Sta Z h' C n d w := by
  obtain ⟨cf, i, k, f, st, cell, h1, h2, h3, h4, h5, h6, h7⟩ := F
  obtain ⟨cb, kb, g1, -, -, g4, -⟩ := E
  have ne : st ≠ x := fun q => by
    subst q
    cases h5.symm.trans g1
    rw [h6] at g4; cases g4
  exact ⟨cf, i, k, f, st, cell, h1, h2, h3, h4, K.2.1 _ _ h5 (by simpa using ne), h6, h7⟩
theorem own_nin {a x : Addr} (h : a ≠ x) : a ∉ [x] := by simpa using h

def own_max (a b : Int32) : Int32 := if a < b then b else a

theorem own_lc {a b : Int64} (h : a = b) : lcmpW a b = (0 : Int32) := by
  subst h
  simp [lcmpW, Int64.lt_irrefl]
theorem own_ct (p : Int32) : 0 ≤ (p &&& (1073741823 : Int32)).toInt ∧ (p &&& (1073741823 : Int32)).toInt ≤ 1073741823 := by
  have e1 : (p &&& (1073741823 : Int32)).toInt = p.toInt % 2 ^ 30 := Jvm.Kit.i32_mask p 1073741823 (k := 30) (by decide) (by decide)
  omega
theorem own_nz {c : Int32} (h : ¬ c = (0 : Int32)) : c.toInt ≠ 0 := fun q => h (Int32.toInt_inj.mp q)
theorem own_nu (p : Int32) {c : Int32} (hc : 0 ≤ c.toInt ∧ c.toInt ≤ 1073741823) (h : ¬ c = (0 : Int32)) : 0 ≤ ((p &&& (2147483647 : Int32)) % c).toInt ∧ ((p &&& (2147483647 : Int32)) % c).toInt < c.toInt := by
  have e1 : (p &&& (2147483647 : Int32)).toInt = p.toInt % 2 ^ 31 := Jvm.Kit.i32_mask p 2147483647 (k := 31) (by decide) (by decide)
  have q := own_nz h
  rw [Jvm.Kit.i32_rem_nonneg (by omega)]
  exact ⟨Int.emod_nonneg _ q, Int.emod_lt_of_pos _ (by omega)⟩
theorem own_m2 {n : Int32} (h : 0 ≤ n.toInt ∧ n.toInt ≤ 1073741823) : ((2 : Int32) * n).toInt = 2 * n.toInt := by
  have l2 : (2 : Int32).toInt = 2 := rfl
  rw [Jvm.Kit.i32_mul (by rw [l2]; omega) (by rw [l2]; omega), l2]
theorem own_2c {c : Int32} (hc : 0 ≤ c.toInt ∧ c.toInt ≤ 1073741823) : (((2 : Int32) * c).toInt64) = ((2 : Int64) * (c.toInt64)) := by
  have l2 : (2 : Int64).toInt = 2 := rfl
  have e := Jvm.Kit.i64_of_i32 c
  rw [← Int64.toInt_inj, Jvm.Kit.i64_of_i32, own_m2 hc, Jvm.Kit.i64_mul (by rw [l2]; omega) (by rw [l2]; omega), l2, e]
theorem own_z2 {c : Int32} (h : c = (0 : Int32)) : ((2 : Int32) * c) = (0 : Int32) := by subst h; rfl
theorem own_s1 (p : Int32) : ¬ ((p + (1 : Int32)) = p) := fun q => by
  have h : (1 : Int32) = 0 := by
    have := congrArg (fun z => z - p) q
    simpa [Int32.add_comm p, Int32.add_sub_cancel, Int32.sub_self] using this
  exact absurd h (by decide)
theorem own_nn {c n : Int32} (h : 0 ≤ n.toInt ∧ n.toInt < c.toInt) : ¬ (n < (0 : Int32)) := by
  have l0 : (0 : Int32).toInt = 0 := rfl
  rw [Int32.lt_iff_toInt_lt]; omega
theorem own_lu {c n : Int32} (h : 0 ≤ n.toInt ∧ n.toInt < c.toInt) : n < c := by rw [Int32.lt_iff_toInt_lt]; omega
theorem own_f {c n : Int32} (hc : 0 ≤ c.toInt ∧ c.toInt ≤ 1073741823) (h : 0 ≤ n.toInt ∧ n.toInt < c.toInt) : (((2 : Int32) * n) + (0 : Int32)).toInt = 2 * n.toInt ∧ (((2 : Int32) * n) + (1 : Int32)).toInt = 2 * n.toInt + 1 := by
  have l0 : (0 : Int32).toInt = 0 := rfl
  have l1 : (1 : Int32).toInt = 1 := rfl
  have e := own_m2 (n := n) (by omega)
  rw [Jvm.Kit.i32_add (by omega) (by omega), Jvm.Kit.i32_add (by omega) (by omega), e]
  omega
theorem own_n0 {c n : Int32} (hc : 0 ≤ c.toInt ∧ c.toInt ≤ 1073741823) (h : 0 ≤ n.toInt ∧ n.toInt < c.toInt) : ¬ ((((2 : Int32) * n) + (0 : Int32)) < (0 : Int32)) := by
  have l0 : (0 : Int32).toInt = 0 := rfl
  rw [Int32.lt_iff_toInt_lt, (own_f hc h).1]; omega
theorem own_n1 {c n : Int32} (hc : 0 ≤ c.toInt ∧ c.toInt ≤ 1073741823) (h : 0 ≤ n.toInt ∧ n.toInt < c.toInt) : ¬ ((((2 : Int32) * n) + (1 : Int32)) < (0 : Int32)) := by
  have l0 : (0 : Int32).toInt = 0 := rfl
  rw [Int32.lt_iff_toInt_lt, (own_f hc h).2]; omega
theorem own_l0 {c n : Int32} (hc : 0 ≤ c.toInt ∧ c.toInt ≤ 1073741823) (h : 0 ≤ n.toInt ∧ n.toInt < c.toInt) : (((2 : Int32) * n) + (0 : Int32)) < ((2 : Int32) * c) := by
  rw [Int32.lt_iff_toInt_lt, (own_f hc h).1, own_m2 hc]; omega
theorem own_l1 {c n : Int32} (hc : 0 ≤ c.toInt ∧ c.toInt ≤ 1073741823) (h : 0 ≤ n.toInt ∧ n.toInt < c.toInt) : (((2 : Int32) * n) + (1 : Int32)) < ((2 : Int32) * c) := by
  rw [Int32.lt_iff_toInt_lt, (own_f hc h).2, own_m2 hc]; omega
theorem own_maxs (a : Int32) : (own_max a a) = a := by unfold own_max; split <;> rfl
theorem own_maxd {c : Int32} (hc : 0 ≤ c.toInt ∧ c.toInt ≤ 1073741823) (h : ¬ c = (0 : Int32)) : (own_max (((2 : Int32) * (c - (1 : Int32))) + (0 : Int32)) (((2 : Int32) * (c - (1 : Int32))) + (1 : Int32))) = (((2 : Int32) * c) - (1 : Int32)) := by
  have q := own_nz h
  have l1 : (1 : Int32).toInt = 1 := rfl
  have e1 : (c - (1 : Int32)).toInt = c.toInt - 1 := by rw [Jvm.Kit.i32_sub (by omega) (by omega), l1]
  have k := own_f (c := c) (n := c - (1 : Int32)) hc (by omega)
  have lt : (((2 : Int32) * (c - (1 : Int32))) + (0 : Int32)) < (((2 : Int32) * (c - (1 : Int32))) + (1 : Int32)) := by rw [Int32.lt_iff_toInt_lt, k.1, k.2]; omega
  have e2 : (((2 : Int32) * c) - (1 : Int32)).toInt = 2 * c.toInt - 1 := by rw [Jvm.Kit.i32_sub (by rw [own_m2 hc]; omega) (by rw [own_m2 hc]; omega), own_m2 hc, l1]
  rw [own_max, if_pos lt, ← Int32.toInt_inj, k.2, e2, e1]
  omega

theorem own_rm1_d0 : decode jdk_30_method_1_code 0 = .ok (.aload_n 0, 1) := by decide +kernel
theorem own_rm1_d1 : decode jdk_30_method_1_code 1 = .ok (.invokespecial 1, 3) := by decide +kernel
theorem own_rm1_d4 : decode jdk_30_method_1_code 4 = .ok (.return_, 1) := by decide +kernel
theorem own_rm1_pn : plainName "java/lang/Record" = true := by first | (simp [plainName, overriddenIn]; done) | decide +kernel
theorem own_rm1_ef (m : MethodId) (x0 : Addr) : entryFrame m #[(.ref x0)] 1 = mkF m 0 #[.val (.ref x0)] [] := by first | (simp [entryFrame, mkF, argsToLocals, Value.category]; done) | rfl
def own_rm1_Q (Z : State) (a1 : Addr) (h0 : Heap) (n0 : Nat) (v : Option Value) (h : Heap) (L : List Loc) : Prop := v = none ∧ Fr n0 L ∧ h = h0
set_option maxRecDepth 65536 in
set_option maxHeartbeats 40000000 in
theorem own_rm1 (l : Launch) (Z : State) (a0 : Array Value) (hw : ∀ d ∈ tables_1, d.before a0 Z = true) (ws : List Jvm.Cond) (a1 : Addr) (h0 : Heap) (n0 : Nat) (Z0 : n0 ≤ h0.size) :
    MetFree l (⟨"java/lang/Record", "<init>", "()V"⟩ : MethodName) (head1 (Jvm.Cond.code (⟨"java/lang/Record", "<init>", "()V"⟩ : MethodName) jdk_30_method_1_code 1 none :: ws) ({ frames := 1, cells := 0, slots := 0, locals := 12 } : Room)) (fun a U => a = #[(.ref a1)] ∧ Z.Warmed39 U.vm ∧ U.heap = h0) (fun _ _ _ _ _ => True) (fun _ U o U' => ∃ v L, o = .returned v ∧ own_rm1_Q Z a1 h0 n0 v U'.heap L ∧ FrameEnd U o U' L ({ frames := 1, cells := 0, slots := 0, locals := 12 } : Room).cells ({ frames := 1, cells := 0, slots := 0, locals := 12 } : Room).slots) := by
  refine MetFree.of_bodySF (plainFor_of_name own_rm1_pn) hisR ?_
  intro p e s m args below meth c s₁ Bd hml0 hPre hK
  obtain ⟨rfl, hZ, hh⟩ := hPre
  have hx := Bd.exec
  have hby := Bd.bytes
  have hml : c.maxLocals = 1 := hml0
  have hown : s.vm.findClass "java/lang/Record" = some m.cls := findClass_of_methodNamed Bd.named
  have hnm := (name_of_methodNamed Bd.named Bd.method).1
  have X0 : Stand p l e ({ frames := 1, cells := 0, slots := 0, locals := 12 } : Room) s m #[(.ref a1)] below meth c s₁ [] 0 0 := Stand.of_body Bd
  have e0 : s₁.heap = h0 := by rw [← hh, Bd.state]; rfl
  have N0 := Fr.nil n0
  refine own_body fun P hP => ?_
  refine own_st (t' := s₁.setTop (mkF m 0 #[.val (.ref a1)] [])) (fun _ k => castTop (own_rm1_ef m a1) k) ?_
  refine own_st (t' := s₁.setTop (mkF m 1 #[.val (.ref a1)] [(.ref a1)])) (fun _ k => XS.aloadN X0.here hx rfl (hb hby own_rm1_d0) rfl rfl k) ?_
  obtain ⟨T1, X1, e1, st1⟩ := initO X0 hx hZ hown (hw _ (List.mem_of_getElem? (i := 46) rfl)) (hw _ (List.mem_of_getElem? (i := 47) rfl)) (hw _ (List.mem_of_getElem? (i := 48) rfl)) e0 (g := (mkF m 1 #[.val (.ref a1)] [(.ref a1)])) rfl (by rw [hml]; rfl) rfl (hb hby own_rm1_d1) (by decide) (W := 0) (by show 2 * 0 + _ ≤ _; exact Nat.le_of_eq rfl) (by decide)
  refine own_st (t' := T1.setTop (mkF m 4 #[.val (.ref a1)] [])) st1 ?_
  obtain ⟨fs, hr, hrun, hended, hW, hsame⟩ := X1.leave (v := none) (fun _ => rfl)
  exact ⟨_, _, X1.returnOut hx Bd.returns (hb hby own_rm1_d4) hr, hrun, hended, hP _ _ ⟨_, _, rfl, ⟨rfl, N0, e1⟩, ⟨_, rfl⟩, hW, hsame.mono (by decide) (by decide)⟩⟩

theorem own_rm2_d0 : decode jdk_37_method_2_code 0 = .ok (.aload_n 0, 1) := by decide +kernel
theorem own_rm2_d1 : decode jdk_37_method_2_code 1 = .ok (.getfield 7, 3) := by decide +kernel
theorem own_rm2_d4 : decode jdk_37_method_2_code 4 = .ok (.ireturn, 1) := by decide +kernel
theorem own_rm2_pn : plainName "java/lang/Enum" = true := by first | (simp [plainName, overriddenIn]; done) | decide +kernel
theorem own_rm2_ef (m : MethodId) (x0 : Addr) : entryFrame m #[(.ref x0)] 1 = mkF m 0 #[.val (.ref x0)] [] := by first | (simp [entryFrame, mkF, argsToLocals, Value.category]; done) | rfl
def own_rm2_Q (Z : State) (a1 : Addr) (w : Int32) (h0 : Heap) (n0 : Nat) (v : Option Value) (h : Heap) (L : List Loc) : Prop := v = some (.int (w)) ∧ Fr n0 L ∧ h = h0
set_option maxRecDepth 65536 in
set_option maxHeartbeats 40000000 in
theorem own_rm2 (l : Launch) (Z : State) (a0 : Array Value) (hw : ∀ d ∈ tables_1, d.before a0 Z = true) (ws : List Jvm.Cond) (a1 : Addr) (w : Int32) (h0 : Heap) (n0 : Nat) (Z0 : n0 ≤ h0.size) (F : Fld Z h0 a1 "java/lang/Enum" "ordinal" "I" (.int w)) :
    MetFree l (⟨"java/lang/Enum", "ordinal", "()I"⟩ : MethodName) (head1 (Jvm.Cond.code (⟨"java/lang/Enum", "ordinal", "()I"⟩ : MethodName) jdk_37_method_2_code 1 (some .int) :: ws) ({ frames := 0, cells := 0, slots := 0, locals := 0 } : Room)) (fun a U => a = #[(.ref a1)] ∧ Z.Warmed39 U.vm ∧ U.heap = h0) (fun _ _ _ _ _ => True) (fun _ U o U' => ∃ v L, o = .returned v ∧ own_rm2_Q Z a1 w h0 n0 v U'.heap L ∧ FrameEnd U o U' L ({ frames := 0, cells := 0, slots := 0, locals := 0 } : Room).cells ({ frames := 0, cells := 0, slots := 0, locals := 0 } : Room).slots) := by
  refine MetFree.of_bodySF (plainFor_of_name own_rm2_pn) hisR ?_
  intro p e s m args below meth c s₁ Bd hml0 hPre hK
  obtain ⟨rfl, hZ, hh⟩ := hPre
  have hx := Bd.exec
  have hby := Bd.bytes
  have hml : c.maxLocals = 1 := hml0
  have hown : s.vm.findClass "java/lang/Enum" = some m.cls := findClass_of_methodNamed Bd.named
  have hnm := (name_of_methodNamed Bd.named Bd.method).1
  have X0 : Stand p l e ({ frames := 0, cells := 0, slots := 0, locals := 0 } : Room) s m #[(.ref a1)] below meth c s₁ [] 0 0 := Stand.of_body Bd
  have e0 : s₁.heap = h0 := by rw [← hh, Bd.state]; rfl
  have N0 := Fr.nil n0
  refine own_body fun P hP => ?_
  refine own_st (t' := s₁.setTop (mkF m 0 #[.val (.ref a1)] [])) (fun _ k => castTop (own_rm2_ef m a1) k) ?_
  refine own_st (t' := s₁.setTop (mkF m 1 #[.val (.ref a1)] [(.ref a1)])) (fun _ k => XS.aloadN X0.here hx rfl (hb hby own_rm2_d0) rfl rfl k) ?_
  obtain ⟨T1, X1, e1, st1⟩ := getF X0 hx hZ hown (host := "") (Or.inl (hw _ (List.mem_of_getElem? (i := 16) rfl))) Via.refl e0 F (g := (mkF m 1 #[.val (.ref a1)] [(.ref a1)])) rfl rfl (hb hby own_rm2_d1)
  refine own_st (t' := T1.setTop (mkF m 4 #[.val (.ref a1)] [(.int w)])) st1 ?_
  have hv2 : w = w := rfl
  obtain ⟨fs, hr, hrun, hended, hW, hsame⟩ := X1.leave (v := some (.int w)) (fun h => by rw [Bd.returns] at h; cases h)
  exact ⟨_, _, retI X1 hx Bd.returns (hb hby own_rm2_d4) hr, hrun, hended, hP _ _ ⟨_, _, rfl, ⟨(congrArg (fun z => some (Value.int z)) hv2), N0, e1⟩, ⟨_, rfl⟩, hW, hsame.mono (by decide) (by decide)⟩⟩

theorem own_rm3_d0 : decode prog_15_method_6_code 0 = .ok (.aload_n 0, 1) := by decide +kernel
theorem own_rm3_d1 : decode prog_15_method_6_code 1 = .ok (.getfield 13, 3) := by decide +kernel
theorem own_rm3_d4 : decode prog_15_method_6_code 4 = .ok (.ireturn, 1) := by decide +kernel
theorem own_rm3_pn : plainName "com/example/lambdaloom/lambdaloom/Network$Link" = true := by first | (simp [plainName, overriddenIn]; done) | decide +kernel
theorem own_rm3_ef (m : MethodId) (x0 : Addr) : entryFrame m #[(.ref x0)] 1 = mkF m 0 #[.val (.ref x0)] [] := by first | (simp [entryFrame, mkF, argsToLocals, Value.category]; done) | rfl
def own_rm3_Q (Z : State) (a1 : Addr) (w : Int32) (h0 : Heap) (n0 : Nat) (v : Option Value) (h : Heap) (L : List Loc) : Prop := v = some (.int (w)) ∧ Fr n0 L ∧ h = h0
set_option maxRecDepth 65536 in
set_option maxHeartbeats 40000000 in
theorem own_rm3 (l : Launch) (Z : State) (a0 : Array Value) (hw : ∀ d ∈ tables_1, d.before a0 Z = true) (ws : List Jvm.Cond) (a1 : Addr) (w : Int32) (h0 : Heap) (n0 : Nat) (Z0 : n0 ≤ h0.size) (F : Fld Z h0 a1 "com/example/lambdaloom/lambdaloom/Network$Link" "source" "I" (.int w)) :
    MetFree l (⟨"com/example/lambdaloom/lambdaloom/Network$Link", "source", "()I"⟩ : MethodName) (head1 (Jvm.Cond.code (⟨"com/example/lambdaloom/lambdaloom/Network$Link", "source", "()I"⟩ : MethodName) prog_15_method_6_code 1 (some .int) :: ws) ({ frames := 0, cells := 0, slots := 0, locals := 0 } : Room)) (fun a U => a = #[(.ref a1)] ∧ Z.Warmed39 U.vm ∧ U.heap = h0) (fun _ _ _ _ _ => True) (fun _ U o U' => ∃ v L, o = .returned v ∧ own_rm3_Q Z a1 w h0 n0 v U'.heap L ∧ FrameEnd U o U' L ({ frames := 0, cells := 0, slots := 0, locals := 0 } : Room).cells ({ frames := 0, cells := 0, slots := 0, locals := 0 } : Room).slots) := by
  refine MetFree.of_bodySF (plainFor_of_name own_rm3_pn) hisR ?_
  intro p e s m args below meth c s₁ Bd hml0 hPre hK
  obtain ⟨rfl, hZ, hh⟩ := hPre
  have hx := Bd.exec
  have hby := Bd.bytes
  have hml : c.maxLocals = 1 := hml0
  have hown : s.vm.findClass "com/example/lambdaloom/lambdaloom/Network$Link" = some m.cls := findClass_of_methodNamed Bd.named
  have hnm := (name_of_methodNamed Bd.named Bd.method).1
  have X0 : Stand p l e ({ frames := 0, cells := 0, slots := 0, locals := 0 } : Room) s m #[(.ref a1)] below meth c s₁ [] 0 0 := Stand.of_body Bd
  have e0 : s₁.heap = h0 := by rw [← hh, Bd.state]; rfl
  have N0 := Fr.nil n0
  refine own_body fun P hP => ?_
  refine own_st (t' := s₁.setTop (mkF m 0 #[.val (.ref a1)] [])) (fun _ k => castTop (own_rm3_ef m a1) k) ?_
  refine own_st (t' := s₁.setTop (mkF m 1 #[.val (.ref a1)] [(.ref a1)])) (fun _ k => XS.aloadN X0.here hx rfl (hb hby own_rm3_d0) rfl rfl k) ?_
  obtain ⟨T1, X1, e1, st1⟩ := getF X0 hx hZ hown (host := "") (Or.inl (hw _ (List.mem_of_getElem? (i := 51) rfl))) Via.refl e0 F (g := (mkF m 1 #[.val (.ref a1)] [(.ref a1)])) rfl rfl (hb hby own_rm3_d1)
  refine own_st (t' := T1.setTop (mkF m 4 #[.val (.ref a1)] [(.int w)])) st1 ?_
  have hv2 : w = w := rfl
  obtain ⟨fs, hr, hrun, hended, hW, hsame⟩ := X1.leave (v := some (.int w)) (fun h => by rw [Bd.returns] at h; cases h)
  exact ⟨_, _, retI X1 hx Bd.returns (hb hby own_rm3_d4) hr, hrun, hended, hP _ _ ⟨_, _, rfl, ⟨(congrArg (fun z => some (Value.int z)) hv2), N0, e1⟩, ⟨_, rfl⟩, hW, hsame.mono (by decide) (by decide)⟩⟩

theorem own_rm4_d0 : decode prog_15_method_1_code 0 = .ok (.aload_n 0, 1) := by decide +kernel
theorem own_rm4_d1 : decode prog_15_method_1_code 1 = .ok (.invokespecial 1, 3) := by decide +kernel
theorem own_rm4_d4 : decode prog_15_method_1_code 4 = .ok (.aload_n 0, 1) := by decide +kernel
theorem own_rm4_d5 : decode prog_15_method_1_code 5 = .ok (.aload_n 1, 1) := by decide +kernel
theorem own_rm4_d6 : decode prog_15_method_1_code 6 = .ok (.putfield 7, 3) := by decide +kernel
theorem own_rm4_d9 : decode prog_15_method_1_code 9 = .ok (.aload_n 0, 1) := by decide +kernel
theorem own_rm4_d10 : decode prog_15_method_1_code 10 = .ok (.iload_n 2, 1) := by decide +kernel
theorem own_rm4_d11 : decode prog_15_method_1_code 11 = .ok (.putfield 13, 3) := by decide +kernel
theorem own_rm4_d14 : decode prog_15_method_1_code 14 = .ok (.aload_n 0, 1) := by decide +kernel
theorem own_rm4_d15 : decode prog_15_method_1_code 15 = .ok (.iload_n 3, 1) := by decide +kernel
theorem own_rm4_d16 : decode prog_15_method_1_code 16 = .ok (.putfield 17, 3) := by decide +kernel
theorem own_rm4_d19 : decode prog_15_method_1_code 19 = .ok (.return_, 1) := by decide +kernel
theorem own_rm4_pn : plainName "com/example/lambdaloom/lambdaloom/Network$Link" = true := by first | (simp [plainName, overriddenIn]; done) | decide +kernel
theorem own_rm4_pd0 : parseMethodDescriptor "()V" = some ⟨[], none⟩ := by decide +kernel
theorem own_rm4_ef (m : MethodId) (x0 : Addr) (x1 : Addr) (x2 : Int32) (x3 : Int32) : entryFrame m #[(.ref x0), (.ref x1), (.int x2), (.int x3)] 4 = mkF m 0 #[.val (.ref x0), .val (.ref x1), .val (.int x2), .val (.int x3)] [] := by first | (simp [entryFrame, mkF, argsToLocals, Value.category]; done) | rfl
def own_rm4_Q (Z : State) (a1 : Addr) (a2 : Addr) (p1 : Int32) (p2 : Int32) (h0 : Heap) (n0 : Nat) (v : Option Value) (h : Heap) (L : List Loc) : Prop := v = none ∧ Fr n0 L ∧ Keep h0 h [a1] ∧ Exa Z h a1 "com/example/lambdaloom/lambdaloom/Network$Link" ∧ Fld Z h a1 "com/example/lambdaloom/lambdaloom/Network$Link" "id" "Ljava/lang/String;" (.ref a2) ∧ Fld Z h a1 "com/example/lambdaloom/lambdaloom/Network$Link" "source" "I" (.int p1) ∧ Fld Z h a1 "com/example/lambdaloom/lambdaloom/Network$Link" "target" "I" (.int p2)
set_option maxRecDepth 65536 in
set_option maxHeartbeats 40000000 in
theorem own_rm4 (l : Launch) (Z : State) (a0 : Array Value) (hw : ∀ d ∈ tables_1, d.before a0 Z = true) (ws : List Jvm.Cond) (a1 : Addr) (a2 : Addr) (p1 : Int32) (p2 : Int32) (h0 : Heap) (n0 : Nat) (Z0 : n0 ≤ h0.size) (E_a1 : Exa Z h0 a1 "com/example/lambdaloom/lambdaloom/Network$Link") (F_id : Fld Z h0 a1 "com/example/lambdaloom/lambdaloom/Network$Link" "id" "Ljava/lang/String;" .null) (F_source : Fld Z h0 a1 "com/example/lambdaloom/lambdaloom/Network$Link" "source" "I" (.int (0 : Int32))) (F_target : Fld Z h0 a1 "com/example/lambdaloom/lambdaloom/Network$Link" "target" "I" (.int (0 : Int32))) (bg_a1 : n0 ≤ a1) :
    MetFree l (⟨"com/example/lambdaloom/lambdaloom/Network$Link", "<init>", "(Ljava/lang/String;II)V"⟩ : MethodName) (head1 (Jvm.Cond.code (⟨"com/example/lambdaloom/lambdaloom/Network$Link", "<init>", "(Ljava/lang/String;II)V"⟩ : MethodName) prog_15_method_1_code 4 none :: ws) ({ frames := 2, cells := 0, slots := 0, locals := 24 } : Room)) (fun a U => a = #[(.ref a1), (.ref a2), (.int p1), (.int p2)] ∧ Z.Warmed39 U.vm ∧ U.heap = h0) (fun _ _ _ _ _ => True) (fun _ U o U' => ∃ v L, o = .returned v ∧ own_rm4_Q Z a1 a2 p1 p2 h0 n0 v U'.heap L ∧ FrameEnd U o U' L ({ frames := 2, cells := 0, slots := 0, locals := 24 } : Room).cells ({ frames := 2, cells := 0, slots := 0, locals := 24 } : Room).slots) := by
  refine MetFree.of_bodySF (plainFor_of_name own_rm4_pn) hisR ?_
  intro p e s m args below meth c s₁ Bd hml0 hPre hK
  obtain ⟨rfl, hZ, hh⟩ := hPre
  have hx := Bd.exec
  have hby := Bd.bytes
  have hml : c.maxLocals = 4 := hml0
  have hown : s.vm.findClass "com/example/lambdaloom/lambdaloom/Network$Link" = some m.cls := findClass_of_methodNamed Bd.named
  have hnm := (name_of_methodNamed Bd.named Bd.method).1
  have X0 : Stand p l e ({ frames := 2, cells := 0, slots := 0, locals := 24 } : Room) s m #[(.ref a1), (.ref a2), (.int p1), (.int p2)] below meth c s₁ [] 0 0 := Stand.of_body Bd
  have e0 : s₁.heap = h0 := by rw [← hh, Bd.state]; rfl
  have N0 := Fr.nil n0
  refine own_body fun P hP => ?_
  refine own_st (t' := s₁.setTop (mkF m 0 #[.val (.ref a1), .val (.ref a2), .val (.int p1), .val (.int p2)] [])) (fun _ k => castTop (own_rm4_ef m a1 a2 p1 p2) k) ?_
  refine own_st (t' := s₁.setTop (mkF m 1 #[.val (.ref a1), .val (.ref a2), .val (.int p1), .val (.int p2)] [(.ref a1)])) (fun _ k => XS.aloadN X0.here hx rfl (hb hby own_rm4_d0) rfl rfl k) ?_
  obtain ⟨_, _, ⟨T1, L1, k1, n1⟩, -, X1, ⟨Lc1, hQ1, l1, y1, z1⟩, st1⟩ := X0.specialBack hx (y := (⟨"java/lang/Record", "<init>", "()V"⟩ : MethodName)) rfl hown (mvT hZ (hw _ (List.mem_of_getElem? (i := 41) rfl))) (mvT hZ (hw _ (List.mem_of_getElem? (i := 42) rfl))) (mvT hZ (hw _ (List.mem_of_getElem? (i := 45) rfl))) (by decide) (backOf (W := 0) (own_rm1 l Z a0 hw [] a1 h0 n0 Z0) hZ (hw _ (List.mem_of_getElem? (i := 45) rfl)) (hw _ (List.mem_of_getElem? (i := 44) rfl)) (by decide) (by decide)) (g := (mkF m 1 #[.val (.ref a1), .val (.ref a2), .val (.int p1), .val (.int p2)] [(.ref a1)])) rfl (by rw [hml]; rfl) (Steps.refl _) (a := a1) (argsL := []) (rest := []) (lenOf own_rm4_pd0 rfl) rfl (by show 2 * 0 + _ ≤ _; exact Nat.le_of_eq rfl) (hb hby own_rm4_d1) (fun _ _ => ⟨rfl, e0, (by decide : 0 + 0 ≤ _), (by decide : 0 + 0 ≤ _)⟩)
  dsimp only [Pt.U, Pt.locs, Pt.cells, Pt.slots] at X1 l1 y1 z1 st1 hQ1
  subst l1 y1 z1
  obtain ⟨rfl, N1q, e1⟩ := hQ1
  have N1 := Fr.app N0 N1q
  refine own_tr (t' := T1.setTop (mkF m 4 #[.val (.ref a1), .val (.ref a2), .val (.int p1), .val (.int p2)] [])) st1 ?_
  refine own_st (t' := T1.setTop (mkF m 5 #[.val (.ref a1), .val (.ref a2), .val (.int p1), .val (.int p2)] [(.ref a1)])) (fun _ k => XS.aloadN X1.here hx rfl (hb hby own_rm4_d4) rfl rfl k) ?_
  refine own_st (t' := T1.setTop (mkF m 6 #[.val (.ref a1), .val (.ref a2), .val (.int p1), .val (.int p2)] [(.ref a2), (.ref a1)])) (fun _ k => XS.aloadN X1.here hx rfl (hb hby own_rm4_d5) rfl rfl k) ?_
  obtain ⟨T2, h2, X2, e2, W2, st2⟩ := putF X1 hx hZ hown (host := "") (Or.inl (hw _ (List.mem_of_getElem? (i := 49) rfl))) Via.refl e1 F_id E_a1 (Or.inr ⟨(hw _ (List.mem_of_getElem? (i := 50) rfl)), rfl, hnm⟩) (hw _ (List.mem_of_getElem? (i := 28) rfl)) (ty := (.object "java/lang/String")) (by decide) rfl rfl (g := (mkF m 6 #[.val (.ref a1), .val (.ref a2), .val (.int p1), .val (.int p2)] [(.ref a2), (.ref a1)])) rfl rfl (hb hby own_rm4_d6)
  have Fw2 := F_id.same W2
  have f2_Exa_a1 := E_a1.wr W2
  have f2_Fld_a1_source := F_source.other W2 (Or.inr (slot_ne (Or.inr (hw _ (List.mem_of_getElem? (i := 52) rfl))) (Or.inr (hw _ (List.mem_of_getElem? (i := 50) rfl))) (by decide) (t := .int) (t' := (.object "java/lang/String")) (by decide) (by decide)))
  have f2_Fld_a1_target := F_target.other W2 (Or.inr (slot_ne (Or.inr (hw _ (List.mem_of_getElem? (i := 54) rfl))) (Or.inr (hw _ (List.mem_of_getElem? (i := 50) rfl))) (by decide) (t := .int) (t' := (.object "java/lang/String")) (by decide) (by decide)))
  have N2 := Fr.snoc X2 N1 bg_a1
  have Z2 : n0 ≤ h2.size := Nat.le_trans Z0 (Keep.of_wr W2).1
  have K2 := (Keep.refl h0 [a1]).wr W2 (Or.inl (List.mem_of_getElem? (i := 0) rfl))
  refine own_st (t' := T2.setTop (mkF m 9 #[.val (.ref a1), .val (.ref a2), .val (.int p1), .val (.int p2)] [])) st2 ?_
  refine own_st (t' := T2.setTop (mkF m 10 #[.val (.ref a1), .val (.ref a2), .val (.int p1), .val (.int p2)] [(.ref a1)])) (fun _ k => XS.aloadN X2.here hx rfl (hb hby own_rm4_d9) rfl rfl k) ?_
  refine own_st (t' := T2.setTop (mkF m 11 #[.val (.ref a1), .val (.ref a2), .val (.int p1), .val (.int p2)] [(.int p1), (.ref a1)])) (fun _ k => XS.iloadN X2.here hx rfl (hb hby own_rm4_d10) rfl k) ?_
  obtain ⟨T3, h3, X3, e3, W3, st3⟩ := putF X2 hx hZ hown (host := "") (Or.inl (hw _ (List.mem_of_getElem? (i := 51) rfl))) Via.refl e2 f2_Fld_a1_source f2_Exa_a1 (Or.inr ⟨(hw _ (List.mem_of_getElem? (i := 52) rfl)), rfl, hnm⟩) (hw _ (List.mem_of_getElem? (i := 28) rfl)) (ty := .int) (by decide) rfl rfl (g := (mkF m 11 #[.val (.ref a1), .val (.ref a2), .val (.int p1), .val (.int p2)] [(.int p1), (.ref a1)])) rfl rfl (hb hby own_rm4_d11)
  have Fw3 := f2_Fld_a1_source.same W3
  have f3_Exa_a1 := f2_Exa_a1.wr W3
  have f3_Fld_a1_id := Fw2.other W3 (Or.inr (slot_ne (Or.inr (hw _ (List.mem_of_getElem? (i := 50) rfl))) (Or.inr (hw _ (List.mem_of_getElem? (i := 52) rfl))) (by decide) (t := (.object "java/lang/String")) (t' := .int) (by decide) (by decide)))
  have f3_Fld_a1_target := f2_Fld_a1_target.other W3 (Or.inr (slot_ne (Or.inr (hw _ (List.mem_of_getElem? (i := 54) rfl))) (Or.inr (hw _ (List.mem_of_getElem? (i := 52) rfl))) (by decide) (t := .int) (t' := .int) (by decide) (by decide)))
  have N3 := Fr.snoc X3 N2 bg_a1
  have Z3 : n0 ≤ h3.size := Nat.le_trans Z2 (Keep.of_wr W3).1
  have K3 := K2.wr W3 (Or.inl (List.mem_of_getElem? (i := 0) rfl))
  refine own_st (t' := T3.setTop (mkF m 14 #[.val (.ref a1), .val (.ref a2), .val (.int p1), .val (.int p2)] [])) st3 ?_
  refine own_st (t' := T3.setTop (mkF m 15 #[.val (.ref a1), .val (.ref a2), .val (.int p1), .val (.int p2)] [(.ref a1)])) (fun _ k => XS.aloadN X3.here hx rfl (hb hby own_rm4_d14) rfl rfl k) ?_
  refine own_st (t' := T3.setTop (mkF m 16 #[.val (.ref a1), .val (.ref a2), .val (.int p1), .val (.int p2)] [(.int p2), (.ref a1)])) (fun _ k => XS.iloadN X3.here hx rfl (hb hby own_rm4_d15) rfl k) ?_
  obtain ⟨T4, h4, X4, e4, W4, st4⟩ := putF X3 hx hZ hown (host := "") (Or.inl (hw _ (List.mem_of_getElem? (i := 53) rfl))) Via.refl e3 f3_Fld_a1_target f3_Exa_a1 (Or.inr ⟨(hw _ (List.mem_of_getElem? (i := 54) rfl)), rfl, hnm⟩) (hw _ (List.mem_of_getElem? (i := 28) rfl)) (ty := .int) (by decide) rfl rfl (g := (mkF m 16 #[.val (.ref a1), .val (.ref a2), .val (.int p1), .val (.int p2)] [(.int p2), (.ref a1)])) rfl rfl (hb hby own_rm4_d16)
  have Fw4 := f3_Fld_a1_target.same W4
  have f4_Exa_a1 := f3_Exa_a1.wr W4
  have f4_Fld_a1_id := f3_Fld_a1_id.other W4 (Or.inr (slot_ne (Or.inr (hw _ (List.mem_of_getElem? (i := 50) rfl))) (Or.inr (hw _ (List.mem_of_getElem? (i := 54) rfl))) (by decide) (t := (.object "java/lang/String")) (t' := .int) (by decide) (by decide)))
  have f4_Fld_a1_source := Fw3.other W4 (Or.inr (slot_ne (Or.inr (hw _ (List.mem_of_getElem? (i := 52) rfl))) (Or.inr (hw _ (List.mem_of_getElem? (i := 54) rfl))) (by decide) (t := .int) (t' := .int) (by decide) (by decide)))
  have N4 := Fr.snoc X4 N3 bg_a1
  have Z4 : n0 ≤ h4.size := Nat.le_trans Z3 (Keep.of_wr W4).1
  have K4 := K3.wr W4 (Or.inl (List.mem_of_getElem? (i := 0) rfl))
  refine own_st (t' := T4.setTop (mkF m 19 #[.val (.ref a1), .val (.ref a2), .val (.int p1), .val (.int p2)] [])) st4 ?_
  obtain ⟨fs, hr, hrun, hended, hW, hsame⟩ := X4.leave (v := none) (fun _ => rfl)
  exact ⟨_, _, X4.returnOut hx Bd.returns (hb hby own_rm4_d19) hr, hrun, hended, hP _ _ ⟨_, _, rfl, ⟨rfl, N4, (by show Keep h0 T4.heap [a1] ∧ Exa Z T4.heap a1 "com/example/lambdaloom/lambdaloom/Network$Link" ∧ Fld Z T4.heap a1 "com/example/lambdaloom/lambdaloom/Network$Link" "id" "Ljava/lang/String;" (.ref a2) ∧ Fld Z T4.heap a1 "com/example/lambdaloom/lambdaloom/Network$Link" "source" "I" (.int p1) ∧ Fld Z T4.heap a1 "com/example/lambdaloom/lambdaloom/Network$Link" "target" "I" (.int p2); rw [e4]; exact ⟨K4, f4_Exa_a1, f4_Fld_a1_id, f4_Fld_a1_source, Fw4⟩)⟩, ⟨_, rfl⟩, hW, hsame.mono (by decide) (by decide)⟩⟩

theorem own_rm5_d0 : decode prog_3_method_5_code 0 = .ok (.aload_n 0, 1) := by decide +kernel
theorem own_rm5_d1 : decode prog_3_method_5_code 1 = .ok (.getstatic 7, 3) := by decide +kernel
theorem own_rm5_d4 : decode prog_3_method_5_code 4 = .ok (.if_acmp .ne 7, 3) := by decide +kernel
theorem own_rm5_d7 : decode prog_3_method_5_code 7 = .ok (.iconst 1, 1) := by decide +kernel
theorem own_rm5_d8 : decode prog_3_method_5_code 8 = .ok (.goto 4, 3) := by decide +kernel
theorem own_rm5_d11 : decode prog_3_method_5_code 11 = .ok (.iconst 0, 1) := by decide +kernel
theorem own_rm5_d12 : decode prog_3_method_5_code 12 = .ok (.ireturn, 1) := by decide +kernel
theorem own_rm5_pn : plainName "com/example/lambdaloom/lambdaloom/ChannelModel" = true := by first | (simp [plainName, overriddenIn]; done) | decide +kernel
theorem own_rm5_ef (m : MethodId) (x0 : Addr) : entryFrame m #[(.ref x0)] 1 = mkF m 0 #[.val (.ref x0)] [] := by first | (simp [entryFrame, mkF, argsToLocals, Value.category]; done) | rfl
def own_rm5_Q (Z : State) (a1 : Addr) (wUNDIRECTED : Addr) (w : Int32) (h0 : Heap) (n0 : Nat) (v : Option Value) (h : Heap) (L : List Loc) : Prop := v = some (.int (w)) ∧ Fr n0 L ∧ h = h0
set_option maxRecDepth 65536 in
set_option maxHeartbeats 40000000 in
theorem own_rm5 (l : Launch) (Z : State) (a0 : Array Value) (hw : ∀ d ∈ tables_1, d.before a0 Z = true) (ws : List Jvm.Cond) (a1 : Addr) (wUNDIRECTED : Addr) (w : Int32) (h0 : Heap) (n0 : Nat) (Z0 : n0 ≤ h0.size) (S_UNDIRECTED : Sta Z h0 "com/example/lambdaloom/lambdaloom/ChannelModel" "UNDIRECTED" "Lcom/example/lambdaloom/lambdaloom/ChannelModel;" (.ref wUNDIRECTED)) (hv : w = if a1 = wUNDIRECTED then (1 : Int32) else (0 : Int32)) :
    MetFree l (⟨"com/example/lambdaloom/lambdaloom/ChannelModel", "sameFibresBothWays", "()Z"⟩ : MethodName) (head1 (Jvm.Cond.code (⟨"com/example/lambdaloom/lambdaloom/ChannelModel", "sameFibresBothWays", "()Z"⟩ : MethodName) prog_3_method_5_code 1 (some .boolean) :: ws) ({ frames := 0, cells := 0, slots := 0, locals := 0 } : Room)) (fun a U => a = #[(.ref a1)] ∧ Z.Warmed39 U.vm ∧ U.heap = h0) (fun _ _ _ _ _ => True) (fun _ U o U' => ∃ v L, o = .returned v ∧ own_rm5_Q Z a1 wUNDIRECTED w h0 n0 v U'.heap L ∧ FrameEnd U o U' L ({ frames := 0, cells := 0, slots := 0, locals := 0 } : Room).cells ({ frames := 0, cells := 0, slots := 0, locals := 0 } : Room).slots) := by
  refine MetFree.of_bodySF (plainFor_of_name own_rm5_pn) hisR ?_
  intro p e s m args below meth c s₁ Bd hml0 hPre hK
  obtain ⟨rfl, hZ, hh⟩ := hPre
  have hx := Bd.exec
  have hby := Bd.bytes
  have hml : c.maxLocals = 1 := hml0
  have hown : s.vm.findClass "com/example/lambdaloom/lambdaloom/ChannelModel" = some m.cls := findClass_of_methodNamed Bd.named
  have hnm := (name_of_methodNamed Bd.named Bd.method).1
  have X0 : Stand p l e ({ frames := 0, cells := 0, slots := 0, locals := 0 } : Room) s m #[(.ref a1)] below meth c s₁ [] 0 0 := Stand.of_body Bd
  have e0 : s₁.heap = h0 := by rw [← hh, Bd.state]; rfl
  have N0 := Fr.nil n0
  refine own_body fun P hP => ?_
  refine own_st (t' := s₁.setTop (mkF m 0 #[.val (.ref a1)] [])) (fun _ k => castTop (own_rm5_ef m a1) k) ?_
  refine own_st (t' := s₁.setTop (mkF m 1 #[.val (.ref a1)] [(.ref a1)])) (fun _ k => XS.aloadN X0.here hx rfl (hb hby own_rm5_d0) rfl rfl k) ?_
  obtain ⟨T1, X1, e1, st1⟩ := getS2 X0 hx hZ hown (host := "") (Or.inl (hw _ (List.mem_of_getElem? (i := 23) rfl))) Via.refl e0 S_UNDIRECTED (g := (mkF m 1 #[.val (.ref a1)] [(.ref a1)])) rfl (hb hby own_rm5_d1)
  refine own_st (t' := T1.setTop (mkF m 4 #[.val (.ref a1)] [(.ref wUNDIRECTED), (.ref a1)])) st1 ?_
  by_cases c4_2 : a1 = wUNDIRECTED
  · refine own_st (t' := T1.setTop (mkF m 7 #[.val (.ref a1)] [])) (fun _ k => Jvm.RoadKit.acmp (g := (mkF m 4 #[.val (.ref a1)] [(.ref wUNDIRECTED), (.ref a1)])) X1 hx rfl rfl rfl (pc0 := 4) (pc' := 7) (same := true) rfl (hb hby own_rm5_d4) rfl (decide_eq_true (congrArg Value.ref c4_2)) (by decide) (by decide) k) ?_
    refine own_st (t' := T1.setTop (mkF m 8 #[.val (.ref a1)] [(.int (1 : Int32))])) (fun _ k => XS.iconst X1.here hx rfl (hb hby own_rm5_d7) k) ?_
    refine own_st (t' := T1.setTop (mkF m 12 #[.val (.ref a1)] [(.int (1 : Int32))])) (fun _ k => XS.goto X1.here hx rfl (pc0 := 8) (pc' := 12) rfl (hb hby own_rm5_d8) (by decide) (by decide) k) ?_
    have hv3 : (1 : Int32) = w := by rw [hv, if_pos c4_2]
    obtain ⟨fs, hr, hrun, hended, hW, hsame⟩ := X1.leave (v := some (.int (1 : Int32))) (fun h => by rw [Bd.returns] at h; cases h)
    exact ⟨_, _, retN X1 hx (t := .boolean) Bd.returns (by simp) (hb hby own_rm5_d12) hr, hrun, hended, hP _ _ ⟨_, _, rfl, ⟨(congrArg (fun z => some (Value.int z)) hv3), N0, e1⟩, ⟨_, rfl⟩, hW, hsame.mono (by decide) (by decide)⟩⟩
  · refine own_st (t' := T1.setTop (mkF m 11 #[.val (.ref a1)] [])) (fun _ k => Jvm.RoadKit.acmp (g := (mkF m 4 #[.val (.ref a1)] [(.ref wUNDIRECTED), (.ref a1)])) X1 hx rfl rfl rfl (pc0 := 4) (pc' := 11) (same := false) rfl (hb hby own_rm5_d4) rfl (decide_eq_false fun q => c4_2 (Value.ref.inj q)) (by decide) (by decide) k) ?_
    refine own_st (t' := T1.setTop (mkF m 12 #[.val (.ref a1)] [(.int (0 : Int32))])) (fun _ k => XS.iconst X1.here hx rfl (hb hby own_rm5_d11) k) ?_
    have hv4 : (0 : Int32) = w := by rw [hv, if_neg c4_2]
    obtain ⟨fs, hr, hrun, hended, hW, hsame⟩ := X1.leave (v := some (.int (0 : Int32))) (fun h => by rw [Bd.returns] at h; cases h)
    exact ⟨_, _, retN X1 hx (t := .boolean) Bd.returns (by simp) (hb hby own_rm5_d12) hr, hrun, hended, hP _ _ ⟨_, _, rfl, ⟨(congrArg (fun z => some (Value.int z)) hv4), N0, e1⟩, ⟨_, rfl⟩, hW, hsame.mono (by decide) (by decide)⟩⟩

theorem own_rm6_d0 : decode prog_3_method_7_code 0 = .ok (.aload_n 0, 1) := by decide +kernel
theorem own_rm6_d1 : decode prog_3_method_7_code 1 = .ok (.invokevirtual 35, 3) := by decide +kernel
theorem own_rm6_d4 : decode prog_3_method_7_code 4 = .ok (.lookupswitch 28 #[(0, 38), (1, 58)], 28) := by decide +kernel
theorem own_rm6_d42 : decode prog_3_method_7_code 42 = .ok (.iconst 2, 1) := by decide +kernel
theorem own_rm6_d43 : decode prog_3_method_7_code 43 = .ok (.iload_n 2, 1) := by decide +kernel
theorem own_rm6_d44 : decode prog_3_method_7_code 44 = .ok (.imul, 1) := by decide +kernel
theorem own_rm6_d45 : decode prog_3_method_7_code 45 = .ok (.iload_n 3, 1) := by decide +kernel
theorem own_rm6_d46 : decode prog_3_method_7_code 46 = .ok (.aload_n 1, 1) := by decide +kernel
theorem own_rm6_d47 : decode prog_3_method_7_code 47 = .ok (.invokevirtual 44, 3) := by decide +kernel
theorem own_rm6_d50 : decode prog_3_method_7_code 50 = .ok (.if_icmp .ne 7, 3) := by decide +kernel
theorem own_rm6_d53 : decode prog_3_method_7_code 53 = .ok (.iconst 0, 1) := by decide +kernel
theorem own_rm6_d54 : decode prog_3_method_7_code 54 = .ok (.goto 4, 3) := by decide +kernel
theorem own_rm6_d57 : decode prog_3_method_7_code 57 = .ok (.iconst 1, 1) := by decide +kernel
theorem own_rm6_d58 : decode prog_3_method_7_code 58 = .ok (.iadd, 1) := by decide +kernel
theorem own_rm6_d59 : decode prog_3_method_7_code 59 = .ok (.goto 4, 3) := by decide +kernel
theorem own_rm6_d63 : decode prog_3_method_7_code 63 = .ok (.ireturn, 1) := by decide +kernel
theorem own_rm6_pn : plainName "com/example/lambdaloom/lambdaloom/ChannelModel" = true := by first | (simp [plainName, overriddenIn]; done) | decide +kernel
theorem own_rm6_pd0 : parseMethodDescriptor "()I" = some ⟨[], some .int⟩ := by decide +kernel
theorem own_rm6_ef (m : MethodId) (x0 : Addr) (x1 : Addr) (x2 : Int32) (x3 : Int32) : entryFrame m #[(.ref x0), (.ref x1), (.int x2), (.int x3)] 4 = mkF m 0 #[.val (.ref x0), .val (.ref x1), .val (.int x2), .val (.int x3)] [] := by first | (simp [entryFrame, mkF, argsToLocals, Value.category]; done) | rfl
def own_rm6_Q (Z : State) (a1 : Addr) (a2 : Addr) (p1 : Int32) (p2 : Int32) (sr : Int32) (w : Int32) (h0 : Heap) (n0 : Nat) (v : Option Value) (h : Heap) (L : List Loc) : Prop := v = some (.int (w)) ∧ Fr n0 L ∧ h = h0
set_option maxRecDepth 65536 in
set_option maxHeartbeats 40000000 in
theorem own_rm6 (l : Launch) (Z : State) (a0 : Array Value) (hw : ∀ d ∈ tables_1, d.before a0 Z = true) (ws : List Jvm.Cond) (a1 : Addr) (a2 : Addr) (p1 : Int32) (p2 : Int32) (sr : Int32) (w : Int32) (h0 : Heap) (n0 : Nat) (Z0 : n0 ≤ h0.size) (E_a1 : Exa Z h0 a1 "com/example/lambdaloom/lambdaloom/ChannelModel") (F_o : Fld Z h0 a1 "java/lang/Enum" "ordinal" "I" (.int (0 : Int32))) (E_a2 : Exa Z h0 a2 "com/example/lambdaloom/lambdaloom/Network$Link") (F_s : Fld Z h0 a2 "com/example/lambdaloom/lambdaloom/Network$Link" "source" "I" (.int sr)) (hv : w = ((2 : Int32) * p1) + (if p2 = sr then (0 : Int32) else (1 : Int32))) :
    MetFree l (⟨"com/example/lambdaloom/lambdaloom/ChannelModel", "fibre", "(Lcom/example/lambdaloom/lambdaloom/Network$Link;II)I"⟩ : MethodName) (head1 (Jvm.Cond.code (⟨"com/example/lambdaloom/lambdaloom/ChannelModel", "fibre", "(Lcom/example/lambdaloom/lambdaloom/Network$Link;II)I"⟩ : MethodName) prog_3_method_7_code 4 (some .int) :: ws) ({ frames := 1, cells := 0, slots := 0, locals := 14 } : Room)) (fun a U => a = #[(.ref a1), (.ref a2), (.int p1), (.int p2)] ∧ Z.Warmed39 U.vm ∧ U.heap = h0) (fun _ _ _ _ _ => True) (fun _ U o U' => ∃ v L, o = .returned v ∧ own_rm6_Q Z a1 a2 p1 p2 sr w h0 n0 v U'.heap L ∧ FrameEnd U o U' L ({ frames := 1, cells := 0, slots := 0, locals := 14 } : Room).cells ({ frames := 1, cells := 0, slots := 0, locals := 14 } : Room).slots) := by
  refine MetFree.of_bodySF (plainFor_of_name own_rm6_pn) hisR ?_
  intro p e s m args below meth c s₁ Bd hml0 hPre hK
  obtain ⟨rfl, hZ, hh⟩ := hPre
  have hx := Bd.exec
  have hby := Bd.bytes
  have hml : c.maxLocals = 4 := hml0
  have hown : s.vm.findClass "com/example/lambdaloom/lambdaloom/ChannelModel" = some m.cls := findClass_of_methodNamed Bd.named
  have hnm := (name_of_methodNamed Bd.named Bd.method).1
  have X0 : Stand p l e ({ frames := 1, cells := 0, slots := 0, locals := 14 } : Room) s m #[(.ref a1), (.ref a2), (.int p1), (.int p2)] below meth c s₁ [] 0 0 := Stand.of_body Bd
  have e0 : s₁.heap = h0 := by rw [← hh, Bd.state]; rfl
  have N0 := Fr.nil n0
  refine own_body fun P hP => ?_
  refine own_st (t' := s₁.setTop (mkF m 0 #[.val (.ref a1), .val (.ref a2), .val (.int p1), .val (.int p2)] [])) (fun _ k => castTop (own_rm6_ef m a1 a2 p1 p2) k) ?_
  refine own_st (t' := s₁.setTop (mkF m 1 #[.val (.ref a1), .val (.ref a2), .val (.int p1), .val (.int p2)] [(.ref a1)])) (fun _ k => XS.aloadN X0.here hx rfl (hb hby own_rm6_d0) rfl rfl k) ?_
  obtain ⟨cq1, kq1, q1a, q1b, q1c⟩ := isOf hZ e0 E_a1
  obtain ⟨_, _, ⟨T1, L1, k1, n1⟩, -, X1, ⟨Lc1, hQ1, l1, y1, z1⟩, st1⟩ := X0.virtualBackUp hx (owner := "java/lang/Enum") (x := (⟨"com/example/lambdaloom/lambdaloom/ChannelModel", "ordinal", "()I"⟩ : MethodName)) (y := (⟨"java/lang/Enum", "ordinal", "()I"⟩ : MethodName)) hown (mvT hZ (hw _ (List.mem_of_getElem? (i := 9) rfl))) (mvT hZ (hw _ (List.mem_of_getElem? (i := 10) rfl))) (mvT hZ (hw _ (List.mem_of_getElem? (i := 11) rfl))) (by decide) (mvT hZ (hw _ (List.mem_of_getElem? (i := 13) rfl))) (mvT hZ (hw _ (List.mem_of_getElem? (i := 12) rfl))) (backOf (W := 0) (own_rm2 l Z a0 hw [] a1 (0 : Int32) h0 n0 Z0 F_o) hZ (hw _ (List.mem_of_getElem? (i := 15) rfl)) (hw _ (List.mem_of_getElem? (i := 14) rfl)) (by decide) (by decide)) q1a q1c (g := (mkF m 1 #[.val (.ref a1), .val (.ref a2), .val (.int p1), .val (.int p2)] [(.ref a1)])) rfl (by rw [hml]; rfl) (Steps.refl _) (argsL := []) (rest := []) (lenOf own_rm6_pd0 rfl) rfl (by show 2 * 0 + _ ≤ _; exact Nat.le_of_eq rfl) (hb hby own_rm6_d1) (fun _ _ => ⟨rfl, e0, (by decide : 0 + 0 ≤ _), (by decide : 0 + 0 ≤ _)⟩)
  dsimp only [Pt.U, Pt.locs, Pt.cells, Pt.slots] at X1 l1 y1 z1 st1 hQ1
  subst l1 y1 z1
  obtain ⟨rfl, N1q, e1⟩ := hQ1
  have N1 := Fr.app N0 N1q
  refine own_tr (t' := T1.setTop (mkF m 4 #[.val (.ref a1), .val (.ref a2), .val (.int p1), .val (.int p2)] [(.int (0 : Int32))])) st1 ?_
  refine own_st (t' := T1.setTop (mkF m 42 #[.val (.ref a1), .val (.ref a2), .val (.int p1), .val (.int p2)] [])) (fun _ k => X1.lookupswitchHit hx (g := (mkF m 4 #[.val (.ref a1), .val (.ref a2), .val (.int p1), .val (.int p2)] [(.int (0 : Int32))])) rfl (k := (0 : Int32)) rfl (hb hby own_rm6_d4) (by decide) (a := 0) (off := 38) (by decide) (by show (0 : Int) ≤ ((4 : Nat) : Int) + 38; decide) _ k) ?_
  refine own_st (t' := T1.setTop (mkF m 43 #[.val (.ref a1), .val (.ref a2), .val (.int p1), .val (.int p2)] [(.int (2 : Int32))])) (fun _ k => XS.iconst X1.here hx rfl (hb hby own_rm6_d42) k) ?_
  refine own_st (t' := T1.setTop (mkF m 44 #[.val (.ref a1), .val (.ref a2), .val (.int p1), .val (.int p2)] [(.int p1), (.int (2 : Int32))])) (fun _ k => XS.iloadN X1.here hx rfl (hb hby own_rm6_d43) rfl k) ?_
  refine own_st (t' := T1.setTop (mkF m 45 #[.val (.ref a1), .val (.ref a2), .val (.int p1), .val (.int p2)] [(.int ((2 : Int32) * p1))])) (fun _ k => XS.imul X1.here hx rfl (hb hby own_rm6_d44) rfl k) ?_
  refine own_st (t' := T1.setTop (mkF m 46 #[.val (.ref a1), .val (.ref a2), .val (.int p1), .val (.int p2)] [(.int p2), (.int ((2 : Int32) * p1))])) (fun _ k => XS.iloadN X1.here hx rfl (hb hby own_rm6_d45) rfl k) ?_
  refine own_st (t' := T1.setTop (mkF m 47 #[.val (.ref a1), .val (.ref a2), .val (.int p1), .val (.int p2)] [(.ref a2), (.int p2), (.int ((2 : Int32) * p1))])) (fun _ k => XS.aloadN X1.here hx rfl (hb hby own_rm6_d46) rfl rfl k) ?_
  obtain ⟨cq2, kq2, q2a, q2b, q2c⟩ := isOf hZ e1 E_a2
  obtain ⟨_, _, ⟨T2, L2, k2, n2⟩, -, X2, ⟨Lc2, hQ2, l2, y2, z2⟩, st2⟩ := X1.virtualBack hx (y := (⟨"com/example/lambdaloom/lambdaloom/Network$Link", "source", "()I"⟩ : MethodName)) (z := (⟨"com/example/lambdaloom/lambdaloom/Network$Link", "source", "()I"⟩ : MethodName)) hown (mvT hZ (hw _ (List.mem_of_getElem? (i := 60) rfl))) (mvT hZ (hw _ (List.mem_of_getElem? (i := 61) rfl))) (notFace_of_selects (args := #[]) (mvT hZ (hw _ (List.mem_of_getElem? (i := 63) rfl)))) (mvT hZ (hw _ (List.mem_of_getElem? (i := 63) rfl))) (mvT hZ (hw _ (List.mem_of_getElem? (i := 62) rfl))) (by decide) (backOf (W := 2) (own_rm3 l Z a0 hw [] a2 sr h0 n0 Z0 F_s) hZ (hw _ (List.mem_of_getElem? (i := 64) rfl)) (hw _ (List.mem_of_getElem? (i := 29) rfl)) (by decide) (by decide)) q2a q2c (g := (mkF m 47 #[.val (.ref a1), .val (.ref a2), .val (.int p1), .val (.int p2)] [(.ref a2), (.int p2), (.int ((2 : Int32) * p1))])) rfl (by rw [hml]; rfl) (Steps.refl _) (argsL := []) (rest := [(.int p2), (.int ((2 : Int32) * p1))]) (lenOf own_rm6_pd0 rfl) rfl (by show 2 * 0 + _ ≤ _; exact Nat.le_of_eq rfl) (hb hby own_rm6_d47) (fun _ _ => ⟨rfl, e1, (by decide : 0 + 0 + 0 ≤ _), (by decide : 0 + 0 + 0 ≤ _)⟩)
  dsimp only [Pt.U, Pt.locs, Pt.cells, Pt.slots] at X2 l2 y2 z2 st2 hQ2
  subst l2 y2 z2
  obtain ⟨rfl, N2q, e2⟩ := hQ2
  have N2 := Fr.app N1 N2q
  refine own_tr (t' := T2.setTop (mkF m 50 #[.val (.ref a1), .val (.ref a2), .val (.int p1), .val (.int p2)] [(.int sr), (.int p2), (.int ((2 : Int32) * p1))])) st2 ?_
  by_cases c50_3 : p2 = sr
  · refine own_st (t' := T2.setTop (mkF m 53 #[.val (.ref a1), .val (.ref a2), .val (.int p1), .val (.int p2)] [(.int ((2 : Int32) * p1))])) (fun _ k => XS.icmpNo X2.here hx rfl (hb hby own_rm6_d50) rfl (teq c50_3).2 k) ?_
    refine own_st (t' := T2.setTop (mkF m 54 #[.val (.ref a1), .val (.ref a2), .val (.int p1), .val (.int p2)] [(.int (0 : Int32)), (.int ((2 : Int32) * p1))])) (fun _ k => XS.iconst X2.here hx rfl (hb hby own_rm6_d53) k) ?_
    refine own_st (t' := T2.setTop (mkF m 58 #[.val (.ref a1), .val (.ref a2), .val (.int p1), .val (.int p2)] [(.int (0 : Int32)), (.int ((2 : Int32) * p1))])) (fun _ k => XS.goto X2.here hx rfl (pc0 := 54) (pc' := 58) rfl (hb hby own_rm6_d54) (by decide) (by decide) k) ?_
    refine own_st (t' := T2.setTop (mkF m 59 #[.val (.ref a1), .val (.ref a2), .val (.int p1), .val (.int p2)] [(.int (((2 : Int32) * p1) + (0 : Int32)))])) (fun _ k => XS.iadd X2.here hx rfl (hb hby own_rm6_d58) rfl k) ?_
    refine own_st (t' := T2.setTop (mkF m 63 #[.val (.ref a1), .val (.ref a2), .val (.int p1), .val (.int p2)] [(.int (((2 : Int32) * p1) + (0 : Int32)))])) (fun _ k => XS.goto X2.here hx rfl (pc0 := 59) (pc' := 63) rfl (hb hby own_rm6_d59) (by decide) (by decide) k) ?_
    have hv4 : (((2 : Int32) * p1) + (0 : Int32)) = w := by rw [hv, if_pos c50_3]
    obtain ⟨fs, hr, hrun, hended, hW, hsame⟩ := X2.leave (v := some (.int (((2 : Int32) * p1) + (0 : Int32)))) (fun h => by rw [Bd.returns] at h; cases h)
    exact ⟨_, _, retI X2 hx Bd.returns (hb hby own_rm6_d63) hr, hrun, hended, hP _ _ ⟨_, _, rfl, ⟨(congrArg (fun z => some (Value.int z)) hv4), N2, e2⟩, ⟨_, rfl⟩, hW, hsame.mono (by decide) (by decide)⟩⟩
  · refine own_st (t' := T2.setTop (mkF m 57 #[.val (.ref a1), .val (.ref a2), .val (.int p1), .val (.int p2)] [(.int ((2 : Int32) * p1))])) (fun _ k => XS.icmpYes X2.here hx rfl (pc0 := 50) (pc' := 57) rfl (hb hby own_rm6_d50) rfl (feq c50_3).2 (by decide) (by decide) k) ?_
    refine own_st (t' := T2.setTop (mkF m 58 #[.val (.ref a1), .val (.ref a2), .val (.int p1), .val (.int p2)] [(.int (1 : Int32)), (.int ((2 : Int32) * p1))])) (fun _ k => XS.iconst X2.here hx rfl (hb hby own_rm6_d57) k) ?_
    refine own_st (t' := T2.setTop (mkF m 59 #[.val (.ref a1), .val (.ref a2), .val (.int p1), .val (.int p2)] [(.int (((2 : Int32) * p1) + (1 : Int32)))])) (fun _ k => XS.iadd X2.here hx rfl (hb hby own_rm6_d58) rfl k) ?_
    refine own_st (t' := T2.setTop (mkF m 63 #[.val (.ref a1), .val (.ref a2), .val (.int p1), .val (.int p2)] [(.int (((2 : Int32) * p1) + (1 : Int32)))])) (fun _ k => XS.goto X2.here hx rfl (pc0 := 59) (pc' := 63) rfl (hb hby own_rm6_d59) (by decide) (by decide) k) ?_
    have hv5 : (((2 : Int32) * p1) + (1 : Int32)) = w := by rw [hv, if_neg c50_3]
    obtain ⟨fs, hr, hrun, hended, hW, hsame⟩ := X2.leave (v := some (.int (((2 : Int32) * p1) + (1 : Int32)))) (fun h => by rw [Bd.returns] at h; cases h)
    exact ⟨_, _, retI X2 hx Bd.returns (hb hby own_rm6_d63) hr, hrun, hended, hP _ _ ⟨_, _, rfl, ⟨(congrArg (fun z => some (Value.int z)) hv5), N2, e2⟩, ⟨_, rfl⟩, hW, hsame.mono (by decide) (by decide)⟩⟩

theorem own_rm7_d0 : decode prog_3_method_7_code 0 = .ok (.aload_n 0, 1) := by decide +kernel
theorem own_rm7_d1 : decode prog_3_method_7_code 1 = .ok (.invokevirtual 35, 3) := by decide +kernel
theorem own_rm7_d4 : decode prog_3_method_7_code 4 = .ok (.lookupswitch 28 #[(0, 38), (1, 58)], 28) := by decide +kernel
theorem own_rm7_d62 : decode prog_3_method_7_code 62 = .ok (.iload_n 2, 1) := by decide +kernel
theorem own_rm7_d63 : decode prog_3_method_7_code 63 = .ok (.ireturn, 1) := by decide +kernel
theorem own_rm7_pn : plainName "com/example/lambdaloom/lambdaloom/ChannelModel" = true := by first | (simp [plainName, overriddenIn]; done) | decide +kernel
theorem own_rm7_pd0 : parseMethodDescriptor "()I" = some ⟨[], some .int⟩ := by decide +kernel
theorem own_rm7_ef (m : MethodId) (x0 : Addr) (x1 : Addr) (x2 : Int32) (x3 : Int32) : entryFrame m #[(.ref x0), (.ref x1), (.int x2), (.int x3)] 4 = mkF m 0 #[.val (.ref x0), .val (.ref x1), .val (.int x2), .val (.int x3)] [] := by first | (simp [entryFrame, mkF, argsToLocals, Value.category]; done) | rfl
def own_rm7_Q (Z : State) (a1 : Addr) (a2 : Addr) (p1 : Int32) (p2 : Int32) (h0 : Heap) (n0 : Nat) (v : Option Value) (h : Heap) (L : List Loc) : Prop := v = some (.int (p1)) ∧ Fr n0 L ∧ h = h0
set_option maxRecDepth 65536 in
set_option maxHeartbeats 40000000 in
theorem own_rm7 (l : Launch) (Z : State) (a0 : Array Value) (hw : ∀ d ∈ tables_1, d.before a0 Z = true) (ws : List Jvm.Cond) (a1 : Addr) (a2 : Addr) (p1 : Int32) (p2 : Int32) (h0 : Heap) (n0 : Nat) (Z0 : n0 ≤ h0.size) (E_a1 : Exa Z h0 a1 "com/example/lambdaloom/lambdaloom/ChannelModel") (F_o : Fld Z h0 a1 "java/lang/Enum" "ordinal" "I" (.int (1 : Int32))) :
    MetFree l (⟨"com/example/lambdaloom/lambdaloom/ChannelModel", "fibre", "(Lcom/example/lambdaloom/lambdaloom/Network$Link;II)I"⟩ : MethodName) (head1 (Jvm.Cond.code (⟨"com/example/lambdaloom/lambdaloom/ChannelModel", "fibre", "(Lcom/example/lambdaloom/lambdaloom/Network$Link;II)I"⟩ : MethodName) prog_3_method_7_code 4 (some .int) :: ws) ({ frames := 1, cells := 0, slots := 0, locals := 12 } : Room)) (fun a U => a = #[(.ref a1), (.ref a2), (.int p1), (.int p2)] ∧ Z.Warmed39 U.vm ∧ U.heap = h0) (fun _ _ _ _ _ => True) (fun _ U o U' => ∃ v L, o = .returned v ∧ own_rm7_Q Z a1 a2 p1 p2 h0 n0 v U'.heap L ∧ FrameEnd U o U' L ({ frames := 1, cells := 0, slots := 0, locals := 12 } : Room).cells ({ frames := 1, cells := 0, slots := 0, locals := 12 } : Room).slots) := by
  refine MetFree.of_bodySF (plainFor_of_name own_rm7_pn) hisR ?_
  intro p e s m args below meth c s₁ Bd hml0 hPre hK
  obtain ⟨rfl, hZ, hh⟩ := hPre
  have hx := Bd.exec
  have hby := Bd.bytes
  have hml : c.maxLocals = 4 := hml0
  have hown : s.vm.findClass "com/example/lambdaloom/lambdaloom/ChannelModel" = some m.cls := findClass_of_methodNamed Bd.named
  have hnm := (name_of_methodNamed Bd.named Bd.method).1
  have X0 : Stand p l e ({ frames := 1, cells := 0, slots := 0, locals := 12 } : Room) s m #[(.ref a1), (.ref a2), (.int p1), (.int p2)] below meth c s₁ [] 0 0 := Stand.of_body Bd
  have e0 : s₁.heap = h0 := by rw [← hh, Bd.state]; rfl
  have N0 := Fr.nil n0
  refine own_body fun P hP => ?_
  refine own_st (t' := s₁.setTop (mkF m 0 #[.val (.ref a1), .val (.ref a2), .val (.int p1), .val (.int p2)] [])) (fun _ k => castTop (own_rm7_ef m a1 a2 p1 p2) k) ?_
  refine own_st (t' := s₁.setTop (mkF m 1 #[.val (.ref a1), .val (.ref a2), .val (.int p1), .val (.int p2)] [(.ref a1)])) (fun _ k => XS.aloadN X0.here hx rfl (hb hby own_rm7_d0) rfl rfl k) ?_
  obtain ⟨cq1, kq1, q1a, q1b, q1c⟩ := isOf hZ e0 E_a1
  obtain ⟨_, _, ⟨T1, L1, k1, n1⟩, -, X1, ⟨Lc1, hQ1, l1, y1, z1⟩, st1⟩ := X0.virtualBackUp hx (owner := "java/lang/Enum") (x := (⟨"com/example/lambdaloom/lambdaloom/ChannelModel", "ordinal", "()I"⟩ : MethodName)) (y := (⟨"java/lang/Enum", "ordinal", "()I"⟩ : MethodName)) hown (mvT hZ (hw _ (List.mem_of_getElem? (i := 9) rfl))) (mvT hZ (hw _ (List.mem_of_getElem? (i := 10) rfl))) (mvT hZ (hw _ (List.mem_of_getElem? (i := 11) rfl))) (by decide) (mvT hZ (hw _ (List.mem_of_getElem? (i := 13) rfl))) (mvT hZ (hw _ (List.mem_of_getElem? (i := 12) rfl))) (backOf (W := 0) (own_rm2 l Z a0 hw [] a1 (1 : Int32) h0 n0 Z0 F_o) hZ (hw _ (List.mem_of_getElem? (i := 15) rfl)) (hw _ (List.mem_of_getElem? (i := 14) rfl)) (by decide) (by decide)) q1a q1c (g := (mkF m 1 #[.val (.ref a1), .val (.ref a2), .val (.int p1), .val (.int p2)] [(.ref a1)])) rfl (by rw [hml]; rfl) (Steps.refl _) (argsL := []) (rest := []) (lenOf own_rm7_pd0 rfl) rfl (by show 2 * 0 + _ ≤ _; exact Nat.le_of_eq rfl) (hb hby own_rm7_d1) (fun _ _ => ⟨rfl, e0, (by decide : 0 + 0 ≤ _), (by decide : 0 + 0 ≤ _)⟩)
  dsimp only [Pt.U, Pt.locs, Pt.cells, Pt.slots] at X1 l1 y1 z1 st1 hQ1
  subst l1 y1 z1
  obtain ⟨rfl, N1q, e1⟩ := hQ1
  have N1 := Fr.app N0 N1q
  refine own_tr (t' := T1.setTop (mkF m 4 #[.val (.ref a1), .val (.ref a2), .val (.int p1), .val (.int p2)] [(.int (1 : Int32))])) st1 ?_
  refine own_st (t' := T1.setTop (mkF m 62 #[.val (.ref a1), .val (.ref a2), .val (.int p1), .val (.int p2)] [])) (fun _ k => X1.lookupswitchHit hx (g := (mkF m 4 #[.val (.ref a1), .val (.ref a2), .val (.int p1), .val (.int p2)] [(.int (1 : Int32))])) rfl (k := (1 : Int32)) rfl (hb hby own_rm7_d4) (by decide) (a := 1) (off := 58) (by decide) (by show (0 : Int) ≤ ((4 : Nat) : Int) + 58; decide) _ k) ?_
  refine own_st (t' := T1.setTop (mkF m 63 #[.val (.ref a1), .val (.ref a2), .val (.int p1), .val (.int p2)] [(.int p1)])) (fun _ k => XS.iloadN X1.here hx rfl (hb hby own_rm7_d62) rfl k) ?_
  have hv2 : p1 = p1 := rfl
  obtain ⟨fs, hr, hrun, hended, hW, hsame⟩ := X1.leave (v := some (.int p1)) (fun h => by rw [Bd.returns] at h; cases h)
  exact ⟨_, _, retI X1 hx Bd.returns (hb hby own_rm7_d63) hr, hrun, hended, hP _ _ ⟨_, _, rfl, ⟨(congrArg (fun z => some (Value.int z)) hv2), N1, e1⟩, ⟨_, rfl⟩, hW, hsame.mono (by decide) (by decide)⟩⟩

theorem own_rm8_d0 : decode prog_3_method_6_code 0 = .ok (.aload_n 0, 1) := by decide +kernel
theorem own_rm8_d1 : decode prog_3_method_6_code 1 = .ok (.invokevirtual 35, 3) := by decide +kernel
theorem own_rm8_d4 : decode prog_3_method_6_code 4 = .ok (.lookupswitch 28 #[(0, 38), (1, 44)], 28) := by decide +kernel
theorem own_rm8_d42 : decode prog_3_method_6_code 42 = .ok (.iconst 2, 1) := by decide +kernel
theorem own_rm8_d43 : decode prog_3_method_6_code 43 = .ok (.iload_n 1, 1) := by decide +kernel
theorem own_rm8_d44 : decode prog_3_method_6_code 44 = .ok (.imul, 1) := by decide +kernel
theorem own_rm8_d45 : decode prog_3_method_6_code 45 = .ok (.goto 4, 3) := by decide +kernel
theorem own_rm8_d49 : decode prog_3_method_6_code 49 = .ok (.ireturn, 1) := by decide +kernel
theorem own_rm8_pn : plainName "com/example/lambdaloom/lambdaloom/ChannelModel" = true := by first | (simp [plainName, overriddenIn]; done) | decide +kernel
theorem own_rm8_pd0 : parseMethodDescriptor "()I" = some ⟨[], some .int⟩ := by decide +kernel
theorem own_rm8_ef (m : MethodId) (x0 : Addr) (x1 : Int32) : entryFrame m #[(.ref x0), (.int x1)] 2 = mkF m 0 #[.val (.ref x0), .val (.int x1)] [] := by first | (simp [entryFrame, mkF, argsToLocals, Value.category]; done) | rfl
def own_rm8_Q (Z : State) (a1 : Addr) (p1 : Int32) (h0 : Heap) (n0 : Nat) (v : Option Value) (h : Heap) (L : List Loc) : Prop := v = some (.int (((2 : Int32) * p1))) ∧ Fr n0 L ∧ h = h0
set_option maxRecDepth 65536 in
set_option maxHeartbeats 40000000 in
theorem own_rm8 (l : Launch) (Z : State) (a0 : Array Value) (hw : ∀ d ∈ tables_1, d.before a0 Z = true) (ws : List Jvm.Cond) (a1 : Addr) (p1 : Int32) (h0 : Heap) (n0 : Nat) (Z0 : n0 ≤ h0.size) (E_a1 : Exa Z h0 a1 "com/example/lambdaloom/lambdaloom/ChannelModel") (F_o : Fld Z h0 a1 "java/lang/Enum" "ordinal" "I" (.int (0 : Int32))) :
    MetFree l (⟨"com/example/lambdaloom/lambdaloom/ChannelModel", "fibreCount", "(I)I"⟩ : MethodName) (head1 (Jvm.Cond.code (⟨"com/example/lambdaloom/lambdaloom/ChannelModel", "fibreCount", "(I)I"⟩ : MethodName) prog_3_method_6_code 2 (some .int) :: ws) ({ frames := 1, cells := 0, slots := 0, locals := 12 } : Room)) (fun a U => a = #[(.ref a1), (.int p1)] ∧ Z.Warmed39 U.vm ∧ U.heap = h0) (fun _ _ _ _ _ => True) (fun _ U o U' => ∃ v L, o = .returned v ∧ own_rm8_Q Z a1 p1 h0 n0 v U'.heap L ∧ FrameEnd U o U' L ({ frames := 1, cells := 0, slots := 0, locals := 12 } : Room).cells ({ frames := 1, cells := 0, slots := 0, locals := 12 } : Room).slots) := by
  refine MetFree.of_bodySF (plainFor_of_name own_rm8_pn) hisR ?_
  intro p e s m args below meth c s₁ Bd hml0 hPre hK
  obtain ⟨rfl, hZ, hh⟩ := hPre
  have hx := Bd.exec
  have hby := Bd.bytes
  have hml : c.maxLocals = 2 := hml0
  have hown : s.vm.findClass "com/example/lambdaloom/lambdaloom/ChannelModel" = some m.cls := findClass_of_methodNamed Bd.named
  have hnm := (name_of_methodNamed Bd.named Bd.method).1
  have X0 : Stand p l e ({ frames := 1, cells := 0, slots := 0, locals := 12 } : Room) s m #[(.ref a1), (.int p1)] below meth c s₁ [] 0 0 := Stand.of_body Bd
  have e0 : s₁.heap = h0 := by rw [← hh, Bd.state]; rfl
  have N0 := Fr.nil n0
  refine own_body fun P hP => ?_
  refine own_st (t' := s₁.setTop (mkF m 0 #[.val (.ref a1), .val (.int p1)] [])) (fun _ k => castTop (own_rm8_ef m a1 p1) k) ?_
  refine own_st (t' := s₁.setTop (mkF m 1 #[.val (.ref a1), .val (.int p1)] [(.ref a1)])) (fun _ k => XS.aloadN X0.here hx rfl (hb hby own_rm8_d0) rfl rfl k) ?_
  obtain ⟨cq1, kq1, q1a, q1b, q1c⟩ := isOf hZ e0 E_a1
  obtain ⟨_, _, ⟨T1, L1, k1, n1⟩, -, X1, ⟨Lc1, hQ1, l1, y1, z1⟩, st1⟩ := X0.virtualBackUp hx (owner := "java/lang/Enum") (x := (⟨"com/example/lambdaloom/lambdaloom/ChannelModel", "ordinal", "()I"⟩ : MethodName)) (y := (⟨"java/lang/Enum", "ordinal", "()I"⟩ : MethodName)) hown (mvT hZ (hw _ (List.mem_of_getElem? (i := 9) rfl))) (mvT hZ (hw _ (List.mem_of_getElem? (i := 10) rfl))) (mvT hZ (hw _ (List.mem_of_getElem? (i := 11) rfl))) (by decide) (mvT hZ (hw _ (List.mem_of_getElem? (i := 13) rfl))) (mvT hZ (hw _ (List.mem_of_getElem? (i := 12) rfl))) (backOf (W := 0) (own_rm2 l Z a0 hw [] a1 (0 : Int32) h0 n0 Z0 F_o) hZ (hw _ (List.mem_of_getElem? (i := 15) rfl)) (hw _ (List.mem_of_getElem? (i := 14) rfl)) (by decide) (by decide)) q1a q1c (g := (mkF m 1 #[.val (.ref a1), .val (.int p1)] [(.ref a1)])) rfl (by rw [hml]; rfl) (Steps.refl _) (argsL := []) (rest := []) (lenOf own_rm8_pd0 rfl) rfl (by show 2 * 0 + _ ≤ _; exact Nat.le_of_eq rfl) (hb hby own_rm8_d1) (fun _ _ => ⟨rfl, e0, (by decide : 0 + 0 ≤ _), (by decide : 0 + 0 ≤ _)⟩)
  dsimp only [Pt.U, Pt.locs, Pt.cells, Pt.slots] at X1 l1 y1 z1 st1 hQ1
  subst l1 y1 z1
  obtain ⟨rfl, N1q, e1⟩ := hQ1
  have N1 := Fr.app N0 N1q
  refine own_tr (t' := T1.setTop (mkF m 4 #[.val (.ref a1), .val (.int p1)] [(.int (0 : Int32))])) st1 ?_
  refine own_st (t' := T1.setTop (mkF m 42 #[.val (.ref a1), .val (.int p1)] [])) (fun _ k => X1.lookupswitchHit hx (g := (mkF m 4 #[.val (.ref a1), .val (.int p1)] [(.int (0 : Int32))])) rfl (k := (0 : Int32)) rfl (hb hby own_rm8_d4) (by decide) (a := 0) (off := 38) (by decide) (by show (0 : Int) ≤ ((4 : Nat) : Int) + 38; decide) _ k) ?_
  refine own_st (t' := T1.setTop (mkF m 43 #[.val (.ref a1), .val (.int p1)] [(.int (2 : Int32))])) (fun _ k => XS.iconst X1.here hx rfl (hb hby own_rm8_d42) k) ?_
  refine own_st (t' := T1.setTop (mkF m 44 #[.val (.ref a1), .val (.int p1)] [(.int p1), (.int (2 : Int32))])) (fun _ k => XS.iloadN X1.here hx rfl (hb hby own_rm8_d43) rfl k) ?_
  refine own_st (t' := T1.setTop (mkF m 45 #[.val (.ref a1), .val (.int p1)] [(.int ((2 : Int32) * p1))])) (fun _ k => XS.imul X1.here hx rfl (hb hby own_rm8_d44) rfl k) ?_
  refine own_st (t' := T1.setTop (mkF m 49 #[.val (.ref a1), .val (.int p1)] [(.int ((2 : Int32) * p1))])) (fun _ k => XS.goto X1.here hx rfl (pc0 := 45) (pc' := 49) rfl (hb hby own_rm8_d45) (by decide) (by decide) k) ?_
  have hv2 : ((2 : Int32) * p1) = ((2 : Int32) * p1) := rfl
  obtain ⟨fs, hr, hrun, hended, hW, hsame⟩ := X1.leave (v := some (.int ((2 : Int32) * p1))) (fun h => by rw [Bd.returns] at h; cases h)
  exact ⟨_, _, retI X1 hx Bd.returns (hb hby own_rm8_d49) hr, hrun, hended, hP _ _ ⟨_, _, rfl, ⟨(congrArg (fun z => some (Value.int z)) hv2), N1, e1⟩, ⟨_, rfl⟩, hW, hsame.mono (by decide) (by decide)⟩⟩

theorem own_rm9_d0 : decode prog_3_method_6_code 0 = .ok (.aload_n 0, 1) := by decide +kernel
theorem own_rm9_d1 : decode prog_3_method_6_code 1 = .ok (.invokevirtual 35, 3) := by decide +kernel
theorem own_rm9_d4 : decode prog_3_method_6_code 4 = .ok (.lookupswitch 28 #[(0, 38), (1, 44)], 28) := by decide +kernel
theorem own_rm9_d48 : decode prog_3_method_6_code 48 = .ok (.iload_n 1, 1) := by decide +kernel
theorem own_rm9_d49 : decode prog_3_method_6_code 49 = .ok (.ireturn, 1) := by decide +kernel
theorem own_rm9_pn : plainName "com/example/lambdaloom/lambdaloom/ChannelModel" = true := by first | (simp [plainName, overriddenIn]; done) | decide +kernel
theorem own_rm9_pd0 : parseMethodDescriptor "()I" = some ⟨[], some .int⟩ := by decide +kernel
theorem own_rm9_ef (m : MethodId) (x0 : Addr) (x1 : Int32) : entryFrame m #[(.ref x0), (.int x1)] 2 = mkF m 0 #[.val (.ref x0), .val (.int x1)] [] := by first | (simp [entryFrame, mkF, argsToLocals, Value.category]; done) | rfl
def own_rm9_Q (Z : State) (a1 : Addr) (p1 : Int32) (h0 : Heap) (n0 : Nat) (v : Option Value) (h : Heap) (L : List Loc) : Prop := v = some (.int (p1)) ∧ Fr n0 L ∧ h = h0
set_option maxRecDepth 65536 in
set_option maxHeartbeats 40000000 in
theorem own_rm9 (l : Launch) (Z : State) (a0 : Array Value) (hw : ∀ d ∈ tables_1, d.before a0 Z = true) (ws : List Jvm.Cond) (a1 : Addr) (p1 : Int32) (h0 : Heap) (n0 : Nat) (Z0 : n0 ≤ h0.size) (E_a1 : Exa Z h0 a1 "com/example/lambdaloom/lambdaloom/ChannelModel") (F_o : Fld Z h0 a1 "java/lang/Enum" "ordinal" "I" (.int (1 : Int32))) :
    MetFree l (⟨"com/example/lambdaloom/lambdaloom/ChannelModel", "fibreCount", "(I)I"⟩ : MethodName) (head1 (Jvm.Cond.code (⟨"com/example/lambdaloom/lambdaloom/ChannelModel", "fibreCount", "(I)I"⟩ : MethodName) prog_3_method_6_code 2 (some .int) :: ws) ({ frames := 1, cells := 0, slots := 0, locals := 12 } : Room)) (fun a U => a = #[(.ref a1), (.int p1)] ∧ Z.Warmed39 U.vm ∧ U.heap = h0) (fun _ _ _ _ _ => True) (fun _ U o U' => ∃ v L, o = .returned v ∧ own_rm9_Q Z a1 p1 h0 n0 v U'.heap L ∧ FrameEnd U o U' L ({ frames := 1, cells := 0, slots := 0, locals := 12 } : Room).cells ({ frames := 1, cells := 0, slots := 0, locals := 12 } : Room).slots) := by
  refine MetFree.of_bodySF (plainFor_of_name own_rm9_pn) hisR ?_
  intro p e s m args below meth c s₁ Bd hml0 hPre hK
  obtain ⟨rfl, hZ, hh⟩ := hPre
  have hx := Bd.exec
  have hby := Bd.bytes
  have hml : c.maxLocals = 2 := hml0
  have hown : s.vm.findClass "com/example/lambdaloom/lambdaloom/ChannelModel" = some m.cls := findClass_of_methodNamed Bd.named
  have hnm := (name_of_methodNamed Bd.named Bd.method).1
  have X0 : Stand p l e ({ frames := 1, cells := 0, slots := 0, locals := 12 } : Room) s m #[(.ref a1), (.int p1)] below meth c s₁ [] 0 0 := Stand.of_body Bd
  have e0 : s₁.heap = h0 := by rw [← hh, Bd.state]; rfl
  have N0 := Fr.nil n0
  refine own_body fun P hP => ?_
  refine own_st (t' := s₁.setTop (mkF m 0 #[.val (.ref a1), .val (.int p1)] [])) (fun _ k => castTop (own_rm9_ef m a1 p1) k) ?_
  refine own_st (t' := s₁.setTop (mkF m 1 #[.val (.ref a1), .val (.int p1)] [(.ref a1)])) (fun _ k => XS.aloadN X0.here hx rfl (hb hby own_rm9_d0) rfl rfl k) ?_
  obtain ⟨cq1, kq1, q1a, q1b, q1c⟩ := isOf hZ e0 E_a1
  obtain ⟨_, _, ⟨T1, L1, k1, n1⟩, -, X1, ⟨Lc1, hQ1, l1, y1, z1⟩, st1⟩ := X0.virtualBackUp hx (owner := "java/lang/Enum") (x := (⟨"com/example/lambdaloom/lambdaloom/ChannelModel", "ordinal", "()I"⟩ : MethodName)) (y := (⟨"java/lang/Enum", "ordinal", "()I"⟩ : MethodName)) hown (mvT hZ (hw _ (List.mem_of_getElem? (i := 9) rfl))) (mvT hZ (hw _ (List.mem_of_getElem? (i := 10) rfl))) (mvT hZ (hw _ (List.mem_of_getElem? (i := 11) rfl))) (by decide) (mvT hZ (hw _ (List.mem_of_getElem? (i := 13) rfl))) (mvT hZ (hw _ (List.mem_of_getElem? (i := 12) rfl))) (backOf (W := 0) (own_rm2 l Z a0 hw [] a1 (1 : Int32) h0 n0 Z0 F_o) hZ (hw _ (List.mem_of_getElem? (i := 15) rfl)) (hw _ (List.mem_of_getElem? (i := 14) rfl)) (by decide) (by decide)) q1a q1c (g := (mkF m 1 #[.val (.ref a1), .val (.int p1)] [(.ref a1)])) rfl (by rw [hml]; rfl) (Steps.refl _) (argsL := []) (rest := []) (lenOf own_rm9_pd0 rfl) rfl (by show 2 * 0 + _ ≤ _; exact Nat.le_of_eq rfl) (hb hby own_rm9_d1) (fun _ _ => ⟨rfl, e0, (by decide : 0 + 0 ≤ _), (by decide : 0 + 0 ≤ _)⟩)
  dsimp only [Pt.U, Pt.locs, Pt.cells, Pt.slots] at X1 l1 y1 z1 st1 hQ1
  subst l1 y1 z1
  obtain ⟨rfl, N1q, e1⟩ := hQ1
  have N1 := Fr.app N0 N1q
  refine own_tr (t' := T1.setTop (mkF m 4 #[.val (.ref a1), .val (.int p1)] [(.int (1 : Int32))])) st1 ?_
  refine own_st (t' := T1.setTop (mkF m 48 #[.val (.ref a1), .val (.int p1)] [])) (fun _ k => X1.lookupswitchHit hx (g := (mkF m 4 #[.val (.ref a1), .val (.int p1)] [(.int (1 : Int32))])) rfl (k := (1 : Int32)) rfl (hb hby own_rm9_d4) (by decide) (a := 1) (off := 44) (by decide) (by show (0 : Int) ≤ ((4 : Nat) : Int) + 44; decide) _ k) ?_
  refine own_st (t' := T1.setTop (mkF m 49 #[.val (.ref a1), .val (.int p1)] [(.int p1)])) (fun _ k => XS.iloadN X1.here hx rfl (hb hby own_rm9_d48) rfl k) ?_
  have hv2 : p1 = p1 := rfl
  obtain ⟨fs, hr, hrun, hended, hW, hsame⟩ := X1.leave (v := some (.int p1)) (fun h => by rw [Bd.returns] at h; cases h)
  exact ⟨_, _, retI X1 hx Bd.returns (hb hby own_rm9_d49) hr, hrun, hended, hP _ _ ⟨_, _, rfl, ⟨(congrArg (fun z => some (Value.int z)) hv2), N1, e1⟩, ⟨_, rfl⟩, hW, hsame.mono (by decide) (by decide)⟩⟩

theorem own_rmM_d0 : decode jdk_29_method_65_code 0 = .ok (.iload_n 0, 1) := by decide +kernel
theorem own_rmM_d1 : decode jdk_29_method_65_code 1 = .ok (.iload_n 1, 1) := by decide +kernel
theorem own_rmM_d2 : decode jdk_29_method_65_code 2 = .ok (.if_icmp .lt 7, 3) := by decide +kernel
theorem own_rmM_d5 : decode jdk_29_method_65_code 5 = .ok (.iload_n 0, 1) := by decide +kernel
theorem own_rmM_d6 : decode jdk_29_method_65_code 6 = .ok (.goto 4, 3) := by decide +kernel
theorem own_rmM_d9 : decode jdk_29_method_65_code 9 = .ok (.iload_n 1, 1) := by decide +kernel
theorem own_rmM_d10 : decode jdk_29_method_65_code 10 = .ok (.ireturn, 1) := by decide +kernel
theorem own_rmM_ef (m : MethodId) (x0 : Int32) (x1 : Int32) : entryFrame m #[(.int x0), (.int x1)] 2 = mkF m 0 #[.val (.int x0), .val (.int x1)] [] := by first | (simp [entryFrame, mkF, argsToLocals, Value.category]; done) | rfl
def own_rmM_Q (Z : State) (p1 : Int32) (p2 : Int32) (h0 : Heap) (n0 : Nat) (v : Option Value) (h : Heap) (L : List Loc) : Prop := v = some (.int (own_max p1 p2)) ∧ Fr n0 L ∧ h = h0
set_option maxRecDepth 65536 in
set_option maxHeartbeats 40000000 in
theorem own_rmM (l : Launch) (Z : State) (a0 : Array Value) (hw : ∀ d ∈ tables_1, d.before a0 Z = true) (ws : List Jvm.Cond) (p1 : Int32) (p2 : Int32) (h0 : Heap) (n0 : Nat) (Z0 : n0 ≤ h0.size) :
    MetFree l (⟨"java/lang/Math", "max", "(II)I"⟩ : MethodName) (head1 (Jvm.Cond.code (⟨"java/lang/Math", "max", "(II)I"⟩ : MethodName) jdk_29_method_65_code 2 (some .int) :: ws) ({ frames := 0, cells := 0, slots := 0, locals := 0 } : Room)) (fun a U => a = #[(.int p1), (.int p2)] ∧ Z.Warmed39 U.vm ∧ U.heap = h0) (fun _ _ _ _ _ => True) (fun _ U o U' => ∃ v L, o = .returned v ∧ own_rmM_Q Z p1 p2 h0 n0 v U'.heap L ∧ FrameEnd U o U' L ({ frames := 0, cells := 0, slots := 0, locals := 0 } : Room).cells ({ frames := 0, cells := 0, slots := 0, locals := 0 } : Room).slots) := by
  refine MetFree.of_bodySF (Jvm.Free.JP.mathPlain rfl (by decide +kernel)) hisR ?_
  intro p e s m args below meth c s₁ Bd hml0 hPre hK
  obtain ⟨rfl, hZ, hh⟩ := hPre
  have hx := Bd.exec
  have hby := Bd.bytes
  have hml : c.maxLocals = 2 := hml0
  have hown : s.vm.findClass "java/lang/Math" = some m.cls := findClass_of_methodNamed Bd.named
  have hnm := (name_of_methodNamed Bd.named Bd.method).1
  have X0 : Stand p l e ({ frames := 0, cells := 0, slots := 0, locals := 0 } : Room) s m #[(.int p1), (.int p2)] below meth c s₁ [] 0 0 := Stand.of_body Bd
  have e0 : s₁.heap = h0 := by rw [← hh, Bd.state]; rfl
  have N0 := Fr.nil n0
  refine own_body fun P hP => ?_
  refine own_st (t' := s₁.setTop (mkF m 0 #[.val (.int p1), .val (.int p2)] [])) (fun _ k => castTop (own_rmM_ef m p1 p2) k) ?_
  refine own_st (t' := s₁.setTop (mkF m 1 #[.val (.int p1), .val (.int p2)] [(.int p1)])) (fun _ k => XS.iloadN X0.here hx rfl (hb hby own_rmM_d0) rfl k) ?_
  refine own_st (t' := s₁.setTop (mkF m 2 #[.val (.int p1), .val (.int p2)] [(.int p2), (.int p1)])) (fun _ k => XS.iloadN X0.here hx rfl (hb hby own_rmM_d1) rfl k) ?_
  by_cases c2_1 : p1 < p2
  · refine own_st (t' := s₁.setTop (mkF m 9 #[.val (.int p1), .val (.int p2)] [])) (fun _ k => XS.icmpYes X0.here hx rfl (pc0 := 2) (pc' := 9) rfl (hb hby own_rmM_d2) rfl (tlt c2_1).1 (by decide) (by decide) k) ?_
    refine own_st (t' := s₁.setTop (mkF m 10 #[.val (.int p1), .val (.int p2)] [(.int p2)])) (fun _ k => XS.iloadN X0.here hx rfl (hb hby own_rmM_d9) rfl k) ?_
    have hv2 : p2 = own_max p1 p2 := by simp [own_max, c2_1]
    obtain ⟨fs, hr, hrun, hended, hW, hsame⟩ := X0.leave (v := some (.int p2)) (fun h => by rw [Bd.returns] at h; cases h)
    exact ⟨_, _, retI X0 hx Bd.returns (hb hby own_rmM_d10) hr, hrun, hended, hP _ _ ⟨_, _, rfl, ⟨(congrArg (fun z => some (Value.int z)) hv2), N0, e0⟩, ⟨_, rfl⟩, hW, hsame.mono (by decide) (by decide)⟩⟩
  · refine own_st (t' := s₁.setTop (mkF m 5 #[.val (.int p1), .val (.int p2)] [])) (fun _ k => XS.icmpNo X0.here hx rfl (hb hby own_rmM_d2) rfl (flt c2_1).1 k) ?_
    refine own_st (t' := s₁.setTop (mkF m 6 #[.val (.int p1), .val (.int p2)] [(.int p1)])) (fun _ k => XS.iloadN X0.here hx rfl (hb hby own_rmM_d5) rfl k) ?_
    refine own_st (t' := s₁.setTop (mkF m 10 #[.val (.int p1), .val (.int p2)] [(.int p1)])) (fun _ k => XS.goto X0.here hx rfl (pc0 := 6) (pc' := 10) rfl (hb hby own_rmM_d6) (by decide) (by decide) k) ?_
    have hv3 : p1 = own_max p1 p2 := by simp [own_max, c2_1]
    obtain ⟨fs, hr, hrun, hended, hW, hsame⟩ := X0.leave (v := some (.int p1)) (fun h => by rw [Bd.returns] at h; cases h)
    exact ⟨_, _, retI X0 hx Bd.returns (hb hby own_rmM_d10) hr, hrun, hended, hP _ _ ⟨_, _, rfl, ⟨(congrArg (fun z => some (Value.int z)) hv3), N0, e0⟩, ⟨_, rfl⟩, hW, hsame.mono (by decide) (by decide)⟩⟩

theorem own_rm0_pn : plainName "com/example/lambdaloom/lambdaloom/ChannelModelFibreCountPinLaw" = true := by first | (simp [plainName, overriddenIn]; done) | decide +kernel
theorem own_rm0_pd0 : parseMethodDescriptor "(I)I" = some ⟨[.int], some .int⟩ := by decide +kernel
theorem own_rm0_pd1 : parseMethodDescriptor "()Z" = some ⟨[], some .boolean⟩ := by decide +kernel
theorem own_rm0_pd2 : parseMethodDescriptor "(Ljava/lang/String;II)V" = some ⟨[(.object "java/lang/String"), .int, .int], none⟩ := by decide +kernel
theorem own_rm0_pd3 : parseMethodDescriptor "(Lcom/example/lambdaloom/lambdaloom/Network$Link;II)I" = some ⟨[(.object "com/example/lambdaloom/lambdaloom/Network$Link"), .int, .int], some .int⟩ := by decide +kernel
theorem own_rm0_pd4 : parseMethodDescriptor "(II)I" = some ⟨[.int, .int], some .int⟩ := by decide +kernel
theorem own_rm0_ef (m : MethodId) (x0 : Int32) (x1 : Int32) (x2 : Int32) (x3 : Int32) (x4 : Int32) : entryFrame m #[(.int x0), (.int x1), (.int x2), (.int x3), (.int x4)] maxLocals = mkF m 0 #[.val (.int x0), .val (.int x1), .val (.int x2), .val (.int x3), .val (.int x4), .unset, .unset, .unset, .unset, .unset, .unset, .unset, .unset, .unset, .unset, .unset, .unset] [] := by first | (simp [entryFrame, mkF, argsToLocals, Value.category, maxLocals]; done) | rfl
def own_rm0_Q (Z : State) (p1 : Int32) (p2 : Int32) (p3 : Int32) (p4 : Int32) (p5 : Int32) (wDIRECTED : Addr) (wUNDIRECTED : Addr) (h0 : Heap) (n0 : Nat) (v : Option Value) (h : Heap) (L : List Loc) : Prop := v = some (.int ((1 : Int32))) ∧ Fr n0 L
set_option maxRecDepth 65536 in
set_option maxHeartbeats 40000000 in
theorem own_rm0 (l : Launch) (Z : State) (a0 : Array Value) (hw : ∀ d ∈ tables_1, d.before a0 Z = true) (ws : List Jvm.Cond) (p1 : Int32) (p2 : Int32) (p3 : Int32) (p4 : Int32) (p5 : Int32) (wDIRECTED : Addr) (wUNDIRECTED : Addr) (h0 : Heap) (n0 : Nat) (Z0 : n0 ≤ h0.size) (S_DIRECTED : Sta Z h0 "com/example/lambdaloom/lambdaloom/ChannelModel" "DIRECTED" "Lcom/example/lambdaloom/lambdaloom/ChannelModel;" (.ref wDIRECTED)) (S_UNDIRECTED : Sta Z h0 "com/example/lambdaloom/lambdaloom/ChannelModel" "UNDIRECTED" "Lcom/example/lambdaloom/lambdaloom/ChannelModel;" (.ref wUNDIRECTED)) (E_DIRECTED : Exa Z h0 wDIRECTED "com/example/lambdaloom/lambdaloom/ChannelModel") (E_UNDIRECTED : Exa Z h0 wUNDIRECTED "com/example/lambdaloom/lambdaloom/ChannelModel") (O_DIRECTED : Fld Z h0 wDIRECTED "java/lang/Enum" "ordinal" "I" (.int (0 : Int32))) (O_UNDIRECTED : Fld Z h0 wUNDIRECTED "java/lang/Enum" "ordinal" "I" (.int (1 : Int32))) (hne : ¬ wDIRECTED = wUNDIRECTED) :
    MetFree l x (head1 (Jvm.Cond.code x code maxLocals ret :: ws) room_1) (fun a U => a = #[(.int p1), (.int p2), (.int p3), (.int p4), (.int p5)] ∧ Z.Warmed39 U.vm ∧ U.heap = h0) (fun _ _ _ _ _ => True) (fun _ U o U' => ∃ v L, o = .returned v ∧ own_rm0_Q Z p1 p2 p3 p4 p5 wDIRECTED wUNDIRECTED h0 n0 v U'.heap L ∧ ReturnedEndW U o U' L room_1.cells room_1.slots) := by
  refine MetFree.of_bodySF (plainFor_of_name own_rm0_pn) hisR ?_
  intro p e s m args below meth c s₁ Bd hml0 hPre hK
  obtain ⟨rfl, hZ, hh⟩ := hPre
  have hx := Bd.exec
  have hby := Bd.bytes
  have hml : c.maxLocals = 17 := hml0
  have hown : s.vm.findClass "com/example/lambdaloom/lambdaloom/ChannelModelFibreCountPinLaw" = some m.cls := findClass_of_methodNamed Bd.named
  have hnm := (name_of_methodNamed Bd.named Bd.method).1
  have X0 : Stand p l e room_1 s m #[(.int p1), (.int p2), (.int p3), (.int p4), (.int p5)] below meth c s₁ [] 0 0 := Stand.of_body Bd
  have e0 : s₁.heap = h0 := by rw [← hh, Bd.state]; rfl
  have N0 := Fr.nil n0
  have hSi : s.Since s.vm h0.size := State.WarmedH.since (State.WarmedH.refl s) _
  have hki : h0.size ≤ h0.size := Nat.le_refl _
  have wS : ∀ d ∈ Bundle.stringAtoms, d.before a0 Z = true := by
    intro d hd
    simp only [Bundle.stringAtoms, List.mem_cons, List.not_mem_nil, or_false] at hd
    rcases hd with rfl | rfl | rfl | rfl | rfl | rfl | rfl
    · exact (hw _ (List.mem_of_getElem? (i := 31) rfl))
    · exact (hw _ (List.mem_of_getElem? (i := 32) rfl))
    · exact (hw _ (List.mem_of_getElem? (i := 33) rfl))
    · exact (hw _ (List.mem_of_getElem? (i := 34) rfl))
    · exact (hw _ (List.mem_of_getElem? (i := 35) rfl))
    · exact (hw _ (List.mem_of_getElem? (i := 36) rfl))
    · exact (hw _ (List.mem_of_getElem? (i := 37) rfl))
  refine own_body fun P hP => ?_
  refine own_st (t' := s₁.setTop (mkF m 0 #[.val (.int p1), .val (.int p2), .val (.int p3), .val (.int p4), .val (.int p5), .unset, .unset, .unset, .unset, .unset, .unset, .unset, .unset, .unset, .unset, .unset, .unset] [])) (fun _ k => castTop (own_rm0_ef m p1 p2 p3 p4 p5) k) ?_
  refine own_st (t' := s₁.setTop (mkF m 1 #[.val (.int p1), .val (.int p2), .val (.int p3), .val (.int p4), .val (.int p5), .unset, .unset, .unset, .unset, .unset, .unset, .unset, .unset, .unset, .unset, .unset, .unset] [(.int p1)])) (fun _ k => XS.iloadN X0.here hx rfl (hb hby at_0) rfl k) ?_
  refine own_st (t' := s₁.setTop (mkF m 2 #[.val (.int p1), .val (.int p2), .val (.int p3), .val (.int p4), .val (.int p5), .unset, .unset, .unset, .unset, .unset, .unset, .unset, .unset, .unset, .unset, .unset, .unset] [(.int (1 : Int32)), (.int p1)])) (fun _ k => XS.iconst X0.here hx rfl (hb hby at_1) k) ?_
  refine own_st (t' := s₁.setTop (mkF m 3 #[.val (.int p1), .val (.int p2), .val (.int p3), .val (.int p4), .val (.int p5), .unset, .unset, .unset, .unset, .unset, .unset, .unset, .unset, .unset, .unset, .unset, .unset] [(.int (p1 &&& (1 : Int32)))])) (fun _ k => XS.iand X0.here hx rfl (hb hby at_2) rfl k) ?_
  by_cases c3_1 : (p1 &&& (1 : Int32)) = (0 : Int32)
  · refine own_st (t' := s₁.setTop (mkF m 6 #[.val (.int p1), .val (.int p2), .val (.int p3), .val (.int p4), .val (.int p5), .unset, .unset, .unset, .unset, .unset, .unset, .unset, .unset, .unset, .unset, .unset, .unset] [])) (fun _ k => XS.ifNo X0.here hx rfl (hb hby at_3) rfl ((if0 _ _).trans (teq c3_1).2) k) ?_
    obtain ⟨T2, X2, e2, st2⟩ := getS2 X0 hx hZ hown (host := "") (Or.inl (hw _ (List.mem_of_getElem? (i := 0) rfl))) Via.refl e0 S_DIRECTED (g := (mkF m 6 #[.val (.int p1), .val (.int p2), .val (.int p3), .val (.int p4), .val (.int p5), .unset, .unset, .unset, .unset, .unset, .unset, .unset, .unset, .unset, .unset, .unset, .unset] [])) rfl (hb hby at_6)
    refine own_st (t' := T2.setTop (mkF m 9 #[.val (.int p1), .val (.int p2), .val (.int p3), .val (.int p4), .val (.int p5), .unset, .unset, .unset, .unset, .unset, .unset, .unset, .unset, .unset, .unset, .unset, .unset] [(.ref wDIRECTED)])) st2 ?_
    refine own_st (t' := T2.setTop (mkF m 15 #[.val (.int p1), .val (.int p2), .val (.int p3), .val (.int p4), .val (.int p5), .unset, .unset, .unset, .unset, .unset, .unset, .unset, .unset, .unset, .unset, .unset, .unset] [(.ref wDIRECTED)])) (fun _ k => XS.goto X2.here hx rfl (pc0 := 9) (pc' := 15) rfl (hb hby at_9) (by decide) (by decide) k) ?_
    refine own_st (t' := T2.setTop (mkF m 17 #[.val (.int p1), .val (.int p2), .val (.int p3), .val (.int p4), .val (.int p5), .val (.ref wDIRECTED), .unset, .unset, .unset, .unset, .unset, .unset, .unset, .unset, .unset, .unset, .unset] [])) (fun _ k => XS.astore X2.here hx rfl (hb hby at_15) rfl rfl (l' := #[.val (.int p1), .val (.int p2), .val (.int p3), .val (.int p4), .val (.int p5), .val (.ref wDIRECTED), .unset, .unset, .unset, .unset, .unset, .unset, .unset, .unset, .unset, .unset, .unset]) rfl k) ?_
    refine own_st (t' := T2.setTop (mkF m 18 #[.val (.int p1), .val (.int p2), .val (.int p3), .val (.int p4), .val (.int p5), .val (.ref wDIRECTED), .unset, .unset, .unset, .unset, .unset, .unset, .unset, .unset, .unset, .unset, .unset] [(.int p2)])) (fun _ k => XS.iloadN X2.here hx rfl (hb hby at_17) rfl k) ?_
    refine own_st (t' := T2.setTop (mkF m 20 #[.val (.int p1), .val (.int p2), .val (.int p3), .val (.int p4), .val (.int p5), .val (.ref wDIRECTED), .unset, .unset, .unset, .unset, .unset, .unset, .unset, .unset, .unset, .unset, .unset] [(.int (1073741823 : Int32)), (.int p2)])) (fun _ k => X2.ldcInt hx hown (mvT hZ (hw _ (List.mem_of_getElem? (i := 3) rfl))) (g := (mkF m 18 #[.val (.int p1), .val (.int p2), .val (.int p3), .val (.int p4), .val (.int p5), .val (.ref wDIRECTED), .unset, .unset, .unset, .unset, .unset, .unset, .unset, .unset, .unset, .unset, .unset] [(.int p2)])) rfl (hb hby at_18) _ k) ?_
    refine own_st (t' := T2.setTop (mkF m 21 #[.val (.int p1), .val (.int p2), .val (.int p3), .val (.int p4), .val (.int p5), .val (.ref wDIRECTED), .unset, .unset, .unset, .unset, .unset, .unset, .unset, .unset, .unset, .unset, .unset] [(.int (p2 &&& (1073741823 : Int32)))])) (fun _ k => XS.iand X2.here hx rfl (hb hby at_20) rfl k) ?_
    refine own_st (t' := T2.setTop (mkF m 23 #[.val (.int p1), .val (.int p2), .val (.int p3), .val (.int p4), .val (.int p5), .val (.ref wDIRECTED), .val (.int (p2 &&& (1073741823 : Int32))), .unset, .unset, .unset, .unset, .unset, .unset, .unset, .unset, .unset, .unset] [])) (fun _ k => XS.istore X2.here hx rfl (hb hby at_21) rfl (l' := #[.val (.int p1), .val (.int p2), .val (.int p3), .val (.int p4), .val (.int p5), .val (.ref wDIRECTED), .val (.int (p2 &&& (1073741823 : Int32))), .unset, .unset, .unset, .unset, .unset, .unset, .unset, .unset, .unset, .unset]) rfl k) ?_
    have hct := own_ct p2
    generalize (p2 &&& (1073741823 : Int32)) = ct at hct ⊢
    refine own_st (t' := T2.setTop (mkF m 25 #[.val (.int p1), .val (.int p2), .val (.int p3), .val (.int p4), .val (.int p5), .val (.ref wDIRECTED), .val (.int ct), .unset, .unset, .unset, .unset, .unset, .unset, .unset, .unset, .unset, .unset] [(.ref wDIRECTED)])) (fun _ k => XS.aload X2.here hx rfl (hb hby at_23) rfl rfl k) ?_
    refine own_st (t' := T2.setTop (mkF m 27 #[.val (.int p1), .val (.int p2), .val (.int p3), .val (.int p4), .val (.int p5), .val (.ref wDIRECTED), .val (.int ct), .unset, .unset, .unset, .unset, .unset, .unset, .unset, .unset, .unset, .unset] [(.int ct), (.ref wDIRECTED)])) (fun _ k => XS.iload X2.here hx rfl (hb hby at_25) rfl k) ?_
    obtain ⟨cq3, kq3, q3a, q3b, q3c⟩ := isOf hZ e2 E_DIRECTED
    obtain ⟨_, _, ⟨T3, L3, k3, n3⟩, -, X3, ⟨Lc3, hQ3, l3, y3, z3⟩, st3⟩ := X2.virtualBack hx (y := (⟨"com/example/lambdaloom/lambdaloom/ChannelModel", "fibreCount", "(I)I"⟩ : MethodName)) (z := (⟨"com/example/lambdaloom/lambdaloom/ChannelModel", "fibreCount", "(I)I"⟩ : MethodName)) hown (mvT hZ (hw _ (List.mem_of_getElem? (i := 4) rfl))) (mvT hZ (hw _ (List.mem_of_getElem? (i := 5) rfl))) (notFace_of_selects (args := #[]) (mvT hZ (hw _ (List.mem_of_getElem? (i := 7) rfl)))) (mvT hZ (hw _ (List.mem_of_getElem? (i := 7) rfl))) (mvT hZ (hw _ (List.mem_of_getElem? (i := 6) rfl))) (by decide) (backOf (W := 0) (own_rm8 l Z a0 hw [] wDIRECTED ct h0 n0 Z0 E_DIRECTED O_DIRECTED) hZ (hw _ (List.mem_of_getElem? (i := 8) rfl)) (hw _ (List.mem_of_getElem? (i := 1) rfl)) (by decide) (by decide)) q3a q3c (g := (mkF m 27 #[.val (.int p1), .val (.int p2), .val (.int p3), .val (.int p4), .val (.int p5), .val (.ref wDIRECTED), .val (.int ct), .unset, .unset, .unset, .unset, .unset, .unset, .unset, .unset, .unset, .unset] [(.int ct), (.ref wDIRECTED)])) rfl (by rw [hml]; rfl) (Steps.refl _) (argsL := [(.int ct)]) (rest := []) (lenOf own_rm0_pd0 rfl) rfl (by show 2 * 0 + _ ≤ _; exact Nat.le_of_eq rfl) (hb hby at_27) (fun _ _ => ⟨rfl, e2, (by decide : 0 + 0 ≤ _), (by decide : 0 + 0 ≤ _)⟩)
    dsimp only [Pt.U, Pt.locs, Pt.cells, Pt.slots] at X3 l3 y3 z3 st3 hQ3
    subst l3 y3 z3
    obtain ⟨rfl, N3q, e3⟩ := hQ3
    have N3 := Fr.app N0 N3q
    refine own_tr (t' := T3.setTop (mkF m 30 #[.val (.int p1), .val (.int p2), .val (.int p3), .val (.int p4), .val (.int p5), .val (.ref wDIRECTED), .val (.int ct), .unset, .unset, .unset, .unset, .unset, .unset, .unset, .unset, .unset, .unset] [(.int ((2 : Int32) * ct))])) st3 ?_
    refine own_st (t' := T3.setTop (mkF m 32 #[.val (.int p1), .val (.int p2), .val (.int p3), .val (.int p4), .val (.int p5), .val (.ref wDIRECTED), .val (.int ct), .val (.int ((2 : Int32) * ct)), .unset, .unset, .unset, .unset, .unset, .unset, .unset, .unset, .unset] [])) (fun _ k => XS.istore X3.here hx rfl (hb hby at_30) rfl (l' := #[.val (.int p1), .val (.int p2), .val (.int p3), .val (.int p4), .val (.int p5), .val (.ref wDIRECTED), .val (.int ct), .val (.int ((2 : Int32) * ct)), .unset, .unset, .unset, .unset, .unset, .unset, .unset, .unset, .unset]) rfl k) ?_
    refine own_st (t' := T3.setTop (mkF m 34 #[.val (.int p1), .val (.int p2), .val (.int p3), .val (.int p4), .val (.int p5), .val (.ref wDIRECTED), .val (.int ct), .val (.int ((2 : Int32) * ct)), .unset, .unset, .unset, .unset, .unset, .unset, .unset, .unset, .unset] [(.ref wDIRECTED)])) (fun _ k => XS.aload X3.here hx rfl (hb hby at_32) rfl rfl k) ?_
    obtain ⟨cq4, kq4, q4a, q4b, q4c⟩ := isOf hZ e3 E_DIRECTED
    obtain ⟨_, _, ⟨T4, L4, k4, n4⟩, -, X4, ⟨Lc4, hQ4, l4, y4, z4⟩, st4⟩ := X3.virtualBack hx (y := (⟨"com/example/lambdaloom/lambdaloom/ChannelModel", "sameFibresBothWays", "()Z"⟩ : MethodName)) (z := (⟨"com/example/lambdaloom/lambdaloom/ChannelModel", "sameFibresBothWays", "()Z"⟩ : MethodName)) hown (mvT hZ (hw _ (List.mem_of_getElem? (i := 18) rfl))) (mvT hZ (hw _ (List.mem_of_getElem? (i := 19) rfl))) (notFace_of_selects (args := #[]) (mvT hZ (hw _ (List.mem_of_getElem? (i := 21) rfl)))) (mvT hZ (hw _ (List.mem_of_getElem? (i := 21) rfl))) (mvT hZ (hw _ (List.mem_of_getElem? (i := 20) rfl))) (by decide) (backOf (W := 0) (own_rm5 l Z a0 hw [] wDIRECTED wUNDIRECTED (0 : Int32) h0 n0 Z0 S_UNDIRECTED ((if_neg hne).symm)) hZ (hw _ (List.mem_of_getElem? (i := 22) rfl)) (hw _ (List.mem_of_getElem? (i := 1) rfl)) (by decide) (by decide)) q4a q4c (g := (mkF m 34 #[.val (.int p1), .val (.int p2), .val (.int p3), .val (.int p4), .val (.int p5), .val (.ref wDIRECTED), .val (.int ct), .val (.int ((2 : Int32) * ct)), .unset, .unset, .unset, .unset, .unset, .unset, .unset, .unset, .unset] [(.ref wDIRECTED)])) rfl (by rw [hml]; rfl) (Steps.refl _) (argsL := []) (rest := []) (lenOf own_rm0_pd1 rfl) rfl (by show 2 * 0 + _ ≤ _; exact Nat.le_of_eq rfl) (hb hby at_34) (fun _ _ => ⟨rfl, e3, (by decide : 0 + 0 + 0 ≤ _), (by decide : 0 + 0 + 0 ≤ _)⟩)
    dsimp only [Pt.U, Pt.locs, Pt.cells, Pt.slots] at X4 l4 y4 z4 st4 hQ4
    subst l4 y4 z4
    obtain ⟨rfl, N4q, e4⟩ := hQ4
    have N4 := Fr.app N3 N4q
    refine own_tr (t' := T4.setTop (mkF m 37 #[.val (.int p1), .val (.int p2), .val (.int p3), .val (.int p4), .val (.int p5), .val (.ref wDIRECTED), .val (.int ct), .val (.int ((2 : Int32) * ct)), .unset, .unset, .unset, .unset, .unset, .unset, .unset, .unset, .unset] [(.int (0 : Int32))])) st4 ?_
    refine own_st (t' := T4.setTop (mkF m 39 #[.val (.int p1), .val (.int p2), .val (.int p3), .val (.int p4), .val (.int p5), .val (.ref wDIRECTED), .val (.int ct), .val (.int ((2 : Int32) * ct)), .val (.int (0 : Int32)), .unset, .unset, .unset, .unset, .unset, .unset, .unset, .unset] [])) (fun _ k => XS.istore X4.here hx rfl (hb hby at_37) rfl (l' := #[.val (.int p1), .val (.int p2), .val (.int p3), .val (.int p4), .val (.int p5), .val (.ref wDIRECTED), .val (.int ct), .val (.int ((2 : Int32) * ct)), .val (.int (0 : Int32)), .unset, .unset, .unset, .unset, .unset, .unset, .unset, .unset]) rfl k) ?_
    refine own_st (t' := T4.setTop (mkF m 41 #[.val (.int p1), .val (.int p2), .val (.int p3), .val (.int p4), .val (.int p5), .val (.ref wDIRECTED), .val (.int ct), .val (.int ((2 : Int32) * ct)), .val (.int (0 : Int32)), .unset, .unset, .unset, .unset, .unset, .unset, .unset, .unset] [(.int (0 : Int32))])) (fun _ k => XS.iload X4.here hx rfl (hb hby at_39) rfl k) ?_
    refine own_st (t' := T4.setTop (mkF m 50 #[.val (.int p1), .val (.int p2), .val (.int p3), .val (.int p4), .val (.int p5), .val (.ref wDIRECTED), .val (.int ct), .val (.int ((2 : Int32) * ct)), .val (.int (0 : Int32)), .unset, .unset, .unset, .unset, .unset, .unset, .unset, .unset] [])) (fun _ k => XS.ifYes X4.here hx rfl (pc0 := 41) (pc' := 50) rfl (hb hby at_41) rfl ((if0 _ _).trans (teq (rfl : (0 : Int32) = (0 : Int32))).1) (by decide) (by decide) k) ?_
    refine own_st (t' := T4.setTop (mkF m 53 #[.val (.int p1), .val (.int p2), .val (.int p3), .val (.int p4), .val (.int p5), .val (.ref wDIRECTED), .val (.int ct), .val (.int ((2 : Int32) * ct)), .val (.int (0 : Int32)), .unset, .unset, .unset, .unset, .unset, .unset, .unset, .unset] [(.long (2 : Int64))])) (fun _ k => X4.ldc2Long hx hown (mvT hZ (hw _ (List.mem_of_getElem? (i := 25) rfl))) (g := (mkF m 50 #[.val (.int p1), .val (.int p2), .val (.int p3), .val (.int p4), .val (.int p5), .val (.ref wDIRECTED), .val (.int ct), .val (.int ((2 : Int32) * ct)), .val (.int (0 : Int32)), .unset, .unset, .unset, .unset, .unset, .unset, .unset, .unset] [])) rfl (hb hby at_50) _ k) ?_
    refine own_st (t' := T4.setTop (mkF m 55 #[.val (.int p1), .val (.int p2), .val (.int p3), .val (.int p4), .val (.int p5), .val (.ref wDIRECTED), .val (.int ct), .val (.int ((2 : Int32) * ct)), .val (.int (0 : Int32)), .unset, .unset, .unset, .unset, .unset, .unset, .unset, .unset] [(.int ct), (.long (2 : Int64))])) (fun _ k => XS.iload X4.here hx rfl (hb hby at_53) rfl k) ?_
    refine own_st (t' := T4.setTop (mkF m 56 #[.val (.int p1), .val (.int p2), .val (.int p3), .val (.int p4), .val (.int p5), .val (.ref wDIRECTED), .val (.int ct), .val (.int ((2 : Int32) * ct)), .val (.int (0 : Int32)), .unset, .unset, .unset, .unset, .unset, .unset, .unset, .unset] [(.long (ct.toInt64)), (.long (2 : Int64))])) (fun _ k => XS.i2l X4.here hx rfl (hb hby at_55) rfl k) ?_
    refine own_st (t' := T4.setTop (mkF m 57 #[.val (.int p1), .val (.int p2), .val (.int p3), .val (.int p4), .val (.int p5), .val (.ref wDIRECTED), .val (.int ct), .val (.int ((2 : Int32) * ct)), .val (.int (0 : Int32)), .unset, .unset, .unset, .unset, .unset, .unset, .unset, .unset] [(.long ((2 : Int64) * (ct.toInt64)))])) (fun _ k => XS.lmul X4.here hx rfl (hb hby at_56) rfl k) ?_
    refine own_st (t' := T4.setTop (mkF m 59 #[.val (.int p1), .val (.int p2), .val (.int p3), .val (.int p4), .val (.int p5), .val (.ref wDIRECTED), .val (.int ct), .val (.int ((2 : Int32) * ct)), .val (.int (0 : Int32)), .val (.long ((2 : Int64) * (ct.toInt64))), .second, .unset, .unset, .unset, .unset, .unset, .unset] [])) (fun _ k => XS.lstore X4.here hx rfl (hb hby at_57) rfl (l' := #[.val (.int p1), .val (.int p2), .val (.int p3), .val (.int p4), .val (.int p5), .val (.ref wDIRECTED), .val (.int ct), .val (.int ((2 : Int32) * ct)), .val (.int (0 : Int32)), .val (.long ((2 : Int64) * (ct.toInt64))), .second, .unset, .unset, .unset, .unset, .unset, .unset]) rfl k) ?_
    refine own_st (t' := T4.setTop (mkF m 61 #[.val (.int p1), .val (.int p2), .val (.int p3), .val (.int p4), .val (.int p5), .val (.ref wDIRECTED), .val (.int ct), .val (.int ((2 : Int32) * ct)), .val (.int (0 : Int32)), .val (.long ((2 : Int64) * (ct.toInt64))), .second, .unset, .unset, .unset, .unset, .unset, .unset] [(.int ((2 : Int32) * ct))])) (fun _ k => XS.iload X4.here hx rfl (hb hby at_59) rfl k) ?_
    refine own_st (t' := T4.setTop (mkF m 62 #[.val (.int p1), .val (.int p2), .val (.int p3), .val (.int p4), .val (.int p5), .val (.ref wDIRECTED), .val (.int ct), .val (.int ((2 : Int32) * ct)), .val (.int (0 : Int32)), .val (.long ((2 : Int64) * (ct.toInt64))), .second, .unset, .unset, .unset, .unset, .unset, .unset] [(.long (((2 : Int32) * ct).toInt64))])) (fun _ k => XS.i2l X4.here hx rfl (hb hby at_61) rfl k) ?_
    refine own_st (t' := T4.setTop (mkF m 64 #[.val (.int p1), .val (.int p2), .val (.int p3), .val (.int p4), .val (.int p5), .val (.ref wDIRECTED), .val (.int ct), .val (.int ((2 : Int32) * ct)), .val (.int (0 : Int32)), .val (.long ((2 : Int64) * (ct.toInt64))), .second, .unset, .unset, .unset, .unset, .unset, .unset] [(.long ((2 : Int64) * (ct.toInt64))), (.long (((2 : Int32) * ct).toInt64))])) (fun _ k => XS.lload X4.here hx rfl (hb hby at_62) rfl k) ?_
    refine own_st (t' := T4.setTop (mkF m 65 #[.val (.int p1), .val (.int p2), .val (.int p3), .val (.int p4), .val (.int p5), .val (.ref wDIRECTED), .val (.int ct), .val (.int ((2 : Int32) * ct)), .val (.int (0 : Int32)), .val (.long ((2 : Int64) * (ct.toInt64))), .second, .unset, .unset, .unset, .unset, .unset, .unset] [(.int (lcmpW (((2 : Int32) * ct).toInt64) ((2 : Int64) * (ct.toInt64))))])) (fun _ k => XS.lcmp X4.here hx rfl (hb hby at_64) rfl k) ?_
    refine own_st (t' := T4.setTop (mkF m 70 #[.val (.int p1), .val (.int p2), .val (.int p3), .val (.int p4), .val (.int p5), .val (.ref wDIRECTED), .val (.int ct), .val (.int ((2 : Int32) * ct)), .val (.int (0 : Int32)), .val (.long ((2 : Int64) * (ct.toInt64))), .second, .unset, .unset, .unset, .unset, .unset, .unset] [])) (fun _ k => XS.ifYes X4.here hx rfl (pc0 := 65) (pc' := 70) rfl (hb hby at_65) rfl ((if0 _ _).trans (teq (own_lc (own_2c hct))).1) (by decide) (by decide) k) ?_
    refine own_st (t' := T4.setTop (mkF m 72 #[.val (.int p1), .val (.int p2), .val (.int p3), .val (.int p4), .val (.int p5), .val (.ref wDIRECTED), .val (.int ct), .val (.int ((2 : Int32) * ct)), .val (.int (0 : Int32)), .val (.long ((2 : Int64) * (ct.toInt64))), .second, .unset, .unset, .unset, .unset, .unset, .unset] [(.int ct)])) (fun _ k => XS.iload X4.here hx rfl (hb hby at_70) rfl k) ?_
    by_cases c72_5 : ct = (0 : Int32)
    · refine own_st (t' := T4.setTop (mkF m 75 #[.val (.int p1), .val (.int p2), .val (.int p3), .val (.int p4), .val (.int p5), .val (.ref wDIRECTED), .val (.int ct), .val (.int ((2 : Int32) * ct)), .val (.int (0 : Int32)), .val (.long ((2 : Int64) * (ct.toInt64))), .second, .unset, .unset, .unset, .unset, .unset, .unset] [])) (fun _ k => XS.ifNo X4.here hx rfl (hb hby at_72) rfl ((if0 _ _).trans (teq c72_5).2) k) ?_
      refine own_st (t' := T4.setTop (mkF m 77 #[.val (.int p1), .val (.int p2), .val (.int p3), .val (.int p4), .val (.int p5), .val (.ref wDIRECTED), .val (.int ct), .val (.int ((2 : Int32) * ct)), .val (.int (0 : Int32)), .val (.long ((2 : Int64) * (ct.toInt64))), .second, .unset, .unset, .unset, .unset, .unset, .unset] [(.int ((2 : Int32) * ct))])) (fun _ k => XS.iload X4.here hx rfl (hb hby at_75) rfl k) ?_
      refine own_st (t' := T4.setTop (mkF m 80 #[.val (.int p1), .val (.int p2), .val (.int p3), .val (.int p4), .val (.int p5), .val (.ref wDIRECTED), .val (.int ct), .val (.int ((2 : Int32) * ct)), .val (.int (0 : Int32)), .val (.long ((2 : Int64) * (ct.toInt64))), .second, .unset, .unset, .unset, .unset, .unset, .unset] [])) (fun _ k => XS.ifNo X4.here hx rfl (hb hby at_77) rfl ((if0 _ _).trans (teq (own_z2 c72_5)).2) k) ?_
      refine own_st (t' := T4.setTop (mkF m 81 #[.val (.int p1), .val (.int p2), .val (.int p3), .val (.int p4), .val (.int p5), .val (.ref wDIRECTED), .val (.int ct), .val (.int ((2 : Int32) * ct)), .val (.int (0 : Int32)), .val (.long ((2 : Int64) * (ct.toInt64))), .second, .unset, .unset, .unset, .unset, .unset, .unset] [(.int (1 : Int32))])) (fun _ k => XS.iconst X4.here hx rfl (hb hby at_80) k) ?_
      refine own_st (t' := T4.setTop (mkF m 85 #[.val (.int p1), .val (.int p2), .val (.int p3), .val (.int p4), .val (.int p5), .val (.ref wDIRECTED), .val (.int ct), .val (.int ((2 : Int32) * ct)), .val (.int (0 : Int32)), .val (.long ((2 : Int64) * (ct.toInt64))), .second, .unset, .unset, .unset, .unset, .unset, .unset] [(.int (1 : Int32))])) (fun _ k => XS.goto X4.here hx rfl (pc0 := 81) (pc' := 85) rfl (hb hby at_81) (by decide) (by decide) k) ?_
      have hv6 : (1 : Int32) = (1 : Int32) := rfl
      obtain ⟨fs, hr, hrun, hended, hEnd⟩ := Stand.leaveW (s := s) (vm₁ := s.vm) X4 hSi (by rw [e4]; exact hki) (v := some (.int (1 : Int32))) (fun h => by rw [Bd.returns] at h; cases h)
      exact ⟨_, _, retN X4 hx (t := .boolean) Bd.returns (by simp) (hb hby at_85) hr, hrun, hended, hP _ _ ⟨_, _, rfl, ⟨(congrArg (fun z => some (Value.int z)) hv6), N4⟩, ⟨_, rfl⟩, hEnd.2.1, hEnd.2.2.1, hEnd.2.2.2.mono (by decide) (by decide)⟩⟩
    · refine own_st (t' := T4.setTop (mkF m 86 #[.val (.int p1), .val (.int p2), .val (.int p3), .val (.int p4), .val (.int p5), .val (.ref wDIRECTED), .val (.int ct), .val (.int ((2 : Int32) * ct)), .val (.int (0 : Int32)), .val (.long ((2 : Int64) * (ct.toInt64))), .second, .unset, .unset, .unset, .unset, .unset, .unset] [])) (fun _ k => XS.ifYes X4.here hx rfl (pc0 := 72) (pc' := 86) rfl (hb hby at_72) rfl ((if0 _ _).trans (feq c72_5).2) (by decide) (by decide) k) ?_
      refine own_st (t' := T4.setTop (mkF m 87 #[.val (.int p1), .val (.int p2), .val (.int p3), .val (.int p4), .val (.int p5), .val (.ref wDIRECTED), .val (.int ct), .val (.int ((2 : Int32) * ct)), .val (.int (0 : Int32)), .val (.long ((2 : Int64) * (ct.toInt64))), .second, .unset, .unset, .unset, .unset, .unset, .unset] [(.int p3)])) (fun _ k => XS.iloadN X4.here hx rfl (hb hby at_86) rfl k) ?_
      refine own_st (t' := T4.setTop (mkF m 89 #[.val (.int p1), .val (.int p2), .val (.int p3), .val (.int p4), .val (.int p5), .val (.ref wDIRECTED), .val (.int ct), .val (.int ((2 : Int32) * ct)), .val (.int (0 : Int32)), .val (.long ((2 : Int64) * (ct.toInt64))), .second, .unset, .unset, .unset, .unset, .unset, .unset] [(.int (2147483647 : Int32)), (.int p3)])) (fun _ k => X4.ldcInt hx hown (mvT hZ (hw _ (List.mem_of_getElem? (i := 26) rfl))) (g := (mkF m 87 #[.val (.int p1), .val (.int p2), .val (.int p3), .val (.int p4), .val (.int p5), .val (.ref wDIRECTED), .val (.int ct), .val (.int ((2 : Int32) * ct)), .val (.int (0 : Int32)), .val (.long ((2 : Int64) * (ct.toInt64))), .second, .unset, .unset, .unset, .unset, .unset, .unset] [(.int p3)])) rfl (hb hby at_87) _ k) ?_
      refine own_st (t' := T4.setTop (mkF m 90 #[.val (.int p1), .val (.int p2), .val (.int p3), .val (.int p4), .val (.int p5), .val (.ref wDIRECTED), .val (.int ct), .val (.int ((2 : Int32) * ct)), .val (.int (0 : Int32)), .val (.long ((2 : Int64) * (ct.toInt64))), .second, .unset, .unset, .unset, .unset, .unset, .unset] [(.int (p3 &&& (2147483647 : Int32)))])) (fun _ k => XS.iand X4.here hx rfl (hb hby at_89) rfl k) ?_
      refine own_st (t' := T4.setTop (mkF m 92 #[.val (.int p1), .val (.int p2), .val (.int p3), .val (.int p4), .val (.int p5), .val (.ref wDIRECTED), .val (.int ct), .val (.int ((2 : Int32) * ct)), .val (.int (0 : Int32)), .val (.long ((2 : Int64) * (ct.toInt64))), .second, .unset, .unset, .unset, .unset, .unset, .unset] [(.int ct), (.int (p3 &&& (2147483647 : Int32)))])) (fun _ k => XS.iload X4.here hx rfl (hb hby at_90) rfl k) ?_
      refine own_st (t' := T4.setTop (mkF m 93 #[.val (.int p1), .val (.int p2), .val (.int p3), .val (.int p4), .val (.int p5), .val (.ref wDIRECTED), .val (.int ct), .val (.int ((2 : Int32) * ct)), .val (.int (0 : Int32)), .val (.long ((2 : Int64) * (ct.toInt64))), .second, .unset, .unset, .unset, .unset, .unset, .unset] [(.int ((p3 &&& (2147483647 : Int32)) % ct))])) (fun _ k => iremM (g := (mkF m 92 #[.val (.int p1), .val (.int p2), .val (.int p3), .val (.int p4), .val (.int p5), .val (.ref wDIRECTED), .val (.int ct), .val (.int ((2 : Int32) * ct)), .val (.int (0 : Int32)), .val (.long ((2 : Int64) * (ct.toInt64))), .second, .unset, .unset, .unset, .unset, .unset, .unset] [(.int ct), (.int (p3 &&& (2147483647 : Int32)))])) X4 hx rfl (hb hby at_92) rfl c72_5 k) ?_
      refine own_st (t' := T4.setTop (mkF m 95 #[.val (.int p1), .val (.int p2), .val (.int p3), .val (.int p4), .val (.int p5), .val (.ref wDIRECTED), .val (.int ct), .val (.int ((2 : Int32) * ct)), .val (.int (0 : Int32)), .val (.long ((2 : Int64) * (ct.toInt64))), .second, .val (.int ((p3 &&& (2147483647 : Int32)) % ct)), .unset, .unset, .unset, .unset, .unset] [])) (fun _ k => XS.istore X4.here hx rfl (hb hby at_93) rfl (l' := #[.val (.int p1), .val (.int p2), .val (.int p3), .val (.int p4), .val (.int p5), .val (.ref wDIRECTED), .val (.int ct), .val (.int ((2 : Int32) * ct)), .val (.int (0 : Int32)), .val (.long ((2 : Int64) * (ct.toInt64))), .second, .val (.int ((p3 &&& (2147483647 : Int32)) % ct)), .unset, .unset, .unset, .unset, .unset]) rfl k) ?_
      have hnu := own_nu p3 hct c72_5
      generalize ((p3 &&& (2147483647 : Int32)) % ct) = nu at hnu ⊢
      obtain ⟨T7, h7, X7, e7, E7, A7, D7, -, st7⟩ := newO X4 hx hZ hown (hw _ (List.mem_of_getElem? (i := 27) rfl)) (hw _ (List.mem_of_getElem? (i := 28) rfl)) (hw _ (List.mem_of_getElem? (i := 29) rfl)) e4 (g := (mkF m 95 #[.val (.int p1), .val (.int p2), .val (.int p3), .val (.int p4), .val (.int p5), .val (.ref wDIRECTED), .val (.int ct), .val (.int ((2 : Int32) * ct)), .val (.int (0 : Int32)), .val (.long ((2 : Int64) * (ct.toInt64))), .second, .val (.int nu), .unset, .unset, .unset, .unset, .unset] [])) rfl (hb hby at_95) (by decide) (by decide)
      obtain ⟨b7, g7⟩ : ∃ z, z = h0.size := ⟨_, rfl⟩
      rw [← g7] at A7 D7 st7
      have ne7_wDIRECTED : wDIRECTED ≠ b7 := Nat.ne_of_lt (Nat.lt_of_lt_of_le E_DIRECTED.lt (Nat.le_of_eq g7.symm))
      have ne7_wUNDIRECTED : wUNDIRECTED ≠ b7 := Nat.ne_of_lt (Nat.lt_of_lt_of_le E_UNDIRECTED.lt (Nat.le_of_eq g7.symm))
      have f7_Sta_com_example_lambdaloom_lambdaloom_ChannelModel_DIRECTED := S_DIRECTED.ext E7
      have f7_Sta_com_example_lambdaloom_lambdaloom_ChannelModel_UNDIRECTED := S_UNDIRECTED.ext E7
      have f7_Exa_wDIRECTED := E_DIRECTED.ext E7
      have f7_Exa_wUNDIRECTED := E_UNDIRECTED.ext E7
      have f7_Fld_wDIRECTED_ordinal := O_DIRECTED.ext E7
      have f7_Fld_wUNDIRECTED_ordinal := O_UNDIRECTED.ext E7
      have bg_b7 : n0 ≤ b7 := Nat.le_trans Z0 (Nat.le_of_eq g7.symm)
      have Z7 : n0 ≤ h7.size := Nat.le_trans Z0 E7.1
      have hki : _ ≤ h7.size := Nat.le_trans hki E7.1
      have F7_id : Fld Z h7 b7 "com/example/lambdaloom/lambdaloom/Network$Link" "id" "Ljava/lang/String;" .null := D7 (Or.inr (hw _ (List.mem_of_getElem? (i := 50) rfl))) (ty := (.object "java/lang/String")) (by decide)
      have F7_source : Fld Z h7 b7 "com/example/lambdaloom/lambdaloom/Network$Link" "source" "I" (.int (0 : Int32)) := D7 (Or.inr (hw _ (List.mem_of_getElem? (i := 52) rfl))) (ty := .int) (by decide)
      have F7_target : Fld Z h7 b7 "com/example/lambdaloom/lambdaloom/Network$Link" "target" "I" (.int (0 : Int32)) := D7 (Or.inr (hw _ (List.mem_of_getElem? (i := 54) rfl))) (ty := .int) (by decide)
      refine own_st (t' := T7.setTop (mkF m 98 #[.val (.int p1), .val (.int p2), .val (.int p3), .val (.int p4), .val (.int p5), .val (.ref wDIRECTED), .val (.int ct), .val (.int ((2 : Int32) * ct)), .val (.int (0 : Int32)), .val (.long ((2 : Int64) * (ct.toInt64))), .second, .val (.int nu), .unset, .unset, .unset, .unset, .unset] [(.ref b7)])) st7 ?_
      refine own_st (t' := T7.setTop (mkF m 99 #[.val (.int p1), .val (.int p2), .val (.int p3), .val (.int p4), .val (.int p5), .val (.ref wDIRECTED), .val (.int ct), .val (.int ((2 : Int32) * ct)), .val (.int (0 : Int32)), .val (.long ((2 : Int64) * (ct.toInt64))), .second, .val (.int nu), .unset, .unset, .unset, .unset, .unset] [(.ref b7), (.ref b7)])) (fun _ k => XS.dup X7.here hx rfl (hb hby at_98) rfl rfl k) ?_
      obtain ⟨c8, T8, h8, kn8, X8, e8, E8, hSi, hki, hZ, hown, st8⟩ := ldcS (s := s) (vm0 := s.vm) X7 hx hZ hown (hw _ (List.mem_of_getElem? (i := 30) rfl)) wS e7 hSi hki (g := (mkF m 99 #[.val (.int p1), .val (.int p2), .val (.int p3), .val (.int p4), .val (.int p5), .val (.ref wDIRECTED), .val (.int ct), .val (.int ((2 : Int32) * ct)), .val (.int (0 : Int32)), .val (.long ((2 : Int64) * (ct.toInt64))), .second, .val (.int nu), .unset, .unset, .unset, .unset, .unset] [(.ref b7), (.ref b7)])) rfl (hb hby at_99) (n := 4) (by decide) (by decide) (by decide) (by decide)
      have f8_Sta_com_example_lambdaloom_lambdaloom_ChannelModel_DIRECTED := f7_Sta_com_example_lambdaloom_lambdaloom_ChannelModel_DIRECTED.ext E8
      have f8_Sta_com_example_lambdaloom_lambdaloom_ChannelModel_UNDIRECTED := f7_Sta_com_example_lambdaloom_lambdaloom_ChannelModel_UNDIRECTED.ext E8
      have f8_Exa_wDIRECTED := f7_Exa_wDIRECTED.ext E8
      have f8_Exa_wUNDIRECTED := f7_Exa_wUNDIRECTED.ext E8
      have f8_Fld_wDIRECTED_ordinal := f7_Fld_wDIRECTED_ordinal.ext E8
      have f8_Fld_wUNDIRECTED_ordinal := f7_Fld_wUNDIRECTED_ordinal.ext E8
      have f8_Exa_b7 := A7.ext E8
      have f8_Fld_b7_id := F7_id.ext E8
      have f8_Fld_b7_source := F7_source.ext E8
      have f8_Fld_b7_target := F7_target.ext E8
      have Z8 : n0 ≤ h8.size := Nat.le_trans Z7 E8.1
      refine own_st (t' := T8.setTop (mkF m 101 #[.val (.int p1), .val (.int p2), .val (.int p3), .val (.int p4), .val (.int p5), .val (.ref wDIRECTED), .val (.int ct), .val (.int ((2 : Int32) * ct)), .val (.int (0 : Int32)), .val (.long ((2 : Int64) * (ct.toInt64))), .second, .val (.int nu), .unset, .unset, .unset, .unset, .unset] [(.ref c8), (.ref b7), (.ref b7)])) st8 ?_
      refine own_st (t' := T8.setTop (mkF m 102 #[.val (.int p1), .val (.int p2), .val (.int p3), .val (.int p4), .val (.int p5), .val (.ref wDIRECTED), .val (.int ct), .val (.int ((2 : Int32) * ct)), .val (.int (0 : Int32)), .val (.long ((2 : Int64) * (ct.toInt64))), .second, .val (.int nu), .unset, .unset, .unset, .unset, .unset] [(.int p4), (.ref c8), (.ref b7), (.ref b7)])) (fun _ k => XS.iloadN X8.here hx rfl (hb hby at_101) rfl k) ?_
      refine own_st (t' := T8.setTop (mkF m 103 #[.val (.int p1), .val (.int p2), .val (.int p3), .val (.int p4), .val (.int p5), .val (.ref wDIRECTED), .val (.int ct), .val (.int ((2 : Int32) * ct)), .val (.int (0 : Int32)), .val (.long ((2 : Int64) * (ct.toInt64))), .second, .val (.int nu), .unset, .unset, .unset, .unset, .unset] [(.int p4), (.int p4), (.ref c8), (.ref b7), (.ref b7)])) (fun _ k => XS.iloadN X8.here hx rfl (hb hby at_102) rfl k) ?_
      refine own_st (t' := T8.setTop (mkF m 104 #[.val (.int p1), .val (.int p2), .val (.int p3), .val (.int p4), .val (.int p5), .val (.ref wDIRECTED), .val (.int ct), .val (.int ((2 : Int32) * ct)), .val (.int (0 : Int32)), .val (.long ((2 : Int64) * (ct.toInt64))), .second, .val (.int nu), .unset, .unset, .unset, .unset, .unset] [(.int (1 : Int32)), (.int p4), (.int p4), (.ref c8), (.ref b7), (.ref b7)])) (fun _ k => XS.iconst X8.here hx rfl (hb hby at_103) k) ?_
      refine own_st (t' := T8.setTop (mkF m 105 #[.val (.int p1), .val (.int p2), .val (.int p3), .val (.int p4), .val (.int p5), .val (.ref wDIRECTED), .val (.int ct), .val (.int ((2 : Int32) * ct)), .val (.int (0 : Int32)), .val (.long ((2 : Int64) * (ct.toInt64))), .second, .val (.int nu), .unset, .unset, .unset, .unset, .unset] [(.int (p4 + (1 : Int32))), (.int p4), (.ref c8), (.ref b7), (.ref b7)])) (fun _ k => XS.iadd X8.here hx rfl (hb hby at_104) rfl k) ?_
      obtain ⟨_, _, ⟨T9, L9, k9, n9⟩, -, X9, ⟨Lc9, hQ9, l9, y9, z9⟩, st9⟩ := X8.specialBack hx (y := (⟨"com/example/lambdaloom/lambdaloom/Network$Link", "<init>", "(Ljava/lang/String;II)V"⟩ : MethodName)) rfl hown (mvT hZ (hw _ (List.mem_of_getElem? (i := 38) rfl))) (mvT hZ (hw _ (List.mem_of_getElem? (i := 39) rfl))) (mvT hZ (hw _ (List.mem_of_getElem? (i := 40) rfl))) (by decide) (backOf (W := 1) (own_rm4 l Z a0 hw [] b7 c8 p4 (p4 + (1 : Int32)) h8 n0 Z8 f8_Exa_b7 f8_Fld_b7_id f8_Fld_b7_source f8_Fld_b7_target bg_b7 ) hZ (hw _ (List.mem_of_getElem? (i := 40) rfl)) (hw _ (List.mem_of_getElem? (i := 29) rfl)) (by decide) (by decide)) (g := (mkF m 105 #[.val (.int p1), .val (.int p2), .val (.int p3), .val (.int p4), .val (.int p5), .val (.ref wDIRECTED), .val (.int ct), .val (.int ((2 : Int32) * ct)), .val (.int (0 : Int32)), .val (.long ((2 : Int64) * (ct.toInt64))), .second, .val (.int nu), .unset, .unset, .unset, .unset, .unset] [(.int (p4 + (1 : Int32))), (.int p4), (.ref c8), (.ref b7), (.ref b7)])) rfl (by rw [hml]; rfl) (Steps.refl _) (a := b7) (argsL := [(.ref c8), (.int p4), (.int (p4 + (1 : Int32)))]) (rest := [(.ref b7)]) (lenOf own_rm0_pd2 rfl) rfl (by show 2 * 0 + _ ≤ _; exact Nat.le_of_eq rfl) (hb hby at_105) (fun _ _ => ⟨rfl, e8, (by decide : 0 + 0 + 0 + 1 + 2 + 0 ≤ _), (by decide : 0 + 0 + 0 + 3 + (4 + 4) + 0 ≤ _)⟩)
      dsimp only [Pt.U, Pt.locs, Pt.cells, Pt.slots] at X9 l9 y9 z9 st9 hQ9
      subst l9 y9 z9
      obtain ⟨rfl, N9q, K9q, g9e, g9f0, g9f1, g9f2⟩ := hQ9
      have N9 := Fr.app N4 N9q
      have f9_Sta_com_example_lambdaloom_lambdaloom_ChannelModel_DIRECTED := own_staK f8_Sta_com_example_lambdaloom_lambdaloom_ChannelModel_DIRECTED K9q f8_Exa_b7
      have f9_Sta_com_example_lambdaloom_lambdaloom_ChannelModel_UNDIRECTED := own_staK f8_Sta_com_example_lambdaloom_lambdaloom_ChannelModel_UNDIRECTED K9q f8_Exa_b7
      have f9_Exa_wDIRECTED := f8_Exa_wDIRECTED.keep K9q
      have f9_Exa_wUNDIRECTED := f8_Exa_wUNDIRECTED.keep K9q
      have f9_Fld_wDIRECTED_ordinal := f8_Fld_wDIRECTED_ordinal.keep K9q (own_nin ne7_wDIRECTED)
      have f9_Fld_wUNDIRECTED_ordinal := f8_Fld_wUNDIRECTED_ordinal.keep K9q (own_nin ne7_wUNDIRECTED)
      have f9_Exa_b7 := f8_Exa_b7.keep K9q
      have Z9 : n0 ≤ T9.heap.size := Nat.le_trans Z8 K9q.1
      have hki : _ ≤ T9.heap.size := Nat.le_trans hki K9q.1
      refine own_tr (t' := T9.setTop (mkF m 108 #[.val (.int p1), .val (.int p2), .val (.int p3), .val (.int p4), .val (.int p5), .val (.ref wDIRECTED), .val (.int ct), .val (.int ((2 : Int32) * ct)), .val (.int (0 : Int32)), .val (.long ((2 : Int64) * (ct.toInt64))), .second, .val (.int nu), .unset, .unset, .unset, .unset, .unset] [(.ref b7)])) st9 ?_
      refine own_st (t' := T9.setTop (mkF m 110 #[.val (.int p1), .val (.int p2), .val (.int p3), .val (.int p4), .val (.int p5), .val (.ref wDIRECTED), .val (.int ct), .val (.int ((2 : Int32) * ct)), .val (.int (0 : Int32)), .val (.long ((2 : Int64) * (ct.toInt64))), .second, .val (.int nu), .val (.ref b7), .unset, .unset, .unset, .unset] [])) (fun _ k => XS.astore X9.here hx rfl (hb hby at_108) rfl rfl (l' := #[.val (.int p1), .val (.int p2), .val (.int p3), .val (.int p4), .val (.int p5), .val (.ref wDIRECTED), .val (.int ct), .val (.int ((2 : Int32) * ct)), .val (.int (0 : Int32)), .val (.long ((2 : Int64) * (ct.toInt64))), .second, .val (.int nu), .val (.ref b7), .unset, .unset, .unset, .unset]) rfl k) ?_
      refine own_st (t' := T9.setTop (mkF m 112 #[.val (.int p1), .val (.int p2), .val (.int p3), .val (.int p4), .val (.int p5), .val (.ref wDIRECTED), .val (.int ct), .val (.int ((2 : Int32) * ct)), .val (.int (0 : Int32)), .val (.long ((2 : Int64) * (ct.toInt64))), .second, .val (.int nu), .val (.ref b7), .unset, .unset, .unset, .unset] [(.int p5)])) (fun _ k => XS.iload X9.here hx rfl (hb hby at_110) rfl k) ?_
      refine own_st (t' := T9.setTop (mkF m 113 #[.val (.int p1), .val (.int p2), .val (.int p3), .val (.int p4), .val (.int p5), .val (.ref wDIRECTED), .val (.int ct), .val (.int ((2 : Int32) * ct)), .val (.int (0 : Int32)), .val (.long ((2 : Int64) * (ct.toInt64))), .second, .val (.int nu), .val (.ref b7), .unset, .unset, .unset, .unset] [(.int (1 : Int32)), (.int p5)])) (fun _ k => XS.iconst X9.here hx rfl (hb hby at_112) k) ?_
      refine own_st (t' := T9.setTop (mkF m 114 #[.val (.int p1), .val (.int p2), .val (.int p3), .val (.int p4), .val (.int p5), .val (.ref wDIRECTED), .val (.int ct), .val (.int ((2 : Int32) * ct)), .val (.int (0 : Int32)), .val (.long ((2 : Int64) * (ct.toInt64))), .second, .val (.int nu), .val (.ref b7), .unset, .unset, .unset, .unset] [(.int (p5 &&& (1 : Int32)))])) (fun _ k => XS.iand X9.here hx rfl (hb hby at_113) rfl k) ?_
      by_cases c114_10 : (p5 &&& (1 : Int32)) = (0 : Int32)
      · refine own_st (t' := T9.setTop (mkF m 117 #[.val (.int p1), .val (.int p2), .val (.int p3), .val (.int p4), .val (.int p5), .val (.ref wDIRECTED), .val (.int ct), .val (.int ((2 : Int32) * ct)), .val (.int (0 : Int32)), .val (.long ((2 : Int64) * (ct.toInt64))), .second, .val (.int nu), .val (.ref b7), .unset, .unset, .unset, .unset] [])) (fun _ k => XS.ifNo X9.here hx rfl (hb hby at_114) rfl ((if0 _ _).trans (teq c114_10).2) k) ?_
        refine own_st (t' := T9.setTop (mkF m 118 #[.val (.int p1), .val (.int p2), .val (.int p3), .val (.int p4), .val (.int p5), .val (.ref wDIRECTED), .val (.int ct), .val (.int ((2 : Int32) * ct)), .val (.int (0 : Int32)), .val (.long ((2 : Int64) * (ct.toInt64))), .second, .val (.int nu), .val (.ref b7), .unset, .unset, .unset, .unset] [(.int p4)])) (fun _ k => XS.iloadN X9.here hx rfl (hb hby at_117) rfl k) ?_
        refine own_st (t' := T9.setTop (mkF m 124 #[.val (.int p1), .val (.int p2), .val (.int p3), .val (.int p4), .val (.int p5), .val (.ref wDIRECTED), .val (.int ct), .val (.int ((2 : Int32) * ct)), .val (.int (0 : Int32)), .val (.long ((2 : Int64) * (ct.toInt64))), .second, .val (.int nu), .val (.ref b7), .unset, .unset, .unset, .unset] [(.int p4)])) (fun _ k => XS.goto X9.here hx rfl (pc0 := 118) (pc' := 124) rfl (hb hby at_118) (by decide) (by decide) k) ?_
        refine own_st (t' := T9.setTop (mkF m 126 #[.val (.int p1), .val (.int p2), .val (.int p3), .val (.int p4), .val (.int p5), .val (.ref wDIRECTED), .val (.int ct), .val (.int ((2 : Int32) * ct)), .val (.int (0 : Int32)), .val (.long ((2 : Int64) * (ct.toInt64))), .second, .val (.int nu), .val (.ref b7), .val (.int p4), .unset, .unset, .unset] [])) (fun _ k => XS.istore X9.here hx rfl (hb hby at_124) rfl (l' := #[.val (.int p1), .val (.int p2), .val (.int p3), .val (.int p4), .val (.int p5), .val (.ref wDIRECTED), .val (.int ct), .val (.int ((2 : Int32) * ct)), .val (.int (0 : Int32)), .val (.long ((2 : Int64) * (ct.toInt64))), .second, .val (.int nu), .val (.ref b7), .val (.int p4), .unset, .unset, .unset]) rfl k) ?_
        refine own_st (t' := T9.setTop (mkF m 128 #[.val (.int p1), .val (.int p2), .val (.int p3), .val (.int p4), .val (.int p5), .val (.ref wDIRECTED), .val (.int ct), .val (.int ((2 : Int32) * ct)), .val (.int (0 : Int32)), .val (.long ((2 : Int64) * (ct.toInt64))), .second, .val (.int nu), .val (.ref b7), .val (.int p4), .unset, .unset, .unset] [(.ref wDIRECTED)])) (fun _ k => XS.aload X9.here hx rfl (hb hby at_126) rfl rfl k) ?_
        refine own_st (t' := T9.setTop (mkF m 130 #[.val (.int p1), .val (.int p2), .val (.int p3), .val (.int p4), .val (.int p5), .val (.ref wDIRECTED), .val (.int ct), .val (.int ((2 : Int32) * ct)), .val (.int (0 : Int32)), .val (.long ((2 : Int64) * (ct.toInt64))), .second, .val (.int nu), .val (.ref b7), .val (.int p4), .unset, .unset, .unset] [(.ref b7), (.ref wDIRECTED)])) (fun _ k => XS.aload X9.here hx rfl (hb hby at_128) rfl rfl k) ?_
        refine own_st (t' := T9.setTop (mkF m 132 #[.val (.int p1), .val (.int p2), .val (.int p3), .val (.int p4), .val (.int p5), .val (.ref wDIRECTED), .val (.int ct), .val (.int ((2 : Int32) * ct)), .val (.int (0 : Int32)), .val (.long ((2 : Int64) * (ct.toInt64))), .second, .val (.int nu), .val (.ref b7), .val (.int p4), .unset, .unset, .unset] [(.int nu), (.ref b7), (.ref wDIRECTED)])) (fun _ k => XS.iload X9.here hx rfl (hb hby at_130) rfl k) ?_
        refine own_st (t' := T9.setTop (mkF m 134 #[.val (.int p1), .val (.int p2), .val (.int p3), .val (.int p4), .val (.int p5), .val (.ref wDIRECTED), .val (.int ct), .val (.int ((2 : Int32) * ct)), .val (.int (0 : Int32)), .val (.long ((2 : Int64) * (ct.toInt64))), .second, .val (.int nu), .val (.ref b7), .val (.int p4), .unset, .unset, .unset] [(.int p4), (.int nu), (.ref b7), (.ref wDIRECTED)])) (fun _ k => XS.iload X9.here hx rfl (hb hby at_132) rfl k) ?_
        obtain ⟨cq11, kq11, q11a, q11b, q11c⟩ := isOf hZ rfl f9_Exa_wDIRECTED
        obtain ⟨_, _, ⟨T11, L11, k11, n11⟩, -, X11, ⟨Lc11, hQ11, l11, y11, z11⟩, st11⟩ := X9.virtualBack hx (y := (⟨"com/example/lambdaloom/lambdaloom/ChannelModel", "fibre", "(Lcom/example/lambdaloom/lambdaloom/Network$Link;II)I"⟩ : MethodName)) (z := (⟨"com/example/lambdaloom/lambdaloom/ChannelModel", "fibre", "(Lcom/example/lambdaloom/lambdaloom/Network$Link;II)I"⟩ : MethodName)) hown (mvT hZ (hw _ (List.mem_of_getElem? (i := 55) rfl))) (mvT hZ (hw _ (List.mem_of_getElem? (i := 56) rfl))) (notFace_of_selects (args := #[]) (mvT hZ (hw _ (List.mem_of_getElem? (i := 58) rfl)))) (mvT hZ (hw _ (List.mem_of_getElem? (i := 58) rfl))) (mvT hZ (hw _ (List.mem_of_getElem? (i := 57) rfl))) (by decide) (backOf (W := 0) (own_rm6 l Z a0 hw [] wDIRECTED b7 nu p4 p4 (((2 : Int32) * nu) + (0 : Int32)) T9.heap n0 Z9 f9_Exa_wDIRECTED f9_Fld_wDIRECTED_ordinal g9e g9f1 (by rw [if_pos rfl])) hZ (hw _ (List.mem_of_getElem? (i := 59) rfl)) (hw _ (List.mem_of_getElem? (i := 1) rfl)) (by decide) (by decide)) q11a q11c (g := (mkF m 134 #[.val (.int p1), .val (.int p2), .val (.int p3), .val (.int p4), .val (.int p5), .val (.ref wDIRECTED), .val (.int ct), .val (.int ((2 : Int32) * ct)), .val (.int (0 : Int32)), .val (.long ((2 : Int64) * (ct.toInt64))), .second, .val (.int nu), .val (.ref b7), .val (.int p4), .unset, .unset, .unset] [(.int p4), (.int nu), (.ref b7), (.ref wDIRECTED)])) rfl (by rw [hml]; rfl) (Steps.refl _) (argsL := [(.ref b7), (.int nu), (.int p4)]) (rest := []) (lenOf own_rm0_pd3 rfl) rfl (by show 2 * 0 + _ ≤ _; exact Nat.le_of_eq rfl) (hb hby at_134) (fun _ _ => ⟨rfl, rfl, (by decide : 0 + 0 + 0 + 1 + 2 + 0 + 0 ≤ _), (by decide : 0 + 0 + 0 + 3 + (4 + 4) + 0 + 0 ≤ _)⟩)
        dsimp only [Pt.U, Pt.locs, Pt.cells, Pt.slots] at X11 l11 y11 z11 st11 hQ11
        subst l11 y11 z11
        obtain ⟨rfl, N11q, e11⟩ := hQ11
        have N11 := Fr.app N9 N11q
        refine own_tr (t' := T11.setTop (mkF m 137 #[.val (.int p1), .val (.int p2), .val (.int p3), .val (.int p4), .val (.int p5), .val (.ref wDIRECTED), .val (.int ct), .val (.int ((2 : Int32) * ct)), .val (.int (0 : Int32)), .val (.long ((2 : Int64) * (ct.toInt64))), .second, .val (.int nu), .val (.ref b7), .val (.int p4), .unset, .unset, .unset] [(.int (((2 : Int32) * nu) + (0 : Int32)))])) st11 ?_
        refine own_st (t' := T11.setTop (mkF m 139 #[.val (.int p1), .val (.int p2), .val (.int p3), .val (.int p4), .val (.int p5), .val (.ref wDIRECTED), .val (.int ct), .val (.int ((2 : Int32) * ct)), .val (.int (0 : Int32)), .val (.long ((2 : Int64) * (ct.toInt64))), .second, .val (.int nu), .val (.ref b7), .val (.int p4), .val (.int (((2 : Int32) * nu) + (0 : Int32))), .unset, .unset] [])) (fun _ k => XS.istore X11.here hx rfl (hb hby at_137) rfl (l' := #[.val (.int p1), .val (.int p2), .val (.int p3), .val (.int p4), .val (.int p5), .val (.ref wDIRECTED), .val (.int ct), .val (.int ((2 : Int32) * ct)), .val (.int (0 : Int32)), .val (.long ((2 : Int64) * (ct.toInt64))), .second, .val (.int nu), .val (.ref b7), .val (.int p4), .val (.int (((2 : Int32) * nu) + (0 : Int32))), .unset, .unset]) rfl k) ?_
        refine own_st (t' := T11.setTop (mkF m 141 #[.val (.int p1), .val (.int p2), .val (.int p3), .val (.int p4), .val (.int p5), .val (.ref wDIRECTED), .val (.int ct), .val (.int ((2 : Int32) * ct)), .val (.int (0 : Int32)), .val (.long ((2 : Int64) * (ct.toInt64))), .second, .val (.int nu), .val (.ref b7), .val (.int p4), .val (.int (((2 : Int32) * nu) + (0 : Int32))), .unset, .unset] [(.int (((2 : Int32) * nu) + (0 : Int32)))])) (fun _ k => XS.iload X11.here hx rfl (hb hby at_139) rfl k) ?_
        refine own_st (t' := T11.setTop (mkF m 144 #[.val (.int p1), .val (.int p2), .val (.int p3), .val (.int p4), .val (.int p5), .val (.ref wDIRECTED), .val (.int ct), .val (.int ((2 : Int32) * ct)), .val (.int (0 : Int32)), .val (.long ((2 : Int64) * (ct.toInt64))), .second, .val (.int nu), .val (.ref b7), .val (.int p4), .val (.int (((2 : Int32) * nu) + (0 : Int32))), .unset, .unset] [])) (fun _ k => XS.ifNo X11.here hx rfl (hb hby at_141) rfl ((if0 _ _).trans (flt (own_n0 hct hnu)).1) k) ?_
        refine own_st (t' := T11.setTop (mkF m 146 #[.val (.int p1), .val (.int p2), .val (.int p3), .val (.int p4), .val (.int p5), .val (.ref wDIRECTED), .val (.int ct), .val (.int ((2 : Int32) * ct)), .val (.int (0 : Int32)), .val (.long ((2 : Int64) * (ct.toInt64))), .second, .val (.int nu), .val (.ref b7), .val (.int p4), .val (.int (((2 : Int32) * nu) + (0 : Int32))), .unset, .unset] [(.int (((2 : Int32) * nu) + (0 : Int32)))])) (fun _ k => XS.iload X11.here hx rfl (hb hby at_144) rfl k) ?_
        refine own_st (t' := T11.setTop (mkF m 148 #[.val (.int p1), .val (.int p2), .val (.int p3), .val (.int p4), .val (.int p5), .val (.ref wDIRECTED), .val (.int ct), .val (.int ((2 : Int32) * ct)), .val (.int (0 : Int32)), .val (.long ((2 : Int64) * (ct.toInt64))), .second, .val (.int nu), .val (.ref b7), .val (.int p4), .val (.int (((2 : Int32) * nu) + (0 : Int32))), .unset, .unset] [(.int ((2 : Int32) * ct)), (.int (((2 : Int32) * nu) + (0 : Int32)))])) (fun _ k => XS.iload X11.here hx rfl (hb hby at_146) rfl k) ?_
        refine own_st (t' := T11.setTop (mkF m 153 #[.val (.int p1), .val (.int p2), .val (.int p3), .val (.int p4), .val (.int p5), .val (.ref wDIRECTED), .val (.int ct), .val (.int ((2 : Int32) * ct)), .val (.int (0 : Int32)), .val (.long ((2 : Int64) * (ct.toInt64))), .second, .val (.int nu), .val (.ref b7), .val (.int p4), .val (.int (((2 : Int32) * nu) + (0 : Int32))), .unset, .unset] [])) (fun _ k => XS.icmpYes X11.here hx rfl (pc0 := 148) (pc' := 153) rfl (hb hby at_148) rfl (tlt (own_l0 hct hnu)).1 (by decide) (by decide) k) ?_
        refine own_st (t' := T11.setTop (mkF m 155 #[.val (.int p1), .val (.int p2), .val (.int p3), .val (.int p4), .val (.int p5), .val (.ref wDIRECTED), .val (.int ct), .val (.int ((2 : Int32) * ct)), .val (.int (0 : Int32)), .val (.long ((2 : Int64) * (ct.toInt64))), .second, .val (.int nu), .val (.ref b7), .val (.int p4), .val (.int (((2 : Int32) * nu) + (0 : Int32))), .unset, .unset] [(.int ct)])) (fun _ k => XS.iload X11.here hx rfl (hb hby at_153) rfl k) ?_
        refine own_st (t' := T11.setTop (mkF m 156 #[.val (.int p1), .val (.int p2), .val (.int p3), .val (.int p4), .val (.int p5), .val (.ref wDIRECTED), .val (.int ct), .val (.int ((2 : Int32) * ct)), .val (.int (0 : Int32)), .val (.long ((2 : Int64) * (ct.toInt64))), .second, .val (.int nu), .val (.ref b7), .val (.int p4), .val (.int (((2 : Int32) * nu) + (0 : Int32))), .unset, .unset] [(.int (1 : Int32)), (.int ct)])) (fun _ k => XS.iconst X11.here hx rfl (hb hby at_155) k) ?_
        refine own_st (t' := T11.setTop (mkF m 157 #[.val (.int p1), .val (.int p2), .val (.int p3), .val (.int p4), .val (.int p5), .val (.ref wDIRECTED), .val (.int ct), .val (.int ((2 : Int32) * ct)), .val (.int (0 : Int32)), .val (.long ((2 : Int64) * (ct.toInt64))), .second, .val (.int nu), .val (.ref b7), .val (.int p4), .val (.int (((2 : Int32) * nu) + (0 : Int32))), .unset, .unset] [(.int (ct - (1 : Int32)))])) (fun _ k => XS.isub X11.here hx rfl (hb hby at_156) rfl k) ?_
        refine own_st (t' := T11.setTop (mkF m 159 #[.val (.int p1), .val (.int p2), .val (.int p3), .val (.int p4), .val (.int p5), .val (.ref wDIRECTED), .val (.int ct), .val (.int ((2 : Int32) * ct)), .val (.int (0 : Int32)), .val (.long ((2 : Int64) * (ct.toInt64))), .second, .val (.int nu), .val (.ref b7), .val (.int p4), .val (.int (((2 : Int32) * nu) + (0 : Int32))), .val (.int (ct - (1 : Int32))), .unset] [])) (fun _ k => XS.istore X11.here hx rfl (hb hby at_157) rfl (l' := #[.val (.int p1), .val (.int p2), .val (.int p3), .val (.int p4), .val (.int p5), .val (.ref wDIRECTED), .val (.int ct), .val (.int ((2 : Int32) * ct)), .val (.int (0 : Int32)), .val (.long ((2 : Int64) * (ct.toInt64))), .second, .val (.int nu), .val (.ref b7), .val (.int p4), .val (.int (((2 : Int32) * nu) + (0 : Int32))), .val (.int (ct - (1 : Int32))), .unset]) rfl k) ?_
        refine own_st (t' := T11.setTop (mkF m 161 #[.val (.int p1), .val (.int p2), .val (.int p3), .val (.int p4), .val (.int p5), .val (.ref wDIRECTED), .val (.int ct), .val (.int ((2 : Int32) * ct)), .val (.int (0 : Int32)), .val (.long ((2 : Int64) * (ct.toInt64))), .second, .val (.int nu), .val (.ref b7), .val (.int p4), .val (.int (((2 : Int32) * nu) + (0 : Int32))), .val (.int (ct - (1 : Int32))), .unset] [(.ref wDIRECTED)])) (fun _ k => XS.aload X11.here hx rfl (hb hby at_159) rfl rfl k) ?_
        refine own_st (t' := T11.setTop (mkF m 163 #[.val (.int p1), .val (.int p2), .val (.int p3), .val (.int p4), .val (.int p5), .val (.ref wDIRECTED), .val (.int ct), .val (.int ((2 : Int32) * ct)), .val (.int (0 : Int32)), .val (.long ((2 : Int64) * (ct.toInt64))), .second, .val (.int nu), .val (.ref b7), .val (.int p4), .val (.int (((2 : Int32) * nu) + (0 : Int32))), .val (.int (ct - (1 : Int32))), .unset] [(.ref b7), (.ref wDIRECTED)])) (fun _ k => XS.aload X11.here hx rfl (hb hby at_161) rfl rfl k) ?_
        refine own_st (t' := T11.setTop (mkF m 165 #[.val (.int p1), .val (.int p2), .val (.int p3), .val (.int p4), .val (.int p5), .val (.ref wDIRECTED), .val (.int ct), .val (.int ((2 : Int32) * ct)), .val (.int (0 : Int32)), .val (.long ((2 : Int64) * (ct.toInt64))), .second, .val (.int nu), .val (.ref b7), .val (.int p4), .val (.int (((2 : Int32) * nu) + (0 : Int32))), .val (.int (ct - (1 : Int32))), .unset] [(.int (ct - (1 : Int32))), (.ref b7), (.ref wDIRECTED)])) (fun _ k => XS.iload X11.here hx rfl (hb hby at_163) rfl k) ?_
        refine own_st (t' := T11.setTop (mkF m 166 #[.val (.int p1), .val (.int p2), .val (.int p3), .val (.int p4), .val (.int p5), .val (.ref wDIRECTED), .val (.int ct), .val (.int ((2 : Int32) * ct)), .val (.int (0 : Int32)), .val (.long ((2 : Int64) * (ct.toInt64))), .second, .val (.int nu), .val (.ref b7), .val (.int p4), .val (.int (((2 : Int32) * nu) + (0 : Int32))), .val (.int (ct - (1 : Int32))), .unset] [(.int p4), (.int (ct - (1 : Int32))), (.ref b7), (.ref wDIRECTED)])) (fun _ k => XS.iloadN X11.here hx rfl (hb hby at_165) rfl k) ?_
        obtain ⟨cq12, kq12, q12a, q12b, q12c⟩ := isOf hZ e11 f9_Exa_wDIRECTED
        obtain ⟨_, _, ⟨T12, L12, k12, n12⟩, -, X12, ⟨Lc12, hQ12, l12, y12, z12⟩, st12⟩ := X11.virtualBack hx (y := (⟨"com/example/lambdaloom/lambdaloom/ChannelModel", "fibre", "(Lcom/example/lambdaloom/lambdaloom/Network$Link;II)I"⟩ : MethodName)) (z := (⟨"com/example/lambdaloom/lambdaloom/ChannelModel", "fibre", "(Lcom/example/lambdaloom/lambdaloom/Network$Link;II)I"⟩ : MethodName)) hown (mvT hZ (hw _ (List.mem_of_getElem? (i := 55) rfl))) (mvT hZ (hw _ (List.mem_of_getElem? (i := 56) rfl))) (notFace_of_selects (args := #[]) (mvT hZ (hw _ (List.mem_of_getElem? (i := 58) rfl)))) (mvT hZ (hw _ (List.mem_of_getElem? (i := 58) rfl))) (mvT hZ (hw _ (List.mem_of_getElem? (i := 57) rfl))) (by decide) (backOf (W := 0) (own_rm6 l Z a0 hw [] wDIRECTED b7 (ct - (1 : Int32)) p4 p4 (((2 : Int32) * (ct - (1 : Int32))) + (0 : Int32)) T9.heap n0 Z9 f9_Exa_wDIRECTED f9_Fld_wDIRECTED_ordinal g9e g9f1 (by rw [if_pos rfl])) hZ (hw _ (List.mem_of_getElem? (i := 59) rfl)) (hw _ (List.mem_of_getElem? (i := 1) rfl)) (by decide) (by decide)) q12a q12c (g := (mkF m 166 #[.val (.int p1), .val (.int p2), .val (.int p3), .val (.int p4), .val (.int p5), .val (.ref wDIRECTED), .val (.int ct), .val (.int ((2 : Int32) * ct)), .val (.int (0 : Int32)), .val (.long ((2 : Int64) * (ct.toInt64))), .second, .val (.int nu), .val (.ref b7), .val (.int p4), .val (.int (((2 : Int32) * nu) + (0 : Int32))), .val (.int (ct - (1 : Int32))), .unset] [(.int p4), (.int (ct - (1 : Int32))), (.ref b7), (.ref wDIRECTED)])) rfl (by rw [hml]; rfl) (Steps.refl _) (argsL := [(.ref b7), (.int (ct - (1 : Int32))), (.int p4)]) (rest := []) (lenOf own_rm0_pd3 rfl) rfl (by show 2 * 0 + _ ≤ _; exact Nat.le_of_eq rfl) (hb hby at_166) (fun _ _ => ⟨rfl, e11, (by decide : 0 + 0 + 0 + 1 + 2 + 0 + 0 + 0 ≤ _), (by decide : 0 + 0 + 0 + 3 + (4 + 4) + 0 + 0 + 0 ≤ _)⟩)
        dsimp only [Pt.U, Pt.locs, Pt.cells, Pt.slots] at X12 l12 y12 z12 st12 hQ12
        subst l12 y12 z12
        obtain ⟨rfl, N12q, e12⟩ := hQ12
        have N12 := Fr.app N11 N12q
        refine own_tr (t' := T12.setTop (mkF m 169 #[.val (.int p1), .val (.int p2), .val (.int p3), .val (.int p4), .val (.int p5), .val (.ref wDIRECTED), .val (.int ct), .val (.int ((2 : Int32) * ct)), .val (.int (0 : Int32)), .val (.long ((2 : Int64) * (ct.toInt64))), .second, .val (.int nu), .val (.ref b7), .val (.int p4), .val (.int (((2 : Int32) * nu) + (0 : Int32))), .val (.int (ct - (1 : Int32))), .unset] [(.int (((2 : Int32) * (ct - (1 : Int32))) + (0 : Int32)))])) st12 ?_
        refine own_st (t' := T12.setTop (mkF m 171 #[.val (.int p1), .val (.int p2), .val (.int p3), .val (.int p4), .val (.int p5), .val (.ref wDIRECTED), .val (.int ct), .val (.int ((2 : Int32) * ct)), .val (.int (0 : Int32)), .val (.long ((2 : Int64) * (ct.toInt64))), .second, .val (.int nu), .val (.ref b7), .val (.int p4), .val (.int (((2 : Int32) * nu) + (0 : Int32))), .val (.int (ct - (1 : Int32))), .unset] [(.ref wDIRECTED), (.int (((2 : Int32) * (ct - (1 : Int32))) + (0 : Int32)))])) (fun _ k => XS.aload X12.here hx rfl (hb hby at_169) rfl rfl k) ?_
        refine own_st (t' := T12.setTop (mkF m 173 #[.val (.int p1), .val (.int p2), .val (.int p3), .val (.int p4), .val (.int p5), .val (.ref wDIRECTED), .val (.int ct), .val (.int ((2 : Int32) * ct)), .val (.int (0 : Int32)), .val (.long ((2 : Int64) * (ct.toInt64))), .second, .val (.int nu), .val (.ref b7), .val (.int p4), .val (.int (((2 : Int32) * nu) + (0 : Int32))), .val (.int (ct - (1 : Int32))), .unset] [(.ref b7), (.ref wDIRECTED), (.int (((2 : Int32) * (ct - (1 : Int32))) + (0 : Int32)))])) (fun _ k => XS.aload X12.here hx rfl (hb hby at_171) rfl rfl k) ?_
        refine own_st (t' := T12.setTop (mkF m 175 #[.val (.int p1), .val (.int p2), .val (.int p3), .val (.int p4), .val (.int p5), .val (.ref wDIRECTED), .val (.int ct), .val (.int ((2 : Int32) * ct)), .val (.int (0 : Int32)), .val (.long ((2 : Int64) * (ct.toInt64))), .second, .val (.int nu), .val (.ref b7), .val (.int p4), .val (.int (((2 : Int32) * nu) + (0 : Int32))), .val (.int (ct - (1 : Int32))), .unset] [(.int (ct - (1 : Int32))), (.ref b7), (.ref wDIRECTED), (.int (((2 : Int32) * (ct - (1 : Int32))) + (0 : Int32)))])) (fun _ k => XS.iload X12.here hx rfl (hb hby at_173) rfl k) ?_
        refine own_st (t' := T12.setTop (mkF m 176 #[.val (.int p1), .val (.int p2), .val (.int p3), .val (.int p4), .val (.int p5), .val (.ref wDIRECTED), .val (.int ct), .val (.int ((2 : Int32) * ct)), .val (.int (0 : Int32)), .val (.long ((2 : Int64) * (ct.toInt64))), .second, .val (.int nu), .val (.ref b7), .val (.int p4), .val (.int (((2 : Int32) * nu) + (0 : Int32))), .val (.int (ct - (1 : Int32))), .unset] [(.int p4), (.int (ct - (1 : Int32))), (.ref b7), (.ref wDIRECTED), (.int (((2 : Int32) * (ct - (1 : Int32))) + (0 : Int32)))])) (fun _ k => XS.iloadN X12.here hx rfl (hb hby at_175) rfl k) ?_
        refine own_st (t' := T12.setTop (mkF m 177 #[.val (.int p1), .val (.int p2), .val (.int p3), .val (.int p4), .val (.int p5), .val (.ref wDIRECTED), .val (.int ct), .val (.int ((2 : Int32) * ct)), .val (.int (0 : Int32)), .val (.long ((2 : Int64) * (ct.toInt64))), .second, .val (.int nu), .val (.ref b7), .val (.int p4), .val (.int (((2 : Int32) * nu) + (0 : Int32))), .val (.int (ct - (1 : Int32))), .unset] [(.int (1 : Int32)), (.int p4), (.int (ct - (1 : Int32))), (.ref b7), (.ref wDIRECTED), (.int (((2 : Int32) * (ct - (1 : Int32))) + (0 : Int32)))])) (fun _ k => XS.iconst X12.here hx rfl (hb hby at_176) k) ?_
        refine own_st (t' := T12.setTop (mkF m 178 #[.val (.int p1), .val (.int p2), .val (.int p3), .val (.int p4), .val (.int p5), .val (.ref wDIRECTED), .val (.int ct), .val (.int ((2 : Int32) * ct)), .val (.int (0 : Int32)), .val (.long ((2 : Int64) * (ct.toInt64))), .second, .val (.int nu), .val (.ref b7), .val (.int p4), .val (.int (((2 : Int32) * nu) + (0 : Int32))), .val (.int (ct - (1 : Int32))), .unset] [(.int (p4 + (1 : Int32))), (.int (ct - (1 : Int32))), (.ref b7), (.ref wDIRECTED), (.int (((2 : Int32) * (ct - (1 : Int32))) + (0 : Int32)))])) (fun _ k => XS.iadd X12.here hx rfl (hb hby at_177) rfl k) ?_
        obtain ⟨cq13, kq13, q13a, q13b, q13c⟩ := isOf hZ e12 f9_Exa_wDIRECTED
        obtain ⟨_, _, ⟨T13, L13, k13, n13⟩, -, X13, ⟨Lc13, hQ13, l13, y13, z13⟩, st13⟩ := X12.virtualBack hx (y := (⟨"com/example/lambdaloom/lambdaloom/ChannelModel", "fibre", "(Lcom/example/lambdaloom/lambdaloom/Network$Link;II)I"⟩ : MethodName)) (z := (⟨"com/example/lambdaloom/lambdaloom/ChannelModel", "fibre", "(Lcom/example/lambdaloom/lambdaloom/Network$Link;II)I"⟩ : MethodName)) hown (mvT hZ (hw _ (List.mem_of_getElem? (i := 55) rfl))) (mvT hZ (hw _ (List.mem_of_getElem? (i := 56) rfl))) (notFace_of_selects (args := #[]) (mvT hZ (hw _ (List.mem_of_getElem? (i := 58) rfl)))) (mvT hZ (hw _ (List.mem_of_getElem? (i := 58) rfl))) (mvT hZ (hw _ (List.mem_of_getElem? (i := 57) rfl))) (by decide) (backOf (W := 1) (own_rm6 l Z a0 hw [] wDIRECTED b7 (ct - (1 : Int32)) (p4 + (1 : Int32)) p4 (((2 : Int32) * (ct - (1 : Int32))) + (1 : Int32)) T9.heap n0 Z9 f9_Exa_wDIRECTED f9_Fld_wDIRECTED_ordinal g9e g9f1 (by rw [if_neg (own_s1 p4)])) hZ (hw _ (List.mem_of_getElem? (i := 59) rfl)) (hw _ (List.mem_of_getElem? (i := 1) rfl)) (by decide) (by decide)) q13a q13c (g := (mkF m 178 #[.val (.int p1), .val (.int p2), .val (.int p3), .val (.int p4), .val (.int p5), .val (.ref wDIRECTED), .val (.int ct), .val (.int ((2 : Int32) * ct)), .val (.int (0 : Int32)), .val (.long ((2 : Int64) * (ct.toInt64))), .second, .val (.int nu), .val (.ref b7), .val (.int p4), .val (.int (((2 : Int32) * nu) + (0 : Int32))), .val (.int (ct - (1 : Int32))), .unset] [(.int (p4 + (1 : Int32))), (.int (ct - (1 : Int32))), (.ref b7), (.ref wDIRECTED), (.int (((2 : Int32) * (ct - (1 : Int32))) + (0 : Int32)))])) rfl (by rw [hml]; rfl) (Steps.refl _) (argsL := [(.ref b7), (.int (ct - (1 : Int32))), (.int (p4 + (1 : Int32)))]) (rest := [(.int (((2 : Int32) * (ct - (1 : Int32))) + (0 : Int32)))]) (lenOf own_rm0_pd3 rfl) rfl (by show 2 * 0 + _ ≤ _; exact Nat.le_of_eq rfl) (hb hby at_178) (fun _ _ => ⟨rfl, e12, (by decide : 0 + 0 + 0 + 1 + 2 + 0 + 0 + 0 + 0 ≤ _), (by decide : 0 + 0 + 0 + 3 + (4 + 4) + 0 + 0 + 0 + 0 ≤ _)⟩)
        dsimp only [Pt.U, Pt.locs, Pt.cells, Pt.slots] at X13 l13 y13 z13 st13 hQ13
        subst l13 y13 z13
        obtain ⟨rfl, N13q, e13⟩ := hQ13
        have N13 := Fr.app N12 N13q
        refine own_tr (t' := T13.setTop (mkF m 181 #[.val (.int p1), .val (.int p2), .val (.int p3), .val (.int p4), .val (.int p5), .val (.ref wDIRECTED), .val (.int ct), .val (.int ((2 : Int32) * ct)), .val (.int (0 : Int32)), .val (.long ((2 : Int64) * (ct.toInt64))), .second, .val (.int nu), .val (.ref b7), .val (.int p4), .val (.int (((2 : Int32) * nu) + (0 : Int32))), .val (.int (ct - (1 : Int32))), .unset] [(.int (((2 : Int32) * (ct - (1 : Int32))) + (1 : Int32))), (.int (((2 : Int32) * (ct - (1 : Int32))) + (0 : Int32)))])) st13 ?_
        obtain ⟨_, _, ⟨T14, L14, k14, n14⟩, -, X14, ⟨Lc14, hQ14, l14, y14, z14⟩, st14⟩ := Jvm.LawKit.callS X13 hx (y := (⟨"java/lang/Math", "max", "(II)I"⟩ : MethodName)) hown (mvT hZ (hw _ (List.mem_of_getElem? (i := 65) rfl))) (mvT hZ (hw _ (List.mem_of_getElem? (i := 66) rfl))) (mvT hZ (hw _ (List.mem_of_getElem? (i := 67) rfl))) (mvT hZ (hw _ (List.mem_of_getElem? (i := 68) rfl))) (by decide) (backOf (W := 0) (own_rmM l Z a0 hw [] (((2 : Int32) * (ct - (1 : Int32))) + (0 : Int32)) (((2 : Int32) * (ct - (1 : Int32))) + (1 : Int32))  T9.heap n0 Z9 ) hZ (hw _ (List.mem_of_getElem? (i := 68) rfl)) (hw _ (List.mem_of_getElem? (i := 67) rfl)) (by decide) (by decide)) (g := (mkF m 181 #[.val (.int p1), .val (.int p2), .val (.int p3), .val (.int p4), .val (.int p5), .val (.ref wDIRECTED), .val (.int ct), .val (.int ((2 : Int32) * ct)), .val (.int (0 : Int32)), .val (.long ((2 : Int64) * (ct.toInt64))), .second, .val (.int nu), .val (.ref b7), .val (.int p4), .val (.int (((2 : Int32) * nu) + (0 : Int32))), .val (.int (ct - (1 : Int32))), .unset] [(.int (((2 : Int32) * (ct - (1 : Int32))) + (1 : Int32))), (.int (((2 : Int32) * (ct - (1 : Int32))) + (0 : Int32)))])) rfl (by rw [hml]; rfl) (argsL := [(.int (((2 : Int32) * (ct - (1 : Int32))) + (0 : Int32))), (.int (((2 : Int32) * (ct - (1 : Int32))) + (1 : Int32)))]) (rest := []) (lenOf own_rm0_pd4 rfl) rfl (by show 2 * 0 + _ ≤ _; exact Nat.le_of_eq rfl) (hb hby at_181) (fun _ _ => ⟨rfl, e13, (by decide : 0 + 0 + 0 + 1 + 2 + 0 + 0 + 0 + 0 + 0 ≤ _), (by decide : 0 + 0 + 0 + 3 + (4 + 4) + 0 + 0 + 0 + 0 + 0 ≤ _)⟩)
        dsimp only [Pt.U, Pt.locs, Pt.cells, Pt.slots] at X14 l14 y14 z14 st14 hQ14
        subst l14 y14 z14
        obtain ⟨rfl, N14q, e14⟩ := hQ14
        have N14 := Fr.app N13 N14q
        refine own_st (t' := T14.setTop (mkF m 184 #[.val (.int p1), .val (.int p2), .val (.int p3), .val (.int p4), .val (.int p5), .val (.ref wDIRECTED), .val (.int ct), .val (.int ((2 : Int32) * ct)), .val (.int (0 : Int32)), .val (.long ((2 : Int64) * (ct.toInt64))), .second, .val (.int nu), .val (.ref b7), .val (.int p4), .val (.int (((2 : Int32) * nu) + (0 : Int32))), .val (.int (ct - (1 : Int32))), .unset] [(.int (own_max (((2 : Int32) * (ct - (1 : Int32))) + (0 : Int32)) (((2 : Int32) * (ct - (1 : Int32))) + (1 : Int32))))])) st14 ?_
        refine own_st (t' := T14.setTop (mkF m 186 #[.val (.int p1), .val (.int p2), .val (.int p3), .val (.int p4), .val (.int p5), .val (.ref wDIRECTED), .val (.int ct), .val (.int ((2 : Int32) * ct)), .val (.int (0 : Int32)), .val (.long ((2 : Int64) * (ct.toInt64))), .second, .val (.int nu), .val (.ref b7), .val (.int p4), .val (.int (((2 : Int32) * nu) + (0 : Int32))), .val (.int (ct - (1 : Int32))), .val (.int (own_max (((2 : Int32) * (ct - (1 : Int32))) + (0 : Int32)) (((2 : Int32) * (ct - (1 : Int32))) + (1 : Int32))))] [])) (fun _ k => XS.istore X14.here hx rfl (hb hby at_184) rfl (l' := #[.val (.int p1), .val (.int p2), .val (.int p3), .val (.int p4), .val (.int p5), .val (.ref wDIRECTED), .val (.int ct), .val (.int ((2 : Int32) * ct)), .val (.int (0 : Int32)), .val (.long ((2 : Int64) * (ct.toInt64))), .second, .val (.int nu), .val (.ref b7), .val (.int p4), .val (.int (((2 : Int32) * nu) + (0 : Int32))), .val (.int (ct - (1 : Int32))), .val (.int (own_max (((2 : Int32) * (ct - (1 : Int32))) + (0 : Int32)) (((2 : Int32) * (ct - (1 : Int32))) + (1 : Int32))))]) rfl k) ?_
        refine own_st (t' := T14.setTop (mkF m 188 #[.val (.int p1), .val (.int p2), .val (.int p3), .val (.int p4), .val (.int p5), .val (.ref wDIRECTED), .val (.int ct), .val (.int ((2 : Int32) * ct)), .val (.int (0 : Int32)), .val (.long ((2 : Int64) * (ct.toInt64))), .second, .val (.int nu), .val (.ref b7), .val (.int p4), .val (.int (((2 : Int32) * nu) + (0 : Int32))), .val (.int (ct - (1 : Int32))), .val (.int (own_max (((2 : Int32) * (ct - (1 : Int32))) + (0 : Int32)) (((2 : Int32) * (ct - (1 : Int32))) + (1 : Int32))))] [(.int (own_max (((2 : Int32) * (ct - (1 : Int32))) + (0 : Int32)) (((2 : Int32) * (ct - (1 : Int32))) + (1 : Int32))))])) (fun _ k => XS.iload X14.here hx rfl (hb hby at_186) rfl k) ?_
        refine own_st (t' := T14.setTop (mkF m 190 #[.val (.int p1), .val (.int p2), .val (.int p3), .val (.int p4), .val (.int p5), .val (.ref wDIRECTED), .val (.int ct), .val (.int ((2 : Int32) * ct)), .val (.int (0 : Int32)), .val (.long ((2 : Int64) * (ct.toInt64))), .second, .val (.int nu), .val (.ref b7), .val (.int p4), .val (.int (((2 : Int32) * nu) + (0 : Int32))), .val (.int (ct - (1 : Int32))), .val (.int (own_max (((2 : Int32) * (ct - (1 : Int32))) + (0 : Int32)) (((2 : Int32) * (ct - (1 : Int32))) + (1 : Int32))))] [(.int ((2 : Int32) * ct)), (.int (own_max (((2 : Int32) * (ct - (1 : Int32))) + (0 : Int32)) (((2 : Int32) * (ct - (1 : Int32))) + (1 : Int32))))])) (fun _ k => XS.iload X14.here hx rfl (hb hby at_188) rfl k) ?_
        refine own_st (t' := T14.setTop (mkF m 191 #[.val (.int p1), .val (.int p2), .val (.int p3), .val (.int p4), .val (.int p5), .val (.ref wDIRECTED), .val (.int ct), .val (.int ((2 : Int32) * ct)), .val (.int (0 : Int32)), .val (.long ((2 : Int64) * (ct.toInt64))), .second, .val (.int nu), .val (.ref b7), .val (.int p4), .val (.int (((2 : Int32) * nu) + (0 : Int32))), .val (.int (ct - (1 : Int32))), .val (.int (own_max (((2 : Int32) * (ct - (1 : Int32))) + (0 : Int32)) (((2 : Int32) * (ct - (1 : Int32))) + (1 : Int32))))] [(.int (1 : Int32)), (.int ((2 : Int32) * ct)), (.int (own_max (((2 : Int32) * (ct - (1 : Int32))) + (0 : Int32)) (((2 : Int32) * (ct - (1 : Int32))) + (1 : Int32))))])) (fun _ k => XS.iconst X14.here hx rfl (hb hby at_190) k) ?_
        refine own_st (t' := T14.setTop (mkF m 192 #[.val (.int p1), .val (.int p2), .val (.int p3), .val (.int p4), .val (.int p5), .val (.ref wDIRECTED), .val (.int ct), .val (.int ((2 : Int32) * ct)), .val (.int (0 : Int32)), .val (.long ((2 : Int64) * (ct.toInt64))), .second, .val (.int nu), .val (.ref b7), .val (.int p4), .val (.int (((2 : Int32) * nu) + (0 : Int32))), .val (.int (ct - (1 : Int32))), .val (.int (own_max (((2 : Int32) * (ct - (1 : Int32))) + (0 : Int32)) (((2 : Int32) * (ct - (1 : Int32))) + (1 : Int32))))] [(.int (((2 : Int32) * ct) - (1 : Int32))), (.int (own_max (((2 : Int32) * (ct - (1 : Int32))) + (0 : Int32)) (((2 : Int32) * (ct - (1 : Int32))) + (1 : Int32))))])) (fun _ k => XS.isub X14.here hx rfl (hb hby at_191) rfl k) ?_
        refine own_st (t' := T14.setTop (mkF m 195 #[.val (.int p1), .val (.int p2), .val (.int p3), .val (.int p4), .val (.int p5), .val (.ref wDIRECTED), .val (.int ct), .val (.int ((2 : Int32) * ct)), .val (.int (0 : Int32)), .val (.long ((2 : Int64) * (ct.toInt64))), .second, .val (.int nu), .val (.ref b7), .val (.int p4), .val (.int (((2 : Int32) * nu) + (0 : Int32))), .val (.int (ct - (1 : Int32))), .val (.int (own_max (((2 : Int32) * (ct - (1 : Int32))) + (0 : Int32)) (((2 : Int32) * (ct - (1 : Int32))) + (1 : Int32))))] [])) (fun _ k => XS.icmpNo X14.here hx rfl (hb hby at_192) rfl (teq (own_maxd hct c72_5)).2 k) ?_
        refine own_st (t' := T14.setTop (mkF m 196 #[.val (.int p1), .val (.int p2), .val (.int p3), .val (.int p4), .val (.int p5), .val (.ref wDIRECTED), .val (.int ct), .val (.int ((2 : Int32) * ct)), .val (.int (0 : Int32)), .val (.long ((2 : Int64) * (ct.toInt64))), .second, .val (.int nu), .val (.ref b7), .val (.int p4), .val (.int (((2 : Int32) * nu) + (0 : Int32))), .val (.int (ct - (1 : Int32))), .val (.int (own_max (((2 : Int32) * (ct - (1 : Int32))) + (0 : Int32)) (((2 : Int32) * (ct - (1 : Int32))) + (1 : Int32))))] [(.int (1 : Int32))])) (fun _ k => XS.iconst X14.here hx rfl (hb hby at_195) k) ?_
        refine own_st (t' := T14.setTop (mkF m 200 #[.val (.int p1), .val (.int p2), .val (.int p3), .val (.int p4), .val (.int p5), .val (.ref wDIRECTED), .val (.int ct), .val (.int ((2 : Int32) * ct)), .val (.int (0 : Int32)), .val (.long ((2 : Int64) * (ct.toInt64))), .second, .val (.int nu), .val (.ref b7), .val (.int p4), .val (.int (((2 : Int32) * nu) + (0 : Int32))), .val (.int (ct - (1 : Int32))), .val (.int (own_max (((2 : Int32) * (ct - (1 : Int32))) + (0 : Int32)) (((2 : Int32) * (ct - (1 : Int32))) + (1 : Int32))))] [(.int (1 : Int32))])) (fun _ k => XS.goto X14.here hx rfl (pc0 := 196) (pc' := 200) rfl (hb hby at_196) (by decide) (by decide) k) ?_
        have hv15 : (1 : Int32) = (1 : Int32) := rfl
        obtain ⟨fs, hr, hrun, hended, hEnd⟩ := Stand.leaveW (s := s) (vm₁ := T8.vm) X14 hSi (by rw [e14]; exact hki) (v := some (.int (1 : Int32))) (fun h => by rw [Bd.returns] at h; cases h)
        exact ⟨_, _, retN X14 hx (t := .boolean) Bd.returns (by simp) (hb hby at_200) hr, hrun, hended, hP _ _ ⟨_, _, rfl, ⟨(congrArg (fun z => some (Value.int z)) hv15), N14⟩, ⟨_, rfl⟩, hEnd.2.1, hEnd.2.2.1, hEnd.2.2.2.mono (by decide) (by decide)⟩⟩
      · refine own_st (t' := T9.setTop (mkF m 121 #[.val (.int p1), .val (.int p2), .val (.int p3), .val (.int p4), .val (.int p5), .val (.ref wDIRECTED), .val (.int ct), .val (.int ((2 : Int32) * ct)), .val (.int (0 : Int32)), .val (.long ((2 : Int64) * (ct.toInt64))), .second, .val (.int nu), .val (.ref b7), .unset, .unset, .unset, .unset] [])) (fun _ k => XS.ifYes X9.here hx rfl (pc0 := 114) (pc' := 121) rfl (hb hby at_114) rfl ((if0 _ _).trans (feq c114_10).2) (by decide) (by decide) k) ?_
        refine own_st (t' := T9.setTop (mkF m 122 #[.val (.int p1), .val (.int p2), .val (.int p3), .val (.int p4), .val (.int p5), .val (.ref wDIRECTED), .val (.int ct), .val (.int ((2 : Int32) * ct)), .val (.int (0 : Int32)), .val (.long ((2 : Int64) * (ct.toInt64))), .second, .val (.int nu), .val (.ref b7), .unset, .unset, .unset, .unset] [(.int p4)])) (fun _ k => XS.iloadN X9.here hx rfl (hb hby at_121) rfl k) ?_
        refine own_st (t' := T9.setTop (mkF m 123 #[.val (.int p1), .val (.int p2), .val (.int p3), .val (.int p4), .val (.int p5), .val (.ref wDIRECTED), .val (.int ct), .val (.int ((2 : Int32) * ct)), .val (.int (0 : Int32)), .val (.long ((2 : Int64) * (ct.toInt64))), .second, .val (.int nu), .val (.ref b7), .unset, .unset, .unset, .unset] [(.int (1 : Int32)), (.int p4)])) (fun _ k => XS.iconst X9.here hx rfl (hb hby at_122) k) ?_
        refine own_st (t' := T9.setTop (mkF m 124 #[.val (.int p1), .val (.int p2), .val (.int p3), .val (.int p4), .val (.int p5), .val (.ref wDIRECTED), .val (.int ct), .val (.int ((2 : Int32) * ct)), .val (.int (0 : Int32)), .val (.long ((2 : Int64) * (ct.toInt64))), .second, .val (.int nu), .val (.ref b7), .unset, .unset, .unset, .unset] [(.int (p4 + (1 : Int32)))])) (fun _ k => XS.iadd X9.here hx rfl (hb hby at_123) rfl k) ?_
        refine own_st (t' := T9.setTop (mkF m 126 #[.val (.int p1), .val (.int p2), .val (.int p3), .val (.int p4), .val (.int p5), .val (.ref wDIRECTED), .val (.int ct), .val (.int ((2 : Int32) * ct)), .val (.int (0 : Int32)), .val (.long ((2 : Int64) * (ct.toInt64))), .second, .val (.int nu), .val (.ref b7), .val (.int (p4 + (1 : Int32))), .unset, .unset, .unset] [])) (fun _ k => XS.istore X9.here hx rfl (hb hby at_124) rfl (l' := #[.val (.int p1), .val (.int p2), .val (.int p3), .val (.int p4), .val (.int p5), .val (.ref wDIRECTED), .val (.int ct), .val (.int ((2 : Int32) * ct)), .val (.int (0 : Int32)), .val (.long ((2 : Int64) * (ct.toInt64))), .second, .val (.int nu), .val (.ref b7), .val (.int (p4 + (1 : Int32))), .unset, .unset, .unset]) rfl k) ?_
        refine own_st (t' := T9.setTop (mkF m 128 #[.val (.int p1), .val (.int p2), .val (.int p3), .val (.int p4), .val (.int p5), .val (.ref wDIRECTED), .val (.int ct), .val (.int ((2 : Int32) * ct)), .val (.int (0 : Int32)), .val (.long ((2 : Int64) * (ct.toInt64))), .second, .val (.int nu), .val (.ref b7), .val (.int (p4 + (1 : Int32))), .unset, .unset, .unset] [(.ref wDIRECTED)])) (fun _ k => XS.aload X9.here hx rfl (hb hby at_126) rfl rfl k) ?_
        refine own_st (t' := T9.setTop (mkF m 130 #[.val (.int p1), .val (.int p2), .val (.int p3), .val (.int p4), .val (.int p5), .val (.ref wDIRECTED), .val (.int ct), .val (.int ((2 : Int32) * ct)), .val (.int (0 : Int32)), .val (.long ((2 : Int64) * (ct.toInt64))), .second, .val (.int nu), .val (.ref b7), .val (.int (p4 + (1 : Int32))), .unset, .unset, .unset] [(.ref b7), (.ref wDIRECTED)])) (fun _ k => XS.aload X9.here hx rfl (hb hby at_128) rfl rfl k) ?_
        refine own_st (t' := T9.setTop (mkF m 132 #[.val (.int p1), .val (.int p2), .val (.int p3), .val (.int p4), .val (.int p5), .val (.ref wDIRECTED), .val (.int ct), .val (.int ((2 : Int32) * ct)), .val (.int (0 : Int32)), .val (.long ((2 : Int64) * (ct.toInt64))), .second, .val (.int nu), .val (.ref b7), .val (.int (p4 + (1 : Int32))), .unset, .unset, .unset] [(.int nu), (.ref b7), (.ref wDIRECTED)])) (fun _ k => XS.iload X9.here hx rfl (hb hby at_130) rfl k) ?_
        refine own_st (t' := T9.setTop (mkF m 134 #[.val (.int p1), .val (.int p2), .val (.int p3), .val (.int p4), .val (.int p5), .val (.ref wDIRECTED), .val (.int ct), .val (.int ((2 : Int32) * ct)), .val (.int (0 : Int32)), .val (.long ((2 : Int64) * (ct.toInt64))), .second, .val (.int nu), .val (.ref b7), .val (.int (p4 + (1 : Int32))), .unset, .unset, .unset] [(.int (p4 + (1 : Int32))), (.int nu), (.ref b7), (.ref wDIRECTED)])) (fun _ k => XS.iload X9.here hx rfl (hb hby at_132) rfl k) ?_
        obtain ⟨cq16, kq16, q16a, q16b, q16c⟩ := isOf hZ rfl f9_Exa_wDIRECTED
        obtain ⟨_, _, ⟨T16, L16, k16, n16⟩, -, X16, ⟨Lc16, hQ16, l16, y16, z16⟩, st16⟩ := X9.virtualBack hx (y := (⟨"com/example/lambdaloom/lambdaloom/ChannelModel", "fibre", "(Lcom/example/lambdaloom/lambdaloom/Network$Link;II)I"⟩ : MethodName)) (z := (⟨"com/example/lambdaloom/lambdaloom/ChannelModel", "fibre", "(Lcom/example/lambdaloom/lambdaloom/Network$Link;II)I"⟩ : MethodName)) hown (mvT hZ (hw _ (List.mem_of_getElem? (i := 55) rfl))) (mvT hZ (hw _ (List.mem_of_getElem? (i := 56) rfl))) (notFace_of_selects (args := #[]) (mvT hZ (hw _ (List.mem_of_getElem? (i := 58) rfl)))) (mvT hZ (hw _ (List.mem_of_getElem? (i := 58) rfl))) (mvT hZ (hw _ (List.mem_of_getElem? (i := 57) rfl))) (by decide) (backOf (W := 0) (own_rm6 l Z a0 hw [] wDIRECTED b7 nu (p4 + (1 : Int32)) p4 (((2 : Int32) * nu) + (1 : Int32)) T9.heap n0 Z9 f9_Exa_wDIRECTED f9_Fld_wDIRECTED_ordinal g9e g9f1 (by rw [if_neg (own_s1 p4)])) hZ (hw _ (List.mem_of_getElem? (i := 59) rfl)) (hw _ (List.mem_of_getElem? (i := 1) rfl)) (by decide) (by decide)) q16a q16c (g := (mkF m 134 #[.val (.int p1), .val (.int p2), .val (.int p3), .val (.int p4), .val (.int p5), .val (.ref wDIRECTED), .val (.int ct), .val (.int ((2 : Int32) * ct)), .val (.int (0 : Int32)), .val (.long ((2 : Int64) * (ct.toInt64))), .second, .val (.int nu), .val (.ref b7), .val (.int (p4 + (1 : Int32))), .unset, .unset, .unset] [(.int (p4 + (1 : Int32))), (.int nu), (.ref b7), (.ref wDIRECTED)])) rfl (by rw [hml]; rfl) (Steps.refl _) (argsL := [(.ref b7), (.int nu), (.int (p4 + (1 : Int32)))]) (rest := []) (lenOf own_rm0_pd3 rfl) rfl (by show 2 * 0 + _ ≤ _; exact Nat.le_of_eq rfl) (hb hby at_134) (fun _ _ => ⟨rfl, rfl, (by decide : 0 + 0 + 0 + 1 + 2 + 0 + 0 ≤ _), (by decide : 0 + 0 + 0 + 3 + (4 + 4) + 0 + 0 ≤ _)⟩)
        dsimp only [Pt.U, Pt.locs, Pt.cells, Pt.slots] at X16 l16 y16 z16 st16 hQ16
        subst l16 y16 z16
        obtain ⟨rfl, N16q, e16⟩ := hQ16
        have N16 := Fr.app N9 N16q
        refine own_tr (t' := T16.setTop (mkF m 137 #[.val (.int p1), .val (.int p2), .val (.int p3), .val (.int p4), .val (.int p5), .val (.ref wDIRECTED), .val (.int ct), .val (.int ((2 : Int32) * ct)), .val (.int (0 : Int32)), .val (.long ((2 : Int64) * (ct.toInt64))), .second, .val (.int nu), .val (.ref b7), .val (.int (p4 + (1 : Int32))), .unset, .unset, .unset] [(.int (((2 : Int32) * nu) + (1 : Int32)))])) st16 ?_
        refine own_st (t' := T16.setTop (mkF m 139 #[.val (.int p1), .val (.int p2), .val (.int p3), .val (.int p4), .val (.int p5), .val (.ref wDIRECTED), .val (.int ct), .val (.int ((2 : Int32) * ct)), .val (.int (0 : Int32)), .val (.long ((2 : Int64) * (ct.toInt64))), .second, .val (.int nu), .val (.ref b7), .val (.int (p4 + (1 : Int32))), .val (.int (((2 : Int32) * nu) + (1 : Int32))), .unset, .unset] [])) (fun _ k => XS.istore X16.here hx rfl (hb hby at_137) rfl (l' := #[.val (.int p1), .val (.int p2), .val (.int p3), .val (.int p4), .val (.int p5), .val (.ref wDIRECTED), .val (.int ct), .val (.int ((2 : Int32) * ct)), .val (.int (0 : Int32)), .val (.long ((2 : Int64) * (ct.toInt64))), .second, .val (.int nu), .val (.ref b7), .val (.int (p4 + (1 : Int32))), .val (.int (((2 : Int32) * nu) + (1 : Int32))), .unset, .unset]) rfl k) ?_
        refine own_st (t' := T16.setTop (mkF m 141 #[.val (.int p1), .val (.int p2), .val (.int p3), .val (.int p4), .val (.int p5), .val (.ref wDIRECTED), .val (.int ct), .val (.int ((2 : Int32) * ct)), .val (.int (0 : Int32)), .val (.long ((2 : Int64) * (ct.toInt64))), .second, .val (.int nu), .val (.ref b7), .val (.int (p4 + (1 : Int32))), .val (.int (((2 : Int32) * nu) + (1 : Int32))), .unset, .unset] [(.int (((2 : Int32) * nu) + (1 : Int32)))])) (fun _ k => XS.iload X16.here hx rfl (hb hby at_139) rfl k) ?_
        refine own_st (t' := T16.setTop (mkF m 144 #[.val (.int p1), .val (.int p2), .val (.int p3), .val (.int p4), .val (.int p5), .val (.ref wDIRECTED), .val (.int ct), .val (.int ((2 : Int32) * ct)), .val (.int (0 : Int32)), .val (.long ((2 : Int64) * (ct.toInt64))), .second, .val (.int nu), .val (.ref b7), .val (.int (p4 + (1 : Int32))), .val (.int (((2 : Int32) * nu) + (1 : Int32))), .unset, .unset] [])) (fun _ k => XS.ifNo X16.here hx rfl (hb hby at_141) rfl ((if0 _ _).trans (flt (own_n1 hct hnu)).1) k) ?_
        refine own_st (t' := T16.setTop (mkF m 146 #[.val (.int p1), .val (.int p2), .val (.int p3), .val (.int p4), .val (.int p5), .val (.ref wDIRECTED), .val (.int ct), .val (.int ((2 : Int32) * ct)), .val (.int (0 : Int32)), .val (.long ((2 : Int64) * (ct.toInt64))), .second, .val (.int nu), .val (.ref b7), .val (.int (p4 + (1 : Int32))), .val (.int (((2 : Int32) * nu) + (1 : Int32))), .unset, .unset] [(.int (((2 : Int32) * nu) + (1 : Int32)))])) (fun _ k => XS.iload X16.here hx rfl (hb hby at_144) rfl k) ?_
        refine own_st (t' := T16.setTop (mkF m 148 #[.val (.int p1), .val (.int p2), .val (.int p3), .val (.int p4), .val (.int p5), .val (.ref wDIRECTED), .val (.int ct), .val (.int ((2 : Int32) * ct)), .val (.int (0 : Int32)), .val (.long ((2 : Int64) * (ct.toInt64))), .second, .val (.int nu), .val (.ref b7), .val (.int (p4 + (1 : Int32))), .val (.int (((2 : Int32) * nu) + (1 : Int32))), .unset, .unset] [(.int ((2 : Int32) * ct)), (.int (((2 : Int32) * nu) + (1 : Int32)))])) (fun _ k => XS.iload X16.here hx rfl (hb hby at_146) rfl k) ?_
        refine own_st (t' := T16.setTop (mkF m 153 #[.val (.int p1), .val (.int p2), .val (.int p3), .val (.int p4), .val (.int p5), .val (.ref wDIRECTED), .val (.int ct), .val (.int ((2 : Int32) * ct)), .val (.int (0 : Int32)), .val (.long ((2 : Int64) * (ct.toInt64))), .second, .val (.int nu), .val (.ref b7), .val (.int (p4 + (1 : Int32))), .val (.int (((2 : Int32) * nu) + (1 : Int32))), .unset, .unset] [])) (fun _ k => XS.icmpYes X16.here hx rfl (pc0 := 148) (pc' := 153) rfl (hb hby at_148) rfl (tlt (own_l1 hct hnu)).1 (by decide) (by decide) k) ?_
        refine own_st (t' := T16.setTop (mkF m 155 #[.val (.int p1), .val (.int p2), .val (.int p3), .val (.int p4), .val (.int p5), .val (.ref wDIRECTED), .val (.int ct), .val (.int ((2 : Int32) * ct)), .val (.int (0 : Int32)), .val (.long ((2 : Int64) * (ct.toInt64))), .second, .val (.int nu), .val (.ref b7), .val (.int (p4 + (1 : Int32))), .val (.int (((2 : Int32) * nu) + (1 : Int32))), .unset, .unset] [(.int ct)])) (fun _ k => XS.iload X16.here hx rfl (hb hby at_153) rfl k) ?_
        refine own_st (t' := T16.setTop (mkF m 156 #[.val (.int p1), .val (.int p2), .val (.int p3), .val (.int p4), .val (.int p5), .val (.ref wDIRECTED), .val (.int ct), .val (.int ((2 : Int32) * ct)), .val (.int (0 : Int32)), .val (.long ((2 : Int64) * (ct.toInt64))), .second, .val (.int nu), .val (.ref b7), .val (.int (p4 + (1 : Int32))), .val (.int (((2 : Int32) * nu) + (1 : Int32))), .unset, .unset] [(.int (1 : Int32)), (.int ct)])) (fun _ k => XS.iconst X16.here hx rfl (hb hby at_155) k) ?_
        refine own_st (t' := T16.setTop (mkF m 157 #[.val (.int p1), .val (.int p2), .val (.int p3), .val (.int p4), .val (.int p5), .val (.ref wDIRECTED), .val (.int ct), .val (.int ((2 : Int32) * ct)), .val (.int (0 : Int32)), .val (.long ((2 : Int64) * (ct.toInt64))), .second, .val (.int nu), .val (.ref b7), .val (.int (p4 + (1 : Int32))), .val (.int (((2 : Int32) * nu) + (1 : Int32))), .unset, .unset] [(.int (ct - (1 : Int32)))])) (fun _ k => XS.isub X16.here hx rfl (hb hby at_156) rfl k) ?_
        refine own_st (t' := T16.setTop (mkF m 159 #[.val (.int p1), .val (.int p2), .val (.int p3), .val (.int p4), .val (.int p5), .val (.ref wDIRECTED), .val (.int ct), .val (.int ((2 : Int32) * ct)), .val (.int (0 : Int32)), .val (.long ((2 : Int64) * (ct.toInt64))), .second, .val (.int nu), .val (.ref b7), .val (.int (p4 + (1 : Int32))), .val (.int (((2 : Int32) * nu) + (1 : Int32))), .val (.int (ct - (1 : Int32))), .unset] [])) (fun _ k => XS.istore X16.here hx rfl (hb hby at_157) rfl (l' := #[.val (.int p1), .val (.int p2), .val (.int p3), .val (.int p4), .val (.int p5), .val (.ref wDIRECTED), .val (.int ct), .val (.int ((2 : Int32) * ct)), .val (.int (0 : Int32)), .val (.long ((2 : Int64) * (ct.toInt64))), .second, .val (.int nu), .val (.ref b7), .val (.int (p4 + (1 : Int32))), .val (.int (((2 : Int32) * nu) + (1 : Int32))), .val (.int (ct - (1 : Int32))), .unset]) rfl k) ?_
        refine own_st (t' := T16.setTop (mkF m 161 #[.val (.int p1), .val (.int p2), .val (.int p3), .val (.int p4), .val (.int p5), .val (.ref wDIRECTED), .val (.int ct), .val (.int ((2 : Int32) * ct)), .val (.int (0 : Int32)), .val (.long ((2 : Int64) * (ct.toInt64))), .second, .val (.int nu), .val (.ref b7), .val (.int (p4 + (1 : Int32))), .val (.int (((2 : Int32) * nu) + (1 : Int32))), .val (.int (ct - (1 : Int32))), .unset] [(.ref wDIRECTED)])) (fun _ k => XS.aload X16.here hx rfl (hb hby at_159) rfl rfl k) ?_
        refine own_st (t' := T16.setTop (mkF m 163 #[.val (.int p1), .val (.int p2), .val (.int p3), .val (.int p4), .val (.int p5), .val (.ref wDIRECTED), .val (.int ct), .val (.int ((2 : Int32) * ct)), .val (.int (0 : Int32)), .val (.long ((2 : Int64) * (ct.toInt64))), .second, .val (.int nu), .val (.ref b7), .val (.int (p4 + (1 : Int32))), .val (.int (((2 : Int32) * nu) + (1 : Int32))), .val (.int (ct - (1 : Int32))), .unset] [(.ref b7), (.ref wDIRECTED)])) (fun _ k => XS.aload X16.here hx rfl (hb hby at_161) rfl rfl k) ?_
        refine own_st (t' := T16.setTop (mkF m 165 #[.val (.int p1), .val (.int p2), .val (.int p3), .val (.int p4), .val (.int p5), .val (.ref wDIRECTED), .val (.int ct), .val (.int ((2 : Int32) * ct)), .val (.int (0 : Int32)), .val (.long ((2 : Int64) * (ct.toInt64))), .second, .val (.int nu), .val (.ref b7), .val (.int (p4 + (1 : Int32))), .val (.int (((2 : Int32) * nu) + (1 : Int32))), .val (.int (ct - (1 : Int32))), .unset] [(.int (ct - (1 : Int32))), (.ref b7), (.ref wDIRECTED)])) (fun _ k => XS.iload X16.here hx rfl (hb hby at_163) rfl k) ?_
        refine own_st (t' := T16.setTop (mkF m 166 #[.val (.int p1), .val (.int p2), .val (.int p3), .val (.int p4), .val (.int p5), .val (.ref wDIRECTED), .val (.int ct), .val (.int ((2 : Int32) * ct)), .val (.int (0 : Int32)), .val (.long ((2 : Int64) * (ct.toInt64))), .second, .val (.int nu), .val (.ref b7), .val (.int (p4 + (1 : Int32))), .val (.int (((2 : Int32) * nu) + (1 : Int32))), .val (.int (ct - (1 : Int32))), .unset] [(.int p4), (.int (ct - (1 : Int32))), (.ref b7), (.ref wDIRECTED)])) (fun _ k => XS.iloadN X16.here hx rfl (hb hby at_165) rfl k) ?_
        obtain ⟨cq17, kq17, q17a, q17b, q17c⟩ := isOf hZ e16 f9_Exa_wDIRECTED
        obtain ⟨_, _, ⟨T17, L17, k17, n17⟩, -, X17, ⟨Lc17, hQ17, l17, y17, z17⟩, st17⟩ := X16.virtualBack hx (y := (⟨"com/example/lambdaloom/lambdaloom/ChannelModel", "fibre", "(Lcom/example/lambdaloom/lambdaloom/Network$Link;II)I"⟩ : MethodName)) (z := (⟨"com/example/lambdaloom/lambdaloom/ChannelModel", "fibre", "(Lcom/example/lambdaloom/lambdaloom/Network$Link;II)I"⟩ : MethodName)) hown (mvT hZ (hw _ (List.mem_of_getElem? (i := 55) rfl))) (mvT hZ (hw _ (List.mem_of_getElem? (i := 56) rfl))) (notFace_of_selects (args := #[]) (mvT hZ (hw _ (List.mem_of_getElem? (i := 58) rfl)))) (mvT hZ (hw _ (List.mem_of_getElem? (i := 58) rfl))) (mvT hZ (hw _ (List.mem_of_getElem? (i := 57) rfl))) (by decide) (backOf (W := 0) (own_rm6 l Z a0 hw [] wDIRECTED b7 (ct - (1 : Int32)) p4 p4 (((2 : Int32) * (ct - (1 : Int32))) + (0 : Int32)) T9.heap n0 Z9 f9_Exa_wDIRECTED f9_Fld_wDIRECTED_ordinal g9e g9f1 (by rw [if_pos rfl])) hZ (hw _ (List.mem_of_getElem? (i := 59) rfl)) (hw _ (List.mem_of_getElem? (i := 1) rfl)) (by decide) (by decide)) q17a q17c (g := (mkF m 166 #[.val (.int p1), .val (.int p2), .val (.int p3), .val (.int p4), .val (.int p5), .val (.ref wDIRECTED), .val (.int ct), .val (.int ((2 : Int32) * ct)), .val (.int (0 : Int32)), .val (.long ((2 : Int64) * (ct.toInt64))), .second, .val (.int nu), .val (.ref b7), .val (.int (p4 + (1 : Int32))), .val (.int (((2 : Int32) * nu) + (1 : Int32))), .val (.int (ct - (1 : Int32))), .unset] [(.int p4), (.int (ct - (1 : Int32))), (.ref b7), (.ref wDIRECTED)])) rfl (by rw [hml]; rfl) (Steps.refl _) (argsL := [(.ref b7), (.int (ct - (1 : Int32))), (.int p4)]) (rest := []) (lenOf own_rm0_pd3 rfl) rfl (by show 2 * 0 + _ ≤ _; exact Nat.le_of_eq rfl) (hb hby at_166) (fun _ _ => ⟨rfl, e16, (by decide : 0 + 0 + 0 + 1 + 2 + 0 + 0 + 0 ≤ _), (by decide : 0 + 0 + 0 + 3 + (4 + 4) + 0 + 0 + 0 ≤ _)⟩)
        dsimp only [Pt.U, Pt.locs, Pt.cells, Pt.slots] at X17 l17 y17 z17 st17 hQ17
        subst l17 y17 z17
        obtain ⟨rfl, N17q, e17⟩ := hQ17
        have N17 := Fr.app N16 N17q
        refine own_tr (t' := T17.setTop (mkF m 169 #[.val (.int p1), .val (.int p2), .val (.int p3), .val (.int p4), .val (.int p5), .val (.ref wDIRECTED), .val (.int ct), .val (.int ((2 : Int32) * ct)), .val (.int (0 : Int32)), .val (.long ((2 : Int64) * (ct.toInt64))), .second, .val (.int nu), .val (.ref b7), .val (.int (p4 + (1 : Int32))), .val (.int (((2 : Int32) * nu) + (1 : Int32))), .val (.int (ct - (1 : Int32))), .unset] [(.int (((2 : Int32) * (ct - (1 : Int32))) + (0 : Int32)))])) st17 ?_
        refine own_st (t' := T17.setTop (mkF m 171 #[.val (.int p1), .val (.int p2), .val (.int p3), .val (.int p4), .val (.int p5), .val (.ref wDIRECTED), .val (.int ct), .val (.int ((2 : Int32) * ct)), .val (.int (0 : Int32)), .val (.long ((2 : Int64) * (ct.toInt64))), .second, .val (.int nu), .val (.ref b7), .val (.int (p4 + (1 : Int32))), .val (.int (((2 : Int32) * nu) + (1 : Int32))), .val (.int (ct - (1 : Int32))), .unset] [(.ref wDIRECTED), (.int (((2 : Int32) * (ct - (1 : Int32))) + (0 : Int32)))])) (fun _ k => XS.aload X17.here hx rfl (hb hby at_169) rfl rfl k) ?_
        refine own_st (t' := T17.setTop (mkF m 173 #[.val (.int p1), .val (.int p2), .val (.int p3), .val (.int p4), .val (.int p5), .val (.ref wDIRECTED), .val (.int ct), .val (.int ((2 : Int32) * ct)), .val (.int (0 : Int32)), .val (.long ((2 : Int64) * (ct.toInt64))), .second, .val (.int nu), .val (.ref b7), .val (.int (p4 + (1 : Int32))), .val (.int (((2 : Int32) * nu) + (1 : Int32))), .val (.int (ct - (1 : Int32))), .unset] [(.ref b7), (.ref wDIRECTED), (.int (((2 : Int32) * (ct - (1 : Int32))) + (0 : Int32)))])) (fun _ k => XS.aload X17.here hx rfl (hb hby at_171) rfl rfl k) ?_
        refine own_st (t' := T17.setTop (mkF m 175 #[.val (.int p1), .val (.int p2), .val (.int p3), .val (.int p4), .val (.int p5), .val (.ref wDIRECTED), .val (.int ct), .val (.int ((2 : Int32) * ct)), .val (.int (0 : Int32)), .val (.long ((2 : Int64) * (ct.toInt64))), .second, .val (.int nu), .val (.ref b7), .val (.int (p4 + (1 : Int32))), .val (.int (((2 : Int32) * nu) + (1 : Int32))), .val (.int (ct - (1 : Int32))), .unset] [(.int (ct - (1 : Int32))), (.ref b7), (.ref wDIRECTED), (.int (((2 : Int32) * (ct - (1 : Int32))) + (0 : Int32)))])) (fun _ k => XS.iload X17.here hx rfl (hb hby at_173) rfl k) ?_
        refine own_st (t' := T17.setTop (mkF m 176 #[.val (.int p1), .val (.int p2), .val (.int p3), .val (.int p4), .val (.int p5), .val (.ref wDIRECTED), .val (.int ct), .val (.int ((2 : Int32) * ct)), .val (.int (0 : Int32)), .val (.long ((2 : Int64) * (ct.toInt64))), .second, .val (.int nu), .val (.ref b7), .val (.int (p4 + (1 : Int32))), .val (.int (((2 : Int32) * nu) + (1 : Int32))), .val (.int (ct - (1 : Int32))), .unset] [(.int p4), (.int (ct - (1 : Int32))), (.ref b7), (.ref wDIRECTED), (.int (((2 : Int32) * (ct - (1 : Int32))) + (0 : Int32)))])) (fun _ k => XS.iloadN X17.here hx rfl (hb hby at_175) rfl k) ?_
        refine own_st (t' := T17.setTop (mkF m 177 #[.val (.int p1), .val (.int p2), .val (.int p3), .val (.int p4), .val (.int p5), .val (.ref wDIRECTED), .val (.int ct), .val (.int ((2 : Int32) * ct)), .val (.int (0 : Int32)), .val (.long ((2 : Int64) * (ct.toInt64))), .second, .val (.int nu), .val (.ref b7), .val (.int (p4 + (1 : Int32))), .val (.int (((2 : Int32) * nu) + (1 : Int32))), .val (.int (ct - (1 : Int32))), .unset] [(.int (1 : Int32)), (.int p4), (.int (ct - (1 : Int32))), (.ref b7), (.ref wDIRECTED), (.int (((2 : Int32) * (ct - (1 : Int32))) + (0 : Int32)))])) (fun _ k => XS.iconst X17.here hx rfl (hb hby at_176) k) ?_
        refine own_st (t' := T17.setTop (mkF m 178 #[.val (.int p1), .val (.int p2), .val (.int p3), .val (.int p4), .val (.int p5), .val (.ref wDIRECTED), .val (.int ct), .val (.int ((2 : Int32) * ct)), .val (.int (0 : Int32)), .val (.long ((2 : Int64) * (ct.toInt64))), .second, .val (.int nu), .val (.ref b7), .val (.int (p4 + (1 : Int32))), .val (.int (((2 : Int32) * nu) + (1 : Int32))), .val (.int (ct - (1 : Int32))), .unset] [(.int (p4 + (1 : Int32))), (.int (ct - (1 : Int32))), (.ref b7), (.ref wDIRECTED), (.int (((2 : Int32) * (ct - (1 : Int32))) + (0 : Int32)))])) (fun _ k => XS.iadd X17.here hx rfl (hb hby at_177) rfl k) ?_
        obtain ⟨cq18, kq18, q18a, q18b, q18c⟩ := isOf hZ e17 f9_Exa_wDIRECTED
        obtain ⟨_, _, ⟨T18, L18, k18, n18⟩, -, X18, ⟨Lc18, hQ18, l18, y18, z18⟩, st18⟩ := X17.virtualBack hx (y := (⟨"com/example/lambdaloom/lambdaloom/ChannelModel", "fibre", "(Lcom/example/lambdaloom/lambdaloom/Network$Link;II)I"⟩ : MethodName)) (z := (⟨"com/example/lambdaloom/lambdaloom/ChannelModel", "fibre", "(Lcom/example/lambdaloom/lambdaloom/Network$Link;II)I"⟩ : MethodName)) hown (mvT hZ (hw _ (List.mem_of_getElem? (i := 55) rfl))) (mvT hZ (hw _ (List.mem_of_getElem? (i := 56) rfl))) (notFace_of_selects (args := #[]) (mvT hZ (hw _ (List.mem_of_getElem? (i := 58) rfl)))) (mvT hZ (hw _ (List.mem_of_getElem? (i := 58) rfl))) (mvT hZ (hw _ (List.mem_of_getElem? (i := 57) rfl))) (by decide) (backOf (W := 1) (own_rm6 l Z a0 hw [] wDIRECTED b7 (ct - (1 : Int32)) (p4 + (1 : Int32)) p4 (((2 : Int32) * (ct - (1 : Int32))) + (1 : Int32)) T9.heap n0 Z9 f9_Exa_wDIRECTED f9_Fld_wDIRECTED_ordinal g9e g9f1 (by rw [if_neg (own_s1 p4)])) hZ (hw _ (List.mem_of_getElem? (i := 59) rfl)) (hw _ (List.mem_of_getElem? (i := 1) rfl)) (by decide) (by decide)) q18a q18c (g := (mkF m 178 #[.val (.int p1), .val (.int p2), .val (.int p3), .val (.int p4), .val (.int p5), .val (.ref wDIRECTED), .val (.int ct), .val (.int ((2 : Int32) * ct)), .val (.int (0 : Int32)), .val (.long ((2 : Int64) * (ct.toInt64))), .second, .val (.int nu), .val (.ref b7), .val (.int (p4 + (1 : Int32))), .val (.int (((2 : Int32) * nu) + (1 : Int32))), .val (.int (ct - (1 : Int32))), .unset] [(.int (p4 + (1 : Int32))), (.int (ct - (1 : Int32))), (.ref b7), (.ref wDIRECTED), (.int (((2 : Int32) * (ct - (1 : Int32))) + (0 : Int32)))])) rfl (by rw [hml]; rfl) (Steps.refl _) (argsL := [(.ref b7), (.int (ct - (1 : Int32))), (.int (p4 + (1 : Int32)))]) (rest := [(.int (((2 : Int32) * (ct - (1 : Int32))) + (0 : Int32)))]) (lenOf own_rm0_pd3 rfl) rfl (by show 2 * 0 + _ ≤ _; exact Nat.le_of_eq rfl) (hb hby at_178) (fun _ _ => ⟨rfl, e17, (by decide : 0 + 0 + 0 + 1 + 2 + 0 + 0 + 0 + 0 ≤ _), (by decide : 0 + 0 + 0 + 3 + (4 + 4) + 0 + 0 + 0 + 0 ≤ _)⟩)
        dsimp only [Pt.U, Pt.locs, Pt.cells, Pt.slots] at X18 l18 y18 z18 st18 hQ18
        subst l18 y18 z18
        obtain ⟨rfl, N18q, e18⟩ := hQ18
        have N18 := Fr.app N17 N18q
        refine own_tr (t' := T18.setTop (mkF m 181 #[.val (.int p1), .val (.int p2), .val (.int p3), .val (.int p4), .val (.int p5), .val (.ref wDIRECTED), .val (.int ct), .val (.int ((2 : Int32) * ct)), .val (.int (0 : Int32)), .val (.long ((2 : Int64) * (ct.toInt64))), .second, .val (.int nu), .val (.ref b7), .val (.int (p4 + (1 : Int32))), .val (.int (((2 : Int32) * nu) + (1 : Int32))), .val (.int (ct - (1 : Int32))), .unset] [(.int (((2 : Int32) * (ct - (1 : Int32))) + (1 : Int32))), (.int (((2 : Int32) * (ct - (1 : Int32))) + (0 : Int32)))])) st18 ?_
        obtain ⟨_, _, ⟨T19, L19, k19, n19⟩, -, X19, ⟨Lc19, hQ19, l19, y19, z19⟩, st19⟩ := Jvm.LawKit.callS X18 hx (y := (⟨"java/lang/Math", "max", "(II)I"⟩ : MethodName)) hown (mvT hZ (hw _ (List.mem_of_getElem? (i := 65) rfl))) (mvT hZ (hw _ (List.mem_of_getElem? (i := 66) rfl))) (mvT hZ (hw _ (List.mem_of_getElem? (i := 67) rfl))) (mvT hZ (hw _ (List.mem_of_getElem? (i := 68) rfl))) (by decide) (backOf (W := 0) (own_rmM l Z a0 hw [] (((2 : Int32) * (ct - (1 : Int32))) + (0 : Int32)) (((2 : Int32) * (ct - (1 : Int32))) + (1 : Int32))  T9.heap n0 Z9 ) hZ (hw _ (List.mem_of_getElem? (i := 68) rfl)) (hw _ (List.mem_of_getElem? (i := 67) rfl)) (by decide) (by decide)) (g := (mkF m 181 #[.val (.int p1), .val (.int p2), .val (.int p3), .val (.int p4), .val (.int p5), .val (.ref wDIRECTED), .val (.int ct), .val (.int ((2 : Int32) * ct)), .val (.int (0 : Int32)), .val (.long ((2 : Int64) * (ct.toInt64))), .second, .val (.int nu), .val (.ref b7), .val (.int (p4 + (1 : Int32))), .val (.int (((2 : Int32) * nu) + (1 : Int32))), .val (.int (ct - (1 : Int32))), .unset] [(.int (((2 : Int32) * (ct - (1 : Int32))) + (1 : Int32))), (.int (((2 : Int32) * (ct - (1 : Int32))) + (0 : Int32)))])) rfl (by rw [hml]; rfl) (argsL := [(.int (((2 : Int32) * (ct - (1 : Int32))) + (0 : Int32))), (.int (((2 : Int32) * (ct - (1 : Int32))) + (1 : Int32)))]) (rest := []) (lenOf own_rm0_pd4 rfl) rfl (by show 2 * 0 + _ ≤ _; exact Nat.le_of_eq rfl) (hb hby at_181) (fun _ _ => ⟨rfl, e18, (by decide : 0 + 0 + 0 + 1 + 2 + 0 + 0 + 0 + 0 + 0 ≤ _), (by decide : 0 + 0 + 0 + 3 + (4 + 4) + 0 + 0 + 0 + 0 + 0 ≤ _)⟩)
        dsimp only [Pt.U, Pt.locs, Pt.cells, Pt.slots] at X19 l19 y19 z19 st19 hQ19
        subst l19 y19 z19
        obtain ⟨rfl, N19q, e19⟩ := hQ19
        have N19 := Fr.app N18 N19q
        refine own_st (t' := T19.setTop (mkF m 184 #[.val (.int p1), .val (.int p2), .val (.int p3), .val (.int p4), .val (.int p5), .val (.ref wDIRECTED), .val (.int ct), .val (.int ((2 : Int32) * ct)), .val (.int (0 : Int32)), .val (.long ((2 : Int64) * (ct.toInt64))), .second, .val (.int nu), .val (.ref b7), .val (.int (p4 + (1 : Int32))), .val (.int (((2 : Int32) * nu) + (1 : Int32))), .val (.int (ct - (1 : Int32))), .unset] [(.int (own_max (((2 : Int32) * (ct - (1 : Int32))) + (0 : Int32)) (((2 : Int32) * (ct - (1 : Int32))) + (1 : Int32))))])) st19 ?_
        refine own_st (t' := T19.setTop (mkF m 186 #[.val (.int p1), .val (.int p2), .val (.int p3), .val (.int p4), .val (.int p5), .val (.ref wDIRECTED), .val (.int ct), .val (.int ((2 : Int32) * ct)), .val (.int (0 : Int32)), .val (.long ((2 : Int64) * (ct.toInt64))), .second, .val (.int nu), .val (.ref b7), .val (.int (p4 + (1 : Int32))), .val (.int (((2 : Int32) * nu) + (1 : Int32))), .val (.int (ct - (1 : Int32))), .val (.int (own_max (((2 : Int32) * (ct - (1 : Int32))) + (0 : Int32)) (((2 : Int32) * (ct - (1 : Int32))) + (1 : Int32))))] [])) (fun _ k => XS.istore X19.here hx rfl (hb hby at_184) rfl (l' := #[.val (.int p1), .val (.int p2), .val (.int p3), .val (.int p4), .val (.int p5), .val (.ref wDIRECTED), .val (.int ct), .val (.int ((2 : Int32) * ct)), .val (.int (0 : Int32)), .val (.long ((2 : Int64) * (ct.toInt64))), .second, .val (.int nu), .val (.ref b7), .val (.int (p4 + (1 : Int32))), .val (.int (((2 : Int32) * nu) + (1 : Int32))), .val (.int (ct - (1 : Int32))), .val (.int (own_max (((2 : Int32) * (ct - (1 : Int32))) + (0 : Int32)) (((2 : Int32) * (ct - (1 : Int32))) + (1 : Int32))))]) rfl k) ?_
        refine own_st (t' := T19.setTop (mkF m 188 #[.val (.int p1), .val (.int p2), .val (.int p3), .val (.int p4), .val (.int p5), .val (.ref wDIRECTED), .val (.int ct), .val (.int ((2 : Int32) * ct)), .val (.int (0 : Int32)), .val (.long ((2 : Int64) * (ct.toInt64))), .second, .val (.int nu), .val (.ref b7), .val (.int (p4 + (1 : Int32))), .val (.int (((2 : Int32) * nu) + (1 : Int32))), .val (.int (ct - (1 : Int32))), .val (.int (own_max (((2 : Int32) * (ct - (1 : Int32))) + (0 : Int32)) (((2 : Int32) * (ct - (1 : Int32))) + (1 : Int32))))] [(.int (own_max (((2 : Int32) * (ct - (1 : Int32))) + (0 : Int32)) (((2 : Int32) * (ct - (1 : Int32))) + (1 : Int32))))])) (fun _ k => XS.iload X19.here hx rfl (hb hby at_186) rfl k) ?_
        refine own_st (t' := T19.setTop (mkF m 190 #[.val (.int p1), .val (.int p2), .val (.int p3), .val (.int p4), .val (.int p5), .val (.ref wDIRECTED), .val (.int ct), .val (.int ((2 : Int32) * ct)), .val (.int (0 : Int32)), .val (.long ((2 : Int64) * (ct.toInt64))), .second, .val (.int nu), .val (.ref b7), .val (.int (p4 + (1 : Int32))), .val (.int (((2 : Int32) * nu) + (1 : Int32))), .val (.int (ct - (1 : Int32))), .val (.int (own_max (((2 : Int32) * (ct - (1 : Int32))) + (0 : Int32)) (((2 : Int32) * (ct - (1 : Int32))) + (1 : Int32))))] [(.int ((2 : Int32) * ct)), (.int (own_max (((2 : Int32) * (ct - (1 : Int32))) + (0 : Int32)) (((2 : Int32) * (ct - (1 : Int32))) + (1 : Int32))))])) (fun _ k => XS.iload X19.here hx rfl (hb hby at_188) rfl k) ?_
        refine own_st (t' := T19.setTop (mkF m 191 #[.val (.int p1), .val (.int p2), .val (.int p3), .val (.int p4), .val (.int p5), .val (.ref wDIRECTED), .val (.int ct), .val (.int ((2 : Int32) * ct)), .val (.int (0 : Int32)), .val (.long ((2 : Int64) * (ct.toInt64))), .second, .val (.int nu), .val (.ref b7), .val (.int (p4 + (1 : Int32))), .val (.int (((2 : Int32) * nu) + (1 : Int32))), .val (.int (ct - (1 : Int32))), .val (.int (own_max (((2 : Int32) * (ct - (1 : Int32))) + (0 : Int32)) (((2 : Int32) * (ct - (1 : Int32))) + (1 : Int32))))] [(.int (1 : Int32)), (.int ((2 : Int32) * ct)), (.int (own_max (((2 : Int32) * (ct - (1 : Int32))) + (0 : Int32)) (((2 : Int32) * (ct - (1 : Int32))) + (1 : Int32))))])) (fun _ k => XS.iconst X19.here hx rfl (hb hby at_190) k) ?_
        refine own_st (t' := T19.setTop (mkF m 192 #[.val (.int p1), .val (.int p2), .val (.int p3), .val (.int p4), .val (.int p5), .val (.ref wDIRECTED), .val (.int ct), .val (.int ((2 : Int32) * ct)), .val (.int (0 : Int32)), .val (.long ((2 : Int64) * (ct.toInt64))), .second, .val (.int nu), .val (.ref b7), .val (.int (p4 + (1 : Int32))), .val (.int (((2 : Int32) * nu) + (1 : Int32))), .val (.int (ct - (1 : Int32))), .val (.int (own_max (((2 : Int32) * (ct - (1 : Int32))) + (0 : Int32)) (((2 : Int32) * (ct - (1 : Int32))) + (1 : Int32))))] [(.int (((2 : Int32) * ct) - (1 : Int32))), (.int (own_max (((2 : Int32) * (ct - (1 : Int32))) + (0 : Int32)) (((2 : Int32) * (ct - (1 : Int32))) + (1 : Int32))))])) (fun _ k => XS.isub X19.here hx rfl (hb hby at_191) rfl k) ?_
        refine own_st (t' := T19.setTop (mkF m 195 #[.val (.int p1), .val (.int p2), .val (.int p3), .val (.int p4), .val (.int p5), .val (.ref wDIRECTED), .val (.int ct), .val (.int ((2 : Int32) * ct)), .val (.int (0 : Int32)), .val (.long ((2 : Int64) * (ct.toInt64))), .second, .val (.int nu), .val (.ref b7), .val (.int (p4 + (1 : Int32))), .val (.int (((2 : Int32) * nu) + (1 : Int32))), .val (.int (ct - (1 : Int32))), .val (.int (own_max (((2 : Int32) * (ct - (1 : Int32))) + (0 : Int32)) (((2 : Int32) * (ct - (1 : Int32))) + (1 : Int32))))] [])) (fun _ k => XS.icmpNo X19.here hx rfl (hb hby at_192) rfl (teq (own_maxd hct c72_5)).2 k) ?_
        refine own_st (t' := T19.setTop (mkF m 196 #[.val (.int p1), .val (.int p2), .val (.int p3), .val (.int p4), .val (.int p5), .val (.ref wDIRECTED), .val (.int ct), .val (.int ((2 : Int32) * ct)), .val (.int (0 : Int32)), .val (.long ((2 : Int64) * (ct.toInt64))), .second, .val (.int nu), .val (.ref b7), .val (.int (p4 + (1 : Int32))), .val (.int (((2 : Int32) * nu) + (1 : Int32))), .val (.int (ct - (1 : Int32))), .val (.int (own_max (((2 : Int32) * (ct - (1 : Int32))) + (0 : Int32)) (((2 : Int32) * (ct - (1 : Int32))) + (1 : Int32))))] [(.int (1 : Int32))])) (fun _ k => XS.iconst X19.here hx rfl (hb hby at_195) k) ?_
        refine own_st (t' := T19.setTop (mkF m 200 #[.val (.int p1), .val (.int p2), .val (.int p3), .val (.int p4), .val (.int p5), .val (.ref wDIRECTED), .val (.int ct), .val (.int ((2 : Int32) * ct)), .val (.int (0 : Int32)), .val (.long ((2 : Int64) * (ct.toInt64))), .second, .val (.int nu), .val (.ref b7), .val (.int (p4 + (1 : Int32))), .val (.int (((2 : Int32) * nu) + (1 : Int32))), .val (.int (ct - (1 : Int32))), .val (.int (own_max (((2 : Int32) * (ct - (1 : Int32))) + (0 : Int32)) (((2 : Int32) * (ct - (1 : Int32))) + (1 : Int32))))] [(.int (1 : Int32))])) (fun _ k => XS.goto X19.here hx rfl (pc0 := 196) (pc' := 200) rfl (hb hby at_196) (by decide) (by decide) k) ?_
        have hv20 : (1 : Int32) = (1 : Int32) := rfl
        obtain ⟨fs, hr, hrun, hended, hEnd⟩ := Stand.leaveW (s := s) (vm₁ := T8.vm) X19 hSi (by rw [e19]; exact hki) (v := some (.int (1 : Int32))) (fun h => by rw [Bd.returns] at h; cases h)
        exact ⟨_, _, retN X19 hx (t := .boolean) Bd.returns (by simp) (hb hby at_200) hr, hrun, hended, hP _ _ ⟨_, _, rfl, ⟨(congrArg (fun z => some (Value.int z)) hv20), N19⟩, ⟨_, rfl⟩, hEnd.2.1, hEnd.2.2.1, hEnd.2.2.2.mono (by decide) (by decide)⟩⟩
  · refine own_st (t' := s₁.setTop (mkF m 12 #[.val (.int p1), .val (.int p2), .val (.int p3), .val (.int p4), .val (.int p5), .unset, .unset, .unset, .unset, .unset, .unset, .unset, .unset, .unset, .unset, .unset, .unset] [])) (fun _ k => XS.ifYes X0.here hx rfl (pc0 := 3) (pc' := 12) rfl (hb hby at_3) rfl ((if0 _ _).trans (feq c3_1).2) (by decide) (by decide) k) ?_
    obtain ⟨T21, X21, e21, st21⟩ := getS2 X0 hx hZ hown (host := "") (Or.inl (hw _ (List.mem_of_getElem? (i := 69) rfl))) Via.refl e0 S_UNDIRECTED (g := (mkF m 12 #[.val (.int p1), .val (.int p2), .val (.int p3), .val (.int p4), .val (.int p5), .unset, .unset, .unset, .unset, .unset, .unset, .unset, .unset, .unset, .unset, .unset, .unset] [])) rfl (hb hby at_12)
    refine own_st (t' := T21.setTop (mkF m 15 #[.val (.int p1), .val (.int p2), .val (.int p3), .val (.int p4), .val (.int p5), .unset, .unset, .unset, .unset, .unset, .unset, .unset, .unset, .unset, .unset, .unset, .unset] [(.ref wUNDIRECTED)])) st21 ?_
    refine own_st (t' := T21.setTop (mkF m 17 #[.val (.int p1), .val (.int p2), .val (.int p3), .val (.int p4), .val (.int p5), .val (.ref wUNDIRECTED), .unset, .unset, .unset, .unset, .unset, .unset, .unset, .unset, .unset, .unset, .unset] [])) (fun _ k => XS.astore X21.here hx rfl (hb hby at_15) rfl rfl (l' := #[.val (.int p1), .val (.int p2), .val (.int p3), .val (.int p4), .val (.int p5), .val (.ref wUNDIRECTED), .unset, .unset, .unset, .unset, .unset, .unset, .unset, .unset, .unset, .unset, .unset]) rfl k) ?_
    refine own_st (t' := T21.setTop (mkF m 18 #[.val (.int p1), .val (.int p2), .val (.int p3), .val (.int p4), .val (.int p5), .val (.ref wUNDIRECTED), .unset, .unset, .unset, .unset, .unset, .unset, .unset, .unset, .unset, .unset, .unset] [(.int p2)])) (fun _ k => XS.iloadN X21.here hx rfl (hb hby at_17) rfl k) ?_
    refine own_st (t' := T21.setTop (mkF m 20 #[.val (.int p1), .val (.int p2), .val (.int p3), .val (.int p4), .val (.int p5), .val (.ref wUNDIRECTED), .unset, .unset, .unset, .unset, .unset, .unset, .unset, .unset, .unset, .unset, .unset] [(.int (1073741823 : Int32)), (.int p2)])) (fun _ k => X21.ldcInt hx hown (mvT hZ (hw _ (List.mem_of_getElem? (i := 3) rfl))) (g := (mkF m 18 #[.val (.int p1), .val (.int p2), .val (.int p3), .val (.int p4), .val (.int p5), .val (.ref wUNDIRECTED), .unset, .unset, .unset, .unset, .unset, .unset, .unset, .unset, .unset, .unset, .unset] [(.int p2)])) rfl (hb hby at_18) _ k) ?_
    refine own_st (t' := T21.setTop (mkF m 21 #[.val (.int p1), .val (.int p2), .val (.int p3), .val (.int p4), .val (.int p5), .val (.ref wUNDIRECTED), .unset, .unset, .unset, .unset, .unset, .unset, .unset, .unset, .unset, .unset, .unset] [(.int (p2 &&& (1073741823 : Int32)))])) (fun _ k => XS.iand X21.here hx rfl (hb hby at_20) rfl k) ?_
    refine own_st (t' := T21.setTop (mkF m 23 #[.val (.int p1), .val (.int p2), .val (.int p3), .val (.int p4), .val (.int p5), .val (.ref wUNDIRECTED), .val (.int (p2 &&& (1073741823 : Int32))), .unset, .unset, .unset, .unset, .unset, .unset, .unset, .unset, .unset, .unset] [])) (fun _ k => XS.istore X21.here hx rfl (hb hby at_21) rfl (l' := #[.val (.int p1), .val (.int p2), .val (.int p3), .val (.int p4), .val (.int p5), .val (.ref wUNDIRECTED), .val (.int (p2 &&& (1073741823 : Int32))), .unset, .unset, .unset, .unset, .unset, .unset, .unset, .unset, .unset, .unset]) rfl k) ?_
    have hct := own_ct p2
    generalize (p2 &&& (1073741823 : Int32)) = ct at hct ⊢
    refine own_st (t' := T21.setTop (mkF m 25 #[.val (.int p1), .val (.int p2), .val (.int p3), .val (.int p4), .val (.int p5), .val (.ref wUNDIRECTED), .val (.int ct), .unset, .unset, .unset, .unset, .unset, .unset, .unset, .unset, .unset, .unset] [(.ref wUNDIRECTED)])) (fun _ k => XS.aload X21.here hx rfl (hb hby at_23) rfl rfl k) ?_
    refine own_st (t' := T21.setTop (mkF m 27 #[.val (.int p1), .val (.int p2), .val (.int p3), .val (.int p4), .val (.int p5), .val (.ref wUNDIRECTED), .val (.int ct), .unset, .unset, .unset, .unset, .unset, .unset, .unset, .unset, .unset, .unset] [(.int ct), (.ref wUNDIRECTED)])) (fun _ k => XS.iload X21.here hx rfl (hb hby at_25) rfl k) ?_
    obtain ⟨cq22, kq22, q22a, q22b, q22c⟩ := isOf hZ e21 E_UNDIRECTED
    obtain ⟨_, _, ⟨T22, L22, k22, n22⟩, -, X22, ⟨Lc22, hQ22, l22, y22, z22⟩, st22⟩ := X21.virtualBack hx (y := (⟨"com/example/lambdaloom/lambdaloom/ChannelModel", "fibreCount", "(I)I"⟩ : MethodName)) (z := (⟨"com/example/lambdaloom/lambdaloom/ChannelModel", "fibreCount", "(I)I"⟩ : MethodName)) hown (mvT hZ (hw _ (List.mem_of_getElem? (i := 4) rfl))) (mvT hZ (hw _ (List.mem_of_getElem? (i := 5) rfl))) (notFace_of_selects (args := #[]) (mvT hZ (hw _ (List.mem_of_getElem? (i := 7) rfl)))) (mvT hZ (hw _ (List.mem_of_getElem? (i := 7) rfl))) (mvT hZ (hw _ (List.mem_of_getElem? (i := 6) rfl))) (by decide) (backOf (W := 0) (own_rm9 l Z a0 hw [] wUNDIRECTED ct h0 n0 Z0 E_UNDIRECTED O_UNDIRECTED) hZ (hw _ (List.mem_of_getElem? (i := 8) rfl)) (hw _ (List.mem_of_getElem? (i := 1) rfl)) (by decide) (by decide)) q22a q22c (g := (mkF m 27 #[.val (.int p1), .val (.int p2), .val (.int p3), .val (.int p4), .val (.int p5), .val (.ref wUNDIRECTED), .val (.int ct), .unset, .unset, .unset, .unset, .unset, .unset, .unset, .unset, .unset, .unset] [(.int ct), (.ref wUNDIRECTED)])) rfl (by rw [hml]; rfl) (Steps.refl _) (argsL := [(.int ct)]) (rest := []) (lenOf own_rm0_pd0 rfl) rfl (by show 2 * 0 + _ ≤ _; exact Nat.le_of_eq rfl) (hb hby at_27) (fun _ _ => ⟨rfl, e21, (by decide : 0 + 0 ≤ _), (by decide : 0 + 0 ≤ _)⟩)
    dsimp only [Pt.U, Pt.locs, Pt.cells, Pt.slots] at X22 l22 y22 z22 st22 hQ22
    subst l22 y22 z22
    obtain ⟨rfl, N22q, e22⟩ := hQ22
    have N22 := Fr.app N0 N22q
    refine own_tr (t' := T22.setTop (mkF m 30 #[.val (.int p1), .val (.int p2), .val (.int p3), .val (.int p4), .val (.int p5), .val (.ref wUNDIRECTED), .val (.int ct), .unset, .unset, .unset, .unset, .unset, .unset, .unset, .unset, .unset, .unset] [(.int ct)])) st22 ?_
    refine own_st (t' := T22.setTop (mkF m 32 #[.val (.int p1), .val (.int p2), .val (.int p3), .val (.int p4), .val (.int p5), .val (.ref wUNDIRECTED), .val (.int ct), .val (.int ct), .unset, .unset, .unset, .unset, .unset, .unset, .unset, .unset, .unset] [])) (fun _ k => XS.istore X22.here hx rfl (hb hby at_30) rfl (l' := #[.val (.int p1), .val (.int p2), .val (.int p3), .val (.int p4), .val (.int p5), .val (.ref wUNDIRECTED), .val (.int ct), .val (.int ct), .unset, .unset, .unset, .unset, .unset, .unset, .unset, .unset, .unset]) rfl k) ?_
    refine own_st (t' := T22.setTop (mkF m 34 #[.val (.int p1), .val (.int p2), .val (.int p3), .val (.int p4), .val (.int p5), .val (.ref wUNDIRECTED), .val (.int ct), .val (.int ct), .unset, .unset, .unset, .unset, .unset, .unset, .unset, .unset, .unset] [(.ref wUNDIRECTED)])) (fun _ k => XS.aload X22.here hx rfl (hb hby at_32) rfl rfl k) ?_
    obtain ⟨cq23, kq23, q23a, q23b, q23c⟩ := isOf hZ e22 E_UNDIRECTED
    obtain ⟨_, _, ⟨T23, L23, k23, n23⟩, -, X23, ⟨Lc23, hQ23, l23, y23, z23⟩, st23⟩ := X22.virtualBack hx (y := (⟨"com/example/lambdaloom/lambdaloom/ChannelModel", "sameFibresBothWays", "()Z"⟩ : MethodName)) (z := (⟨"com/example/lambdaloom/lambdaloom/ChannelModel", "sameFibresBothWays", "()Z"⟩ : MethodName)) hown (mvT hZ (hw _ (List.mem_of_getElem? (i := 18) rfl))) (mvT hZ (hw _ (List.mem_of_getElem? (i := 19) rfl))) (notFace_of_selects (args := #[]) (mvT hZ (hw _ (List.mem_of_getElem? (i := 21) rfl)))) (mvT hZ (hw _ (List.mem_of_getElem? (i := 21) rfl))) (mvT hZ (hw _ (List.mem_of_getElem? (i := 20) rfl))) (by decide) (backOf (W := 0) (own_rm5 l Z a0 hw [] wUNDIRECTED wUNDIRECTED (1 : Int32) h0 n0 Z0 S_UNDIRECTED ((if_pos rfl).symm)) hZ (hw _ (List.mem_of_getElem? (i := 22) rfl)) (hw _ (List.mem_of_getElem? (i := 1) rfl)) (by decide) (by decide)) q23a q23c (g := (mkF m 34 #[.val (.int p1), .val (.int p2), .val (.int p3), .val (.int p4), .val (.int p5), .val (.ref wUNDIRECTED), .val (.int ct), .val (.int ct), .unset, .unset, .unset, .unset, .unset, .unset, .unset, .unset, .unset] [(.ref wUNDIRECTED)])) rfl (by rw [hml]; rfl) (Steps.refl _) (argsL := []) (rest := []) (lenOf own_rm0_pd1 rfl) rfl (by show 2 * 0 + _ ≤ _; exact Nat.le_of_eq rfl) (hb hby at_34) (fun _ _ => ⟨rfl, e22, (by decide : 0 + 0 + 0 ≤ _), (by decide : 0 + 0 + 0 ≤ _)⟩)
    dsimp only [Pt.U, Pt.locs, Pt.cells, Pt.slots] at X23 l23 y23 z23 st23 hQ23
    subst l23 y23 z23
    obtain ⟨rfl, N23q, e23⟩ := hQ23
    have N23 := Fr.app N22 N23q
    refine own_tr (t' := T23.setTop (mkF m 37 #[.val (.int p1), .val (.int p2), .val (.int p3), .val (.int p4), .val (.int p5), .val (.ref wUNDIRECTED), .val (.int ct), .val (.int ct), .unset, .unset, .unset, .unset, .unset, .unset, .unset, .unset, .unset] [(.int (1 : Int32))])) st23 ?_
    refine own_st (t' := T23.setTop (mkF m 39 #[.val (.int p1), .val (.int p2), .val (.int p3), .val (.int p4), .val (.int p5), .val (.ref wUNDIRECTED), .val (.int ct), .val (.int ct), .val (.int (1 : Int32)), .unset, .unset, .unset, .unset, .unset, .unset, .unset, .unset] [])) (fun _ k => XS.istore X23.here hx rfl (hb hby at_37) rfl (l' := #[.val (.int p1), .val (.int p2), .val (.int p3), .val (.int p4), .val (.int p5), .val (.ref wUNDIRECTED), .val (.int ct), .val (.int ct), .val (.int (1 : Int32)), .unset, .unset, .unset, .unset, .unset, .unset, .unset, .unset]) rfl k) ?_
    refine own_st (t' := T23.setTop (mkF m 41 #[.val (.int p1), .val (.int p2), .val (.int p3), .val (.int p4), .val (.int p5), .val (.ref wUNDIRECTED), .val (.int ct), .val (.int ct), .val (.int (1 : Int32)), .unset, .unset, .unset, .unset, .unset, .unset, .unset, .unset] [(.int (1 : Int32))])) (fun _ k => XS.iload X23.here hx rfl (hb hby at_39) rfl k) ?_
    refine own_st (t' := T23.setTop (mkF m 44 #[.val (.int p1), .val (.int p2), .val (.int p3), .val (.int p4), .val (.int p5), .val (.ref wUNDIRECTED), .val (.int ct), .val (.int ct), .val (.int (1 : Int32)), .unset, .unset, .unset, .unset, .unset, .unset, .unset, .unset] [])) (fun _ k => XS.ifNo X23.here hx rfl (hb hby at_41) rfl ((if0 _ _).trans (feq (by decide : ¬ ((1 : Int32) = (0 : Int32)))).1) k) ?_
    refine own_st (t' := T23.setTop (mkF m 46 #[.val (.int p1), .val (.int p2), .val (.int p3), .val (.int p4), .val (.int p5), .val (.ref wUNDIRECTED), .val (.int ct), .val (.int ct), .val (.int (1 : Int32)), .unset, .unset, .unset, .unset, .unset, .unset, .unset, .unset] [(.int ct)])) (fun _ k => XS.iload X23.here hx rfl (hb hby at_44) rfl k) ?_
    refine own_st (t' := T23.setTop (mkF m 47 #[.val (.int p1), .val (.int p2), .val (.int p3), .val (.int p4), .val (.int p5), .val (.ref wUNDIRECTED), .val (.int ct), .val (.int ct), .val (.int (1 : Int32)), .unset, .unset, .unset, .unset, .unset, .unset, .unset, .unset] [(.long (ct.toInt64))])) (fun _ k => XS.i2l X23.here hx rfl (hb hby at_46) rfl k) ?_
    refine own_st (t' := T23.setTop (mkF m 57 #[.val (.int p1), .val (.int p2), .val (.int p3), .val (.int p4), .val (.int p5), .val (.ref wUNDIRECTED), .val (.int ct), .val (.int ct), .val (.int (1 : Int32)), .unset, .unset, .unset, .unset, .unset, .unset, .unset, .unset] [(.long (ct.toInt64))])) (fun _ k => XS.goto X23.here hx rfl (pc0 := 47) (pc' := 57) rfl (hb hby at_47) (by decide) (by decide) k) ?_
    refine own_st (t' := T23.setTop (mkF m 59 #[.val (.int p1), .val (.int p2), .val (.int p3), .val (.int p4), .val (.int p5), .val (.ref wUNDIRECTED), .val (.int ct), .val (.int ct), .val (.int (1 : Int32)), .val (.long (ct.toInt64)), .second, .unset, .unset, .unset, .unset, .unset, .unset] [])) (fun _ k => XS.lstore X23.here hx rfl (hb hby at_57) rfl (l' := #[.val (.int p1), .val (.int p2), .val (.int p3), .val (.int p4), .val (.int p5), .val (.ref wUNDIRECTED), .val (.int ct), .val (.int ct), .val (.int (1 : Int32)), .val (.long (ct.toInt64)), .second, .unset, .unset, .unset, .unset, .unset, .unset]) rfl k) ?_
    refine own_st (t' := T23.setTop (mkF m 61 #[.val (.int p1), .val (.int p2), .val (.int p3), .val (.int p4), .val (.int p5), .val (.ref wUNDIRECTED), .val (.int ct), .val (.int ct), .val (.int (1 : Int32)), .val (.long (ct.toInt64)), .second, .unset, .unset, .unset, .unset, .unset, .unset] [(.int ct)])) (fun _ k => XS.iload X23.here hx rfl (hb hby at_59) rfl k) ?_
    refine own_st (t' := T23.setTop (mkF m 62 #[.val (.int p1), .val (.int p2), .val (.int p3), .val (.int p4), .val (.int p5), .val (.ref wUNDIRECTED), .val (.int ct), .val (.int ct), .val (.int (1 : Int32)), .val (.long (ct.toInt64)), .second, .unset, .unset, .unset, .unset, .unset, .unset] [(.long (ct.toInt64))])) (fun _ k => XS.i2l X23.here hx rfl (hb hby at_61) rfl k) ?_
    refine own_st (t' := T23.setTop (mkF m 64 #[.val (.int p1), .val (.int p2), .val (.int p3), .val (.int p4), .val (.int p5), .val (.ref wUNDIRECTED), .val (.int ct), .val (.int ct), .val (.int (1 : Int32)), .val (.long (ct.toInt64)), .second, .unset, .unset, .unset, .unset, .unset, .unset] [(.long (ct.toInt64)), (.long (ct.toInt64))])) (fun _ k => XS.lload X23.here hx rfl (hb hby at_62) rfl k) ?_
    refine own_st (t' := T23.setTop (mkF m 65 #[.val (.int p1), .val (.int p2), .val (.int p3), .val (.int p4), .val (.int p5), .val (.ref wUNDIRECTED), .val (.int ct), .val (.int ct), .val (.int (1 : Int32)), .val (.long (ct.toInt64)), .second, .unset, .unset, .unset, .unset, .unset, .unset] [(.int (lcmpW (ct.toInt64) (ct.toInt64)))])) (fun _ k => XS.lcmp X23.here hx rfl (hb hby at_64) rfl k) ?_
    refine own_st (t' := T23.setTop (mkF m 70 #[.val (.int p1), .val (.int p2), .val (.int p3), .val (.int p4), .val (.int p5), .val (.ref wUNDIRECTED), .val (.int ct), .val (.int ct), .val (.int (1 : Int32)), .val (.long (ct.toInt64)), .second, .unset, .unset, .unset, .unset, .unset, .unset] [])) (fun _ k => XS.ifYes X23.here hx rfl (pc0 := 65) (pc' := 70) rfl (hb hby at_65) rfl ((if0 _ _).trans (teq (own_lc rfl)).1) (by decide) (by decide) k) ?_
    refine own_st (t' := T23.setTop (mkF m 72 #[.val (.int p1), .val (.int p2), .val (.int p3), .val (.int p4), .val (.int p5), .val (.ref wUNDIRECTED), .val (.int ct), .val (.int ct), .val (.int (1 : Int32)), .val (.long (ct.toInt64)), .second, .unset, .unset, .unset, .unset, .unset, .unset] [(.int ct)])) (fun _ k => XS.iload X23.here hx rfl (hb hby at_70) rfl k) ?_
    by_cases c72_24 : ct = (0 : Int32)
    · refine own_st (t' := T23.setTop (mkF m 75 #[.val (.int p1), .val (.int p2), .val (.int p3), .val (.int p4), .val (.int p5), .val (.ref wUNDIRECTED), .val (.int ct), .val (.int ct), .val (.int (1 : Int32)), .val (.long (ct.toInt64)), .second, .unset, .unset, .unset, .unset, .unset, .unset] [])) (fun _ k => XS.ifNo X23.here hx rfl (hb hby at_72) rfl ((if0 _ _).trans (teq c72_24).2) k) ?_
      refine own_st (t' := T23.setTop (mkF m 77 #[.val (.int p1), .val (.int p2), .val (.int p3), .val (.int p4), .val (.int p5), .val (.ref wUNDIRECTED), .val (.int ct), .val (.int ct), .val (.int (1 : Int32)), .val (.long (ct.toInt64)), .second, .unset, .unset, .unset, .unset, .unset, .unset] [(.int ct)])) (fun _ k => XS.iload X23.here hx rfl (hb hby at_75) rfl k) ?_
      refine own_st (t' := T23.setTop (mkF m 80 #[.val (.int p1), .val (.int p2), .val (.int p3), .val (.int p4), .val (.int p5), .val (.ref wUNDIRECTED), .val (.int ct), .val (.int ct), .val (.int (1 : Int32)), .val (.long (ct.toInt64)), .second, .unset, .unset, .unset, .unset, .unset, .unset] [])) (fun _ k => XS.ifNo X23.here hx rfl (hb hby at_77) rfl ((if0 _ _).trans (teq c72_24).2) k) ?_
      refine own_st (t' := T23.setTop (mkF m 81 #[.val (.int p1), .val (.int p2), .val (.int p3), .val (.int p4), .val (.int p5), .val (.ref wUNDIRECTED), .val (.int ct), .val (.int ct), .val (.int (1 : Int32)), .val (.long (ct.toInt64)), .second, .unset, .unset, .unset, .unset, .unset, .unset] [(.int (1 : Int32))])) (fun _ k => XS.iconst X23.here hx rfl (hb hby at_80) k) ?_
      refine own_st (t' := T23.setTop (mkF m 85 #[.val (.int p1), .val (.int p2), .val (.int p3), .val (.int p4), .val (.int p5), .val (.ref wUNDIRECTED), .val (.int ct), .val (.int ct), .val (.int (1 : Int32)), .val (.long (ct.toInt64)), .second, .unset, .unset, .unset, .unset, .unset, .unset] [(.int (1 : Int32))])) (fun _ k => XS.goto X23.here hx rfl (pc0 := 81) (pc' := 85) rfl (hb hby at_81) (by decide) (by decide) k) ?_
      have hv25 : (1 : Int32) = (1 : Int32) := rfl
      obtain ⟨fs, hr, hrun, hended, hEnd⟩ := Stand.leaveW (s := s) (vm₁ := s.vm) X23 hSi (by rw [e23]; exact hki) (v := some (.int (1 : Int32))) (fun h => by rw [Bd.returns] at h; cases h)
      exact ⟨_, _, retN X23 hx (t := .boolean) Bd.returns (by simp) (hb hby at_85) hr, hrun, hended, hP _ _ ⟨_, _, rfl, ⟨(congrArg (fun z => some (Value.int z)) hv25), N23⟩, ⟨_, rfl⟩, hEnd.2.1, hEnd.2.2.1, hEnd.2.2.2.mono (by decide) (by decide)⟩⟩
    · refine own_st (t' := T23.setTop (mkF m 86 #[.val (.int p1), .val (.int p2), .val (.int p3), .val (.int p4), .val (.int p5), .val (.ref wUNDIRECTED), .val (.int ct), .val (.int ct), .val (.int (1 : Int32)), .val (.long (ct.toInt64)), .second, .unset, .unset, .unset, .unset, .unset, .unset] [])) (fun _ k => XS.ifYes X23.here hx rfl (pc0 := 72) (pc' := 86) rfl (hb hby at_72) rfl ((if0 _ _).trans (feq c72_24).2) (by decide) (by decide) k) ?_
      refine own_st (t' := T23.setTop (mkF m 87 #[.val (.int p1), .val (.int p2), .val (.int p3), .val (.int p4), .val (.int p5), .val (.ref wUNDIRECTED), .val (.int ct), .val (.int ct), .val (.int (1 : Int32)), .val (.long (ct.toInt64)), .second, .unset, .unset, .unset, .unset, .unset, .unset] [(.int p3)])) (fun _ k => XS.iloadN X23.here hx rfl (hb hby at_86) rfl k) ?_
      refine own_st (t' := T23.setTop (mkF m 89 #[.val (.int p1), .val (.int p2), .val (.int p3), .val (.int p4), .val (.int p5), .val (.ref wUNDIRECTED), .val (.int ct), .val (.int ct), .val (.int (1 : Int32)), .val (.long (ct.toInt64)), .second, .unset, .unset, .unset, .unset, .unset, .unset] [(.int (2147483647 : Int32)), (.int p3)])) (fun _ k => X23.ldcInt hx hown (mvT hZ (hw _ (List.mem_of_getElem? (i := 26) rfl))) (g := (mkF m 87 #[.val (.int p1), .val (.int p2), .val (.int p3), .val (.int p4), .val (.int p5), .val (.ref wUNDIRECTED), .val (.int ct), .val (.int ct), .val (.int (1 : Int32)), .val (.long (ct.toInt64)), .second, .unset, .unset, .unset, .unset, .unset, .unset] [(.int p3)])) rfl (hb hby at_87) _ k) ?_
      refine own_st (t' := T23.setTop (mkF m 90 #[.val (.int p1), .val (.int p2), .val (.int p3), .val (.int p4), .val (.int p5), .val (.ref wUNDIRECTED), .val (.int ct), .val (.int ct), .val (.int (1 : Int32)), .val (.long (ct.toInt64)), .second, .unset, .unset, .unset, .unset, .unset, .unset] [(.int (p3 &&& (2147483647 : Int32)))])) (fun _ k => XS.iand X23.here hx rfl (hb hby at_89) rfl k) ?_
      refine own_st (t' := T23.setTop (mkF m 92 #[.val (.int p1), .val (.int p2), .val (.int p3), .val (.int p4), .val (.int p5), .val (.ref wUNDIRECTED), .val (.int ct), .val (.int ct), .val (.int (1 : Int32)), .val (.long (ct.toInt64)), .second, .unset, .unset, .unset, .unset, .unset, .unset] [(.int ct), (.int (p3 &&& (2147483647 : Int32)))])) (fun _ k => XS.iload X23.here hx rfl (hb hby at_90) rfl k) ?_
      refine own_st (t' := T23.setTop (mkF m 93 #[.val (.int p1), .val (.int p2), .val (.int p3), .val (.int p4), .val (.int p5), .val (.ref wUNDIRECTED), .val (.int ct), .val (.int ct), .val (.int (1 : Int32)), .val (.long (ct.toInt64)), .second, .unset, .unset, .unset, .unset, .unset, .unset] [(.int ((p3 &&& (2147483647 : Int32)) % ct))])) (fun _ k => iremM (g := (mkF m 92 #[.val (.int p1), .val (.int p2), .val (.int p3), .val (.int p4), .val (.int p5), .val (.ref wUNDIRECTED), .val (.int ct), .val (.int ct), .val (.int (1 : Int32)), .val (.long (ct.toInt64)), .second, .unset, .unset, .unset, .unset, .unset, .unset] [(.int ct), (.int (p3 &&& (2147483647 : Int32)))])) X23 hx rfl (hb hby at_92) rfl c72_24 k) ?_
      refine own_st (t' := T23.setTop (mkF m 95 #[.val (.int p1), .val (.int p2), .val (.int p3), .val (.int p4), .val (.int p5), .val (.ref wUNDIRECTED), .val (.int ct), .val (.int ct), .val (.int (1 : Int32)), .val (.long (ct.toInt64)), .second, .val (.int ((p3 &&& (2147483647 : Int32)) % ct)), .unset, .unset, .unset, .unset, .unset] [])) (fun _ k => XS.istore X23.here hx rfl (hb hby at_93) rfl (l' := #[.val (.int p1), .val (.int p2), .val (.int p3), .val (.int p4), .val (.int p5), .val (.ref wUNDIRECTED), .val (.int ct), .val (.int ct), .val (.int (1 : Int32)), .val (.long (ct.toInt64)), .second, .val (.int ((p3 &&& (2147483647 : Int32)) % ct)), .unset, .unset, .unset, .unset, .unset]) rfl k) ?_
      have hnu := own_nu p3 hct c72_24
      generalize ((p3 &&& (2147483647 : Int32)) % ct) = nu at hnu ⊢
      obtain ⟨T26, h26, X26, e26, E26, A26, D26, -, st26⟩ := newO X23 hx hZ hown (hw _ (List.mem_of_getElem? (i := 27) rfl)) (hw _ (List.mem_of_getElem? (i := 28) rfl)) (hw _ (List.mem_of_getElem? (i := 29) rfl)) e23 (g := (mkF m 95 #[.val (.int p1), .val (.int p2), .val (.int p3), .val (.int p4), .val (.int p5), .val (.ref wUNDIRECTED), .val (.int ct), .val (.int ct), .val (.int (1 : Int32)), .val (.long (ct.toInt64)), .second, .val (.int nu), .unset, .unset, .unset, .unset, .unset] [])) rfl (hb hby at_95) (by decide) (by decide)
      obtain ⟨b26, g26⟩ : ∃ z, z = h0.size := ⟨_, rfl⟩
      rw [← g26] at A26 D26 st26
      have ne26_wDIRECTED : wDIRECTED ≠ b26 := Nat.ne_of_lt (Nat.lt_of_lt_of_le E_DIRECTED.lt (Nat.le_of_eq g26.symm))
      have ne26_wUNDIRECTED : wUNDIRECTED ≠ b26 := Nat.ne_of_lt (Nat.lt_of_lt_of_le E_UNDIRECTED.lt (Nat.le_of_eq g26.symm))
      have f26_Sta_com_example_lambdaloom_lambdaloom_ChannelModel_DIRECTED := S_DIRECTED.ext E26
      have f26_Sta_com_example_lambdaloom_lambdaloom_ChannelModel_UNDIRECTED := S_UNDIRECTED.ext E26
      have f26_Exa_wDIRECTED := E_DIRECTED.ext E26
      have f26_Exa_wUNDIRECTED := E_UNDIRECTED.ext E26
      have f26_Fld_wDIRECTED_ordinal := O_DIRECTED.ext E26
      have f26_Fld_wUNDIRECTED_ordinal := O_UNDIRECTED.ext E26
      have bg_b26 : n0 ≤ b26 := Nat.le_trans Z0 (Nat.le_of_eq g26.symm)
      have Z26 : n0 ≤ h26.size := Nat.le_trans Z0 E26.1
      have hki : _ ≤ h26.size := Nat.le_trans hki E26.1
      have F26_id : Fld Z h26 b26 "com/example/lambdaloom/lambdaloom/Network$Link" "id" "Ljava/lang/String;" .null := D26 (Or.inr (hw _ (List.mem_of_getElem? (i := 50) rfl))) (ty := (.object "java/lang/String")) (by decide)
      have F26_source : Fld Z h26 b26 "com/example/lambdaloom/lambdaloom/Network$Link" "source" "I" (.int (0 : Int32)) := D26 (Or.inr (hw _ (List.mem_of_getElem? (i := 52) rfl))) (ty := .int) (by decide)
      have F26_target : Fld Z h26 b26 "com/example/lambdaloom/lambdaloom/Network$Link" "target" "I" (.int (0 : Int32)) := D26 (Or.inr (hw _ (List.mem_of_getElem? (i := 54) rfl))) (ty := .int) (by decide)
      refine own_st (t' := T26.setTop (mkF m 98 #[.val (.int p1), .val (.int p2), .val (.int p3), .val (.int p4), .val (.int p5), .val (.ref wUNDIRECTED), .val (.int ct), .val (.int ct), .val (.int (1 : Int32)), .val (.long (ct.toInt64)), .second, .val (.int nu), .unset, .unset, .unset, .unset, .unset] [(.ref b26)])) st26 ?_
      refine own_st (t' := T26.setTop (mkF m 99 #[.val (.int p1), .val (.int p2), .val (.int p3), .val (.int p4), .val (.int p5), .val (.ref wUNDIRECTED), .val (.int ct), .val (.int ct), .val (.int (1 : Int32)), .val (.long (ct.toInt64)), .second, .val (.int nu), .unset, .unset, .unset, .unset, .unset] [(.ref b26), (.ref b26)])) (fun _ k => XS.dup X26.here hx rfl (hb hby at_98) rfl rfl k) ?_
      obtain ⟨c27, T27, h27, kn27, X27, e27, E27, hSi, hki, hZ, hown, st27⟩ := ldcS (s := s) (vm0 := s.vm) X26 hx hZ hown (hw _ (List.mem_of_getElem? (i := 30) rfl)) wS e26 hSi hki (g := (mkF m 99 #[.val (.int p1), .val (.int p2), .val (.int p3), .val (.int p4), .val (.int p5), .val (.ref wUNDIRECTED), .val (.int ct), .val (.int ct), .val (.int (1 : Int32)), .val (.long (ct.toInt64)), .second, .val (.int nu), .unset, .unset, .unset, .unset, .unset] [(.ref b26), (.ref b26)])) rfl (hb hby at_99) (n := 4) (by decide) (by decide) (by decide) (by decide)
      have f27_Sta_com_example_lambdaloom_lambdaloom_ChannelModel_DIRECTED := f26_Sta_com_example_lambdaloom_lambdaloom_ChannelModel_DIRECTED.ext E27
      have f27_Sta_com_example_lambdaloom_lambdaloom_ChannelModel_UNDIRECTED := f26_Sta_com_example_lambdaloom_lambdaloom_ChannelModel_UNDIRECTED.ext E27
      have f27_Exa_wDIRECTED := f26_Exa_wDIRECTED.ext E27
      have f27_Exa_wUNDIRECTED := f26_Exa_wUNDIRECTED.ext E27
      have f27_Fld_wDIRECTED_ordinal := f26_Fld_wDIRECTED_ordinal.ext E27
      have f27_Fld_wUNDIRECTED_ordinal := f26_Fld_wUNDIRECTED_ordinal.ext E27
      have f27_Exa_b26 := A26.ext E27
      have f27_Fld_b26_id := F26_id.ext E27
      have f27_Fld_b26_source := F26_source.ext E27
      have f27_Fld_b26_target := F26_target.ext E27
      have Z27 : n0 ≤ h27.size := Nat.le_trans Z26 E27.1
      refine own_st (t' := T27.setTop (mkF m 101 #[.val (.int p1), .val (.int p2), .val (.int p3), .val (.int p4), .val (.int p5), .val (.ref wUNDIRECTED), .val (.int ct), .val (.int ct), .val (.int (1 : Int32)), .val (.long (ct.toInt64)), .second, .val (.int nu), .unset, .unset, .unset, .unset, .unset] [(.ref c27), (.ref b26), (.ref b26)])) st27 ?_
      refine own_st (t' := T27.setTop (mkF m 102 #[.val (.int p1), .val (.int p2), .val (.int p3), .val (.int p4), .val (.int p5), .val (.ref wUNDIRECTED), .val (.int ct), .val (.int ct), .val (.int (1 : Int32)), .val (.long (ct.toInt64)), .second, .val (.int nu), .unset, .unset, .unset, .unset, .unset] [(.int p4), (.ref c27), (.ref b26), (.ref b26)])) (fun _ k => XS.iloadN X27.here hx rfl (hb hby at_101) rfl k) ?_
      refine own_st (t' := T27.setTop (mkF m 103 #[.val (.int p1), .val (.int p2), .val (.int p3), .val (.int p4), .val (.int p5), .val (.ref wUNDIRECTED), .val (.int ct), .val (.int ct), .val (.int (1 : Int32)), .val (.long (ct.toInt64)), .second, .val (.int nu), .unset, .unset, .unset, .unset, .unset] [(.int p4), (.int p4), (.ref c27), (.ref b26), (.ref b26)])) (fun _ k => XS.iloadN X27.here hx rfl (hb hby at_102) rfl k) ?_
      refine own_st (t' := T27.setTop (mkF m 104 #[.val (.int p1), .val (.int p2), .val (.int p3), .val (.int p4), .val (.int p5), .val (.ref wUNDIRECTED), .val (.int ct), .val (.int ct), .val (.int (1 : Int32)), .val (.long (ct.toInt64)), .second, .val (.int nu), .unset, .unset, .unset, .unset, .unset] [(.int (1 : Int32)), (.int p4), (.int p4), (.ref c27), (.ref b26), (.ref b26)])) (fun _ k => XS.iconst X27.here hx rfl (hb hby at_103) k) ?_
      refine own_st (t' := T27.setTop (mkF m 105 #[.val (.int p1), .val (.int p2), .val (.int p3), .val (.int p4), .val (.int p5), .val (.ref wUNDIRECTED), .val (.int ct), .val (.int ct), .val (.int (1 : Int32)), .val (.long (ct.toInt64)), .second, .val (.int nu), .unset, .unset, .unset, .unset, .unset] [(.int (p4 + (1 : Int32))), (.int p4), (.ref c27), (.ref b26), (.ref b26)])) (fun _ k => XS.iadd X27.here hx rfl (hb hby at_104) rfl k) ?_
      obtain ⟨_, _, ⟨T28, L28, k28, n28⟩, -, X28, ⟨Lc28, hQ28, l28, y28, z28⟩, st28⟩ := X27.specialBack hx (y := (⟨"com/example/lambdaloom/lambdaloom/Network$Link", "<init>", "(Ljava/lang/String;II)V"⟩ : MethodName)) rfl hown (mvT hZ (hw _ (List.mem_of_getElem? (i := 38) rfl))) (mvT hZ (hw _ (List.mem_of_getElem? (i := 39) rfl))) (mvT hZ (hw _ (List.mem_of_getElem? (i := 40) rfl))) (by decide) (backOf (W := 1) (own_rm4 l Z a0 hw [] b26 c27 p4 (p4 + (1 : Int32)) h27 n0 Z27 f27_Exa_b26 f27_Fld_b26_id f27_Fld_b26_source f27_Fld_b26_target bg_b26 ) hZ (hw _ (List.mem_of_getElem? (i := 40) rfl)) (hw _ (List.mem_of_getElem? (i := 29) rfl)) (by decide) (by decide)) (g := (mkF m 105 #[.val (.int p1), .val (.int p2), .val (.int p3), .val (.int p4), .val (.int p5), .val (.ref wUNDIRECTED), .val (.int ct), .val (.int ct), .val (.int (1 : Int32)), .val (.long (ct.toInt64)), .second, .val (.int nu), .unset, .unset, .unset, .unset, .unset] [(.int (p4 + (1 : Int32))), (.int p4), (.ref c27), (.ref b26), (.ref b26)])) rfl (by rw [hml]; rfl) (Steps.refl _) (a := b26) (argsL := [(.ref c27), (.int p4), (.int (p4 + (1 : Int32)))]) (rest := [(.ref b26)]) (lenOf own_rm0_pd2 rfl) rfl (by show 2 * 0 + _ ≤ _; exact Nat.le_of_eq rfl) (hb hby at_105) (fun _ _ => ⟨rfl, e27, (by decide : 0 + 0 + 0 + 1 + 2 + 0 ≤ _), (by decide : 0 + 0 + 0 + 3 + (4 + 4) + 0 ≤ _)⟩)
      dsimp only [Pt.U, Pt.locs, Pt.cells, Pt.slots] at X28 l28 y28 z28 st28 hQ28
      subst l28 y28 z28
      obtain ⟨rfl, N28q, K28q, g28e, g28f0, g28f1, g28f2⟩ := hQ28
      have N28 := Fr.app N23 N28q
      have f28_Sta_com_example_lambdaloom_lambdaloom_ChannelModel_DIRECTED := own_staK f27_Sta_com_example_lambdaloom_lambdaloom_ChannelModel_DIRECTED K28q f27_Exa_b26
      have f28_Sta_com_example_lambdaloom_lambdaloom_ChannelModel_UNDIRECTED := own_staK f27_Sta_com_example_lambdaloom_lambdaloom_ChannelModel_UNDIRECTED K28q f27_Exa_b26
      have f28_Exa_wDIRECTED := f27_Exa_wDIRECTED.keep K28q
      have f28_Exa_wUNDIRECTED := f27_Exa_wUNDIRECTED.keep K28q
      have f28_Fld_wDIRECTED_ordinal := f27_Fld_wDIRECTED_ordinal.keep K28q (own_nin ne26_wDIRECTED)
      have f28_Fld_wUNDIRECTED_ordinal := f27_Fld_wUNDIRECTED_ordinal.keep K28q (own_nin ne26_wUNDIRECTED)
      have f28_Exa_b26 := f27_Exa_b26.keep K28q
      have Z28 : n0 ≤ T28.heap.size := Nat.le_trans Z27 K28q.1
      have hki : _ ≤ T28.heap.size := Nat.le_trans hki K28q.1
      refine own_tr (t' := T28.setTop (mkF m 108 #[.val (.int p1), .val (.int p2), .val (.int p3), .val (.int p4), .val (.int p5), .val (.ref wUNDIRECTED), .val (.int ct), .val (.int ct), .val (.int (1 : Int32)), .val (.long (ct.toInt64)), .second, .val (.int nu), .unset, .unset, .unset, .unset, .unset] [(.ref b26)])) st28 ?_
      refine own_st (t' := T28.setTop (mkF m 110 #[.val (.int p1), .val (.int p2), .val (.int p3), .val (.int p4), .val (.int p5), .val (.ref wUNDIRECTED), .val (.int ct), .val (.int ct), .val (.int (1 : Int32)), .val (.long (ct.toInt64)), .second, .val (.int nu), .val (.ref b26), .unset, .unset, .unset, .unset] [])) (fun _ k => XS.astore X28.here hx rfl (hb hby at_108) rfl rfl (l' := #[.val (.int p1), .val (.int p2), .val (.int p3), .val (.int p4), .val (.int p5), .val (.ref wUNDIRECTED), .val (.int ct), .val (.int ct), .val (.int (1 : Int32)), .val (.long (ct.toInt64)), .second, .val (.int nu), .val (.ref b26), .unset, .unset, .unset, .unset]) rfl k) ?_
      refine own_st (t' := T28.setTop (mkF m 112 #[.val (.int p1), .val (.int p2), .val (.int p3), .val (.int p4), .val (.int p5), .val (.ref wUNDIRECTED), .val (.int ct), .val (.int ct), .val (.int (1 : Int32)), .val (.long (ct.toInt64)), .second, .val (.int nu), .val (.ref b26), .unset, .unset, .unset, .unset] [(.int p5)])) (fun _ k => XS.iload X28.here hx rfl (hb hby at_110) rfl k) ?_
      refine own_st (t' := T28.setTop (mkF m 113 #[.val (.int p1), .val (.int p2), .val (.int p3), .val (.int p4), .val (.int p5), .val (.ref wUNDIRECTED), .val (.int ct), .val (.int ct), .val (.int (1 : Int32)), .val (.long (ct.toInt64)), .second, .val (.int nu), .val (.ref b26), .unset, .unset, .unset, .unset] [(.int (1 : Int32)), (.int p5)])) (fun _ k => XS.iconst X28.here hx rfl (hb hby at_112) k) ?_
      refine own_st (t' := T28.setTop (mkF m 114 #[.val (.int p1), .val (.int p2), .val (.int p3), .val (.int p4), .val (.int p5), .val (.ref wUNDIRECTED), .val (.int ct), .val (.int ct), .val (.int (1 : Int32)), .val (.long (ct.toInt64)), .second, .val (.int nu), .val (.ref b26), .unset, .unset, .unset, .unset] [(.int (p5 &&& (1 : Int32)))])) (fun _ k => XS.iand X28.here hx rfl (hb hby at_113) rfl k) ?_
      by_cases c114_29 : (p5 &&& (1 : Int32)) = (0 : Int32)
      · refine own_st (t' := T28.setTop (mkF m 117 #[.val (.int p1), .val (.int p2), .val (.int p3), .val (.int p4), .val (.int p5), .val (.ref wUNDIRECTED), .val (.int ct), .val (.int ct), .val (.int (1 : Int32)), .val (.long (ct.toInt64)), .second, .val (.int nu), .val (.ref b26), .unset, .unset, .unset, .unset] [])) (fun _ k => XS.ifNo X28.here hx rfl (hb hby at_114) rfl ((if0 _ _).trans (teq c114_29).2) k) ?_
        refine own_st (t' := T28.setTop (mkF m 118 #[.val (.int p1), .val (.int p2), .val (.int p3), .val (.int p4), .val (.int p5), .val (.ref wUNDIRECTED), .val (.int ct), .val (.int ct), .val (.int (1 : Int32)), .val (.long (ct.toInt64)), .second, .val (.int nu), .val (.ref b26), .unset, .unset, .unset, .unset] [(.int p4)])) (fun _ k => XS.iloadN X28.here hx rfl (hb hby at_117) rfl k) ?_
        refine own_st (t' := T28.setTop (mkF m 124 #[.val (.int p1), .val (.int p2), .val (.int p3), .val (.int p4), .val (.int p5), .val (.ref wUNDIRECTED), .val (.int ct), .val (.int ct), .val (.int (1 : Int32)), .val (.long (ct.toInt64)), .second, .val (.int nu), .val (.ref b26), .unset, .unset, .unset, .unset] [(.int p4)])) (fun _ k => XS.goto X28.here hx rfl (pc0 := 118) (pc' := 124) rfl (hb hby at_118) (by decide) (by decide) k) ?_
        refine own_st (t' := T28.setTop (mkF m 126 #[.val (.int p1), .val (.int p2), .val (.int p3), .val (.int p4), .val (.int p5), .val (.ref wUNDIRECTED), .val (.int ct), .val (.int ct), .val (.int (1 : Int32)), .val (.long (ct.toInt64)), .second, .val (.int nu), .val (.ref b26), .val (.int p4), .unset, .unset, .unset] [])) (fun _ k => XS.istore X28.here hx rfl (hb hby at_124) rfl (l' := #[.val (.int p1), .val (.int p2), .val (.int p3), .val (.int p4), .val (.int p5), .val (.ref wUNDIRECTED), .val (.int ct), .val (.int ct), .val (.int (1 : Int32)), .val (.long (ct.toInt64)), .second, .val (.int nu), .val (.ref b26), .val (.int p4), .unset, .unset, .unset]) rfl k) ?_
        refine own_st (t' := T28.setTop (mkF m 128 #[.val (.int p1), .val (.int p2), .val (.int p3), .val (.int p4), .val (.int p5), .val (.ref wUNDIRECTED), .val (.int ct), .val (.int ct), .val (.int (1 : Int32)), .val (.long (ct.toInt64)), .second, .val (.int nu), .val (.ref b26), .val (.int p4), .unset, .unset, .unset] [(.ref wUNDIRECTED)])) (fun _ k => XS.aload X28.here hx rfl (hb hby at_126) rfl rfl k) ?_
        refine own_st (t' := T28.setTop (mkF m 130 #[.val (.int p1), .val (.int p2), .val (.int p3), .val (.int p4), .val (.int p5), .val (.ref wUNDIRECTED), .val (.int ct), .val (.int ct), .val (.int (1 : Int32)), .val (.long (ct.toInt64)), .second, .val (.int nu), .val (.ref b26), .val (.int p4), .unset, .unset, .unset] [(.ref b26), (.ref wUNDIRECTED)])) (fun _ k => XS.aload X28.here hx rfl (hb hby at_128) rfl rfl k) ?_
        refine own_st (t' := T28.setTop (mkF m 132 #[.val (.int p1), .val (.int p2), .val (.int p3), .val (.int p4), .val (.int p5), .val (.ref wUNDIRECTED), .val (.int ct), .val (.int ct), .val (.int (1 : Int32)), .val (.long (ct.toInt64)), .second, .val (.int nu), .val (.ref b26), .val (.int p4), .unset, .unset, .unset] [(.int nu), (.ref b26), (.ref wUNDIRECTED)])) (fun _ k => XS.iload X28.here hx rfl (hb hby at_130) rfl k) ?_
        refine own_st (t' := T28.setTop (mkF m 134 #[.val (.int p1), .val (.int p2), .val (.int p3), .val (.int p4), .val (.int p5), .val (.ref wUNDIRECTED), .val (.int ct), .val (.int ct), .val (.int (1 : Int32)), .val (.long (ct.toInt64)), .second, .val (.int nu), .val (.ref b26), .val (.int p4), .unset, .unset, .unset] [(.int p4), (.int nu), (.ref b26), (.ref wUNDIRECTED)])) (fun _ k => XS.iload X28.here hx rfl (hb hby at_132) rfl k) ?_
        obtain ⟨cq30, kq30, q30a, q30b, q30c⟩ := isOf hZ rfl f28_Exa_wUNDIRECTED
        obtain ⟨_, _, ⟨T30, L30, k30, n30⟩, -, X30, ⟨Lc30, hQ30, l30, y30, z30⟩, st30⟩ := X28.virtualBack hx (y := (⟨"com/example/lambdaloom/lambdaloom/ChannelModel", "fibre", "(Lcom/example/lambdaloom/lambdaloom/Network$Link;II)I"⟩ : MethodName)) (z := (⟨"com/example/lambdaloom/lambdaloom/ChannelModel", "fibre", "(Lcom/example/lambdaloom/lambdaloom/Network$Link;II)I"⟩ : MethodName)) hown (mvT hZ (hw _ (List.mem_of_getElem? (i := 55) rfl))) (mvT hZ (hw _ (List.mem_of_getElem? (i := 56) rfl))) (notFace_of_selects (args := #[]) (mvT hZ (hw _ (List.mem_of_getElem? (i := 58) rfl)))) (mvT hZ (hw _ (List.mem_of_getElem? (i := 58) rfl))) (mvT hZ (hw _ (List.mem_of_getElem? (i := 57) rfl))) (by decide) (backOf (W := 0) (own_rm7 l Z a0 hw [] wUNDIRECTED b26 nu p4 T28.heap n0 Z28 f28_Exa_wUNDIRECTED f28_Fld_wUNDIRECTED_ordinal) hZ (hw _ (List.mem_of_getElem? (i := 59) rfl)) (hw _ (List.mem_of_getElem? (i := 1) rfl)) (by decide) (by decide)) q30a q30c (g := (mkF m 134 #[.val (.int p1), .val (.int p2), .val (.int p3), .val (.int p4), .val (.int p5), .val (.ref wUNDIRECTED), .val (.int ct), .val (.int ct), .val (.int (1 : Int32)), .val (.long (ct.toInt64)), .second, .val (.int nu), .val (.ref b26), .val (.int p4), .unset, .unset, .unset] [(.int p4), (.int nu), (.ref b26), (.ref wUNDIRECTED)])) rfl (by rw [hml]; rfl) (Steps.refl _) (argsL := [(.ref b26), (.int nu), (.int p4)]) (rest := []) (lenOf own_rm0_pd3 rfl) rfl (by show 2 * 0 + _ ≤ _; exact Nat.le_of_eq rfl) (hb hby at_134) (fun _ _ => ⟨rfl, rfl, (by decide : 0 + 0 + 0 + 1 + 2 + 0 + 0 ≤ _), (by decide : 0 + 0 + 0 + 3 + (4 + 4) + 0 + 0 ≤ _)⟩)
        dsimp only [Pt.U, Pt.locs, Pt.cells, Pt.slots] at X30 l30 y30 z30 st30 hQ30
        subst l30 y30 z30
        obtain ⟨rfl, N30q, e30⟩ := hQ30
        have N30 := Fr.app N28 N30q
        refine own_tr (t' := T30.setTop (mkF m 137 #[.val (.int p1), .val (.int p2), .val (.int p3), .val (.int p4), .val (.int p5), .val (.ref wUNDIRECTED), .val (.int ct), .val (.int ct), .val (.int (1 : Int32)), .val (.long (ct.toInt64)), .second, .val (.int nu), .val (.ref b26), .val (.int p4), .unset, .unset, .unset] [(.int nu)])) st30 ?_
        refine own_st (t' := T30.setTop (mkF m 139 #[.val (.int p1), .val (.int p2), .val (.int p3), .val (.int p4), .val (.int p5), .val (.ref wUNDIRECTED), .val (.int ct), .val (.int ct), .val (.int (1 : Int32)), .val (.long (ct.toInt64)), .second, .val (.int nu), .val (.ref b26), .val (.int p4), .val (.int nu), .unset, .unset] [])) (fun _ k => XS.istore X30.here hx rfl (hb hby at_137) rfl (l' := #[.val (.int p1), .val (.int p2), .val (.int p3), .val (.int p4), .val (.int p5), .val (.ref wUNDIRECTED), .val (.int ct), .val (.int ct), .val (.int (1 : Int32)), .val (.long (ct.toInt64)), .second, .val (.int nu), .val (.ref b26), .val (.int p4), .val (.int nu), .unset, .unset]) rfl k) ?_
        refine own_st (t' := T30.setTop (mkF m 141 #[.val (.int p1), .val (.int p2), .val (.int p3), .val (.int p4), .val (.int p5), .val (.ref wUNDIRECTED), .val (.int ct), .val (.int ct), .val (.int (1 : Int32)), .val (.long (ct.toInt64)), .second, .val (.int nu), .val (.ref b26), .val (.int p4), .val (.int nu), .unset, .unset] [(.int nu)])) (fun _ k => XS.iload X30.here hx rfl (hb hby at_139) rfl k) ?_
        refine own_st (t' := T30.setTop (mkF m 144 #[.val (.int p1), .val (.int p2), .val (.int p3), .val (.int p4), .val (.int p5), .val (.ref wUNDIRECTED), .val (.int ct), .val (.int ct), .val (.int (1 : Int32)), .val (.long (ct.toInt64)), .second, .val (.int nu), .val (.ref b26), .val (.int p4), .val (.int nu), .unset, .unset] [])) (fun _ k => XS.ifNo X30.here hx rfl (hb hby at_141) rfl ((if0 _ _).trans (flt (own_nn hnu)).1) k) ?_
        refine own_st (t' := T30.setTop (mkF m 146 #[.val (.int p1), .val (.int p2), .val (.int p3), .val (.int p4), .val (.int p5), .val (.ref wUNDIRECTED), .val (.int ct), .val (.int ct), .val (.int (1 : Int32)), .val (.long (ct.toInt64)), .second, .val (.int nu), .val (.ref b26), .val (.int p4), .val (.int nu), .unset, .unset] [(.int nu)])) (fun _ k => XS.iload X30.here hx rfl (hb hby at_144) rfl k) ?_
        refine own_st (t' := T30.setTop (mkF m 148 #[.val (.int p1), .val (.int p2), .val (.int p3), .val (.int p4), .val (.int p5), .val (.ref wUNDIRECTED), .val (.int ct), .val (.int ct), .val (.int (1 : Int32)), .val (.long (ct.toInt64)), .second, .val (.int nu), .val (.ref b26), .val (.int p4), .val (.int nu), .unset, .unset] [(.int ct), (.int nu)])) (fun _ k => XS.iload X30.here hx rfl (hb hby at_146) rfl k) ?_
        refine own_st (t' := T30.setTop (mkF m 153 #[.val (.int p1), .val (.int p2), .val (.int p3), .val (.int p4), .val (.int p5), .val (.ref wUNDIRECTED), .val (.int ct), .val (.int ct), .val (.int (1 : Int32)), .val (.long (ct.toInt64)), .second, .val (.int nu), .val (.ref b26), .val (.int p4), .val (.int nu), .unset, .unset] [])) (fun _ k => XS.icmpYes X30.here hx rfl (pc0 := 148) (pc' := 153) rfl (hb hby at_148) rfl (tlt (own_lu hnu)).1 (by decide) (by decide) k) ?_
        refine own_st (t' := T30.setTop (mkF m 155 #[.val (.int p1), .val (.int p2), .val (.int p3), .val (.int p4), .val (.int p5), .val (.ref wUNDIRECTED), .val (.int ct), .val (.int ct), .val (.int (1 : Int32)), .val (.long (ct.toInt64)), .second, .val (.int nu), .val (.ref b26), .val (.int p4), .val (.int nu), .unset, .unset] [(.int ct)])) (fun _ k => XS.iload X30.here hx rfl (hb hby at_153) rfl k) ?_
        refine own_st (t' := T30.setTop (mkF m 156 #[.val (.int p1), .val (.int p2), .val (.int p3), .val (.int p4), .val (.int p5), .val (.ref wUNDIRECTED), .val (.int ct), .val (.int ct), .val (.int (1 : Int32)), .val (.long (ct.toInt64)), .second, .val (.int nu), .val (.ref b26), .val (.int p4), .val (.int nu), .unset, .unset] [(.int (1 : Int32)), (.int ct)])) (fun _ k => XS.iconst X30.here hx rfl (hb hby at_155) k) ?_
        refine own_st (t' := T30.setTop (mkF m 157 #[.val (.int p1), .val (.int p2), .val (.int p3), .val (.int p4), .val (.int p5), .val (.ref wUNDIRECTED), .val (.int ct), .val (.int ct), .val (.int (1 : Int32)), .val (.long (ct.toInt64)), .second, .val (.int nu), .val (.ref b26), .val (.int p4), .val (.int nu), .unset, .unset] [(.int (ct - (1 : Int32)))])) (fun _ k => XS.isub X30.here hx rfl (hb hby at_156) rfl k) ?_
        refine own_st (t' := T30.setTop (mkF m 159 #[.val (.int p1), .val (.int p2), .val (.int p3), .val (.int p4), .val (.int p5), .val (.ref wUNDIRECTED), .val (.int ct), .val (.int ct), .val (.int (1 : Int32)), .val (.long (ct.toInt64)), .second, .val (.int nu), .val (.ref b26), .val (.int p4), .val (.int nu), .val (.int (ct - (1 : Int32))), .unset] [])) (fun _ k => XS.istore X30.here hx rfl (hb hby at_157) rfl (l' := #[.val (.int p1), .val (.int p2), .val (.int p3), .val (.int p4), .val (.int p5), .val (.ref wUNDIRECTED), .val (.int ct), .val (.int ct), .val (.int (1 : Int32)), .val (.long (ct.toInt64)), .second, .val (.int nu), .val (.ref b26), .val (.int p4), .val (.int nu), .val (.int (ct - (1 : Int32))), .unset]) rfl k) ?_
        refine own_st (t' := T30.setTop (mkF m 161 #[.val (.int p1), .val (.int p2), .val (.int p3), .val (.int p4), .val (.int p5), .val (.ref wUNDIRECTED), .val (.int ct), .val (.int ct), .val (.int (1 : Int32)), .val (.long (ct.toInt64)), .second, .val (.int nu), .val (.ref b26), .val (.int p4), .val (.int nu), .val (.int (ct - (1 : Int32))), .unset] [(.ref wUNDIRECTED)])) (fun _ k => XS.aload X30.here hx rfl (hb hby at_159) rfl rfl k) ?_
        refine own_st (t' := T30.setTop (mkF m 163 #[.val (.int p1), .val (.int p2), .val (.int p3), .val (.int p4), .val (.int p5), .val (.ref wUNDIRECTED), .val (.int ct), .val (.int ct), .val (.int (1 : Int32)), .val (.long (ct.toInt64)), .second, .val (.int nu), .val (.ref b26), .val (.int p4), .val (.int nu), .val (.int (ct - (1 : Int32))), .unset] [(.ref b26), (.ref wUNDIRECTED)])) (fun _ k => XS.aload X30.here hx rfl (hb hby at_161) rfl rfl k) ?_
        refine own_st (t' := T30.setTop (mkF m 165 #[.val (.int p1), .val (.int p2), .val (.int p3), .val (.int p4), .val (.int p5), .val (.ref wUNDIRECTED), .val (.int ct), .val (.int ct), .val (.int (1 : Int32)), .val (.long (ct.toInt64)), .second, .val (.int nu), .val (.ref b26), .val (.int p4), .val (.int nu), .val (.int (ct - (1 : Int32))), .unset] [(.int (ct - (1 : Int32))), (.ref b26), (.ref wUNDIRECTED)])) (fun _ k => XS.iload X30.here hx rfl (hb hby at_163) rfl k) ?_
        refine own_st (t' := T30.setTop (mkF m 166 #[.val (.int p1), .val (.int p2), .val (.int p3), .val (.int p4), .val (.int p5), .val (.ref wUNDIRECTED), .val (.int ct), .val (.int ct), .val (.int (1 : Int32)), .val (.long (ct.toInt64)), .second, .val (.int nu), .val (.ref b26), .val (.int p4), .val (.int nu), .val (.int (ct - (1 : Int32))), .unset] [(.int p4), (.int (ct - (1 : Int32))), (.ref b26), (.ref wUNDIRECTED)])) (fun _ k => XS.iloadN X30.here hx rfl (hb hby at_165) rfl k) ?_
        obtain ⟨cq31, kq31, q31a, q31b, q31c⟩ := isOf hZ e30 f28_Exa_wUNDIRECTED
        obtain ⟨_, _, ⟨T31, L31, k31, n31⟩, -, X31, ⟨Lc31, hQ31, l31, y31, z31⟩, st31⟩ := X30.virtualBack hx (y := (⟨"com/example/lambdaloom/lambdaloom/ChannelModel", "fibre", "(Lcom/example/lambdaloom/lambdaloom/Network$Link;II)I"⟩ : MethodName)) (z := (⟨"com/example/lambdaloom/lambdaloom/ChannelModel", "fibre", "(Lcom/example/lambdaloom/lambdaloom/Network$Link;II)I"⟩ : MethodName)) hown (mvT hZ (hw _ (List.mem_of_getElem? (i := 55) rfl))) (mvT hZ (hw _ (List.mem_of_getElem? (i := 56) rfl))) (notFace_of_selects (args := #[]) (mvT hZ (hw _ (List.mem_of_getElem? (i := 58) rfl)))) (mvT hZ (hw _ (List.mem_of_getElem? (i := 58) rfl))) (mvT hZ (hw _ (List.mem_of_getElem? (i := 57) rfl))) (by decide) (backOf (W := 0) (own_rm7 l Z a0 hw [] wUNDIRECTED b26 (ct - (1 : Int32)) p4 T28.heap n0 Z28 f28_Exa_wUNDIRECTED f28_Fld_wUNDIRECTED_ordinal) hZ (hw _ (List.mem_of_getElem? (i := 59) rfl)) (hw _ (List.mem_of_getElem? (i := 1) rfl)) (by decide) (by decide)) q31a q31c (g := (mkF m 166 #[.val (.int p1), .val (.int p2), .val (.int p3), .val (.int p4), .val (.int p5), .val (.ref wUNDIRECTED), .val (.int ct), .val (.int ct), .val (.int (1 : Int32)), .val (.long (ct.toInt64)), .second, .val (.int nu), .val (.ref b26), .val (.int p4), .val (.int nu), .val (.int (ct - (1 : Int32))), .unset] [(.int p4), (.int (ct - (1 : Int32))), (.ref b26), (.ref wUNDIRECTED)])) rfl (by rw [hml]; rfl) (Steps.refl _) (argsL := [(.ref b26), (.int (ct - (1 : Int32))), (.int p4)]) (rest := []) (lenOf own_rm0_pd3 rfl) rfl (by show 2 * 0 + _ ≤ _; exact Nat.le_of_eq rfl) (hb hby at_166) (fun _ _ => ⟨rfl, e30, (by decide : 0 + 0 + 0 + 1 + 2 + 0 + 0 + 0 ≤ _), (by decide : 0 + 0 + 0 + 3 + (4 + 4) + 0 + 0 + 0 ≤ _)⟩)
        dsimp only [Pt.U, Pt.locs, Pt.cells, Pt.slots] at X31 l31 y31 z31 st31 hQ31
        subst l31 y31 z31
        obtain ⟨rfl, N31q, e31⟩ := hQ31
        have N31 := Fr.app N30 N31q
        refine own_tr (t' := T31.setTop (mkF m 169 #[.val (.int p1), .val (.int p2), .val (.int p3), .val (.int p4), .val (.int p5), .val (.ref wUNDIRECTED), .val (.int ct), .val (.int ct), .val (.int (1 : Int32)), .val (.long (ct.toInt64)), .second, .val (.int nu), .val (.ref b26), .val (.int p4), .val (.int nu), .val (.int (ct - (1 : Int32))), .unset] [(.int (ct - (1 : Int32)))])) st31 ?_
        refine own_st (t' := T31.setTop (mkF m 171 #[.val (.int p1), .val (.int p2), .val (.int p3), .val (.int p4), .val (.int p5), .val (.ref wUNDIRECTED), .val (.int ct), .val (.int ct), .val (.int (1 : Int32)), .val (.long (ct.toInt64)), .second, .val (.int nu), .val (.ref b26), .val (.int p4), .val (.int nu), .val (.int (ct - (1 : Int32))), .unset] [(.ref wUNDIRECTED), (.int (ct - (1 : Int32)))])) (fun _ k => XS.aload X31.here hx rfl (hb hby at_169) rfl rfl k) ?_
        refine own_st (t' := T31.setTop (mkF m 173 #[.val (.int p1), .val (.int p2), .val (.int p3), .val (.int p4), .val (.int p5), .val (.ref wUNDIRECTED), .val (.int ct), .val (.int ct), .val (.int (1 : Int32)), .val (.long (ct.toInt64)), .second, .val (.int nu), .val (.ref b26), .val (.int p4), .val (.int nu), .val (.int (ct - (1 : Int32))), .unset] [(.ref b26), (.ref wUNDIRECTED), (.int (ct - (1 : Int32)))])) (fun _ k => XS.aload X31.here hx rfl (hb hby at_171) rfl rfl k) ?_
        refine own_st (t' := T31.setTop (mkF m 175 #[.val (.int p1), .val (.int p2), .val (.int p3), .val (.int p4), .val (.int p5), .val (.ref wUNDIRECTED), .val (.int ct), .val (.int ct), .val (.int (1 : Int32)), .val (.long (ct.toInt64)), .second, .val (.int nu), .val (.ref b26), .val (.int p4), .val (.int nu), .val (.int (ct - (1 : Int32))), .unset] [(.int (ct - (1 : Int32))), (.ref b26), (.ref wUNDIRECTED), (.int (ct - (1 : Int32)))])) (fun _ k => XS.iload X31.here hx rfl (hb hby at_173) rfl k) ?_
        refine own_st (t' := T31.setTop (mkF m 176 #[.val (.int p1), .val (.int p2), .val (.int p3), .val (.int p4), .val (.int p5), .val (.ref wUNDIRECTED), .val (.int ct), .val (.int ct), .val (.int (1 : Int32)), .val (.long (ct.toInt64)), .second, .val (.int nu), .val (.ref b26), .val (.int p4), .val (.int nu), .val (.int (ct - (1 : Int32))), .unset] [(.int p4), (.int (ct - (1 : Int32))), (.ref b26), (.ref wUNDIRECTED), (.int (ct - (1 : Int32)))])) (fun _ k => XS.iloadN X31.here hx rfl (hb hby at_175) rfl k) ?_
        refine own_st (t' := T31.setTop (mkF m 177 #[.val (.int p1), .val (.int p2), .val (.int p3), .val (.int p4), .val (.int p5), .val (.ref wUNDIRECTED), .val (.int ct), .val (.int ct), .val (.int (1 : Int32)), .val (.long (ct.toInt64)), .second, .val (.int nu), .val (.ref b26), .val (.int p4), .val (.int nu), .val (.int (ct - (1 : Int32))), .unset] [(.int (1 : Int32)), (.int p4), (.int (ct - (1 : Int32))), (.ref b26), (.ref wUNDIRECTED), (.int (ct - (1 : Int32)))])) (fun _ k => XS.iconst X31.here hx rfl (hb hby at_176) k) ?_
        refine own_st (t' := T31.setTop (mkF m 178 #[.val (.int p1), .val (.int p2), .val (.int p3), .val (.int p4), .val (.int p5), .val (.ref wUNDIRECTED), .val (.int ct), .val (.int ct), .val (.int (1 : Int32)), .val (.long (ct.toInt64)), .second, .val (.int nu), .val (.ref b26), .val (.int p4), .val (.int nu), .val (.int (ct - (1 : Int32))), .unset] [(.int (p4 + (1 : Int32))), (.int (ct - (1 : Int32))), (.ref b26), (.ref wUNDIRECTED), (.int (ct - (1 : Int32)))])) (fun _ k => XS.iadd X31.here hx rfl (hb hby at_177) rfl k) ?_
        obtain ⟨cq32, kq32, q32a, q32b, q32c⟩ := isOf hZ e31 f28_Exa_wUNDIRECTED
        obtain ⟨_, _, ⟨T32, L32, k32, n32⟩, -, X32, ⟨Lc32, hQ32, l32, y32, z32⟩, st32⟩ := X31.virtualBack hx (y := (⟨"com/example/lambdaloom/lambdaloom/ChannelModel", "fibre", "(Lcom/example/lambdaloom/lambdaloom/Network$Link;II)I"⟩ : MethodName)) (z := (⟨"com/example/lambdaloom/lambdaloom/ChannelModel", "fibre", "(Lcom/example/lambdaloom/lambdaloom/Network$Link;II)I"⟩ : MethodName)) hown (mvT hZ (hw _ (List.mem_of_getElem? (i := 55) rfl))) (mvT hZ (hw _ (List.mem_of_getElem? (i := 56) rfl))) (notFace_of_selects (args := #[]) (mvT hZ (hw _ (List.mem_of_getElem? (i := 58) rfl)))) (mvT hZ (hw _ (List.mem_of_getElem? (i := 58) rfl))) (mvT hZ (hw _ (List.mem_of_getElem? (i := 57) rfl))) (by decide) (backOf (W := 1) (own_rm7 l Z a0 hw [] wUNDIRECTED b26 (ct - (1 : Int32)) (p4 + (1 : Int32)) T28.heap n0 Z28 f28_Exa_wUNDIRECTED f28_Fld_wUNDIRECTED_ordinal) hZ (hw _ (List.mem_of_getElem? (i := 59) rfl)) (hw _ (List.mem_of_getElem? (i := 1) rfl)) (by decide) (by decide)) q32a q32c (g := (mkF m 178 #[.val (.int p1), .val (.int p2), .val (.int p3), .val (.int p4), .val (.int p5), .val (.ref wUNDIRECTED), .val (.int ct), .val (.int ct), .val (.int (1 : Int32)), .val (.long (ct.toInt64)), .second, .val (.int nu), .val (.ref b26), .val (.int p4), .val (.int nu), .val (.int (ct - (1 : Int32))), .unset] [(.int (p4 + (1 : Int32))), (.int (ct - (1 : Int32))), (.ref b26), (.ref wUNDIRECTED), (.int (ct - (1 : Int32)))])) rfl (by rw [hml]; rfl) (Steps.refl _) (argsL := [(.ref b26), (.int (ct - (1 : Int32))), (.int (p4 + (1 : Int32)))]) (rest := [(.int (ct - (1 : Int32)))]) (lenOf own_rm0_pd3 rfl) rfl (by show 2 * 0 + _ ≤ _; exact Nat.le_of_eq rfl) (hb hby at_178) (fun _ _ => ⟨rfl, e31, (by decide : 0 + 0 + 0 + 1 + 2 + 0 + 0 + 0 + 0 ≤ _), (by decide : 0 + 0 + 0 + 3 + (4 + 4) + 0 + 0 + 0 + 0 ≤ _)⟩)
        dsimp only [Pt.U, Pt.locs, Pt.cells, Pt.slots] at X32 l32 y32 z32 st32 hQ32
        subst l32 y32 z32
        obtain ⟨rfl, N32q, e32⟩ := hQ32
        have N32 := Fr.app N31 N32q
        refine own_tr (t' := T32.setTop (mkF m 181 #[.val (.int p1), .val (.int p2), .val (.int p3), .val (.int p4), .val (.int p5), .val (.ref wUNDIRECTED), .val (.int ct), .val (.int ct), .val (.int (1 : Int32)), .val (.long (ct.toInt64)), .second, .val (.int nu), .val (.ref b26), .val (.int p4), .val (.int nu), .val (.int (ct - (1 : Int32))), .unset] [(.int (ct - (1 : Int32))), (.int (ct - (1 : Int32)))])) st32 ?_
        obtain ⟨_, _, ⟨T33, L33, k33, n33⟩, -, X33, ⟨Lc33, hQ33, l33, y33, z33⟩, st33⟩ := Jvm.LawKit.callS X32 hx (y := (⟨"java/lang/Math", "max", "(II)I"⟩ : MethodName)) hown (mvT hZ (hw _ (List.mem_of_getElem? (i := 65) rfl))) (mvT hZ (hw _ (List.mem_of_getElem? (i := 66) rfl))) (mvT hZ (hw _ (List.mem_of_getElem? (i := 67) rfl))) (mvT hZ (hw _ (List.mem_of_getElem? (i := 68) rfl))) (by decide) (backOf (W := 0) (own_rmM l Z a0 hw [] (ct - (1 : Int32)) (ct - (1 : Int32))  T28.heap n0 Z28 ) hZ (hw _ (List.mem_of_getElem? (i := 68) rfl)) (hw _ (List.mem_of_getElem? (i := 67) rfl)) (by decide) (by decide)) (g := (mkF m 181 #[.val (.int p1), .val (.int p2), .val (.int p3), .val (.int p4), .val (.int p5), .val (.ref wUNDIRECTED), .val (.int ct), .val (.int ct), .val (.int (1 : Int32)), .val (.long (ct.toInt64)), .second, .val (.int nu), .val (.ref b26), .val (.int p4), .val (.int nu), .val (.int (ct - (1 : Int32))), .unset] [(.int (ct - (1 : Int32))), (.int (ct - (1 : Int32)))])) rfl (by rw [hml]; rfl) (argsL := [(.int (ct - (1 : Int32))), (.int (ct - (1 : Int32)))]) (rest := []) (lenOf own_rm0_pd4 rfl) rfl (by show 2 * 0 + _ ≤ _; exact Nat.le_of_eq rfl) (hb hby at_181) (fun _ _ => ⟨rfl, e32, (by decide : 0 + 0 + 0 + 1 + 2 + 0 + 0 + 0 + 0 + 0 ≤ _), (by decide : 0 + 0 + 0 + 3 + (4 + 4) + 0 + 0 + 0 + 0 + 0 ≤ _)⟩)
        dsimp only [Pt.U, Pt.locs, Pt.cells, Pt.slots] at X33 l33 y33 z33 st33 hQ33
        subst l33 y33 z33
        obtain ⟨rfl, N33q, e33⟩ := hQ33
        have N33 := Fr.app N32 N33q
        refine own_st (t' := T33.setTop (mkF m 184 #[.val (.int p1), .val (.int p2), .val (.int p3), .val (.int p4), .val (.int p5), .val (.ref wUNDIRECTED), .val (.int ct), .val (.int ct), .val (.int (1 : Int32)), .val (.long (ct.toInt64)), .second, .val (.int nu), .val (.ref b26), .val (.int p4), .val (.int nu), .val (.int (ct - (1 : Int32))), .unset] [(.int (own_max (ct - (1 : Int32)) (ct - (1 : Int32))))])) st33 ?_
        refine own_st (t' := T33.setTop (mkF m 186 #[.val (.int p1), .val (.int p2), .val (.int p3), .val (.int p4), .val (.int p5), .val (.ref wUNDIRECTED), .val (.int ct), .val (.int ct), .val (.int (1 : Int32)), .val (.long (ct.toInt64)), .second, .val (.int nu), .val (.ref b26), .val (.int p4), .val (.int nu), .val (.int (ct - (1 : Int32))), .val (.int (own_max (ct - (1 : Int32)) (ct - (1 : Int32))))] [])) (fun _ k => XS.istore X33.here hx rfl (hb hby at_184) rfl (l' := #[.val (.int p1), .val (.int p2), .val (.int p3), .val (.int p4), .val (.int p5), .val (.ref wUNDIRECTED), .val (.int ct), .val (.int ct), .val (.int (1 : Int32)), .val (.long (ct.toInt64)), .second, .val (.int nu), .val (.ref b26), .val (.int p4), .val (.int nu), .val (.int (ct - (1 : Int32))), .val (.int (own_max (ct - (1 : Int32)) (ct - (1 : Int32))))]) rfl k) ?_
        refine own_st (t' := T33.setTop (mkF m 188 #[.val (.int p1), .val (.int p2), .val (.int p3), .val (.int p4), .val (.int p5), .val (.ref wUNDIRECTED), .val (.int ct), .val (.int ct), .val (.int (1 : Int32)), .val (.long (ct.toInt64)), .second, .val (.int nu), .val (.ref b26), .val (.int p4), .val (.int nu), .val (.int (ct - (1 : Int32))), .val (.int (own_max (ct - (1 : Int32)) (ct - (1 : Int32))))] [(.int (own_max (ct - (1 : Int32)) (ct - (1 : Int32))))])) (fun _ k => XS.iload X33.here hx rfl (hb hby at_186) rfl k) ?_
        refine own_st (t' := T33.setTop (mkF m 190 #[.val (.int p1), .val (.int p2), .val (.int p3), .val (.int p4), .val (.int p5), .val (.ref wUNDIRECTED), .val (.int ct), .val (.int ct), .val (.int (1 : Int32)), .val (.long (ct.toInt64)), .second, .val (.int nu), .val (.ref b26), .val (.int p4), .val (.int nu), .val (.int (ct - (1 : Int32))), .val (.int (own_max (ct - (1 : Int32)) (ct - (1 : Int32))))] [(.int ct), (.int (own_max (ct - (1 : Int32)) (ct - (1 : Int32))))])) (fun _ k => XS.iload X33.here hx rfl (hb hby at_188) rfl k) ?_
        refine own_st (t' := T33.setTop (mkF m 191 #[.val (.int p1), .val (.int p2), .val (.int p3), .val (.int p4), .val (.int p5), .val (.ref wUNDIRECTED), .val (.int ct), .val (.int ct), .val (.int (1 : Int32)), .val (.long (ct.toInt64)), .second, .val (.int nu), .val (.ref b26), .val (.int p4), .val (.int nu), .val (.int (ct - (1 : Int32))), .val (.int (own_max (ct - (1 : Int32)) (ct - (1 : Int32))))] [(.int (1 : Int32)), (.int ct), (.int (own_max (ct - (1 : Int32)) (ct - (1 : Int32))))])) (fun _ k => XS.iconst X33.here hx rfl (hb hby at_190) k) ?_
        refine own_st (t' := T33.setTop (mkF m 192 #[.val (.int p1), .val (.int p2), .val (.int p3), .val (.int p4), .val (.int p5), .val (.ref wUNDIRECTED), .val (.int ct), .val (.int ct), .val (.int (1 : Int32)), .val (.long (ct.toInt64)), .second, .val (.int nu), .val (.ref b26), .val (.int p4), .val (.int nu), .val (.int (ct - (1 : Int32))), .val (.int (own_max (ct - (1 : Int32)) (ct - (1 : Int32))))] [(.int (ct - (1 : Int32))), (.int (own_max (ct - (1 : Int32)) (ct - (1 : Int32))))])) (fun _ k => XS.isub X33.here hx rfl (hb hby at_191) rfl k) ?_
        refine own_st (t' := T33.setTop (mkF m 195 #[.val (.int p1), .val (.int p2), .val (.int p3), .val (.int p4), .val (.int p5), .val (.ref wUNDIRECTED), .val (.int ct), .val (.int ct), .val (.int (1 : Int32)), .val (.long (ct.toInt64)), .second, .val (.int nu), .val (.ref b26), .val (.int p4), .val (.int nu), .val (.int (ct - (1 : Int32))), .val (.int (own_max (ct - (1 : Int32)) (ct - (1 : Int32))))] [])) (fun _ k => XS.icmpNo X33.here hx rfl (hb hby at_192) rfl (teq (own_maxs _)).2 k) ?_
        refine own_st (t' := T33.setTop (mkF m 196 #[.val (.int p1), .val (.int p2), .val (.int p3), .val (.int p4), .val (.int p5), .val (.ref wUNDIRECTED), .val (.int ct), .val (.int ct), .val (.int (1 : Int32)), .val (.long (ct.toInt64)), .second, .val (.int nu), .val (.ref b26), .val (.int p4), .val (.int nu), .val (.int (ct - (1 : Int32))), .val (.int (own_max (ct - (1 : Int32)) (ct - (1 : Int32))))] [(.int (1 : Int32))])) (fun _ k => XS.iconst X33.here hx rfl (hb hby at_195) k) ?_
        refine own_st (t' := T33.setTop (mkF m 200 #[.val (.int p1), .val (.int p2), .val (.int p3), .val (.int p4), .val (.int p5), .val (.ref wUNDIRECTED), .val (.int ct), .val (.int ct), .val (.int (1 : Int32)), .val (.long (ct.toInt64)), .second, .val (.int nu), .val (.ref b26), .val (.int p4), .val (.int nu), .val (.int (ct - (1 : Int32))), .val (.int (own_max (ct - (1 : Int32)) (ct - (1 : Int32))))] [(.int (1 : Int32))])) (fun _ k => XS.goto X33.here hx rfl (pc0 := 196) (pc' := 200) rfl (hb hby at_196) (by decide) (by decide) k) ?_
        have hv34 : (1 : Int32) = (1 : Int32) := rfl
        obtain ⟨fs, hr, hrun, hended, hEnd⟩ := Stand.leaveW (s := s) (vm₁ := T27.vm) X33 hSi (by rw [e33]; exact hki) (v := some (.int (1 : Int32))) (fun h => by rw [Bd.returns] at h; cases h)
        exact ⟨_, _, retN X33 hx (t := .boolean) Bd.returns (by simp) (hb hby at_200) hr, hrun, hended, hP _ _ ⟨_, _, rfl, ⟨(congrArg (fun z => some (Value.int z)) hv34), N33⟩, ⟨_, rfl⟩, hEnd.2.1, hEnd.2.2.1, hEnd.2.2.2.mono (by decide) (by decide)⟩⟩
      · refine own_st (t' := T28.setTop (mkF m 121 #[.val (.int p1), .val (.int p2), .val (.int p3), .val (.int p4), .val (.int p5), .val (.ref wUNDIRECTED), .val (.int ct), .val (.int ct), .val (.int (1 : Int32)), .val (.long (ct.toInt64)), .second, .val (.int nu), .val (.ref b26), .unset, .unset, .unset, .unset] [])) (fun _ k => XS.ifYes X28.here hx rfl (pc0 := 114) (pc' := 121) rfl (hb hby at_114) rfl ((if0 _ _).trans (feq c114_29).2) (by decide) (by decide) k) ?_
        refine own_st (t' := T28.setTop (mkF m 122 #[.val (.int p1), .val (.int p2), .val (.int p3), .val (.int p4), .val (.int p5), .val (.ref wUNDIRECTED), .val (.int ct), .val (.int ct), .val (.int (1 : Int32)), .val (.long (ct.toInt64)), .second, .val (.int nu), .val (.ref b26), .unset, .unset, .unset, .unset] [(.int p4)])) (fun _ k => XS.iloadN X28.here hx rfl (hb hby at_121) rfl k) ?_
        refine own_st (t' := T28.setTop (mkF m 123 #[.val (.int p1), .val (.int p2), .val (.int p3), .val (.int p4), .val (.int p5), .val (.ref wUNDIRECTED), .val (.int ct), .val (.int ct), .val (.int (1 : Int32)), .val (.long (ct.toInt64)), .second, .val (.int nu), .val (.ref b26), .unset, .unset, .unset, .unset] [(.int (1 : Int32)), (.int p4)])) (fun _ k => XS.iconst X28.here hx rfl (hb hby at_122) k) ?_
        refine own_st (t' := T28.setTop (mkF m 124 #[.val (.int p1), .val (.int p2), .val (.int p3), .val (.int p4), .val (.int p5), .val (.ref wUNDIRECTED), .val (.int ct), .val (.int ct), .val (.int (1 : Int32)), .val (.long (ct.toInt64)), .second, .val (.int nu), .val (.ref b26), .unset, .unset, .unset, .unset] [(.int (p4 + (1 : Int32)))])) (fun _ k => XS.iadd X28.here hx rfl (hb hby at_123) rfl k) ?_
        refine own_st (t' := T28.setTop (mkF m 126 #[.val (.int p1), .val (.int p2), .val (.int p3), .val (.int p4), .val (.int p5), .val (.ref wUNDIRECTED), .val (.int ct), .val (.int ct), .val (.int (1 : Int32)), .val (.long (ct.toInt64)), .second, .val (.int nu), .val (.ref b26), .val (.int (p4 + (1 : Int32))), .unset, .unset, .unset] [])) (fun _ k => XS.istore X28.here hx rfl (hb hby at_124) rfl (l' := #[.val (.int p1), .val (.int p2), .val (.int p3), .val (.int p4), .val (.int p5), .val (.ref wUNDIRECTED), .val (.int ct), .val (.int ct), .val (.int (1 : Int32)), .val (.long (ct.toInt64)), .second, .val (.int nu), .val (.ref b26), .val (.int (p4 + (1 : Int32))), .unset, .unset, .unset]) rfl k) ?_
        refine own_st (t' := T28.setTop (mkF m 128 #[.val (.int p1), .val (.int p2), .val (.int p3), .val (.int p4), .val (.int p5), .val (.ref wUNDIRECTED), .val (.int ct), .val (.int ct), .val (.int (1 : Int32)), .val (.long (ct.toInt64)), .second, .val (.int nu), .val (.ref b26), .val (.int (p4 + (1 : Int32))), .unset, .unset, .unset] [(.ref wUNDIRECTED)])) (fun _ k => XS.aload X28.here hx rfl (hb hby at_126) rfl rfl k) ?_
        refine own_st (t' := T28.setTop (mkF m 130 #[.val (.int p1), .val (.int p2), .val (.int p3), .val (.int p4), .val (.int p5), .val (.ref wUNDIRECTED), .val (.int ct), .val (.int ct), .val (.int (1 : Int32)), .val (.long (ct.toInt64)), .second, .val (.int nu), .val (.ref b26), .val (.int (p4 + (1 : Int32))), .unset, .unset, .unset] [(.ref b26), (.ref wUNDIRECTED)])) (fun _ k => XS.aload X28.here hx rfl (hb hby at_128) rfl rfl k) ?_
        refine own_st (t' := T28.setTop (mkF m 132 #[.val (.int p1), .val (.int p2), .val (.int p3), .val (.int p4), .val (.int p5), .val (.ref wUNDIRECTED), .val (.int ct), .val (.int ct), .val (.int (1 : Int32)), .val (.long (ct.toInt64)), .second, .val (.int nu), .val (.ref b26), .val (.int (p4 + (1 : Int32))), .unset, .unset, .unset] [(.int nu), (.ref b26), (.ref wUNDIRECTED)])) (fun _ k => XS.iload X28.here hx rfl (hb hby at_130) rfl k) ?_
        refine own_st (t' := T28.setTop (mkF m 134 #[.val (.int p1), .val (.int p2), .val (.int p3), .val (.int p4), .val (.int p5), .val (.ref wUNDIRECTED), .val (.int ct), .val (.int ct), .val (.int (1 : Int32)), .val (.long (ct.toInt64)), .second, .val (.int nu), .val (.ref b26), .val (.int (p4 + (1 : Int32))), .unset, .unset, .unset] [(.int (p4 + (1 : Int32))), (.int nu), (.ref b26), (.ref wUNDIRECTED)])) (fun _ k => XS.iload X28.here hx rfl (hb hby at_132) rfl k) ?_
        obtain ⟨cq35, kq35, q35a, q35b, q35c⟩ := isOf hZ rfl f28_Exa_wUNDIRECTED
        obtain ⟨_, _, ⟨T35, L35, k35, n35⟩, -, X35, ⟨Lc35, hQ35, l35, y35, z35⟩, st35⟩ := X28.virtualBack hx (y := (⟨"com/example/lambdaloom/lambdaloom/ChannelModel", "fibre", "(Lcom/example/lambdaloom/lambdaloom/Network$Link;II)I"⟩ : MethodName)) (z := (⟨"com/example/lambdaloom/lambdaloom/ChannelModel", "fibre", "(Lcom/example/lambdaloom/lambdaloom/Network$Link;II)I"⟩ : MethodName)) hown (mvT hZ (hw _ (List.mem_of_getElem? (i := 55) rfl))) (mvT hZ (hw _ (List.mem_of_getElem? (i := 56) rfl))) (notFace_of_selects (args := #[]) (mvT hZ (hw _ (List.mem_of_getElem? (i := 58) rfl)))) (mvT hZ (hw _ (List.mem_of_getElem? (i := 58) rfl))) (mvT hZ (hw _ (List.mem_of_getElem? (i := 57) rfl))) (by decide) (backOf (W := 0) (own_rm7 l Z a0 hw [] wUNDIRECTED b26 nu (p4 + (1 : Int32)) T28.heap n0 Z28 f28_Exa_wUNDIRECTED f28_Fld_wUNDIRECTED_ordinal) hZ (hw _ (List.mem_of_getElem? (i := 59) rfl)) (hw _ (List.mem_of_getElem? (i := 1) rfl)) (by decide) (by decide)) q35a q35c (g := (mkF m 134 #[.val (.int p1), .val (.int p2), .val (.int p3), .val (.int p4), .val (.int p5), .val (.ref wUNDIRECTED), .val (.int ct), .val (.int ct), .val (.int (1 : Int32)), .val (.long (ct.toInt64)), .second, .val (.int nu), .val (.ref b26), .val (.int (p4 + (1 : Int32))), .unset, .unset, .unset] [(.int (p4 + (1 : Int32))), (.int nu), (.ref b26), (.ref wUNDIRECTED)])) rfl (by rw [hml]; rfl) (Steps.refl _) (argsL := [(.ref b26), (.int nu), (.int (p4 + (1 : Int32)))]) (rest := []) (lenOf own_rm0_pd3 rfl) rfl (by show 2 * 0 + _ ≤ _; exact Nat.le_of_eq rfl) (hb hby at_134) (fun _ _ => ⟨rfl, rfl, (by decide : 0 + 0 + 0 + 1 + 2 + 0 + 0 ≤ _), (by decide : 0 + 0 + 0 + 3 + (4 + 4) + 0 + 0 ≤ _)⟩)
        dsimp only [Pt.U, Pt.locs, Pt.cells, Pt.slots] at X35 l35 y35 z35 st35 hQ35
        subst l35 y35 z35
        obtain ⟨rfl, N35q, e35⟩ := hQ35
        have N35 := Fr.app N28 N35q
        refine own_tr (t' := T35.setTop (mkF m 137 #[.val (.int p1), .val (.int p2), .val (.int p3), .val (.int p4), .val (.int p5), .val (.ref wUNDIRECTED), .val (.int ct), .val (.int ct), .val (.int (1 : Int32)), .val (.long (ct.toInt64)), .second, .val (.int nu), .val (.ref b26), .val (.int (p4 + (1 : Int32))), .unset, .unset, .unset] [(.int nu)])) st35 ?_
        refine own_st (t' := T35.setTop (mkF m 139 #[.val (.int p1), .val (.int p2), .val (.int p3), .val (.int p4), .val (.int p5), .val (.ref wUNDIRECTED), .val (.int ct), .val (.int ct), .val (.int (1 : Int32)), .val (.long (ct.toInt64)), .second, .val (.int nu), .val (.ref b26), .val (.int (p4 + (1 : Int32))), .val (.int nu), .unset, .unset] [])) (fun _ k => XS.istore X35.here hx rfl (hb hby at_137) rfl (l' := #[.val (.int p1), .val (.int p2), .val (.int p3), .val (.int p4), .val (.int p5), .val (.ref wUNDIRECTED), .val (.int ct), .val (.int ct), .val (.int (1 : Int32)), .val (.long (ct.toInt64)), .second, .val (.int nu), .val (.ref b26), .val (.int (p4 + (1 : Int32))), .val (.int nu), .unset, .unset]) rfl k) ?_
        refine own_st (t' := T35.setTop (mkF m 141 #[.val (.int p1), .val (.int p2), .val (.int p3), .val (.int p4), .val (.int p5), .val (.ref wUNDIRECTED), .val (.int ct), .val (.int ct), .val (.int (1 : Int32)), .val (.long (ct.toInt64)), .second, .val (.int nu), .val (.ref b26), .val (.int (p4 + (1 : Int32))), .val (.int nu), .unset, .unset] [(.int nu)])) (fun _ k => XS.iload X35.here hx rfl (hb hby at_139) rfl k) ?_
        refine own_st (t' := T35.setTop (mkF m 144 #[.val (.int p1), .val (.int p2), .val (.int p3), .val (.int p4), .val (.int p5), .val (.ref wUNDIRECTED), .val (.int ct), .val (.int ct), .val (.int (1 : Int32)), .val (.long (ct.toInt64)), .second, .val (.int nu), .val (.ref b26), .val (.int (p4 + (1 : Int32))), .val (.int nu), .unset, .unset] [])) (fun _ k => XS.ifNo X35.here hx rfl (hb hby at_141) rfl ((if0 _ _).trans (flt (own_nn hnu)).1) k) ?_
        refine own_st (t' := T35.setTop (mkF m 146 #[.val (.int p1), .val (.int p2), .val (.int p3), .val (.int p4), .val (.int p5), .val (.ref wUNDIRECTED), .val (.int ct), .val (.int ct), .val (.int (1 : Int32)), .val (.long (ct.toInt64)), .second, .val (.int nu), .val (.ref b26), .val (.int (p4 + (1 : Int32))), .val (.int nu), .unset, .unset] [(.int nu)])) (fun _ k => XS.iload X35.here hx rfl (hb hby at_144) rfl k) ?_
        refine own_st (t' := T35.setTop (mkF m 148 #[.val (.int p1), .val (.int p2), .val (.int p3), .val (.int p4), .val (.int p5), .val (.ref wUNDIRECTED), .val (.int ct), .val (.int ct), .val (.int (1 : Int32)), .val (.long (ct.toInt64)), .second, .val (.int nu), .val (.ref b26), .val (.int (p4 + (1 : Int32))), .val (.int nu), .unset, .unset] [(.int ct), (.int nu)])) (fun _ k => XS.iload X35.here hx rfl (hb hby at_146) rfl k) ?_
        refine own_st (t' := T35.setTop (mkF m 153 #[.val (.int p1), .val (.int p2), .val (.int p3), .val (.int p4), .val (.int p5), .val (.ref wUNDIRECTED), .val (.int ct), .val (.int ct), .val (.int (1 : Int32)), .val (.long (ct.toInt64)), .second, .val (.int nu), .val (.ref b26), .val (.int (p4 + (1 : Int32))), .val (.int nu), .unset, .unset] [])) (fun _ k => XS.icmpYes X35.here hx rfl (pc0 := 148) (pc' := 153) rfl (hb hby at_148) rfl (tlt (own_lu hnu)).1 (by decide) (by decide) k) ?_
        refine own_st (t' := T35.setTop (mkF m 155 #[.val (.int p1), .val (.int p2), .val (.int p3), .val (.int p4), .val (.int p5), .val (.ref wUNDIRECTED), .val (.int ct), .val (.int ct), .val (.int (1 : Int32)), .val (.long (ct.toInt64)), .second, .val (.int nu), .val (.ref b26), .val (.int (p4 + (1 : Int32))), .val (.int nu), .unset, .unset] [(.int ct)])) (fun _ k => XS.iload X35.here hx rfl (hb hby at_153) rfl k) ?_
        refine own_st (t' := T35.setTop (mkF m 156 #[.val (.int p1), .val (.int p2), .val (.int p3), .val (.int p4), .val (.int p5), .val (.ref wUNDIRECTED), .val (.int ct), .val (.int ct), .val (.int (1 : Int32)), .val (.long (ct.toInt64)), .second, .val (.int nu), .val (.ref b26), .val (.int (p4 + (1 : Int32))), .val (.int nu), .unset, .unset] [(.int (1 : Int32)), (.int ct)])) (fun _ k => XS.iconst X35.here hx rfl (hb hby at_155) k) ?_
        refine own_st (t' := T35.setTop (mkF m 157 #[.val (.int p1), .val (.int p2), .val (.int p3), .val (.int p4), .val (.int p5), .val (.ref wUNDIRECTED), .val (.int ct), .val (.int ct), .val (.int (1 : Int32)), .val (.long (ct.toInt64)), .second, .val (.int nu), .val (.ref b26), .val (.int (p4 + (1 : Int32))), .val (.int nu), .unset, .unset] [(.int (ct - (1 : Int32)))])) (fun _ k => XS.isub X35.here hx rfl (hb hby at_156) rfl k) ?_
        refine own_st (t' := T35.setTop (mkF m 159 #[.val (.int p1), .val (.int p2), .val (.int p3), .val (.int p4), .val (.int p5), .val (.ref wUNDIRECTED), .val (.int ct), .val (.int ct), .val (.int (1 : Int32)), .val (.long (ct.toInt64)), .second, .val (.int nu), .val (.ref b26), .val (.int (p4 + (1 : Int32))), .val (.int nu), .val (.int (ct - (1 : Int32))), .unset] [])) (fun _ k => XS.istore X35.here hx rfl (hb hby at_157) rfl (l' := #[.val (.int p1), .val (.int p2), .val (.int p3), .val (.int p4), .val (.int p5), .val (.ref wUNDIRECTED), .val (.int ct), .val (.int ct), .val (.int (1 : Int32)), .val (.long (ct.toInt64)), .second, .val (.int nu), .val (.ref b26), .val (.int (p4 + (1 : Int32))), .val (.int nu), .val (.int (ct - (1 : Int32))), .unset]) rfl k) ?_
        refine own_st (t' := T35.setTop (mkF m 161 #[.val (.int p1), .val (.int p2), .val (.int p3), .val (.int p4), .val (.int p5), .val (.ref wUNDIRECTED), .val (.int ct), .val (.int ct), .val (.int (1 : Int32)), .val (.long (ct.toInt64)), .second, .val (.int nu), .val (.ref b26), .val (.int (p4 + (1 : Int32))), .val (.int nu), .val (.int (ct - (1 : Int32))), .unset] [(.ref wUNDIRECTED)])) (fun _ k => XS.aload X35.here hx rfl (hb hby at_159) rfl rfl k) ?_
        refine own_st (t' := T35.setTop (mkF m 163 #[.val (.int p1), .val (.int p2), .val (.int p3), .val (.int p4), .val (.int p5), .val (.ref wUNDIRECTED), .val (.int ct), .val (.int ct), .val (.int (1 : Int32)), .val (.long (ct.toInt64)), .second, .val (.int nu), .val (.ref b26), .val (.int (p4 + (1 : Int32))), .val (.int nu), .val (.int (ct - (1 : Int32))), .unset] [(.ref b26), (.ref wUNDIRECTED)])) (fun _ k => XS.aload X35.here hx rfl (hb hby at_161) rfl rfl k) ?_
        refine own_st (t' := T35.setTop (mkF m 165 #[.val (.int p1), .val (.int p2), .val (.int p3), .val (.int p4), .val (.int p5), .val (.ref wUNDIRECTED), .val (.int ct), .val (.int ct), .val (.int (1 : Int32)), .val (.long (ct.toInt64)), .second, .val (.int nu), .val (.ref b26), .val (.int (p4 + (1 : Int32))), .val (.int nu), .val (.int (ct - (1 : Int32))), .unset] [(.int (ct - (1 : Int32))), (.ref b26), (.ref wUNDIRECTED)])) (fun _ k => XS.iload X35.here hx rfl (hb hby at_163) rfl k) ?_
        refine own_st (t' := T35.setTop (mkF m 166 #[.val (.int p1), .val (.int p2), .val (.int p3), .val (.int p4), .val (.int p5), .val (.ref wUNDIRECTED), .val (.int ct), .val (.int ct), .val (.int (1 : Int32)), .val (.long (ct.toInt64)), .second, .val (.int nu), .val (.ref b26), .val (.int (p4 + (1 : Int32))), .val (.int nu), .val (.int (ct - (1 : Int32))), .unset] [(.int p4), (.int (ct - (1 : Int32))), (.ref b26), (.ref wUNDIRECTED)])) (fun _ k => XS.iloadN X35.here hx rfl (hb hby at_165) rfl k) ?_
        obtain ⟨cq36, kq36, q36a, q36b, q36c⟩ := isOf hZ e35 f28_Exa_wUNDIRECTED
        obtain ⟨_, _, ⟨T36, L36, k36, n36⟩, -, X36, ⟨Lc36, hQ36, l36, y36, z36⟩, st36⟩ := X35.virtualBack hx (y := (⟨"com/example/lambdaloom/lambdaloom/ChannelModel", "fibre", "(Lcom/example/lambdaloom/lambdaloom/Network$Link;II)I"⟩ : MethodName)) (z := (⟨"com/example/lambdaloom/lambdaloom/ChannelModel", "fibre", "(Lcom/example/lambdaloom/lambdaloom/Network$Link;II)I"⟩ : MethodName)) hown (mvT hZ (hw _ (List.mem_of_getElem? (i := 55) rfl))) (mvT hZ (hw _ (List.mem_of_getElem? (i := 56) rfl))) (notFace_of_selects (args := #[]) (mvT hZ (hw _ (List.mem_of_getElem? (i := 58) rfl)))) (mvT hZ (hw _ (List.mem_of_getElem? (i := 58) rfl))) (mvT hZ (hw _ (List.mem_of_getElem? (i := 57) rfl))) (by decide) (backOf (W := 0) (own_rm7 l Z a0 hw [] wUNDIRECTED b26 (ct - (1 : Int32)) p4 T28.heap n0 Z28 f28_Exa_wUNDIRECTED f28_Fld_wUNDIRECTED_ordinal) hZ (hw _ (List.mem_of_getElem? (i := 59) rfl)) (hw _ (List.mem_of_getElem? (i := 1) rfl)) (by decide) (by decide)) q36a q36c (g := (mkF m 166 #[.val (.int p1), .val (.int p2), .val (.int p3), .val (.int p4), .val (.int p5), .val (.ref wUNDIRECTED), .val (.int ct), .val (.int ct), .val (.int (1 : Int32)), .val (.long (ct.toInt64)), .second, .val (.int nu), .val (.ref b26), .val (.int (p4 + (1 : Int32))), .val (.int nu), .val (.int (ct - (1 : Int32))), .unset] [(.int p4), (.int (ct - (1 : Int32))), (.ref b26), (.ref wUNDIRECTED)])) rfl (by rw [hml]; rfl) (Steps.refl _) (argsL := [(.ref b26), (.int (ct - (1 : Int32))), (.int p4)]) (rest := []) (lenOf own_rm0_pd3 rfl) rfl (by show 2 * 0 + _ ≤ _; exact Nat.le_of_eq rfl) (hb hby at_166) (fun _ _ => ⟨rfl, e35, (by decide : 0 + 0 + 0 + 1 + 2 + 0 + 0 + 0 ≤ _), (by decide : 0 + 0 + 0 + 3 + (4 + 4) + 0 + 0 + 0 ≤ _)⟩)
        dsimp only [Pt.U, Pt.locs, Pt.cells, Pt.slots] at X36 l36 y36 z36 st36 hQ36
        subst l36 y36 z36
        obtain ⟨rfl, N36q, e36⟩ := hQ36
        have N36 := Fr.app N35 N36q
        refine own_tr (t' := T36.setTop (mkF m 169 #[.val (.int p1), .val (.int p2), .val (.int p3), .val (.int p4), .val (.int p5), .val (.ref wUNDIRECTED), .val (.int ct), .val (.int ct), .val (.int (1 : Int32)), .val (.long (ct.toInt64)), .second, .val (.int nu), .val (.ref b26), .val (.int (p4 + (1 : Int32))), .val (.int nu), .val (.int (ct - (1 : Int32))), .unset] [(.int (ct - (1 : Int32)))])) st36 ?_
        refine own_st (t' := T36.setTop (mkF m 171 #[.val (.int p1), .val (.int p2), .val (.int p3), .val (.int p4), .val (.int p5), .val (.ref wUNDIRECTED), .val (.int ct), .val (.int ct), .val (.int (1 : Int32)), .val (.long (ct.toInt64)), .second, .val (.int nu), .val (.ref b26), .val (.int (p4 + (1 : Int32))), .val (.int nu), .val (.int (ct - (1 : Int32))), .unset] [(.ref wUNDIRECTED), (.int (ct - (1 : Int32)))])) (fun _ k => XS.aload X36.here hx rfl (hb hby at_169) rfl rfl k) ?_
        refine own_st (t' := T36.setTop (mkF m 173 #[.val (.int p1), .val (.int p2), .val (.int p3), .val (.int p4), .val (.int p5), .val (.ref wUNDIRECTED), .val (.int ct), .val (.int ct), .val (.int (1 : Int32)), .val (.long (ct.toInt64)), .second, .val (.int nu), .val (.ref b26), .val (.int (p4 + (1 : Int32))), .val (.int nu), .val (.int (ct - (1 : Int32))), .unset] [(.ref b26), (.ref wUNDIRECTED), (.int (ct - (1 : Int32)))])) (fun _ k => XS.aload X36.here hx rfl (hb hby at_171) rfl rfl k) ?_
        refine own_st (t' := T36.setTop (mkF m 175 #[.val (.int p1), .val (.int p2), .val (.int p3), .val (.int p4), .val (.int p5), .val (.ref wUNDIRECTED), .val (.int ct), .val (.int ct), .val (.int (1 : Int32)), .val (.long (ct.toInt64)), .second, .val (.int nu), .val (.ref b26), .val (.int (p4 + (1 : Int32))), .val (.int nu), .val (.int (ct - (1 : Int32))), .unset] [(.int (ct - (1 : Int32))), (.ref b26), (.ref wUNDIRECTED), (.int (ct - (1 : Int32)))])) (fun _ k => XS.iload X36.here hx rfl (hb hby at_173) rfl k) ?_
        refine own_st (t' := T36.setTop (mkF m 176 #[.val (.int p1), .val (.int p2), .val (.int p3), .val (.int p4), .val (.int p5), .val (.ref wUNDIRECTED), .val (.int ct), .val (.int ct), .val (.int (1 : Int32)), .val (.long (ct.toInt64)), .second, .val (.int nu), .val (.ref b26), .val (.int (p4 + (1 : Int32))), .val (.int nu), .val (.int (ct - (1 : Int32))), .unset] [(.int p4), (.int (ct - (1 : Int32))), (.ref b26), (.ref wUNDIRECTED), (.int (ct - (1 : Int32)))])) (fun _ k => XS.iloadN X36.here hx rfl (hb hby at_175) rfl k) ?_
        refine own_st (t' := T36.setTop (mkF m 177 #[.val (.int p1), .val (.int p2), .val (.int p3), .val (.int p4), .val (.int p5), .val (.ref wUNDIRECTED), .val (.int ct), .val (.int ct), .val (.int (1 : Int32)), .val (.long (ct.toInt64)), .second, .val (.int nu), .val (.ref b26), .val (.int (p4 + (1 : Int32))), .val (.int nu), .val (.int (ct - (1 : Int32))), .unset] [(.int (1 : Int32)), (.int p4), (.int (ct - (1 : Int32))), (.ref b26), (.ref wUNDIRECTED), (.int (ct - (1 : Int32)))])) (fun _ k => XS.iconst X36.here hx rfl (hb hby at_176) k) ?_
        refine own_st (t' := T36.setTop (mkF m 178 #[.val (.int p1), .val (.int p2), .val (.int p3), .val (.int p4), .val (.int p5), .val (.ref wUNDIRECTED), .val (.int ct), .val (.int ct), .val (.int (1 : Int32)), .val (.long (ct.toInt64)), .second, .val (.int nu), .val (.ref b26), .val (.int (p4 + (1 : Int32))), .val (.int nu), .val (.int (ct - (1 : Int32))), .unset] [(.int (p4 + (1 : Int32))), (.int (ct - (1 : Int32))), (.ref b26), (.ref wUNDIRECTED), (.int (ct - (1 : Int32)))])) (fun _ k => XS.iadd X36.here hx rfl (hb hby at_177) rfl k) ?_
        obtain ⟨cq37, kq37, q37a, q37b, q37c⟩ := isOf hZ e36 f28_Exa_wUNDIRECTED
        obtain ⟨_, _, ⟨T37, L37, k37, n37⟩, -, X37, ⟨Lc37, hQ37, l37, y37, z37⟩, st37⟩ := X36.virtualBack hx (y := (⟨"com/example/lambdaloom/lambdaloom/ChannelModel", "fibre", "(Lcom/example/lambdaloom/lambdaloom/Network$Link;II)I"⟩ : MethodName)) (z := (⟨"com/example/lambdaloom/lambdaloom/ChannelModel", "fibre", "(Lcom/example/lambdaloom/lambdaloom/Network$Link;II)I"⟩ : MethodName)) hown (mvT hZ (hw _ (List.mem_of_getElem? (i := 55) rfl))) (mvT hZ (hw _ (List.mem_of_getElem? (i := 56) rfl))) (notFace_of_selects (args := #[]) (mvT hZ (hw _ (List.mem_of_getElem? (i := 58) rfl)))) (mvT hZ (hw _ (List.mem_of_getElem? (i := 58) rfl))) (mvT hZ (hw _ (List.mem_of_getElem? (i := 57) rfl))) (by decide) (backOf (W := 1) (own_rm7 l Z a0 hw [] wUNDIRECTED b26 (ct - (1 : Int32)) (p4 + (1 : Int32)) T28.heap n0 Z28 f28_Exa_wUNDIRECTED f28_Fld_wUNDIRECTED_ordinal) hZ (hw _ (List.mem_of_getElem? (i := 59) rfl)) (hw _ (List.mem_of_getElem? (i := 1) rfl)) (by decide) (by decide)) q37a q37c (g := (mkF m 178 #[.val (.int p1), .val (.int p2), .val (.int p3), .val (.int p4), .val (.int p5), .val (.ref wUNDIRECTED), .val (.int ct), .val (.int ct), .val (.int (1 : Int32)), .val (.long (ct.toInt64)), .second, .val (.int nu), .val (.ref b26), .val (.int (p4 + (1 : Int32))), .val (.int nu), .val (.int (ct - (1 : Int32))), .unset] [(.int (p4 + (1 : Int32))), (.int (ct - (1 : Int32))), (.ref b26), (.ref wUNDIRECTED), (.int (ct - (1 : Int32)))])) rfl (by rw [hml]; rfl) (Steps.refl _) (argsL := [(.ref b26), (.int (ct - (1 : Int32))), (.int (p4 + (1 : Int32)))]) (rest := [(.int (ct - (1 : Int32)))]) (lenOf own_rm0_pd3 rfl) rfl (by show 2 * 0 + _ ≤ _; exact Nat.le_of_eq rfl) (hb hby at_178) (fun _ _ => ⟨rfl, e36, (by decide : 0 + 0 + 0 + 1 + 2 + 0 + 0 + 0 + 0 ≤ _), (by decide : 0 + 0 + 0 + 3 + (4 + 4) + 0 + 0 + 0 + 0 ≤ _)⟩)
        dsimp only [Pt.U, Pt.locs, Pt.cells, Pt.slots] at X37 l37 y37 z37 st37 hQ37
        subst l37 y37 z37
        obtain ⟨rfl, N37q, e37⟩ := hQ37
        have N37 := Fr.app N36 N37q
        refine own_tr (t' := T37.setTop (mkF m 181 #[.val (.int p1), .val (.int p2), .val (.int p3), .val (.int p4), .val (.int p5), .val (.ref wUNDIRECTED), .val (.int ct), .val (.int ct), .val (.int (1 : Int32)), .val (.long (ct.toInt64)), .second, .val (.int nu), .val (.ref b26), .val (.int (p4 + (1 : Int32))), .val (.int nu), .val (.int (ct - (1 : Int32))), .unset] [(.int (ct - (1 : Int32))), (.int (ct - (1 : Int32)))])) st37 ?_
        obtain ⟨_, _, ⟨T38, L38, k38, n38⟩, -, X38, ⟨Lc38, hQ38, l38, y38, z38⟩, st38⟩ := Jvm.LawKit.callS X37 hx (y := (⟨"java/lang/Math", "max", "(II)I"⟩ : MethodName)) hown (mvT hZ (hw _ (List.mem_of_getElem? (i := 65) rfl))) (mvT hZ (hw _ (List.mem_of_getElem? (i := 66) rfl))) (mvT hZ (hw _ (List.mem_of_getElem? (i := 67) rfl))) (mvT hZ (hw _ (List.mem_of_getElem? (i := 68) rfl))) (by decide) (backOf (W := 0) (own_rmM l Z a0 hw [] (ct - (1 : Int32)) (ct - (1 : Int32))  T28.heap n0 Z28 ) hZ (hw _ (List.mem_of_getElem? (i := 68) rfl)) (hw _ (List.mem_of_getElem? (i := 67) rfl)) (by decide) (by decide)) (g := (mkF m 181 #[.val (.int p1), .val (.int p2), .val (.int p3), .val (.int p4), .val (.int p5), .val (.ref wUNDIRECTED), .val (.int ct), .val (.int ct), .val (.int (1 : Int32)), .val (.long (ct.toInt64)), .second, .val (.int nu), .val (.ref b26), .val (.int (p4 + (1 : Int32))), .val (.int nu), .val (.int (ct - (1 : Int32))), .unset] [(.int (ct - (1 : Int32))), (.int (ct - (1 : Int32)))])) rfl (by rw [hml]; rfl) (argsL := [(.int (ct - (1 : Int32))), (.int (ct - (1 : Int32)))]) (rest := []) (lenOf own_rm0_pd4 rfl) rfl (by show 2 * 0 + _ ≤ _; exact Nat.le_of_eq rfl) (hb hby at_181) (fun _ _ => ⟨rfl, e37, (by decide : 0 + 0 + 0 + 1 + 2 + 0 + 0 + 0 + 0 + 0 ≤ _), (by decide : 0 + 0 + 0 + 3 + (4 + 4) + 0 + 0 + 0 + 0 + 0 ≤ _)⟩)
        dsimp only [Pt.U, Pt.locs, Pt.cells, Pt.slots] at X38 l38 y38 z38 st38 hQ38
        subst l38 y38 z38
        obtain ⟨rfl, N38q, e38⟩ := hQ38
        have N38 := Fr.app N37 N38q
        refine own_st (t' := T38.setTop (mkF m 184 #[.val (.int p1), .val (.int p2), .val (.int p3), .val (.int p4), .val (.int p5), .val (.ref wUNDIRECTED), .val (.int ct), .val (.int ct), .val (.int (1 : Int32)), .val (.long (ct.toInt64)), .second, .val (.int nu), .val (.ref b26), .val (.int (p4 + (1 : Int32))), .val (.int nu), .val (.int (ct - (1 : Int32))), .unset] [(.int (own_max (ct - (1 : Int32)) (ct - (1 : Int32))))])) st38 ?_
        refine own_st (t' := T38.setTop (mkF m 186 #[.val (.int p1), .val (.int p2), .val (.int p3), .val (.int p4), .val (.int p5), .val (.ref wUNDIRECTED), .val (.int ct), .val (.int ct), .val (.int (1 : Int32)), .val (.long (ct.toInt64)), .second, .val (.int nu), .val (.ref b26), .val (.int (p4 + (1 : Int32))), .val (.int nu), .val (.int (ct - (1 : Int32))), .val (.int (own_max (ct - (1 : Int32)) (ct - (1 : Int32))))] [])) (fun _ k => XS.istore X38.here hx rfl (hb hby at_184) rfl (l' := #[.val (.int p1), .val (.int p2), .val (.int p3), .val (.int p4), .val (.int p5), .val (.ref wUNDIRECTED), .val (.int ct), .val (.int ct), .val (.int (1 : Int32)), .val (.long (ct.toInt64)), .second, .val (.int nu), .val (.ref b26), .val (.int (p4 + (1 : Int32))), .val (.int nu), .val (.int (ct - (1 : Int32))), .val (.int (own_max (ct - (1 : Int32)) (ct - (1 : Int32))))]) rfl k) ?_
        refine own_st (t' := T38.setTop (mkF m 188 #[.val (.int p1), .val (.int p2), .val (.int p3), .val (.int p4), .val (.int p5), .val (.ref wUNDIRECTED), .val (.int ct), .val (.int ct), .val (.int (1 : Int32)), .val (.long (ct.toInt64)), .second, .val (.int nu), .val (.ref b26), .val (.int (p4 + (1 : Int32))), .val (.int nu), .val (.int (ct - (1 : Int32))), .val (.int (own_max (ct - (1 : Int32)) (ct - (1 : Int32))))] [(.int (own_max (ct - (1 : Int32)) (ct - (1 : Int32))))])) (fun _ k => XS.iload X38.here hx rfl (hb hby at_186) rfl k) ?_
        refine own_st (t' := T38.setTop (mkF m 190 #[.val (.int p1), .val (.int p2), .val (.int p3), .val (.int p4), .val (.int p5), .val (.ref wUNDIRECTED), .val (.int ct), .val (.int ct), .val (.int (1 : Int32)), .val (.long (ct.toInt64)), .second, .val (.int nu), .val (.ref b26), .val (.int (p4 + (1 : Int32))), .val (.int nu), .val (.int (ct - (1 : Int32))), .val (.int (own_max (ct - (1 : Int32)) (ct - (1 : Int32))))] [(.int ct), (.int (own_max (ct - (1 : Int32)) (ct - (1 : Int32))))])) (fun _ k => XS.iload X38.here hx rfl (hb hby at_188) rfl k) ?_
        refine own_st (t' := T38.setTop (mkF m 191 #[.val (.int p1), .val (.int p2), .val (.int p3), .val (.int p4), .val (.int p5), .val (.ref wUNDIRECTED), .val (.int ct), .val (.int ct), .val (.int (1 : Int32)), .val (.long (ct.toInt64)), .second, .val (.int nu), .val (.ref b26), .val (.int (p4 + (1 : Int32))), .val (.int nu), .val (.int (ct - (1 : Int32))), .val (.int (own_max (ct - (1 : Int32)) (ct - (1 : Int32))))] [(.int (1 : Int32)), (.int ct), (.int (own_max (ct - (1 : Int32)) (ct - (1 : Int32))))])) (fun _ k => XS.iconst X38.here hx rfl (hb hby at_190) k) ?_
        refine own_st (t' := T38.setTop (mkF m 192 #[.val (.int p1), .val (.int p2), .val (.int p3), .val (.int p4), .val (.int p5), .val (.ref wUNDIRECTED), .val (.int ct), .val (.int ct), .val (.int (1 : Int32)), .val (.long (ct.toInt64)), .second, .val (.int nu), .val (.ref b26), .val (.int (p4 + (1 : Int32))), .val (.int nu), .val (.int (ct - (1 : Int32))), .val (.int (own_max (ct - (1 : Int32)) (ct - (1 : Int32))))] [(.int (ct - (1 : Int32))), (.int (own_max (ct - (1 : Int32)) (ct - (1 : Int32))))])) (fun _ k => XS.isub X38.here hx rfl (hb hby at_191) rfl k) ?_
        refine own_st (t' := T38.setTop (mkF m 195 #[.val (.int p1), .val (.int p2), .val (.int p3), .val (.int p4), .val (.int p5), .val (.ref wUNDIRECTED), .val (.int ct), .val (.int ct), .val (.int (1 : Int32)), .val (.long (ct.toInt64)), .second, .val (.int nu), .val (.ref b26), .val (.int (p4 + (1 : Int32))), .val (.int nu), .val (.int (ct - (1 : Int32))), .val (.int (own_max (ct - (1 : Int32)) (ct - (1 : Int32))))] [])) (fun _ k => XS.icmpNo X38.here hx rfl (hb hby at_192) rfl (teq (own_maxs _)).2 k) ?_
        refine own_st (t' := T38.setTop (mkF m 196 #[.val (.int p1), .val (.int p2), .val (.int p3), .val (.int p4), .val (.int p5), .val (.ref wUNDIRECTED), .val (.int ct), .val (.int ct), .val (.int (1 : Int32)), .val (.long (ct.toInt64)), .second, .val (.int nu), .val (.ref b26), .val (.int (p4 + (1 : Int32))), .val (.int nu), .val (.int (ct - (1 : Int32))), .val (.int (own_max (ct - (1 : Int32)) (ct - (1 : Int32))))] [(.int (1 : Int32))])) (fun _ k => XS.iconst X38.here hx rfl (hb hby at_195) k) ?_
        refine own_st (t' := T38.setTop (mkF m 200 #[.val (.int p1), .val (.int p2), .val (.int p3), .val (.int p4), .val (.int p5), .val (.ref wUNDIRECTED), .val (.int ct), .val (.int ct), .val (.int (1 : Int32)), .val (.long (ct.toInt64)), .second, .val (.int nu), .val (.ref b26), .val (.int (p4 + (1 : Int32))), .val (.int nu), .val (.int (ct - (1 : Int32))), .val (.int (own_max (ct - (1 : Int32)) (ct - (1 : Int32))))] [(.int (1 : Int32))])) (fun _ k => XS.goto X38.here hx rfl (pc0 := 196) (pc' := 200) rfl (hb hby at_196) (by decide) (by decide) k) ?_
        have hv39 : (1 : Int32) = (1 : Int32) := rfl
        obtain ⟨fs, hr, hrun, hended, hEnd⟩ := Stand.leaveW (s := s) (vm₁ := T27.vm) X38 hSi (by rw [e38]; exact hki) (v := some (.int (1 : Int32))) (fun h => by rw [Bd.returns] at h; cases h)
        exact ⟨_, _, retN X38 hx (t := .boolean) Bd.returns (by simp) (hb hby at_200) hr, hrun, hended, hP _ _ ⟨_, _, rfl, ⟨(congrArg (fun z => some (Value.int z)) hv39), N38⟩, ⟨_, rfl⟩, hEnd.2.1, hEnd.2.2.1, hEnd.2.2.2.mono (by decide) (by decide)⟩⟩

set_option maxRecDepth 65536 in
set_option maxHeartbeats 40000000 in
theorem comes_1 {Post : Tables → Env → Array Value → State → Outcome → State → Prop} (hpost : ∀ tb e args s v u, (limb_1_1.after args s (.returned v) u = true ∧ limb_1_2.after args s (.returned v) u = true ∧ True) → ReturnedEndW s (.returned v) u (Jvm.fieldLocs frame_1_writes args s ++ Jvm.arrayLocs frame_1_arrays args s ++ Jvm.staticLocs frame_1_statics s) 16 1152 → Post tb e args s (.returned v) u) :
    ArmFor flags0 classFile x code maxLocals ret World_1 tables_1 room_1 Calls_1 rest_1 Pre_1 Post := by
  intro l hfl _ _ p e ha hc hk s m args below hf hA hF happ hP
  obtain ⟨hcalls, hrest, hpre⟩ := hP
  obtain ⟨-, -, -, hnamed, -, -, -, hat⟩ := (Spec.applies_iff hf).mp happ
  obtain ⟨hg, hn⟩ := and_e (Cond.before_iff.mp (show (Jvm.Cond.and given_1 narrow_1).before args s = true from hpre))
  obtain ⟨hcnt, hg0⟩ := and_e hg
  obtain ⟨ga0, hg1⟩ := and_e hg0
  obtain ⟨ga1, hg2⟩ := and_e hg1
  obtain ⟨ga2, hg3⟩ := and_e hg2
  obtain ⟨ga3, hg4⟩ := and_e hg3
  obtain ⟨w0, w1, w2, w3, w4, rfl⟩ : ∃ w0 w1 w2 w3 w4 : Value, args = #[w0, w1, w2, w3, w4] := by
    have hs : args.size = 5 := by simpa [Cond.value, given_1] using hcnt
    obtain ⟨L⟩ := args
    match L, hs with
    | [w0, w1, w2, w3, w4], _ => exact ⟨w0, w1, w2, w3, w4, rfl⟩
  have hw := fun d (hd : d ∈ tables_1) => atoms_spec (ws := Jvm.Cond.code x code maxLocals ret :: tables_1) hat d (List.mem_cons_of_mem _ hd)
  have hfit : Fit s := fun {y c} hc i hi => by
    obtain ⟨ha, rfl⟩ := Array.getElem?_eq_some_iff.mp hc
    have q := List.all_eq_true.mp ((Array.all_eq_true_iff_forall_mem.mp hF) _ (Array.getElem_mem ha)) i (List.mem_range.mpr hi)
    simpa [Array.getElem?_eq_getElem hi] using q
  obtain ⟨i0, ei0⟩ := is_v ga0
  obtain rfl : w0 = (.int i0) := Option.some.inj ei0
  obtain ⟨i1, ei1⟩ := is_v ga1
  obtain rfl : w1 = (.int i1) := Option.some.inj ei1
  obtain ⟨i2, ei2⟩ := is_v ga2
  obtain rfl : w2 = (.int i2) := Option.some.inj ei2
  obtain ⟨i3, ei3⟩ := is_v ga3
  obtain rfl : w3 = (.int i3) := Option.some.inj ei3
  obtain ⟨i4, ei4⟩ := is_v hg4
  obtain rfl : w4 = (.int i4) := Option.some.inj ei4
  obtain ⟨k0, kr_0⟩ := and_e hn
  obtain ⟨k1, kr_1⟩ := and_e kr_0
  obtain ⟨k2, kr_2⟩ := and_e kr_1
  have k3 := kr_2
  obtain ⟨wD, eD, SD, ED⟩ := own_enum k0 (Or.inr ⟨(hw _ (List.mem_of_getElem? (i := 1) rfl)), (hw _ (List.mem_of_getElem? (i := 2) rfl))⟩)
  obtain ⟨wU, eU, SU, EU⟩ := own_enum k2 (Or.inr ⟨(hw _ (List.mem_of_getElem? (i := 1) rfl)), (hw _ (List.mem_of_getElem? (i := 24) rfl))⟩)
  have hne := own_ne (own_ord eD k1) (own_ord eU k3) (by decide)
  have OD := Fld.start (own_ord eD k1)
  have OU := Fld.start (own_ord eU k3)
  obtain ⟨n, o, h1, h2, h3, _, L, rfl, ⟨rfl, N⟩, hq⟩ := own_rm0 l s _ hw tables_1 i0 i1 i2 i3 i4 wD wU s.heap s.heap.size (Nat.le_refl _) SD SU ED EU OD OU hne p e ha hc hk s m _ below hf ((Spec.applies_iff_loose hf).mp happ).1 ⟨rfl, State.Warmed39.refl s, rfl⟩ trivial
  refine ⟨n, _, h1, h2, h3, hpost _ _ _ _ _ _ ⟨Cond.after_iff.mpr rfl, Cond.after_iff.mpr (eq_i res_at (Term.int_eval (1)) rfl), trivial⟩ ⟨hq.1, hq.2.1, hq.2.2.1, (hq.2.2.2.sift fun y hy => Or.inr (N y hy)).mono (by decide) (by decide)⟩⟩
theorem main_1_1 : Claimed_1_1 := comes_1 fun _ _ _ _ _ _ h hF => ⟨h.1, hF⟩
theorem main_1_2 : Claimed_1_2 := comes_1 fun _ _ _ _ _ _ h hF => ⟨h.2.1, hF⟩
end Jvm.Pilot.@@N@@
namespace Jvm.Pilot.@@N@@
open Jvm Jvm.ClassFile Sem Op Lib Jvm.Free Jvm.Stand Jvm.Pilot.@@N@@.Jvm.D
/-! MADE BY PROGRAM (witnessworld.py) out of the Statement's table words and the real class files: 18 classes; the members and pool entries that the words name. The judged class is class 1, her method 1. -/
namespace start1
open Jvm.ClassFile
def u (s : String) : CpInfo := .utf8 (stringToUtf16 s)
/-- a pool by its gaps: so many unusable entries, then the entry; so many at the end -/
def gap : Nat → List CpInfo → List CpInfo
  | 0, r => r
  | n + 1, r => .unusable :: gap n r
def poolList (es : List (Nat × CpInfo)) (last : Nat) : List CpInfo := es.foldr (fun e r => gap e.1 (e.2 :: r)) (gap last [])
def pool (es : List (Nat × CpInfo)) (last : Nat) : Array CpInfo := ⟨poolList es last⟩
def fileOf (pool : Array CpInfo) (this : Nat) (attrs : Array Attribute := #[]) (ms : Array MethodInfo := #[]) (fl : Nat := 33) (sup : Nat := 0) (ifs : Array Nat := #[]) (fds : Array FieldInfo := #[]) : ClassFile where
  minorVersion := 0
  majorVersion := 65
  constantPool := pool
  accessFlags := fl
  thisClass := this
  superClass := sup
  interfaces := ifs
  fields := fds
  methods := ms
  attributes := attrs
def plain (name : String) (sup : Option ClassId) : Class where
  name := name
  kind := .ordinary
  loader := none
  accessFlags := 33
  super := sup
  interfaces := #[]
  cf := none
  fields := #[]
  methods := #[]
  instanceTypes := #[]
  staticTypes := #[]
  resolved := #[]
  callSites := []
  init := .initialized
  statics := none
  mirror := none

def pool0 : Array CpInfo := pool [(5, u "<init>"), (0, u "()V"), (1, .class_ 10), (1, u "java/lang/Object")] 113

def k0c0 : Code := { maxStack := 0, maxLocals := 1, code := object_method_1_code, exceptionTable := #[], attributes := #[] }
def k0m0 : Method := { name := "<init>", desc := "()V", sig := { parameters := [], returnType := none }, accessFlags := 1, code := some k0c0 }
/-- java/lang/Object -/
def k0 : Class := { plain "java/lang/Object" none with
  accessFlags := 33
  interfaces := #[]
  cf := some (fileOf pool0 8 #[] #[{ accessFlags := 1, nameIndex := 5, descriptorIndex := 6, attributes := #[] }] 33 0 #[] #[])
  fields := #[]
  methods := #[k0m0]
  instanceTypes := #[]
  staticTypes := #[]
  resolved := Array.replicate 124 none
  statics := none }

def pool1 : Array CpInfo := pool [(2, .class_ 4), (1, u "java/lang/Object"), (0, u "<init>"), (0, u "()V"), (0, .fieldref 8 9), (0, .class_ 10), (0, .nameAndType 11 12), (0, u "com/example/lambdaloom/lambdaloom/ChannelModel"), (0, u "DIRECTED"), (0, u "Lcom/example/lambdaloom/lambdaloom/ChannelModel;"), (0, .fieldref 8 14), (0, .nameAndType 15 12), (0, u "UNDIRECTED"), (0, .integer 1073741823), (0, .methodref 8 18), (0, .nameAndType 19 20), (0, u "fibreCount"), (0, u "(I)I"), (0, .methodref 8 22), (0, .nameAndType 23 24), (0, u "sameFibresBothWays"), (0, u "()Z"), (0, .long 2), (1, .integer 2147483647), (0, .class_ 29), (0, u "com/example/lambdaloom/lambdaloom/Network$Link"), (0, .string 31), (0, u "l"), (0, .methodref 28 33), (0, .nameAndType 5 34), (0, u "(Ljava/lang/String;II)V"), (0, .methodref 8 36), (0, .nameAndType 37 38), (0, u "fibre"), (0, u "(Lcom/example/lambdaloom/lambdaloom/Network$Link;II)I"), (0, .methodref 40 41), (0, .class_ 42), (0, .nameAndType 43 44), (0, u "java/lang/Math"), (0, u "max"), (0, u "(II)I"), (0, .class_ 46), (0, u "com/example/lambdaloom/lambdaloom/ChannelModelFibreCountPinLaw"), (2, u "law"), (0, u "(IIIII)Z")] 7

def k1m0 : Method := { name := "<init>", desc := "()V", sig := { parameters := [], returnType := none }, accessFlags := 2, code := none }
def k1c1 : Code := { maxStack := 6, maxLocals := 17, code := code, exceptionTable := #[], attributes := #[] }
def k1m1 : Method := { name := "law", desc := "(IIIII)Z", sig := { parameters := [.int, .int, .int, .int, .int], returnType := some .boolean }, accessFlags := 9, code := some k1c1 }
/-- com/example/lambdaloom/lambdaloom/ChannelModelFibreCountPinLaw -/
def k1 : Class := { plain "com/example/lambdaloom/lambdaloom/ChannelModelFibreCountPinLaw" (some 0) with
  accessFlags := 49
  interfaces := #[]
  cf := some (fileOf pool1 45 #[] #[{ accessFlags := 2, nameIndex := 5, descriptorIndex := 6, attributes := #[] }, { accessFlags := 9, nameIndex := 49, descriptorIndex := 50, attributes := #[] }] 49 2 #[] #[])
  fields := #[]
  methods := #[k1m0, k1m1]
  instanceTypes := #[]
  staticTypes := #[]
  resolved := Array.replicate 58 none
  statics := none }

def pool2 : Array CpInfo := pool [(1, .class_ 2), (0, u "java/lang/constant/Constable"), (0, .class_ 4), (0, u "java/lang/Object")] 6

/-- java/lang/constant/Constable -/
def k2 : Class := { plain "java/lang/constant/Constable" (some 0) with
  accessFlags := 1537
  interfaces := #[]
  cf := some (fileOf pool2 1 #[] #[] 1537 3 #[] #[])
  fields := #[]
  methods := #[]
  instanceTypes := #[]
  staticTypes := #[]
  resolved := Array.replicate 11 none
  statics := none }

def pool3 : Array CpInfo := pool [(1, .class_ 2), (0, u "java/lang/Comparable"), (0, .class_ 4), (0, u "java/lang/Object")] 7

/-- java/lang/Comparable -/
def k3 : Class := { plain "java/lang/Comparable" (some 0) with
  accessFlags := 1537
  interfaces := #[]
  cf := some (fileOf pool3 1 #[] #[] 1537 3 #[] #[])
  fields := #[]
  methods := #[]
  instanceTypes := #[]
  staticTypes := #[]
  resolved := Array.replicate 12 none
  statics := none }

def pool4 : Array CpInfo := pool [(1, .class_ 2), (0, u "java/io/Serializable"), (0, .class_ 4), (0, u "java/lang/Object")] 2

/-- java/io/Serializable -/
def k4 : Class := { plain "java/io/Serializable" (some 0) with
  accessFlags := 1537
  interfaces := #[]
  cf := some (fileOf pool4 1 #[] #[] 1537 3 #[] #[])
  fields := #[]
  methods := #[]
  instanceTypes := #[]
  staticTypes := #[]
  resolved := Array.replicate 7 none
  statics := none }

def pool5 : Array CpInfo := pool [(2, .class_ 4), (1, u "java/lang/Enum"), (0, u "name"), (0, u "Ljava/lang/String;"), (0, .fieldref 2 8), (0, .nameAndType 9 10), (0, u "ordinal"), (0, u "I"), (1, .class_ 14), (1, u "java/lang/Object"), (4, u "hash"), (86, .class_ 108), (1, u "java/lang/Enum$EnumDesc"), (2, .class_ 112), (0, u "java/lang/constant/Constable"), (0, .class_ 114), (0, u "java/lang/Comparable"), (0, .class_ 116), (0, u "java/io/Serializable"), (9, u "()I")] 77

def k5c0 : Code := { maxStack := 1, maxLocals := 1, code := jdk_37_method_2_code, exceptionTable := #[], attributes := #[] }
def k5m0 : Method := { name := "ordinal", desc := "()I", sig := { parameters := [], returnType := some .int }, accessFlags := 17, code := some k5c0 }
/-- java/lang/Enum -/
def k5 : Class := { plain "java/lang/Enum" (some 0) with
  accessFlags := 1057
  interfaces := #[2, 3, 4]
  cf := some (fileOf pool5 2 #[.nestMembers #[106]] #[{ accessFlags := 17, nameIndex := 9, descriptorIndex := 126, attributes := #[] }] 1057 12 #[111, 113, 115] #[{ accessFlags := 18, nameIndex := 5, descriptorIndex := 6, attributes := #[] }, { accessFlags := 18, nameIndex := 9, descriptorIndex := 10, attributes := #[] }, { accessFlags := 2, nameIndex := 19, descriptorIndex := 10, attributes := #[] }])
  fields := #[{ name := "name", type := (.object "java/lang/String"), accessFlags := 18, slot := 0, constantValue := 0 }, { name := "ordinal", type := .int, accessFlags := 18, slot := 1, constantValue := 0 }, { name := "hash", type := .int, accessFlags := 2, slot := 2, constantValue := 0 }]
  methods := #[k5m0]
  instanceTypes := #[(.object "java/lang/String"), .int, .int]
  staticTypes := #[]
  resolved := Array.replicate 204 none
  statics := none }

def pool6 : Array CpInfo := pool [(1, .class_ 2), (0, u "com/example/lambdaloom/lambdaloom/ChannelModel"), (2, u "DIRECTED"), (0, u "Lcom/example/lambdaloom/lambdaloom/ChannelModel;"), (0, .fieldref 1 8), (0, .nameAndType 9 6), (0, u "UNDIRECTED"), (2, u "$VALUES"), (0, u "[Lcom/example/lambdaloom/lambdaloom/ChannelModel;"), (6, .class_ 22), (1, u "java/lang/Enum"), (12, .methodref 1 36), (0, .nameAndType 37 38), (0, u "ordinal"), (0, u "()I"), (5, .methodref 45 46), (0, .class_ 47), (0, .nameAndType 48 38), (0, u "com/example/lambdaloom/lambdaloom/Network$Link"), (0, u "source"), (27, u "fibre"), (0, u "(Lcom/example/lambdaloom/lambdaloom/Network$Link;II)I"), (15, u "sameFibresBothWays"), (0, u "()Z"), (1, u "fibreCount"), (0, u "(I)I")] 11

def k6c0 : Code := { maxStack := 2, maxLocals := 1, code := prog_3_method_5_code, exceptionTable := #[], attributes := #[] }
def k6m0 : Method := { name := "sameFibresBothWays", desc := "()Z", sig := { parameters := [], returnType := some .boolean }, accessFlags := 0, code := some k6c0 }
def k6c1 : Code := { maxStack := 4, maxLocals := 2, code := prog_3_method_6_code, exceptionTable := #[], attributes := #[] }
def k6m1 : Method := { name := "fibreCount", desc := "(I)I", sig := { parameters := [.int], returnType := some .int }, accessFlags := 0, code := some k6c1 }
def k6c2 : Code := { maxStack := 4, maxLocals := 4, code := prog_3_method_7_code, exceptionTable := #[], attributes := #[] }
def k6m2 : Method := { name := "fibre", desc := "(Lcom/example/lambdaloom/lambdaloom/Network$Link;II)I", sig := { parameters := [(.object "com/example/lambdaloom/lambdaloom/Network$Link"), .int, .int], returnType := some .int }, accessFlags := 0, code := some k6c2 }
/-- com/example/lambdaloom/lambdaloom/ChannelModel -/
def k6 : Class := { plain "com/example/lambdaloom/lambdaloom/ChannelModel" (some 5) with
  accessFlags := 16432
  interfaces := #[]
  cf := some (fileOf pool6 1 #[] #[{ accessFlags := 0, nameIndex := 93, descriptorIndex := 94, attributes := #[] }, { accessFlags := 0, nameIndex := 96, descriptorIndex := 97, attributes := #[] }, { accessFlags := 0, nameIndex := 76, descriptorIndex := 77, attributes := #[] }] 16432 20 #[] #[{ accessFlags := 16409, nameIndex := 5, descriptorIndex := 6, attributes := #[] }, { accessFlags := 16409, nameIndex := 9, descriptorIndex := 6, attributes := #[] }, { accessFlags := 4122, nameIndex := 12, descriptorIndex := 13, attributes := #[] }])
  fields := #[{ name := "DIRECTED", type := (.object "com/example/lambdaloom/lambdaloom/ChannelModel"), accessFlags := 16409, slot := 0, constantValue := 0 }, { name := "UNDIRECTED", type := (.object "com/example/lambdaloom/lambdaloom/ChannelModel"), accessFlags := 16409, slot := 1, constantValue := 0 }, { name := "$VALUES", type := (.array (.object "com/example/lambdaloom/lambdaloom/ChannelModel")), accessFlags := 4122, slot := 2, constantValue := 0 }]
  methods := #[k6m0, k6m1, k6m2]
  instanceTypes := #[(.object "java/lang/String"), .int, .int]
  staticTypes := #[(.object "com/example/lambdaloom/lambdaloom/ChannelModel"), (.object "com/example/lambdaloom/lambdaloom/ChannelModel"), (.array (.object "com/example/lambdaloom/lambdaloom/ChannelModel"))]
  resolved := Array.replicate 109 none
  statics := some 0 }

def pool7 : Array CpInfo := pool [(1, .methodref 2 3), (0, .class_ 4), (0, .nameAndType 5 6), (0, u "java/lang/Object"), (0, u "<init>"), (0, u "()V"), (0, .class_ 8), (0, u "java/lang/Record")] 13

def k7c0 : Code := { maxStack := 1, maxLocals := 1, code := jdk_30_method_1_code, exceptionTable := #[], attributes := #[] }
def k7m0 : Method := { name := "<init>", desc := "()V", sig := { parameters := [], returnType := none }, accessFlags := 4, code := some k7c0 }
/-- java/lang/Record -/
def k7 : Class := { plain "java/lang/Record" (some 0) with
  accessFlags := 1057
  interfaces := #[]
  cf := some (fileOf pool7 7 #[] #[{ accessFlags := 4, nameIndex := 5, descriptorIndex := 6, attributes := #[] }] 1057 2 #[] #[])
  fields := #[]
  methods := #[k7m0]
  instanceTypes := #[]
  staticTypes := #[]
  resolved := Array.replicate 22 none
  statics := none }

def pool8 : Array CpInfo := pool [(1, .methodref 2 3), (0, .class_ 4), (0, .nameAndType 5 6), (0, u "java/lang/Record"), (0, u "<init>"), (0, u "()V"), (0, .fieldref 8 9), (0, .class_ 10), (0, .nameAndType 11 12), (0, u "com/example/lambdaloom/lambdaloom/Network$Link"), (0, u "id"), (0, u "Ljava/lang/String;"), (0, .fieldref 8 14), (0, .nameAndType 15 16), (0, u "source"), (0, u "I"), (0, .fieldref 8 18), (0, .nameAndType 19 16), (0, u "target"), (12, u "(Ljava/lang/String;II)V"), (4, u "()I"), (4, .class_ 43), (0, u "com/example/lambdaloom/lambdaloom/Network")] 21

def k8c0 : Code := { maxStack := 2, maxLocals := 4, code := prog_15_method_1_code, exceptionTable := #[], attributes := #[] }
def k8m0 : Method := { name := "<init>", desc := "(Ljava/lang/String;II)V", sig := { parameters := [(.object "java/lang/String"), .int, .int], returnType := none }, accessFlags := 0, code := some k8c0 }
def k8c1 : Code := { maxStack := 1, maxLocals := 1, code := prog_15_method_6_code, exceptionTable := #[], attributes := #[] }
def k8m1 : Method := { name := "source", desc := "()I", sig := { parameters := [], returnType := some .int }, accessFlags := 1, code := some k8c1 }
/-- com/example/lambdaloom/lambdaloom/Network$Link -/
def k8 : Class := { plain "com/example/lambdaloom/lambdaloom/Network$Link" (some 7) with
  accessFlags := 48
  interfaces := #[]
  cf := some (fileOf pool8 8 #[.nestHost 42] #[{ accessFlags := 0, nameIndex := 5, descriptorIndex := 32, attributes := #[] }, { accessFlags := 1, nameIndex := 15, descriptorIndex := 37, attributes := #[] }] 48 2 #[] #[{ accessFlags := 18, nameIndex := 11, descriptorIndex := 12, attributes := #[] }, { accessFlags := 18, nameIndex := 15, descriptorIndex := 16, attributes := #[] }, { accessFlags := 18, nameIndex := 19, descriptorIndex := 16, attributes := #[] }])
  fields := #[{ name := "id", type := (.object "java/lang/String"), accessFlags := 18, slot := 0, constantValue := 0 }, { name := "source", type := .int, accessFlags := 18, slot := 1, constantValue := 0 }, { name := "target", type := .int, accessFlags := 18, slot := 2, constantValue := 0 }]
  methods := #[k8m0, k8m1]
  instanceTypes := #[(.object "java/lang/String"), .int, .int]
  staticTypes := #[]
  resolved := Array.replicate 65 none
  statics := none }

def pool9 : Array CpInfo := pool [(2, .class_ 4), (1, u "java/lang/CharSequence"), (42, .class_ 48), (0, u "java/lang/CharSequence$1CodePointIterator"), (10, .class_ 60), (0, u "java/lang/CharSequence$1CharIterator"), (5, .class_ 67), (0, u "java/lang/Object")] 63

/-- java/lang/CharSequence -/
def k9 : Class := { plain "java/lang/CharSequence" (some 0) with
  accessFlags := 1537
  interfaces := #[]
  cf := some (fileOf pool9 2 #[.nestMembers #[47, 59]] #[] 1537 66 #[] #[])
  fields := #[]
  methods := #[]
  instanceTypes := #[]
  staticTypes := #[]
  resolved := Array.replicate 131 none
  statics := none }

def pool10 : Array CpInfo := pool [(1, .class_ 2), (0, u "java/lang/constant/ConstantDesc"), (0, .class_ 4), (0, u "java/lang/Object")] 32

/-- java/lang/constant/ConstantDesc -/
def k10 : Class := { plain "java/lang/constant/ConstantDesc" (some 0) with
  accessFlags := 1537
  interfaces := #[]
  cf := some (fileOf pool10 1 #[] #[] 1537 3 #[] #[])
  fields := #[]
  methods := #[]
  instanceTypes := #[]
  staticTypes := #[]
  resolved := Array.replicate 37 none
  statics := none }

def pool11 : Array CpInfo := pool [(2, .class_ 4), (1, u "java/lang/Object"), (0, u "<init>"), (0, u "()V"), (3, .class_ 12), (1, u "java/lang/String"), (0, u "value"), (0, u "[B"), (2, u "coder"), (0, u "B"), (2, u "hash"), (0, u "I"), (2, u "hashIsZero"), (0, u "Z"), (13, u "COMPACT_STRINGS"), (534, .class_ 576), (0, u "java/lang/CharSequence"), (22, u "CASE_INSENSITIVE_ORDER"), (0, u "Ljava/util/Comparator;"), (500, u "serialPersistentFields"), (0, u "[Ljava/io/ObjectStreamField;"), (0, .class_ 1104), (0, u "java/lang/String$CaseInsensitiveComparator"), (1, .class_ 1107), (0, u "java/io/Serializable"), (0, .class_ 1109), (0, u "java/lang/Comparable"), (0, .class_ 1111), (0, u "java/lang/constant/Constable"), (0, .class_ 1113), (0, u "java/lang/constant/ConstantDesc"), (2, u "serialVersionUID"), (0, u "J"), (3, u "REPL"), (0, u "C"), (2, u "LATIN1"), (1, u "UTF16")] 323

def k11m0 : Method := { name := "<init>", desc := "()V", sig := { parameters := [], returnType := none }, accessFlags := 1, code := none }
/-- java/lang/String -/
def k11 : Class := { plain "java/lang/String" (some 0) with
  accessFlags := 49
  interfaces := #[4, 3, 9, 2, 10]
  cf := some (fileOf pool11 10 #[.nestMembers #[1103]] #[{ accessFlags := 1, nameIndex := 5, descriptorIndex := 6, attributes := #[] }] 49 2 #[1106, 1108, 575, 1110, 1112] #[{ accessFlags := 18, nameIndex := 13, descriptorIndex := 14, attributes := #[] }, { accessFlags := 18, nameIndex := 17, descriptorIndex := 18, attributes := #[] }, { accessFlags := 2, nameIndex := 21, descriptorIndex := 22, attributes := #[] }, { accessFlags := 2, nameIndex := 25, descriptorIndex := 26, attributes := #[] }, { accessFlags := 26, nameIndex := 1116, descriptorIndex := 1117, attributes := #[] }, { accessFlags := 24, nameIndex := 40, descriptorIndex := 26, attributes := #[] }, { accessFlags := 26, nameIndex := 1101, descriptorIndex := 1102, attributes := #[] }, { accessFlags := 26, nameIndex := 1121, descriptorIndex := 1122, attributes := #[] }, { accessFlags := 25, nameIndex := 599, descriptorIndex := 600, attributes := #[] }, { accessFlags := 24, nameIndex := 1125, descriptorIndex := 18, attributes := #[] }, { accessFlags := 24, nameIndex := 1127, descriptorIndex := 18, attributes := #[] }])
  fields := #[{ name := "value", type := (.array .byte), accessFlags := 18, slot := 0, constantValue := 0 }, { name := "coder", type := .byte, accessFlags := 18, slot := 1, constantValue := 0 }, { name := "hash", type := .int, accessFlags := 2, slot := 2, constantValue := 0 }, { name := "hashIsZero", type := .boolean, accessFlags := 2, slot := 3, constantValue := 0 }, { name := "serialVersionUID", type := .long, accessFlags := 26, slot := 0, constantValue := 0 }, { name := "COMPACT_STRINGS", type := .boolean, accessFlags := 24, slot := 1, constantValue := 0 }, { name := "serialPersistentFields", type := (.array (.object "java/io/ObjectStreamField")), accessFlags := 26, slot := 2, constantValue := 0 }, { name := "REPL", type := .char, accessFlags := 26, slot := 3, constantValue := 0 }, { name := "CASE_INSENSITIVE_ORDER", type := (.object "java/util/Comparator"), accessFlags := 25, slot := 4, constantValue := 0 }, { name := "LATIN1", type := .byte, accessFlags := 24, slot := 5, constantValue := 0 }, { name := "UTF16", type := .byte, accessFlags := 24, slot := 6, constantValue := 0 }]
  methods := #[k11m0]
  instanceTypes := #[(.array .byte), .byte, .int, .boolean]
  staticTypes := #[.long, .boolean, (.array (.object "java/io/ObjectStreamField")), .char, (.object "java/util/Comparator"), .byte, .byte]
  resolved := Array.replicate 1451 none
  statics := none }

def pool12 : Array CpInfo := pool [(1, .class_ 2), (0, u "java/lang/Math"), (1, .class_ 6), (1, u "java/lang/Object"), (0, u "<init>"), (0, u "()V"), (89, .class_ 100), (1, u "java/lang/Math$RandomNumberGeneratorHolder"), (71, u "negativeZeroFloatBits"), (0, u "J"), (2, u "negativeZeroDoubleBits"), (21, u "max"), (46, u "$assertionsDisabled"), (0, u "Z"), (88, u "(II)I"), (2, u "twoToTheDoubleScaleDown"), (0, u "D"), (4, u "twoToTheDoubleScaleUp"), (9, u "E"), (3, u "PI"), (2, u "TAU"), (2, u "DEGREES_TO_RADIANS"), (0, u "RADIANS_TO_DEGREES")] 94

def k12m0 : Method := { name := "<init>", desc := "()V", sig := { parameters := [], returnType := none }, accessFlags := 2, code := none }
def k12c1 : Code := { maxStack := 2, maxLocals := 2, code := jdk_29_method_65_code, exceptionTable := #[], attributes := #[] }
def k12m1 : Method := { name := "max", desc := "(II)I", sig := { parameters := [.int, .int], returnType := some .int }, accessFlags := 9, code := some k12c1 }
/-- java/lang/Math -/
def k12 : Class := { plain "java/lang/Math" (some 0) with
  accessFlags := 49
  interfaces := #[]
  cf := some (fileOf pool12 1 #[.nestMembers #[98]] #[{ accessFlags := 2, nameIndex := 7, descriptorIndex := 8, attributes := #[] }, { accessFlags := 9, nameIndex := 198, descriptorIndex := 335, attributes := #[] }] 49 4 #[] #[{ accessFlags := 25, nameIndex := 354, descriptorIndex := 339, attributes := #[] }, { accessFlags := 25, nameIndex := 358, descriptorIndex := 339, attributes := #[] }, { accessFlags := 25, nameIndex := 361, descriptorIndex := 339, attributes := #[] }, { accessFlags := 26, nameIndex := 364, descriptorIndex := 339, attributes := #[] }, { accessFlags := 26, nameIndex := 365, descriptorIndex := 339, attributes := #[] }, { accessFlags := 26, nameIndex := 172, descriptorIndex := 173, attributes := #[] }, { accessFlags := 26, nameIndex := 176, descriptorIndex := 173, attributes := #[] }, { accessFlags := 8, nameIndex := 344, descriptorIndex := 339, attributes := #[] }, { accessFlags := 8, nameIndex := 338, descriptorIndex := 339, attributes := #[] }, { accessFlags := 4120, nameIndex := 245, descriptorIndex := 246, attributes := #[] }])
  fields := #[{ name := "E", type := .double, accessFlags := 25, slot := 0, constantValue := 0 }, { name := "PI", type := .double, accessFlags := 25, slot := 1, constantValue := 0 }, { name := "TAU", type := .double, accessFlags := 25, slot := 2, constantValue := 0 }, { name := "DEGREES_TO_RADIANS", type := .double, accessFlags := 26, slot := 3, constantValue := 0 }, { name := "RADIANS_TO_DEGREES", type := .double, accessFlags := 26, slot := 4, constantValue := 0 }, { name := "negativeZeroFloatBits", type := .long, accessFlags := 26, slot := 5, constantValue := 0 }, { name := "negativeZeroDoubleBits", type := .long, accessFlags := 26, slot := 6, constantValue := 0 }, { name := "twoToTheDoubleScaleUp", type := .double, accessFlags := 8, slot := 7, constantValue := 0 }, { name := "twoToTheDoubleScaleDown", type := .double, accessFlags := 8, slot := 8, constantValue := 0 }, { name := "$assertionsDisabled", type := .boolean, accessFlags := 4120, slot := 9, constantValue := 0 }]
  methods := #[k12m0, k12m1]
  instanceTypes := #[]
  staticTypes := #[.double, .double, .double, .double, .double, .long, .long, .double, .double, .boolean]
  resolved := Array.replicate 460 none
  statics := none }

def pool13 : Array CpInfo := pool [(1, u "java/lang/Cloneable"), (0, .class_ 1), (0, u "java/lang/Object"), (0, .class_ 3)] 3

/-- java/lang/Cloneable -/
def k13 : Class := { plain "java/lang/Cloneable" (some 0) with
  accessFlags := 1537
  interfaces := #[]
  cf := some (fileOf pool13 2 #[] #[] 1537 4 #[] #[])
  fields := #[]
  methods := #[]
  instanceTypes := #[]
  staticTypes := #[]
  resolved := Array.replicate 8 none
  statics := none }

/-- the primitive byte -/
def k14 : Class := { plain "byte" none with kind := .primitive 'B', accessFlags := 0x411 }
/-- [B -/
def k15 : Class := { plain "[B" (some 0) with kind := .array 14 .byte, interfaces := #[13, 4], accessFlags := 1041 }

/-- the primitive int -/
def k16 : Class := { plain "int" none with kind := .primitive 'I', accessFlags := 0x411 }
/-- [I -/
def k17 : Class := { plain "[I" (some 0) with kind := .array 16 .int, interfaces := #[13, 4], accessFlags := 1041 }

def heap : Heap := #[{ cls := 6, slots := #[.ref 1, .ref 2, .null], vm := .statics 6 },
  { cls := 6, slots := #[.null, .int 0, .int 0], vm := .none },
  { cls := 6, slots := #[.null, .int 1, .int 0], vm := .none }]
def classes : Array Class := #[k0, k1, k2, k3, k4, k5, k6, k7, k8, k9, k10, k11, k12, k13, k14, k15, k16, k17]
def interned : List (Array UInt16 × Addr) := []
def slotsUsed : Nat := 9
def theMethod : MethodId := ⟨1, 1⟩
def args0 : Array Value := #[.int 5, .int 5, .int 5, .int 5, .int 5]
def aboutOver (below : List Frame) : State where
  vm := { classes := classes, interned := interned.toArray }
  heap := heap
  slotsUsed := slotsUsed
  threads := #[{ frames := .invoking theMethod args0 :: below }]
def below0 : List Frame := [.native { method := ⟨0, 0⟩, args := #[] }]
def about1 : State := aboutOver below0
def p0 : Program := .bare "" "" ""
def e0 : Env := launch0.env 0 0 0
theorem w_frames : about1.frames = Frame.invoking theMethod args0 :: below0 := rfl
set_option maxRecDepth 65536 in
theorem w_args : argsFit about1.vm theMethod args0 = true := by decide +kernel
set_option maxRecDepth 65536 in
theorem w_heap : heapFits about1 = true := by decide +kernel
set_option maxRecDepth 65536 in
theorem w_runnable : about1.curStatus? = some .runnable := by decide +kernel
set_option maxRecDepth 65536 in
theorem w_alone : about1.alone = true := by decide +kernel
set_option maxRecDepth 65536 in
theorem w_named : about1.methodNamed? x = some theMethod := by decide +kernel
set_option maxRecDepth 65536 in
theorem w_hears : about1.hears theMethod below0 = true := by decide +kernel
set_option maxRecDepth 65536 in
theorem w_ripe : about1.ripe theMethod args0 below0 = true := by decide +kernel
theorem w_running : about1.status = .running := rfl
set_option maxRecDepth 65536 in
theorem w_room : about1.hasRoom e0.platform room_1 = true :=
  launch0.hasRoom_least _ room_1 (by decide +kernel) (by decide +kernel) (by decide +kernel) (by decide +kernel) (by decide +kernel) (by decide +kernel)
theorem allAtoms_all (ts : List Jvm.Cond) (a : Array Jvm.Value) (st : Jvm.State) : (allAtoms ts).before a st = ts.all (fun c => c.before a st) := by
  induction ts with
  | nil => rfl
  | cons c t ih =>
    show (Jvm.Cond.and c (allAtoms t)).before a st = _
    rw [Jvm.Cond.before_and, ih, List.all_cons]
def words1 : List Jvm.Cond := Jvm.Cond.code x code maxLocals ret :: tables_1
/-- a 'code' word, met by the world's own term for the bytes: nothing is compared byte by byte -/
theorem code_word {y : MethodName} {bytes : ByteArray} {mx : Nat} {rt : Option FieldType} {a : Array Value} {s : State} {m : MethodId} {meth : Method} {c : Code} (h1 : s.methodNamed? y = some m) (h2 : s.vm.method? m = some meth) (h3 : meth.code = some c) (h4 : c.code = bytes)
    (h5 : (c.maxLocals == mx && c.exceptionTable.isEmpty && decide (c.maxStack ≤ mostOperands) && decide (meth.sig.returnType = rt) && !meth.locks && decide (parseMethodDescriptor y.desc = some meth.sig)) = true) : (Jvm.Cond.code y bytes mx rt).before a s = true := by
  simp only [Bool.and_eq_true, beq_iff_eq, Bool.not_eq_true', decide_eq_true_eq] at h5
  obtain ⟨⟨⟨⟨⟨g1, g2⟩, g3⟩, g4⟩, g5⟩, g6⟩ := h5
  simp [Cond.before, Cond.holds, Cond.value, h1, h2, h3, h4, g1, g2, g3, g4, g5, g6]
def isCode : Jvm.Cond → Bool
  | .code _ _ _ _ => true
  | _ => false
theorem all_split {L : List Jvm.Cond} {P : Jvm.Cond → Bool} (h1 : L.all (fun c => isCode c || P c) = true) (h2 : ∀ c ∈ L.filter isCode, P c = true) : L.all P = true := by
  refine List.all_eq_true.mpr fun c hc => ?_
  have h := List.all_eq_true.mp h1 c hc
  rcases Bool.eq_false_or_eq_true (isCode c) with hi | hi
  · exact h2 c (List.mem_filter.mpr ⟨hc, hi⟩)
  · simpa [hi] using h
set_option maxRecDepth 65536 in
theorem w_c0 : (Jvm.Cond.code x code maxLocals ret).before args0 about1 = true := code_word (m := ⟨1, 1⟩) (meth := k1m1) (c := k1c1) (by decide +kernel) rfl rfl rfl (by decide +kernel)
set_option maxRecDepth 65536 in
theorem w_c1 : (Jvm.Cond.code ({ cls := "com/example/lambdaloom/lambdaloom/ChannelModel", name := "fibreCount", desc := "(I)I" } : Jvm.MethodName) prog_3_method_6_code (2 : Nat) (Option.some Jvm.ClassFile.FieldType.int)).before args0 about1 = true := code_word (m := ⟨6, 1⟩) (meth := k6m1) (c := k6c1) (by decide +kernel) rfl rfl rfl (by decide +kernel)
set_option maxRecDepth 65536 in
theorem w_c2 : (Jvm.Cond.code ({ cls := "java/lang/Enum", name := "ordinal", desc := "()I" } : Jvm.MethodName) jdk_37_method_2_code (1 : Nat) (Option.some Jvm.ClassFile.FieldType.int)).before args0 about1 = true := code_word (m := ⟨5, 0⟩) (meth := k5m0) (c := k5c0) (by decide +kernel) rfl rfl rfl (by decide +kernel)
set_option maxRecDepth 65536 in
theorem w_c3 : (Jvm.Cond.code ({ cls := "com/example/lambdaloom/lambdaloom/ChannelModel", name := "sameFibresBothWays", desc := "()Z" } : Jvm.MethodName) prog_3_method_5_code (1 : Nat) (Option.some Jvm.ClassFile.FieldType.boolean)).before args0 about1 = true := code_word (m := ⟨6, 0⟩) (meth := k6m0) (c := k6c0) (by decide +kernel) rfl rfl rfl (by decide +kernel)
set_option maxRecDepth 65536 in
theorem w_c4 : (Jvm.Cond.code ({ cls := "com/example/lambdaloom/lambdaloom/Network$Link", name := "<init>", desc := "(Ljava/lang/String;II)V" } : Jvm.MethodName) prog_15_method_1_code (4 : Nat) (Option.none : Option Jvm.ClassFile.FieldType)).before args0 about1 = true := code_word (m := ⟨8, 0⟩) (meth := k8m0) (c := k8c0) (by decide +kernel) rfl rfl rfl (by decide +kernel)
set_option maxRecDepth 65536 in
theorem w_c5 : (Jvm.Cond.code ({ cls := "java/lang/Record", name := "<init>", desc := "()V" } : Jvm.MethodName) jdk_30_method_1_code (1 : Nat) (Option.none : Option Jvm.ClassFile.FieldType)).before args0 about1 = true := code_word (m := ⟨7, 0⟩) (meth := k7m0) (c := k7c0) (by decide +kernel) rfl rfl rfl (by decide +kernel)
set_option maxRecDepth 65536 in
theorem w_c6 : (Jvm.Cond.code ({ cls := "java/lang/Object", name := "<init>", desc := "()V" } : Jvm.MethodName) object_method_1_code (1 : Nat) (Option.none : Option Jvm.ClassFile.FieldType)).before args0 about1 = true := code_word (m := ⟨0, 0⟩) (meth := k0m0) (c := k0c0) (by decide +kernel) rfl rfl rfl (by decide +kernel)
set_option maxRecDepth 65536 in
theorem w_c7 : (Jvm.Cond.code ({ cls := "com/example/lambdaloom/lambdaloom/ChannelModel", name := "fibre", desc := "(Lcom/example/lambdaloom/lambdaloom/Network$Link;II)I" } : Jvm.MethodName) prog_3_method_7_code (4 : Nat) (Option.some Jvm.ClassFile.FieldType.int)).before args0 about1 = true := code_word (m := ⟨6, 2⟩) (meth := k6m2) (c := k6c2) (by decide +kernel) rfl rfl rfl (by decide +kernel)
set_option maxRecDepth 65536 in
theorem w_c8 : (Jvm.Cond.code ({ cls := "com/example/lambdaloom/lambdaloom/Network$Link", name := "source", desc := "()I" } : Jvm.MethodName) prog_15_method_6_code (1 : Nat) (Option.some Jvm.ClassFile.FieldType.int)).before args0 about1 = true := code_word (m := ⟨8, 1⟩) (meth := k8m1) (c := k8c1) (by decide +kernel) rfl rfl rfl (by decide +kernel)
set_option maxRecDepth 65536 in
theorem w_c9 : (Jvm.Cond.code ({ cls := "java/lang/Math", name := "max", desc := "(II)I" } : Jvm.MethodName) jdk_29_method_65_code (2 : Nat) (Option.some Jvm.ClassFile.FieldType.int)).before args0 about1 = true := code_word (m := ⟨12, 1⟩) (meth := k12m1) (c := k12c1) (by decide +kernel) rfl rfl rfl (by decide +kernel)
def codes1 : List Jvm.Cond := [Jvm.Cond.code x code maxLocals ret, Jvm.Cond.code ({ cls := "com/example/lambdaloom/lambdaloom/ChannelModel", name := "fibreCount", desc := "(I)I" } : Jvm.MethodName) prog_3_method_6_code (2 : Nat) (Option.some Jvm.ClassFile.FieldType.int), Jvm.Cond.code ({ cls := "java/lang/Enum", name := "ordinal", desc := "()I" } : Jvm.MethodName) jdk_37_method_2_code (1 : Nat) (Option.some Jvm.ClassFile.FieldType.int), Jvm.Cond.code ({ cls := "com/example/lambdaloom/lambdaloom/ChannelModel", name := "sameFibresBothWays", desc := "()Z" } : Jvm.MethodName) prog_3_method_5_code (1 : Nat) (Option.some Jvm.ClassFile.FieldType.boolean), Jvm.Cond.code ({ cls := "com/example/lambdaloom/lambdaloom/Network$Link", name := "<init>", desc := "(Ljava/lang/String;II)V" } : Jvm.MethodName) prog_15_method_1_code (4 : Nat) (Option.none : Option Jvm.ClassFile.FieldType), Jvm.Cond.code ({ cls := "java/lang/Record", name := "<init>", desc := "()V" } : Jvm.MethodName) jdk_30_method_1_code (1 : Nat) (Option.none : Option Jvm.ClassFile.FieldType), Jvm.Cond.code ({ cls := "java/lang/Object", name := "<init>", desc := "()V" } : Jvm.MethodName) object_method_1_code (1 : Nat) (Option.none : Option Jvm.ClassFile.FieldType), Jvm.Cond.code ({ cls := "com/example/lambdaloom/lambdaloom/ChannelModel", name := "fibre", desc := "(Lcom/example/lambdaloom/lambdaloom/Network$Link;II)I" } : Jvm.MethodName) prog_3_method_7_code (4 : Nat) (Option.some Jvm.ClassFile.FieldType.int), Jvm.Cond.code ({ cls := "com/example/lambdaloom/lambdaloom/Network$Link", name := "source", desc := "()I" } : Jvm.MethodName) prog_15_method_6_code (1 : Nat) (Option.some Jvm.ClassFile.FieldType.int), Jvm.Cond.code ({ cls := "java/lang/Math", name := "max", desc := "(II)I" } : Jvm.MethodName) jdk_29_method_65_code (2 : Nat) (Option.some Jvm.ClassFile.FieldType.int)]
set_option maxRecDepth 65536 in
theorem codes_eq : words1.filter isCode = codes1 := rfl
theorem w_codes : ∀ c ∈ words1.filter isCode, c.before args0 about1 = true := by
  rw [codes_eq]
  intro c hc
  simp only [codes1, List.mem_cons, List.not_mem_nil, or_false] at hc
  rcases hc with rfl | rfl | rfl | rfl | rfl | rfl | rfl | rfl | rfl | rfl
  · exact w_c0
  · exact w_c1
  · exact w_c2
  · exact w_c3
  · exact w_c4
  · exact w_c5
  · exact w_c6
  · exact w_c7
  · exact w_c8
  · exact w_c9
set_option maxRecDepth 65536 in
theorem w_t1 : (words1.take 24).all (fun c => isCode c || c.before args0 about1) = true := by decide +kernel
set_option maxRecDepth 65536 in
theorem w_t2 : ((words1.drop 24).take 24).all (fun c => isCode c || c.before args0 about1) = true := by decide +kernel
set_option maxRecDepth 65536 in
theorem w_t3 : ((words1.drop 24).drop 24).all (fun c => isCode c || c.before args0 about1) = true := by decide +kernel
theorem w_tables : (allAtoms (Jvm.Cond.code x code maxLocals ret :: tables_1)).before args0 about1 = true := by
  rw [allAtoms_all]
  show words1.all (fun c => c.before args0 about1) = true
  refine all_split ?_ w_codes
  rw [← List.take_append_drop 24 words1, List.all_append, w_t1, ← List.take_append_drop 24 (words1.drop 24), List.all_append, w_t2, w_t3]
  rfl
set_option maxRecDepth 65536 in
theorem w_case : (Jvm.Cond.and given_1 narrow_1).before args0 about1 = true := by decide +kernel
theorem w_applies : (headSpec (Jvm.Cond.code x code maxLocals ret :: tables_1) room_1).applies x e0.platform about1 = true :=
  (Spec.applies_iff w_frames).mpr ⟨w_running, w_runnable, w_alone, w_named, w_hears, w_ripe, w_room, w_tables⟩
theorem atStart : AtStart classFile x code maxLocals ret World_1 tables_1 room_1 Calls_1 rest_1 Pre_1 launch0 p0 e0 about1 theMethod args0 below0 :=
  ⟨lists_1, trivial, launch0.admits_env _ _ _, launch0.least_env, fairChoices_fair.cas, fairChoices_fair.clock, w_frames, w_args, w_heap, w_applies, trivial, trivial, w_case⟩
end start1
theorem witness_1 : WitnessClaimed_1 := ⟨start1.p0, start1.e0, start1.about1, start1.theMethod, start1.args0, start1.below0, start1.atStart⟩
end Jvm.Pilot.@@N@@
