import JvmDerived
import JvmDerived.Pilot.@@N@@Statement
import JvmDerived.Pilot.@@N@@Code
set_option linter.unusedVariables false
set_option linter.unusedSimpArgs false
@@BLOCK:NumsL.lean.txt@@
namespace Jvm.RoadKit
open Sem ClassFile Op Lib Jvm.Stand Jvm.Free Jvm.LawKit
section New
variable {p : Program} {l : Launch} {e : Env} {R : Room} {s : State} {m : MethodId} {args : Array Value} {below : List Frame} {meth : Method} {c : Code} {T : State} {locs : List Loc} {cells slots : Nat}
theorem retI (X : Stand p l e R s m args below meth c T locs cells slots) (hx : p.tables.exec = Jvm.exec) {pc : Nat} {Ls : Array Slot} {z : Int32} {rest : List Value} (hret : meth.sig.returnType = some .int) (hd : decode c.code pc = .ok (.ireturn, 1)) {fs : List Frame}
    (hl : ∀ (f : JFrame) (acts : List Action), f.method = m → f.locked = none → f.entered = [] → (doReturn e (T.setTop f) acts (some (.int z))).1 = T.setFrames fs) : Steps p.tables e below (T.setTop (mkF m pc Ls (.int z :: rest))) (T.setFrames fs) := by
  have hm' : T.vm.method? m = some meth := X.method'
  have hn : narrow .int (.int z) = .int z := rfl
  show Steps p.tables e below (T.setTop { method := m, pc := pc, locals := Ls, stack := _ :: rest, locked := none }) _
  jvm_step X.here [X.here.top, hx, hd, hm', hret, hn]
  first | (intro acts; rw [hl _ acts rfl rfl rfl]) | rw [hl _ _ rfl rfl rfl]
  exact Steps.refl _
end New
end Jvm.RoadKit
namespace Jvm.Pilot.@@N@@
open Jvm Jvm.ClassFile Sem Op Lib Jvm.Free Jvm.Stand Jvm.LawKit Jvm.RoadKit Bundle Jvm.Pilot.@@N@@.Jvm.D
/-! the rest of a run, from the state t on: it comes to an end of which P holds -/
def own_At (p : Program) (e : Env) (below : List Frame) (P : Outcome → State → Prop) (t : State) : Prop := ∃ s₂ o, Steps p.tables e below t s₂ ∧ s₂.status = .running ∧ Ended s₂ below o ∧ P o s₂
theorem own_body {p : Program} {e : Env} {below : List Frame} {P : Outcome → State → Prop} {t : State} (h : ∀ P' : Outcome → State → Prop, (∀ o u, P o u → P' o u) → own_At p e below P' t) : own_At p e below P t := h P fun _ _ q => q
theorem own_st {p : Program} {e : Env} {below : List Frame} {P : Outcome → State → Prop} {t t' : State} (h : ∀ target, Steps p.tables e below t' target → Steps p.tables e below t target) (k : own_At p e below P t') : own_At p e below P t := by
  obtain ⟨s₂, o, h1, h2⟩ := k
  exact ⟨s₂, o, h _ h1, h2⟩
theorem own_tr {p : Program} {e : Env} {below : List Frame} {P : Outcome → State → Prop} {t t' : State} (h : Steps p.tables e below t t') (k : own_At p e below P t') : own_At p e below P t := by
  obtain ⟨s₂, o, h1, h2⟩ := k
  exact ⟨s₂, o, h.trans h1, h2⟩
theorem own_sta {s : State} {a : Array Value} {C n d : String} {z : Int32} (h : (Jvm.Cond.eq (Jvm.Term.static C n d) (Jvm.Term.int z)).value a s none s [] = some true) (hi : (Cond.initializedFor C n d).before a s = true ∨ ((Cond.initialized C).before a s = true ∧ (Cond.laysStatic C n d).before a s = true)) : Sta s s.heap C n d (.int z) := Sta.start (eqv_i rfl h) hi
theorem own_staL {s : State} {a : Array Value} {C n d : String} {z : Int64} (h : (Jvm.Cond.eq (Jvm.Term.static C n d) (Jvm.Term.long z)).value a s none s [] = some true) (hi : (Cond.initializedFor C n d).before a s = true ∨ ((Cond.initialized C).before a s = true ∧ (Cond.laysStatic C n d).before a s = true)) : Sta s s.heap C n d (.long z) := Sta.start (eqv_l rfl h) hi
theorem own_enum {s : State} {a : Array Value} {C n d K : String} (h : (Jvm.Cond.exactly (Jvm.Term.static C n d) K).value a s none s [] = some true) (hi : (Cond.initializedFor C n d).before a s = true ∨ ((Cond.initialized C).before a s = true ∧ (Cond.laysStatic C n d).before a s = true)) : ∃ r : Addr, (Jvm.Term.static C n d).eval a s none [] s = some (.ref r) ∧ Sta s s.heap C n d (.ref r) ∧ Exa s s.heap r K := by
  obtain ⟨r, c', cell, k, e1, -⟩ := Cond.exactly_spec (Cond.before_iff.mpr h)
  exact ⟨r, e1, Sta.start e1 hi, Exa.start e1 h⟩
theorem own_ord {s : State} {a : Array Value} {t : Jvm.Term} {C n d : String} {r : Addr} {z : Int32} (e : t.eval a s none [] s = some (.ref r)) (h : (Jvm.Cond.eq (Jvm.Term.field t C n d) (Jvm.Term.int z)).value a s none s [] = some true) : s.fieldOf? r C n d = some (.int z) := by
  have q := eqv_i (F := Jvm.Term.int z) rfl h
  simpa [Term.eval, e] using q
theorem own_ne {s : State} {r r' : Addr} {C n d : String} {z z' : Int32} (h : s.fieldOf? r C n d = some (.int z)) (h' : s.fieldOf? r' C n d = some (.int z')) (q : z ≠ z') : r ≠ r' := fun e => by
  subst e
  exact q (Value.int.inj (Option.some.inj (h.symm.trans h')))

theorem own_staK {Z : State} {h h' : Heap} {C n d B : String} {w : Value} {x : Addr} (F : Sta Z h C n d w) (K : Keep h h' [x]) (E : Exa Z h x B) : Sta Z h' C n d w := by
  obtain ⟨cf, i, k, f, st, cell, h1, h2, h3, h4, h5, h6, h7⟩ := F
  obtain ⟨cb, kb, g1, -, -, g4, -⟩ := E
  have ne : st ≠ x := fun q => by
    subst q
    cases h5.symm.trans g1
    rw [h6] at g4; cases g4
  exact ⟨cf, i, k, f, st, cell, h1, h2, h3, h4, K.2.1 _ _ h5 (by simpa using ne), h6, h7⟩
theorem own_nin {a x : Addr} (h : a ≠ x) : a ∉ [x] := by simpa using h

theorem own_staK0 {Z : State} {h h' : Heap} {C n d : String} {w : Value} (F : Sta Z h C n d w) (K : Keep h h' []) : Sta Z h' C n d w := by
  obtain ⟨cf, i, k, f, st, cell, h1, h2, h3, h4, h5, h6, h7⟩ := F
  exact ⟨cf, i, k, f, st, cell, h1, h2, h3, h4, K.2.1 _ _ h5 (by simp), h6, h7⟩
theorem own_nin0 (a : Addr) : a ∉ ([] : List Addr) := by simp
theorem own_no {Z : State} {a0 : Array Value} {C N O K : String} {n : Nat} (w1 : (Jvm.Cond.superclass C N).before a0 Z = true) (w2 : (Jvm.Cond.superclass N O).before a0 Z = true) (w3 : (Jvm.Cond.noSuperclass O).before a0 Z = true) (wi : (Jvm.Cond.instantiable K n).before a0 Z = true) (n1 : C ≠ K) (n2 : N ≠ K) (n3 : O ≠ K) : ∃ c t, Z.vm.findClass C = some c ∧ Z.vm.findClass K = some t ∧ Z.vm.assignable c t = false := by
  obtain ⟨t, kt, g1, g2, g3, g4, -⟩ := Cond.instantiable_spec wi
  have g5 : kt.isInterface = false := by simp only [Bool.or_eq_false_iff] at g4; exact g4.1
  have r : NS Z O K := by
    obtain ⟨c, k, h1, h2, h3, -, -⟩ := Cond.noSuperclass_spec w3
    have ne := ids_ne h1 g1 n3
    refine ⟨c, t, h1, g1, fun fuel => ?_⟩
    cases fuel with
    | zero => rfl
    | succ f => simp [Vm.isSubclassAux, ne, h2, h3]
  obtain ⟨c, t', h0, g0, q⟩ := (r.step w2 n2).step w1 n1
  cases g1.symm.trans g0
  obtain ⟨p, k, kp, h1, h2, h3, h4, h5, -, h7⟩ := Cond.superclass_spec h0 w1
  have ne := ids_ne h0 g0 n1
  refine ⟨c, t, h0, g0, ?_⟩
  show Z.vm.assignableAux (255 + 1) c t = false
  simp [Vm.assignableAux, ne, h2, g2, h5, g3, g5, Vm.isSubclass, q]

theorem own_lc {a b : Int64} (h : a = b) : lcmpW a b = (0 : Int32) := by
  subst h
  simp [lcmpW, Int64.lt_irrefl]
theorem own_lcne {a : Int64} (h : ¬ lcmpW a (0 : Int64) = (0 : Int32)) : a ≠ 0 := fun e => h (own_lc e)
theorem own_clt {a b : Int64} : lcmpW a b < (0 : Int32) ↔ a.toInt < b.toInt := by
  show (if a > b then (1 : Int32) else if a = b then 0 else -1) < 0 ↔ _
  by_cases h : a > b
  · rw [if_pos h]
    have h' : b.toInt < a.toInt := Int64.lt_iff_toInt_lt.mp h
    exact ⟨fun q => absurd q (by decide), fun q => by omega⟩
  · rw [if_neg h]
    have h' : ¬ b.toInt < a.toInt := fun q => h (Int64.lt_iff_toInt_lt.mpr q)
    by_cases h2 : a = b
    · rw [if_pos h2]
      subst h2
      exact ⟨fun q => absurd q (by decide), fun q => by omega⟩
    · rw [if_neg h2]
      have h3 : a.toInt ≠ b.toInt := fun q => h2 (Int64.toInt_inj.mp q)
      exact ⟨fun _ => by omega, fun _ => by decide⟩
theorem own_cgt {a b : Int64} : (0 : Int32) < lcmpW a b ↔ b.toInt < a.toInt := by
  show 0 < (if a > b then (1 : Int32) else if a = b then 0 else -1) ↔ _
  by_cases h : a > b
  · rw [if_pos h]
    have h' : b.toInt < a.toInt := Int64.lt_iff_toInt_lt.mp h
    exact ⟨fun _ => h', fun _ => by decide⟩
  · rw [if_neg h]
    have h' : ¬ b.toInt < a.toInt := fun q => h (Int64.lt_iff_toInt_lt.mpr q)
    by_cases h2 : a = b
    · rw [if_pos h2]
      exact ⟨fun q => absurd q (by decide), fun q => absurd q h'⟩
    · rw [if_neg h2]
      exact ⟨fun q => absurd q (by decide), fun q => absurd q h'⟩
theorem own_ceq {a b : Int64} : lcmpW a b = (0 : Int32) ↔ a = b := by
  refine ⟨fun q => ?_, own_lc⟩
  have h1 : ¬ a.toInt < b.toInt := fun h => by have := own_clt.mpr h; rw [q] at this; exact absurd this (by decide)
  have h2 : ¬ b.toInt < a.toInt := fun h => by have := own_cgt.mpr h; rw [q] at this; exact absurd this (by decide)
  exact Int64.toInt_inj.mp (by omega)

def own_e (x1 x2 x3 x4 y1 y2 y3 y4 : Int64) : Int32 := if lcmpW y1 x1 = (0 : Int32) then (if lcmpW y2 x2 = (0 : Int32) then (if lcmpW y3 x3 = (0 : Int32) then (if lcmpW y4 x4 = (0 : Int32) then (1 : Int32) else (0 : Int32)) else (0 : Int32)) else (0 : Int32)) else (0 : Int32)
theorem own_self (x1 x2 x3 x4 : Int64) : ¬ (own_e x1 x2 x3 x4 x1 x2 x3 x4) = (0 : Int32) := by simp [own_e, own_ceq]
theorem own_sym {x1 x2 x3 x4 y1 y2 y3 y4 : Int64} {e : Int32} (h : e = own_e y1 y2 y3 y4 x1 x2 x3 x4) : own_e x1 x2 x3 x4 y1 y2 y3 y4 = e := by
  subst h
  simp only [own_e, own_ceq]
  by_cases c1 : x1 = y1 <;> by_cases c2 : x2 = y2 <;> by_cases c3 : x3 = y3 <;> by_cases c4 : x4 = y4 <;> simp [c1, c2, c3, c4, eq_comm]
theorem own_1 {a b : Int32} (h : a = b) : (if a = b then (1 : Int32) else (0 : Int32)) = (1 : Int32) := if_pos h

theorem own_k2 {k : Int32} (h : k = (2 : Int32)) : ¬ k < (2 : Int32) := by subst h; decide
theorem own_k3 {k : Int32} (h : k = (3 : Int32)) : ¬ k < (2 : Int32) := by subst h; decide

theorem own_len {s : State} {a : Array Value} {t : Jvm.Term} {r : Addr} {cl : Cell} {ty : FieldType} {z : Int32} (e : t.eval a s none [] s = some (.ref r)) (A : Arr s s.heap r cl ty) (h : (Jvm.Cond.eq (Jvm.Term.length t) (Jvm.Term.int z)).value a s none s [] = some true) : cl.slots.size < 2 ^ 31 ∧ cl.slots.size.toInt32 = z := by
  have q := eqv_i (F := Jvm.Term.int z) rfl h
  have w := A.fin (Vm.Alike.refl s.vm)
  by_cases hl : cl.slots.size < 2 ^ 31
  · rw [len_f e w hl] at q
    exact ⟨hl, Value.int.inj (Option.some.inj q)⟩
  · simp [Term.eval, e, w, hl] at q
theorem own_stat {s : State} {a : Array Value} {C n d : String} {v : Value} (e : (Jvm.Term.static C n d).eval a s none [] s = some v) (idx : List Nat) : (Jvm.Term.static C n d).eval a s none idx s = some v := e
theorem sub_f {s : State} {a : Array Value} {idx : List Nat} {t u : Jvm.Term} {x y : Int32} (ha : t.eval a s none idx s = some (.int x)) (hb : u.eval a s none idx s = some (.int y)) : (Jvm.Term.sub t u).eval a s none idx s = some (.int (x - y)) := by simp [Term.eval, ha, hb]

theorem own_cache {q : Int64} (c1 : ¬ lcmpW q (-128 : Int64) < (0 : Int32)) (c2 : ¬ (0 : Int32) < lcmpW q (127 : Int64)) : ¬ (q.toInt32 + (128 : Int32)) < 0 ∧ (q.toInt32 + (128 : Int32)) < (256 : Int32) := by
  rw [own_clt] at c1
  rw [own_cgt] at c2
  have l0 : (0 : Int32).toInt = 0 := rfl
  have l1 : (-128 : Int64).toInt = -128 := rfl
  have l2 : (127 : Int64).toInt = 127 := rfl
  have l3 : (128 : Int32).toInt = 128 := rfl
  have l4 : (256 : Int32).toInt = 256 := rfl
  have e0 : q.toInt32.toInt = q.toInt := Jvm.Kit.i32_of_i64 (by omega) (by omega)
  have e : (q.toInt32 + (128 : Int32)).toInt = q.toInt + 128 := by rw [Jvm.Kit.i32_add (by omega) (by omega), l3, e0]
  rw [Int32.lt_iff_toInt_lt, Int32.lt_iff_toInt_lt, e]
  omega

theorem own_bx1_d0 : decode jdk_18_method_1_code 0 = .ok (.aload_n 0, 1) := by decide +kernel
theorem own_bx1_d1 : decode jdk_18_method_1_code 1 = .ok (.invokespecial 1, 3) := by decide +kernel
theorem own_bx1_d4 : decode jdk_18_method_1_code 4 = .ok (.return_, 1) := by decide +kernel
theorem own_bx1_pn : plainName "java/lang/Number" = true := by first | (simp [plainName, overriddenIn]; done) | decide +kernel
theorem own_bx1_ef (m : MethodId) (x0 : Addr) : entryFrame m #[(.ref x0)] 1 = mkF m 0 #[.val (.ref x0)] [] := by first | (simp [entryFrame, mkF, argsToLocals, Value.category]; done) | rfl
def own_bx1_Q (Z : State) (a1 : Addr) (h0 : Heap) (n0 : Nat) (v : Option Value) (h : Heap) (L : List Loc) : Prop := v = none ∧ Fr n0 L ∧ h = h0
set_option maxRecDepth 65536 in
set_option maxHeartbeats 40000000 in
theorem own_bx1 (l : Launch) (Z : State) (a0 : Array Value) (hw : ∀ d ∈ tables_1, d.before a0 Z = true) (ws : List Jvm.Cond) (a1 : Addr) (h0 : Heap) (n0 : Nat) (Z0 : n0 ≤ h0.size) :
    MetFree l (⟨"java/lang/Number", "<init>", "()V"⟩ : MethodName) (head1 (Jvm.Cond.code (⟨"java/lang/Number", "<init>", "()V"⟩ : MethodName) jdk_18_method_1_code 1 none :: ws) ({ frames := 1, cells := 0, slots := 0, locals := 12 } : Room)) (fun a U => a = #[(.ref a1)] ∧ Z.Warmed39 U.vm ∧ U.heap = h0) (fun _ _ _ _ _ => True) (fun _ U o U' => ∃ v L, o = .returned v ∧ own_bx1_Q Z a1 h0 n0 v U'.heap L ∧ FrameEnd U o U' L ({ frames := 1, cells := 0, slots := 0, locals := 12 } : Room).cells ({ frames := 1, cells := 0, slots := 0, locals := 12 } : Room).slots) := by
  refine MetFree.of_bodySF (plainFor_of_name own_bx1_pn) hisR ?_
  intro p e s m args below meth c s₁ Bd hml0 hPre hK
  obtain ⟨rfl, hZ, hh⟩ := hPre
  have hx := Bd.exec
  have hby := Bd.bytes
  have hml : c.maxLocals = 1 := hml0
  have hown : s.vm.findClass "java/lang/Number" = some m.cls := findClass_of_methodNamed Bd.named
  have hnm := (name_of_methodNamed Bd.named Bd.method).1
  have X0 : Stand p l e ({ frames := 1, cells := 0, slots := 0, locals := 12 } : Room) s m #[(.ref a1)] below meth c s₁ [] 0 0 := Stand.of_body Bd
  have e0 : s₁.heap = h0 := by rw [← hh, Bd.state]; rfl
  have N0 := Fr.nil n0
  refine own_body fun P hP => ?_
  refine own_st (t' := s₁.setTop (mkF m 0 #[.val (.ref a1)] [])) (fun _ k => castTop (own_bx1_ef m a1) k) ?_
  refine own_st (t' := s₁.setTop (mkF m 1 #[.val (.ref a1)] [(.ref a1)])) (fun _ k => XS.aloadN X0.here hx rfl (hb hby own_bx1_d0) rfl rfl k) ?_
  obtain ⟨T1, X1, e1, st1⟩ := initO X0 hx hZ hown (hw _ (List.mem_of_getElem? (i := 42) rfl)) (hw _ (List.mem_of_getElem? (i := 7) rfl)) (hw _ (List.mem_of_getElem? (i := 8) rfl)) e0 (g := (mkF m 1 #[.val (.ref a1)] [(.ref a1)])) rfl (by rw [hml]; rfl) rfl (hb hby own_bx1_d1) (by decide) (W := 0) (by show 2 * 0 + _ ≤ _; exact Nat.le_of_eq rfl) (by decide)
  refine own_st (t' := T1.setTop (mkF m 4 #[.val (.ref a1)] [])) st1 ?_
  obtain ⟨fs, hr, hrun, hended, hW, hsame⟩ := X1.leave (v := none) (fun _ => rfl)
  exact ⟨_, _, X1.returnOut hx Bd.returns (hb hby own_bx1_d4) hr, hrun, hended, hP _ _ ⟨_, _, rfl, ⟨rfl, N0, e1⟩, ⟨_, rfl⟩, hW, hsame.mono (by decide) (by decide)⟩⟩

theorem own_bx2_d0 : decode jdk_35_method_26_code 0 = .ok (.aload_n 0, 1) := by decide +kernel
theorem own_bx2_d1 : decode jdk_35_method_26_code 1 = .ok (.invokespecial 270, 3) := by decide +kernel
theorem own_bx2_d4 : decode jdk_35_method_26_code 4 = .ok (.aload_n 0, 1) := by decide +kernel
theorem own_bx2_d5 : decode jdk_35_method_26_code 5 = .ok (.lload_n 1, 1) := by decide +kernel
theorem own_bx2_d6 : decode jdk_35_method_26_code 6 = .ok (.putfield 273, 3) := by decide +kernel
theorem own_bx2_d9 : decode jdk_35_method_26_code 9 = .ok (.return_, 1) := by decide +kernel
theorem own_bx2_pn : plainName "java/lang/Long" = true := by first | (simp [plainName, overriddenIn]; done) | decide +kernel
theorem own_bx2_pd0 : parseMethodDescriptor "()V" = some ⟨[], none⟩ := by decide +kernel
theorem own_bx2_ef (m : MethodId) (x0 : Addr) (x1 : Int64) : entryFrame m #[(.ref x0), (.long x1)] 3 = mkF m 0 #[.val (.ref x0), .val (.long x1), .second] [] := by first | (simp [entryFrame, mkF, argsToLocals, Value.category]; done) | rfl
def own_bx2_Q (Z : State) (a1 : Addr) (q1 : Int64) (h0 : Heap) (n0 : Nat) (v : Option Value) (h : Heap) (L : List Loc) : Prop := v = none ∧ Fr n0 L ∧ Keep h0 h [a1] ∧ Exa Z h a1 "java/lang/Long" ∧ Fld Z h a1 "java/lang/Long" "value" "J" (.long q1)
set_option maxRecDepth 65536 in
set_option maxHeartbeats 40000000 in
theorem own_bx2 (l : Launch) (Z : State) (a0 : Array Value) (hw : ∀ d ∈ tables_1, d.before a0 Z = true) (ws : List Jvm.Cond) (a1 : Addr) (q1 : Int64) (h0 : Heap) (n0 : Nat) (Z0 : n0 ≤ h0.size) (E_a1 : Exa Z h0 a1 "java/lang/Long") (F_value : Fld Z h0 a1 "java/lang/Long" "value" "J" (.long (0 : Int64))) (bg_a1 : n0 ≤ a1) :
    MetFree l (⟨"java/lang/Long", "<init>", "(J)V"⟩ : MethodName) (head1 (Jvm.Cond.code (⟨"java/lang/Long", "<init>", "(J)V"⟩ : MethodName) jdk_35_method_26_code 3 none :: ws) ({ frames := 2, cells := 0, slots := 0, locals := 24 } : Room)) (fun a U => a = #[(.ref a1), (.long q1)] ∧ Z.Warmed39 U.vm ∧ U.heap = h0) (fun _ _ _ _ _ => True) (fun _ U o U' => ∃ v L, o = .returned v ∧ own_bx2_Q Z a1 q1 h0 n0 v U'.heap L ∧ FrameEnd U o U' L ({ frames := 2, cells := 0, slots := 0, locals := 24 } : Room).cells ({ frames := 2, cells := 0, slots := 0, locals := 24 } : Room).slots) := by
  refine MetFree.of_bodySF (plainFor_of_name own_bx2_pn) hisR ?_
  intro p e s m args below meth c s₁ Bd hml0 hPre hK
  obtain ⟨rfl, hZ, hh⟩ := hPre
  have hx := Bd.exec
  have hby := Bd.bytes
  have hml : c.maxLocals = 3 := hml0
  have hown : s.vm.findClass "java/lang/Long" = some m.cls := findClass_of_methodNamed Bd.named
  have hnm := (name_of_methodNamed Bd.named Bd.method).1
  have X0 : Stand p l e ({ frames := 2, cells := 0, slots := 0, locals := 24 } : Room) s m #[(.ref a1), (.long q1)] below meth c s₁ [] 0 0 := Stand.of_body Bd
  have e0 : s₁.heap = h0 := by rw [← hh, Bd.state]; rfl
  have N0 := Fr.nil n0
  refine own_body fun P hP => ?_
  refine own_st (t' := s₁.setTop (mkF m 0 #[.val (.ref a1), .val (.long q1), .second] [])) (fun _ k => castTop (own_bx2_ef m a1 q1) k) ?_
  refine own_st (t' := s₁.setTop (mkF m 1 #[.val (.ref a1), .val (.long q1), .second] [(.ref a1)])) (fun _ k => XS.aloadN X0.here hx rfl (hb hby own_bx2_d0) rfl rfl k) ?_
  obtain ⟨_, _, ⟨T1, L1, k1, n1⟩, -, X1, ⟨Lc1, hQ1, l1, y1, z1⟩, st1⟩ := X0.specialBack hx (y := (⟨"java/lang/Number", "<init>", "()V"⟩ : MethodName)) rfl hown (mvT hZ (hw _ (List.mem_of_getElem? (i := 36) rfl))) (mvT hZ (hw _ (List.mem_of_getElem? (i := 37) rfl))) (mvT hZ (hw _ (List.mem_of_getElem? (i := 41) rfl))) (by decide) (backOf (W := 0) (own_bx1 l Z a0 hw [] a1 h0 n0 Z0) hZ (hw _ (List.mem_of_getElem? (i := 41) rfl)) (hw _ (List.mem_of_getElem? (i := 40) rfl)) (by decide) (by decide)) (g := (mkF m 1 #[.val (.ref a1), .val (.long q1), .second] [(.ref a1)])) rfl (by rw [hml]; rfl) (Steps.refl _) (a := a1) (argsL := []) (rest := []) (lenOf own_bx2_pd0 rfl) rfl (by show 2 * 0 + _ ≤ _; exact Nat.le_of_eq rfl) (hb hby own_bx2_d1) (fun _ _ => ⟨rfl, e0, (by decide : 0 + 0 ≤ _), (by decide : 0 + 0 ≤ _)⟩)
  dsimp only [Pt.U, Pt.locs, Pt.cells, Pt.slots] at X1 l1 y1 z1 st1 hQ1
  subst l1 y1 z1
  obtain ⟨rfl, N1q, e1⟩ := hQ1
  have N1 := Fr.app N0 N1q
  refine own_tr (t' := T1.setTop (mkF m 4 #[.val (.ref a1), .val (.long q1), .second] [])) st1 ?_
  refine own_st (t' := T1.setTop (mkF m 5 #[.val (.ref a1), .val (.long q1), .second] [(.ref a1)])) (fun _ k => XS.aloadN X1.here hx rfl (hb hby own_bx2_d4) rfl rfl k) ?_
  refine own_st (t' := T1.setTop (mkF m 6 #[.val (.ref a1), .val (.long q1), .second] [(.long q1), (.ref a1)])) (fun _ k => XS.lloadN X1.here hx rfl (hb hby own_bx2_d5) rfl k) ?_
  obtain ⟨T2, h2, X2, e2, W2, st2⟩ := putF X1 hx hZ hown (host := "") (Or.inl (hw _ (List.mem_of_getElem? (i := 43) rfl))) Via.refl e1 F_value E_a1 (Or.inr ⟨(hw _ (List.mem_of_getElem? (i := 44) rfl)), rfl, hnm⟩) (hw _ (List.mem_of_getElem? (i := 31) rfl)) (ty := .long) (by decide) rfl rfl (g := (mkF m 6 #[.val (.ref a1), .val (.long q1), .second] [(.long q1), (.ref a1)])) rfl rfl (hb hby own_bx2_d6)
  have Fw2 := F_value.same W2
  have f2_Exa_a1 := E_a1.wr W2
  have N2 := Fr.snoc X2 N1 bg_a1
  have Z2 : n0 ≤ h2.size := Nat.le_trans Z0 (Keep.of_wr W2).1
  have K2 := (Keep.refl h0 [a1]).wr W2 (Or.inl (List.mem_of_getElem? (i := 0) rfl))
  refine own_st (t' := T2.setTop (mkF m 9 #[.val (.ref a1), .val (.long q1), .second] [])) st2 ?_
  obtain ⟨fs, hr, hrun, hended, hW, hsame⟩ := X2.leave (v := none) (fun _ => rfl)
  exact ⟨_, _, X2.returnOut hx Bd.returns (hb hby own_bx2_d9) hr, hrun, hended, hP _ _ ⟨_, _, rfl, ⟨rfl, N2, (by show Keep h0 T2.heap [a1] ∧ Exa Z T2.heap a1 "java/lang/Long" ∧ Fld Z T2.heap a1 "java/lang/Long" "value" "J" (.long q1); rw [e2]; exact ⟨K2, f2_Exa_a1, Fw2⟩)⟩, ⟨_, rfl⟩, hW, hsame.mono (by decide) (by decide)⟩⟩

theorem own_bx3_d0 : decode jdk_35_method_24_code 0 = .ok (.sipush 128, 3) := by decide +kernel
theorem own_bx3_d3 : decode jdk_35_method_24_code 3 = .ok (.istore_n 2, 1) := by decide +kernel
theorem own_bx3_d4 : decode jdk_35_method_24_code 4 = .ok (.lload_n 0, 1) := by decide +kernel
theorem own_bx3_d5 : decode jdk_35_method_24_code 5 = .ok (.ldc2_w 230, 3) := by decide +kernel
theorem own_bx3_d8 : decode jdk_35_method_24_code 8 = .ok (.lcmp, 1) := by decide +kernel
theorem own_bx3_d9 : decode jdk_35_method_24_code 9 = .ok (.ifCond .lt 22, 3) := by decide +kernel
theorem own_bx3_d12 : decode jdk_35_method_24_code 12 = .ok (.lload_n 0, 1) := by decide +kernel
theorem own_bx3_d13 : decode jdk_35_method_24_code 13 = .ok (.ldc2_w 232, 3) := by decide +kernel
theorem own_bx3_d16 : decode jdk_35_method_24_code 16 = .ok (.lcmp, 1) := by decide +kernel
theorem own_bx3_d17 : decode jdk_35_method_24_code 17 = .ok (.ifCond .gt 14, 3) := by decide +kernel
theorem own_bx3_d20 : decode jdk_35_method_24_code 20 = .ok (.getstatic 234, 3) := by decide +kernel
theorem own_bx3_d23 : decode jdk_35_method_24_code 23 = .ok (.lload_n 0, 1) := by decide +kernel
theorem own_bx3_d24 : decode jdk_35_method_24_code 24 = .ok (.l2i, 1) := by decide +kernel
theorem own_bx3_d25 : decode jdk_35_method_24_code 25 = .ok (.sipush 128, 3) := by decide +kernel
theorem own_bx3_d28 : decode jdk_35_method_24_code 28 = .ok (.iadd, 1) := by decide +kernel
theorem own_bx3_d29 : decode jdk_35_method_24_code 29 = .ok (.aaload, 1) := by decide +kernel
theorem own_bx3_d30 : decode jdk_35_method_24_code 30 = .ok (.areturn, 1) := by decide +kernel
theorem own_bx3_d31 : decode jdk_35_method_24_code 31 = .ok (.new 1, 3) := by decide +kernel
theorem own_bx3_d34 : decode jdk_35_method_24_code 34 = .ok (.dup, 1) := by decide +kernel
theorem own_bx3_d35 : decode jdk_35_method_24_code 35 = .ok (.lload_n 0, 1) := by decide +kernel
theorem own_bx3_d36 : decode jdk_35_method_24_code 36 = .ok (.invokespecial 240, 3) := by decide +kernel
theorem own_bx3_d39 : decode jdk_35_method_24_code 39 = .ok (.areturn, 1) := by decide +kernel
theorem own_bx3_pn : plainName "java/lang/Long" = true := by first | (simp [plainName, overriddenIn]; done) | decide +kernel
theorem own_bx3_pd0 : parseMethodDescriptor "(J)V" = some ⟨[.long], none⟩ := by decide +kernel
theorem own_bx3_ef (m : MethodId) (x0 : Int64) : entryFrame m #[(.long x0)] 3 = mkF m 0 #[.val (.long x0), .second, .unset] [] := by first | (simp [entryFrame, mkF, argsToLocals, Value.category]; done) | rfl
def own_bx3_Q (Z : State) (q1 : Int64) (wC : Addr) (cC : Cell) (val : Int32 → Value) (h0 : Heap) (n0 : Nat) (v : Option Value) (h : Heap) (L : List Loc) : Prop := ∃ r : Addr, v = some (.ref r) ∧ Fr n0 L ∧ Keep h0 h [] ∧ Exa Z h r "java/lang/Long"
set_option maxRecDepth 65536 in
set_option maxHeartbeats 40000000 in
theorem own_bx3 (l : Launch) (Z : State) (a0 : Array Value) (hw : ∀ d ∈ tables_1, d.before a0 Z = true) (ws : List Jvm.Cond) (q1 : Int64) (wC : Addr) (cC : Cell) (val : Int32 → Value) (h0 : Heap) (n0 : Nat) (Z0 : n0 ≤ h0.size) (O : Old Z n0 h0) (S_c : Sta Z h0 "java/lang/Long$LongCache" "cache" "[Ljava/lang/Long;" (.ref wC)) (BX : Bxs Z wC cC "java/lang/Long" "J" (256 : Int32) val) :
    MetFree l (⟨"java/lang/Long", "valueOf", "(J)Ljava/lang/Long;"⟩ : MethodName) (head1 (Jvm.Cond.code (⟨"java/lang/Long", "valueOf", "(J)Ljava/lang/Long;"⟩ : MethodName) jdk_35_method_24_code 3 (some (.object "java/lang/Long")) :: ws) ({ frames := 3, cells := 1, slots := 1, locals := 39 } : Room)) (fun a U => a = #[(.long q1)] ∧ Z.Warmed39 U.vm ∧ U.heap = h0) (fun _ _ _ _ _ => True) (fun _ U o U' => ∃ v L, o = .returned v ∧ own_bx3_Q Z q1 wC cC val h0 n0 v U'.heap L ∧ FrameEnd U o U' L ({ frames := 3, cells := 1, slots := 1, locals := 39 } : Room).cells ({ frames := 3, cells := 1, slots := 1, locals := 39 } : Room).slots) := by
  refine MetFree.of_bodySF (plainFor_of_name own_bx3_pn) hisR ?_
  intro p e s m args below meth c s₁ Bd hml0 hPre hK
  obtain ⟨rfl, hZ, hh⟩ := hPre
  have hx := Bd.exec
  have hby := Bd.bytes
  have hml : c.maxLocals = 3 := hml0
  have hown : s.vm.findClass "java/lang/Long" = some m.cls := findClass_of_methodNamed Bd.named
  have hnm := (name_of_methodNamed Bd.named Bd.method).1
  have X0 : Stand p l e ({ frames := 3, cells := 1, slots := 1, locals := 39 } : Room) s m #[(.long q1)] below meth c s₁ [] 0 0 := Stand.of_body Bd
  have e0 : s₁.heap = h0 := by rw [← hh, Bd.state]; rfl
  have N0 := Fr.nil n0
  refine own_body fun P hP => ?_
  refine own_st (t' := s₁.setTop (mkF m 0 #[.val (.long q1), .second, .unset] [])) (fun _ k => castTop (own_bx3_ef m q1) k) ?_
  refine own_st (t' := s₁.setTop (mkF m 3 #[.val (.long q1), .second, .unset] [(.int (128 : Int32))])) (fun _ k => XS.sipush X0.here hx rfl (hb hby own_bx3_d0) k) ?_
  refine own_st (t' := s₁.setTop (mkF m 4 #[.val (.long q1), .second, .val (.int (128 : Int32))] [])) (fun _ k => XS.istoreN X0.here hx rfl (hb hby own_bx3_d3) rfl (l' := #[.val (.long q1), .second, .val (.int (128 : Int32))]) rfl k) ?_
  refine own_st (t' := s₁.setTop (mkF m 5 #[.val (.long q1), .second, .val (.int (128 : Int32))] [(.long q1)])) (fun _ k => XS.lloadN X0.here hx rfl (hb hby own_bx3_d4) rfl k) ?_
  refine own_st (t' := s₁.setTop (mkF m 8 #[.val (.long q1), .second, .val (.int (128 : Int32))] [(.long (-128 : Int64)), (.long q1)])) (fun _ k => X0.ldc2Long hx hown (mvT hZ (hw _ (List.mem_of_getElem? (i := 28) rfl))) (g := (mkF m 5 #[.val (.long q1), .second, .val (.int (128 : Int32))] [(.long q1)])) rfl (hb hby own_bx3_d5) _ k) ?_
  refine own_st (t' := s₁.setTop (mkF m 9 #[.val (.long q1), .second, .val (.int (128 : Int32))] [(.int (lcmpW q1 (-128 : Int64)))])) (fun _ k => XS.lcmp X0.here hx rfl (hb hby own_bx3_d8) rfl k) ?_
  by_cases c9_1 : (lcmpW q1 (-128 : Int64)) < (0 : Int32)
  · refine own_st (t' := s₁.setTop (mkF m 31 #[.val (.long q1), .second, .val (.int (128 : Int32))] [])) (fun _ k => XS.ifYes X0.here hx rfl (pc0 := 9) (pc' := 31) rfl (hb hby own_bx3_d9) rfl ((if0 _ _).trans (tlt c9_1).1) (by decide) (by decide) k) ?_
    obtain ⟨T2, h2, X2, e2, E2, A2, D2, -, st2⟩ := newO X0 hx hZ hown (hw _ (List.mem_of_getElem? (i := 30) rfl)) (hw _ (List.mem_of_getElem? (i := 31) rfl)) (hw _ (List.mem_of_getElem? (i := 26) rfl)) e0 (g := (mkF m 31 #[.val (.long q1), .second, .val (.int (128 : Int32))] [])) rfl (hb hby own_bx3_d31) (by decide) (by decide)
    obtain ⟨b2, g2⟩ : ∃ z, z = h0.size := ⟨_, rfl⟩
    rw [← g2] at A2 D2 st2
    have f2_Old := O.ext E2
    have f2_Sta_java_lang_Long_LongCache_cache := S_c.ext E2
    have bg_b2 : n0 ≤ b2 := Nat.le_trans Z0 (Nat.le_of_eq g2.symm)
    have Z2 : n0 ≤ h2.size := Nat.le_trans Z0 E2.1
    have bz_b2 : h0.size ≤ b2 := Nat.le_trans (Keep.refl h0 []).1 (Nat.le_of_eq g2.symm)
    have K2 := (Keep.refl h0 []).ext E2
    have F2_value : Fld Z h2 b2 "java/lang/Long" "value" "J" (.long (0 : Int64)) := D2 (Or.inr (hw _ (List.mem_of_getElem? (i := 44) rfl))) (ty := .long) (by decide)
    refine own_st (t' := T2.setTop (mkF m 34 #[.val (.long q1), .second, .val (.int (128 : Int32))] [(.ref b2)])) st2 ?_
    refine own_st (t' := T2.setTop (mkF m 35 #[.val (.long q1), .second, .val (.int (128 : Int32))] [(.ref b2), (.ref b2)])) (fun _ k => XS.dup X2.here hx rfl (hb hby own_bx3_d34) rfl rfl k) ?_
    refine own_st (t' := T2.setTop (mkF m 36 #[.val (.long q1), .second, .val (.int (128 : Int32))] [(.long q1), (.ref b2), (.ref b2)])) (fun _ k => XS.lloadN X2.here hx rfl (hb hby own_bx3_d35) rfl k) ?_
    obtain ⟨_, _, ⟨T3, L3, k3, n3⟩, -, X3, ⟨Lc3, hQ3, l3, y3, z3⟩, st3⟩ := X2.specialBack hx (y := (⟨"java/lang/Long", "<init>", "(J)V"⟩ : MethodName)) rfl hown (mvT hZ (hw _ (List.mem_of_getElem? (i := 32) rfl))) (mvT hZ (hw _ (List.mem_of_getElem? (i := 33) rfl))) (mvT hZ (hw _ (List.mem_of_getElem? (i := 35) rfl))) (by decide) (backOf (W := 1) (own_bx2 l Z a0 hw [] b2 q1 h2 n0 Z2 A2 F2_value bg_b2 ) hZ (hw _ (List.mem_of_getElem? (i := 35) rfl)) (hw _ (List.mem_of_getElem? (i := 26) rfl)) (by decide) (by decide)) (g := (mkF m 36 #[.val (.long q1), .second, .val (.int (128 : Int32))] [(.long q1), (.ref b2), (.ref b2)])) rfl (by rw [hml]; rfl) (Steps.refl _) (a := b2) (argsL := [(.long q1)]) (rest := [(.ref b2)]) (lenOf own_bx3_pd0 rfl) rfl (by show 2 * 0 + _ ≤ _; exact Nat.le_of_eq rfl) (hb hby own_bx3_d36) (fun _ _ => ⟨rfl, e2, (by decide : 0 + 1 + 0 ≤ _), (by decide : 0 + 1 + 0 ≤ _)⟩)
    dsimp only [Pt.U, Pt.locs, Pt.cells, Pt.slots] at X3 l3 y3 z3 st3 hQ3
    subst l3 y3 z3
    obtain ⟨rfl, N3q, K3q, g3e, g3f0⟩ := hQ3
    have N3 := Fr.app N0 N3q
    have f3_Old := f2_Old.keep K3q (fun y hy => by cases List.mem_singleton.mp hy; exact bg_b2)
    have f3_Sta_java_lang_Long_LongCache_cache := own_staK f2_Sta_java_lang_Long_LongCache_cache K3q A2
    have f3_Exa_b2 := A2.keep K3q
    have Z3 : n0 ≤ T3.heap.size := Nat.le_trans Z2 K3q.1
    have K3 := K2.trans K3q (fun y hy => by cases List.mem_singleton.mp hy; exact Or.inr bz_b2)
    refine own_tr (t' := T3.setTop (mkF m 39 #[.val (.long q1), .second, .val (.int (128 : Int32))] [(.ref b2)])) st3 ?_
    obtain ⟨fs, hr, hrun, hended, hW, hsame⟩ := X3.leave (v := some (.ref b2)) (fun h => by rw [Bd.returns] at h; cases h)
    exact ⟨_, _, X3.areturnOut hx rfl Bd.returns rfl (hb hby own_bx3_d39) hr, hrun, hended, hP _ _ ⟨_, _, rfl, ⟨b2, rfl, N3, (by show Keep h0 T3.heap [] ∧ Exa Z T3.heap b2 "java/lang/Long"; exact ⟨K3, g3e⟩)⟩, ⟨_, rfl⟩, hW, hsame.mono (by decide) (by decide)⟩⟩
  · refine own_st (t' := s₁.setTop (mkF m 12 #[.val (.long q1), .second, .val (.int (128 : Int32))] [])) (fun _ k => XS.ifNo X0.here hx rfl (hb hby own_bx3_d9) rfl ((if0 _ _).trans (flt c9_1).1) k) ?_
    refine own_st (t' := s₁.setTop (mkF m 13 #[.val (.long q1), .second, .val (.int (128 : Int32))] [(.long q1)])) (fun _ k => XS.lloadN X0.here hx rfl (hb hby own_bx3_d12) rfl k) ?_
    refine own_st (t' := s₁.setTop (mkF m 16 #[.val (.long q1), .second, .val (.int (128 : Int32))] [(.long (127 : Int64)), (.long q1)])) (fun _ k => X0.ldc2Long hx hown (mvT hZ (hw _ (List.mem_of_getElem? (i := 29) rfl))) (g := (mkF m 13 #[.val (.long q1), .second, .val (.int (128 : Int32))] [(.long q1)])) rfl (hb hby own_bx3_d13) _ k) ?_
    refine own_st (t' := s₁.setTop (mkF m 17 #[.val (.long q1), .second, .val (.int (128 : Int32))] [(.int (lcmpW q1 (127 : Int64)))])) (fun _ k => XS.lcmp X0.here hx rfl (hb hby own_bx3_d16) rfl k) ?_
    by_cases c17_4 : (0 : Int32) < (lcmpW q1 (127 : Int64))
    · refine own_st (t' := s₁.setTop (mkF m 31 #[.val (.long q1), .second, .val (.int (128 : Int32))] [])) (fun _ k => XS.ifYes X0.here hx rfl (pc0 := 17) (pc' := 31) rfl (hb hby own_bx3_d17) rfl ((if0 _ _).trans (tlt c17_4).2.2.1) (by decide) (by decide) k) ?_
      obtain ⟨T5, h5, X5, e5, E5, A5, D5, -, st5⟩ := newO X0 hx hZ hown (hw _ (List.mem_of_getElem? (i := 30) rfl)) (hw _ (List.mem_of_getElem? (i := 31) rfl)) (hw _ (List.mem_of_getElem? (i := 26) rfl)) e0 (g := (mkF m 31 #[.val (.long q1), .second, .val (.int (128 : Int32))] [])) rfl (hb hby own_bx3_d31) (by decide) (by decide)
      obtain ⟨b5, g5⟩ : ∃ z, z = h0.size := ⟨_, rfl⟩
      rw [← g5] at A5 D5 st5
      have f5_Old := O.ext E5
      have f5_Sta_java_lang_Long_LongCache_cache := S_c.ext E5
      have bg_b5 : n0 ≤ b5 := Nat.le_trans Z0 (Nat.le_of_eq g5.symm)
      have Z5 : n0 ≤ h5.size := Nat.le_trans Z0 E5.1
      have bz_b5 : h0.size ≤ b5 := Nat.le_trans (Keep.refl h0 []).1 (Nat.le_of_eq g5.symm)
      have K5 := (Keep.refl h0 []).ext E5
      have F5_value : Fld Z h5 b5 "java/lang/Long" "value" "J" (.long (0 : Int64)) := D5 (Or.inr (hw _ (List.mem_of_getElem? (i := 44) rfl))) (ty := .long) (by decide)
      refine own_st (t' := T5.setTop (mkF m 34 #[.val (.long q1), .second, .val (.int (128 : Int32))] [(.ref b5)])) st5 ?_
      refine own_st (t' := T5.setTop (mkF m 35 #[.val (.long q1), .second, .val (.int (128 : Int32))] [(.ref b5), (.ref b5)])) (fun _ k => XS.dup X5.here hx rfl (hb hby own_bx3_d34) rfl rfl k) ?_
      refine own_st (t' := T5.setTop (mkF m 36 #[.val (.long q1), .second, .val (.int (128 : Int32))] [(.long q1), (.ref b5), (.ref b5)])) (fun _ k => XS.lloadN X5.here hx rfl (hb hby own_bx3_d35) rfl k) ?_
      obtain ⟨_, _, ⟨T6, L6, k6, n6⟩, -, X6, ⟨Lc6, hQ6, l6, y6, z6⟩, st6⟩ := X5.specialBack hx (y := (⟨"java/lang/Long", "<init>", "(J)V"⟩ : MethodName)) rfl hown (mvT hZ (hw _ (List.mem_of_getElem? (i := 32) rfl))) (mvT hZ (hw _ (List.mem_of_getElem? (i := 33) rfl))) (mvT hZ (hw _ (List.mem_of_getElem? (i := 35) rfl))) (by decide) (backOf (W := 1) (own_bx2 l Z a0 hw [] b5 q1 h5 n0 Z5 A5 F5_value bg_b5 ) hZ (hw _ (List.mem_of_getElem? (i := 35) rfl)) (hw _ (List.mem_of_getElem? (i := 26) rfl)) (by decide) (by decide)) (g := (mkF m 36 #[.val (.long q1), .second, .val (.int (128 : Int32))] [(.long q1), (.ref b5), (.ref b5)])) rfl (by rw [hml]; rfl) (Steps.refl _) (a := b5) (argsL := [(.long q1)]) (rest := [(.ref b5)]) (lenOf own_bx3_pd0 rfl) rfl (by show 2 * 0 + _ ≤ _; exact Nat.le_of_eq rfl) (hb hby own_bx3_d36) (fun _ _ => ⟨rfl, e5, (by decide : 0 + 1 + 0 ≤ _), (by decide : 0 + 1 + 0 ≤ _)⟩)
      dsimp only [Pt.U, Pt.locs, Pt.cells, Pt.slots] at X6 l6 y6 z6 st6 hQ6
      subst l6 y6 z6
      obtain ⟨rfl, N6q, K6q, g6e, g6f0⟩ := hQ6
      have N6 := Fr.app N0 N6q
      have f6_Old := f5_Old.keep K6q (fun y hy => by cases List.mem_singleton.mp hy; exact bg_b5)
      have f6_Sta_java_lang_Long_LongCache_cache := own_staK f5_Sta_java_lang_Long_LongCache_cache K6q A5
      have f6_Exa_b5 := A5.keep K6q
      have Z6 : n0 ≤ T6.heap.size := Nat.le_trans Z5 K6q.1
      have K6 := K5.trans K6q (fun y hy => by cases List.mem_singleton.mp hy; exact Or.inr bz_b5)
      refine own_tr (t' := T6.setTop (mkF m 39 #[.val (.long q1), .second, .val (.int (128 : Int32))] [(.ref b5)])) st6 ?_
      obtain ⟨fs, hr, hrun, hended, hW, hsame⟩ := X6.leave (v := some (.ref b5)) (fun h => by rw [Bd.returns] at h; cases h)
      exact ⟨_, _, X6.areturnOut hx rfl Bd.returns rfl (hb hby own_bx3_d39) hr, hrun, hended, hP _ _ ⟨_, _, rfl, ⟨b5, rfl, N6, (by show Keep h0 T6.heap [] ∧ Exa Z T6.heap b5 "java/lang/Long"; exact ⟨K6, g6e⟩)⟩, ⟨_, rfl⟩, hW, hsame.mono (by decide) (by decide)⟩⟩
    · refine own_st (t' := s₁.setTop (mkF m 20 #[.val (.long q1), .second, .val (.int (128 : Int32))] [])) (fun _ k => XS.ifNo X0.here hx rfl (hb hby own_bx3_d17) rfl ((if0 _ _).trans (flt c17_4).2.2.1) k) ?_
      obtain ⟨T7, X7, e7, st7⟩ := getS2 X0 hx hZ hown (host := "") (Or.inl (hw _ (List.mem_of_getElem? (i := 48) rfl))) Via.refl e0 S_c (g := (mkF m 20 #[.val (.long q1), .second, .val (.int (128 : Int32))] [])) rfl (hb hby own_bx3_d20)
      refine own_st (t' := T7.setTop (mkF m 23 #[.val (.long q1), .second, .val (.int (128 : Int32))] [(.ref wC)])) st7 ?_
      refine own_st (t' := T7.setTop (mkF m 24 #[.val (.long q1), .second, .val (.int (128 : Int32))] [(.long q1), (.ref wC)])) (fun _ k => XS.lloadN X7.here hx rfl (hb hby own_bx3_d23) rfl k) ?_
      refine own_st (t' := T7.setTop (mkF m 25 #[.val (.long q1), .second, .val (.int (128 : Int32))] [(.int (q1.toInt32)), (.ref wC)])) (fun _ k => XS.l2i X7.here hx rfl (hb hby own_bx3_d24) rfl k) ?_
      refine own_st (t' := T7.setTop (mkF m 28 #[.val (.long q1), .second, .val (.int (128 : Int32))] [(.int (128 : Int32)), (.int (q1.toInt32)), (.ref wC)])) (fun _ k => XS.sipush X7.here hx rfl (hb hby own_bx3_d25) k) ?_
      refine own_st (t' := T7.setTop (mkF m 29 #[.val (.long q1), .second, .val (.int (128 : Int32))] [(.int ((q1.toInt32) + (128 : Int32))), (.ref wC)])) (fun _ k => XS.iadd X7.here hx rfl (hb hby own_bx3_d28) rfl k) ?_
      obtain ⟨Ar, Sz, Mz⟩ := BX.ext O.2
      have hin : ¬ (((q1.toInt32) + (128 : Int32)) < 0 ∨ cC.slots.size ≤ (((q1.toInt32) + (128 : Int32))).toNatClampNeg) := inb_of Sz (own_cache c9_1 c17_4)
      obtain ⟨bx, hat, Eb, -⟩ := BX.2.2.2 _ hin
      refine own_st (t' := T7.setTop (mkF m 30 #[.val (.long q1), .second, .val (.int (128 : Int32))] [(.ref bx)])) (fun _ k => X7.aaload hx (j := ((q1.toInt32) + (128 : Int32))) (v := (.ref bx)) (by rw [e7]; exact Ar.1) (State.isArrayOf_alike hZ.alike Ar.2.1) rfl Ar.2.2 hin hat (g := (mkF m 29 #[.val (.long q1), .second, .val (.int (128 : Int32))] [(.int ((q1.toInt32) + (128 : Int32))), (.ref wC)])) rfl rfl (hb hby own_bx3_d29) _ k) ?_
      obtain ⟨fs, hr, hrun, hended, hW, hsame⟩ := X7.leave (v := some (.ref bx)) (fun h => by rw [Bd.returns] at h; cases h)
      exact ⟨_, _, X7.areturnOut hx rfl Bd.returns rfl (hb hby own_bx3_d30) hr, hrun, hended, hP _ _ ⟨_, _, rfl, ⟨bx, rfl, N0, (by show Keep h0 T7.heap [] ∧ Exa Z T7.heap bx "java/lang/Long"; rw [e7]; exact ⟨(Keep.refl h0 []), (Eb.ext O.2)⟩)⟩, ⟨_, rfl⟩, hW, hsame.mono (by decide) (by decide)⟩⟩

theorem own_rm1_d0 : decode prog_3_method_1_code 0 = .ok (.aload_n 0, 1) := by decide +kernel
theorem own_rm1_d1 : decode prog_3_method_1_code 1 = .ok (.invokespecial 1, 3) := by decide +kernel
theorem own_rm1_d4 : decode prog_3_method_1_code 4 = .ok (.aload_n 0, 1) := by decide +kernel
theorem own_rm1_d5 : decode prog_3_method_1_code 5 = .ok (.lload_n 1, 1) := by decide +kernel
theorem own_rm1_d6 : decode prog_3_method_1_code 6 = .ok (.putfield 7, 3) := by decide +kernel
theorem own_rm1_d9 : decode prog_3_method_1_code 9 = .ok (.aload_n 0, 1) := by decide +kernel
theorem own_rm1_d10 : decode prog_3_method_1_code 10 = .ok (.lload_n 3, 1) := by decide +kernel
theorem own_rm1_d11 : decode prog_3_method_1_code 11 = .ok (.putfield 13, 3) := by decide +kernel
theorem own_rm1_d14 : decode prog_3_method_1_code 14 = .ok (.aload_n 0, 1) := by decide +kernel
theorem own_rm1_d15 : decode prog_3_method_1_code 15 = .ok (.lload 5, 2) := by decide +kernel
theorem own_rm1_d17 : decode prog_3_method_1_code 17 = .ok (.putfield 16, 3) := by decide +kernel
theorem own_rm1_d20 : decode prog_3_method_1_code 20 = .ok (.aload_n 0, 1) := by decide +kernel
theorem own_rm1_d21 : decode prog_3_method_1_code 21 = .ok (.lload 7, 2) := by decide +kernel
theorem own_rm1_d23 : decode prog_3_method_1_code 23 = .ok (.putfield 19, 3) := by decide +kernel
theorem own_rm1_d26 : decode prog_3_method_1_code 26 = .ok (.return_, 1) := by decide +kernel
theorem own_rm1_pn : plainName "com/example/ledgerwarden/ledgerwarden/EntryList$Group" = true := by first | (simp [plainName, overriddenIn]; done) | decide +kernel
theorem own_rm1_ef (m : MethodId) (x0 : Addr) (x1 : Int64) (x2 : Int64) (x3 : Int64) (x4 : Int64) : entryFrame m #[(.ref x0), (.long x1), (.long x2), (.long x3), (.long x4)] 9 = mkF m 0 #[.val (.ref x0), .val (.long x1), .second, .val (.long x2), .second, .val (.long x3), .second, .val (.long x4), .second] [] := by first | (simp [entryFrame, mkF, argsToLocals, Value.category]; done) | rfl
def own_rm1_Q (Z : State) (a1 : Addr) (q1 : Int64) (q2 : Int64) (q3 : Int64) (q4 : Int64) (h0 : Heap) (n0 : Nat) (v : Option Value) (h : Heap) (L : List Loc) : Prop := v = none ∧ Fr n0 L ∧ Keep h0 h [a1] ∧ Exa Z h a1 "com/example/ledgerwarden/ledgerwarden/EntryList$Group" ∧ Fld Z h a1 "com/example/ledgerwarden/ledgerwarden/EntryList$Group" "firstStart" "J" (.long q1) ∧ Fld Z h a1 "com/example/ledgerwarden/ledgerwarden/EntryList$Group" "lastStart" "J" (.long q2) ∧ Fld Z h a1 "com/example/ledgerwarden/ledgerwarden/EntryList$Group" "size" "J" (.long q3) ∧ Fld Z h a1 "com/example/ledgerwarden/ledgerwarden/EntryList$Group" "period" "J" (.long q4)
set_option maxRecDepth 65536 in
set_option maxHeartbeats 40000000 in
theorem own_rm1 (l : Launch) (Z : State) (a0 : Array Value) (hw : ∀ d ∈ tables_1, d.before a0 Z = true) (ws : List Jvm.Cond) (a1 : Addr) (q1 : Int64) (q2 : Int64) (q3 : Int64) (q4 : Int64) (h0 : Heap) (n0 : Nat) (Z0 : n0 ≤ h0.size) (E_a1 : Exa Z h0 a1 "com/example/ledgerwarden/ledgerwarden/EntryList$Group") (F_firstStart : Fld Z h0 a1 "com/example/ledgerwarden/ledgerwarden/EntryList$Group" "firstStart" "J" (.long (0 : Int64))) (F_lastStart : Fld Z h0 a1 "com/example/ledgerwarden/ledgerwarden/EntryList$Group" "lastStart" "J" (.long (0 : Int64))) (F_size : Fld Z h0 a1 "com/example/ledgerwarden/ledgerwarden/EntryList$Group" "size" "J" (.long (0 : Int64))) (F_period : Fld Z h0 a1 "com/example/ledgerwarden/ledgerwarden/EntryList$Group" "period" "J" (.long (0 : Int64))) (bg_a1 : n0 ≤ a1) :
    MetFree l (⟨"com/example/ledgerwarden/ledgerwarden/EntryList$Group", "<init>", "(JJJJ)V"⟩ : MethodName) (head1 (Jvm.Cond.code (⟨"com/example/ledgerwarden/ledgerwarden/EntryList$Group", "<init>", "(JJJJ)V"⟩ : MethodName) prog_3_method_1_code 9 none :: ws) ({ frames := 1, cells := 0, slots := 0, locals := 12 } : Room)) (fun a U => a = #[(.ref a1), (.long q1), (.long q2), (.long q3), (.long q4)] ∧ Z.Warmed39 U.vm ∧ U.heap = h0) (fun _ _ _ _ _ => True) (fun _ U o U' => ∃ v L, o = .returned v ∧ own_rm1_Q Z a1 q1 q2 q3 q4 h0 n0 v U'.heap L ∧ FrameEnd U o U' L ({ frames := 1, cells := 0, slots := 0, locals := 12 } : Room).cells ({ frames := 1, cells := 0, slots := 0, locals := 12 } : Room).slots) := by
  refine MetFree.of_bodySF (plainFor_of_name own_rm1_pn) hisR ?_
  intro p e s m args below meth c s₁ Bd hml0 hPre hK
  obtain ⟨rfl, hZ, hh⟩ := hPre
  have hx := Bd.exec
  have hby := Bd.bytes
  have hml : c.maxLocals = 9 := hml0
  have hown : s.vm.findClass "com/example/ledgerwarden/ledgerwarden/EntryList$Group" = some m.cls := findClass_of_methodNamed Bd.named
  have hnm := (name_of_methodNamed Bd.named Bd.method).1
  have X0 : Stand p l e ({ frames := 1, cells := 0, slots := 0, locals := 12 } : Room) s m #[(.ref a1), (.long q1), (.long q2), (.long q3), (.long q4)] below meth c s₁ [] 0 0 := Stand.of_body Bd
  have e0 : s₁.heap = h0 := by rw [← hh, Bd.state]; rfl
  have N0 := Fr.nil n0
  refine own_body fun P hP => ?_
  refine own_st (t' := s₁.setTop (mkF m 0 #[.val (.ref a1), .val (.long q1), .second, .val (.long q2), .second, .val (.long q3), .second, .val (.long q4), .second] [])) (fun _ k => castTop (own_rm1_ef m a1 q1 q2 q3 q4) k) ?_
  refine own_st (t' := s₁.setTop (mkF m 1 #[.val (.ref a1), .val (.long q1), .second, .val (.long q2), .second, .val (.long q3), .second, .val (.long q4), .second] [(.ref a1)])) (fun _ k => XS.aloadN X0.here hx rfl (hb hby own_rm1_d0) rfl rfl k) ?_
  obtain ⟨T1, X1, e1, st1⟩ := initO X0 hx hZ hown (hw _ (List.mem_of_getElem? (i := 6) rfl)) (hw _ (List.mem_of_getElem? (i := 7) rfl)) (hw _ (List.mem_of_getElem? (i := 8) rfl)) e0 (g := (mkF m 1 #[.val (.ref a1), .val (.long q1), .second, .val (.long q2), .second, .val (.long q3), .second, .val (.long q4), .second] [(.ref a1)])) rfl (by rw [hml]; rfl) rfl (hb hby own_rm1_d1) (by decide) (W := 0) (by show 2 * 0 + _ ≤ _; exact Nat.le_of_eq rfl) (by decide)
  refine own_st (t' := T1.setTop (mkF m 4 #[.val (.ref a1), .val (.long q1), .second, .val (.long q2), .second, .val (.long q3), .second, .val (.long q4), .second] [])) st1 ?_
  refine own_st (t' := T1.setTop (mkF m 5 #[.val (.ref a1), .val (.long q1), .second, .val (.long q2), .second, .val (.long q3), .second, .val (.long q4), .second] [(.ref a1)])) (fun _ k => XS.aloadN X1.here hx rfl (hb hby own_rm1_d4) rfl rfl k) ?_
  refine own_st (t' := T1.setTop (mkF m 6 #[.val (.ref a1), .val (.long q1), .second, .val (.long q2), .second, .val (.long q3), .second, .val (.long q4), .second] [(.long q1), (.ref a1)])) (fun _ k => XS.lloadN X1.here hx rfl (hb hby own_rm1_d5) rfl k) ?_
  obtain ⟨T2, h2, X2, e2, W2, st2⟩ := putF X1 hx hZ hown (host := "") (Or.inl (hw _ (List.mem_of_getElem? (i := 9) rfl))) Via.refl e1 F_firstStart E_a1 (Or.inr ⟨(hw _ (List.mem_of_getElem? (i := 10) rfl)), rfl, hnm⟩) (hw _ (List.mem_of_getElem? (i := 1) rfl)) (ty := .long) (by decide) rfl rfl (g := (mkF m 6 #[.val (.ref a1), .val (.long q1), .second, .val (.long q2), .second, .val (.long q3), .second, .val (.long q4), .second] [(.long q1), (.ref a1)])) rfl rfl (hb hby own_rm1_d6)
  have Fw2 := F_firstStart.same W2
  have f2_Exa_a1 := E_a1.wr W2
  have f2_Fld_a1_lastStart := F_lastStart.other W2 (Or.inr (slot_ne (Or.inr (hw _ (List.mem_of_getElem? (i := 12) rfl))) (Or.inr (hw _ (List.mem_of_getElem? (i := 10) rfl))) (by decide) (t := .long) (t' := .long) (by decide) (by decide)))
  have f2_Fld_a1_size := F_size.other W2 (Or.inr (slot_ne (Or.inr (hw _ (List.mem_of_getElem? (i := 14) rfl))) (Or.inr (hw _ (List.mem_of_getElem? (i := 10) rfl))) (by decide) (t := .long) (t' := .long) (by decide) (by decide)))
  have f2_Fld_a1_period := F_period.other W2 (Or.inr (slot_ne (Or.inr (hw _ (List.mem_of_getElem? (i := 16) rfl))) (Or.inr (hw _ (List.mem_of_getElem? (i := 10) rfl))) (by decide) (t := .long) (t' := .long) (by decide) (by decide)))
  have N2 := Fr.snoc X2 N0 bg_a1
  have Z2 : n0 ≤ h2.size := Nat.le_trans Z0 (Keep.of_wr W2).1
  have K2 := (Keep.refl h0 [a1]).wr W2 (Or.inl (List.mem_of_getElem? (i := 0) rfl))
  refine own_st (t' := T2.setTop (mkF m 9 #[.val (.ref a1), .val (.long q1), .second, .val (.long q2), .second, .val (.long q3), .second, .val (.long q4), .second] [])) st2 ?_
  refine own_st (t' := T2.setTop (mkF m 10 #[.val (.ref a1), .val (.long q1), .second, .val (.long q2), .second, .val (.long q3), .second, .val (.long q4), .second] [(.ref a1)])) (fun _ k => XS.aloadN X2.here hx rfl (hb hby own_rm1_d9) rfl rfl k) ?_
  refine own_st (t' := T2.setTop (mkF m 11 #[.val (.ref a1), .val (.long q1), .second, .val (.long q2), .second, .val (.long q3), .second, .val (.long q4), .second] [(.long q2), (.ref a1)])) (fun _ k => XS.lloadN X2.here hx rfl (hb hby own_rm1_d10) rfl k) ?_
  obtain ⟨T3, h3, X3, e3, W3, st3⟩ := putF X2 hx hZ hown (host := "") (Or.inl (hw _ (List.mem_of_getElem? (i := 11) rfl))) Via.refl e2 f2_Fld_a1_lastStart f2_Exa_a1 (Or.inr ⟨(hw _ (List.mem_of_getElem? (i := 12) rfl)), rfl, hnm⟩) (hw _ (List.mem_of_getElem? (i := 1) rfl)) (ty := .long) (by decide) rfl rfl (g := (mkF m 11 #[.val (.ref a1), .val (.long q1), .second, .val (.long q2), .second, .val (.long q3), .second, .val (.long q4), .second] [(.long q2), (.ref a1)])) rfl rfl (hb hby own_rm1_d11)
  have Fw3 := f2_Fld_a1_lastStart.same W3
  have f3_Exa_a1 := f2_Exa_a1.wr W3
  have f3_Fld_a1_firstStart := Fw2.other W3 (Or.inr (slot_ne (Or.inr (hw _ (List.mem_of_getElem? (i := 10) rfl))) (Or.inr (hw _ (List.mem_of_getElem? (i := 12) rfl))) (by decide) (t := .long) (t' := .long) (by decide) (by decide)))
  have f3_Fld_a1_size := f2_Fld_a1_size.other W3 (Or.inr (slot_ne (Or.inr (hw _ (List.mem_of_getElem? (i := 14) rfl))) (Or.inr (hw _ (List.mem_of_getElem? (i := 12) rfl))) (by decide) (t := .long) (t' := .long) (by decide) (by decide)))
  have f3_Fld_a1_period := f2_Fld_a1_period.other W3 (Or.inr (slot_ne (Or.inr (hw _ (List.mem_of_getElem? (i := 16) rfl))) (Or.inr (hw _ (List.mem_of_getElem? (i := 12) rfl))) (by decide) (t := .long) (t' := .long) (by decide) (by decide)))
  have N3 := Fr.snoc X3 N2 bg_a1
  have Z3 : n0 ≤ h3.size := Nat.le_trans Z2 (Keep.of_wr W3).1
  have K3 := K2.wr W3 (Or.inl (List.mem_of_getElem? (i := 0) rfl))
  refine own_st (t' := T3.setTop (mkF m 14 #[.val (.ref a1), .val (.long q1), .second, .val (.long q2), .second, .val (.long q3), .second, .val (.long q4), .second] [])) st3 ?_
  refine own_st (t' := T3.setTop (mkF m 15 #[.val (.ref a1), .val (.long q1), .second, .val (.long q2), .second, .val (.long q3), .second, .val (.long q4), .second] [(.ref a1)])) (fun _ k => XS.aloadN X3.here hx rfl (hb hby own_rm1_d14) rfl rfl k) ?_
  refine own_st (t' := T3.setTop (mkF m 17 #[.val (.ref a1), .val (.long q1), .second, .val (.long q2), .second, .val (.long q3), .second, .val (.long q4), .second] [(.long q3), (.ref a1)])) (fun _ k => XS.lload X3.here hx rfl (hb hby own_rm1_d15) rfl k) ?_
  obtain ⟨T4, h4, X4, e4, W4, st4⟩ := putF X3 hx hZ hown (host := "") (Or.inl (hw _ (List.mem_of_getElem? (i := 13) rfl))) Via.refl e3 f3_Fld_a1_size f3_Exa_a1 (Or.inr ⟨(hw _ (List.mem_of_getElem? (i := 14) rfl)), rfl, hnm⟩) (hw _ (List.mem_of_getElem? (i := 1) rfl)) (ty := .long) (by decide) rfl rfl (g := (mkF m 17 #[.val (.ref a1), .val (.long q1), .second, .val (.long q2), .second, .val (.long q3), .second, .val (.long q4), .second] [(.long q3), (.ref a1)])) rfl rfl (hb hby own_rm1_d17)
  have Fw4 := f3_Fld_a1_size.same W4
  have f4_Exa_a1 := f3_Exa_a1.wr W4
  have f4_Fld_a1_firstStart := f3_Fld_a1_firstStart.other W4 (Or.inr (slot_ne (Or.inr (hw _ (List.mem_of_getElem? (i := 10) rfl))) (Or.inr (hw _ (List.mem_of_getElem? (i := 14) rfl))) (by decide) (t := .long) (t' := .long) (by decide) (by decide)))
  have f4_Fld_a1_lastStart := Fw3.other W4 (Or.inr (slot_ne (Or.inr (hw _ (List.mem_of_getElem? (i := 12) rfl))) (Or.inr (hw _ (List.mem_of_getElem? (i := 14) rfl))) (by decide) (t := .long) (t' := .long) (by decide) (by decide)))
  have f4_Fld_a1_period := f3_Fld_a1_period.other W4 (Or.inr (slot_ne (Or.inr (hw _ (List.mem_of_getElem? (i := 16) rfl))) (Or.inr (hw _ (List.mem_of_getElem? (i := 14) rfl))) (by decide) (t := .long) (t' := .long) (by decide) (by decide)))
  have N4 := Fr.snoc X4 N3 bg_a1
  have Z4 : n0 ≤ h4.size := Nat.le_trans Z3 (Keep.of_wr W4).1
  have K4 := K3.wr W4 (Or.inl (List.mem_of_getElem? (i := 0) rfl))
  refine own_st (t' := T4.setTop (mkF m 20 #[.val (.ref a1), .val (.long q1), .second, .val (.long q2), .second, .val (.long q3), .second, .val (.long q4), .second] [])) st4 ?_
  refine own_st (t' := T4.setTop (mkF m 21 #[.val (.ref a1), .val (.long q1), .second, .val (.long q2), .second, .val (.long q3), .second, .val (.long q4), .second] [(.ref a1)])) (fun _ k => XS.aloadN X4.here hx rfl (hb hby own_rm1_d20) rfl rfl k) ?_
  refine own_st (t' := T4.setTop (mkF m 23 #[.val (.ref a1), .val (.long q1), .second, .val (.long q2), .second, .val (.long q3), .second, .val (.long q4), .second] [(.long q4), (.ref a1)])) (fun _ k => XS.lload X4.here hx rfl (hb hby own_rm1_d21) rfl k) ?_
  obtain ⟨T5, h5, X5, e5, W5, st5⟩ := putF X4 hx hZ hown (host := "") (Or.inl (hw _ (List.mem_of_getElem? (i := 15) rfl))) Via.refl e4 f4_Fld_a1_period f4_Exa_a1 (Or.inr ⟨(hw _ (List.mem_of_getElem? (i := 16) rfl)), rfl, hnm⟩) (hw _ (List.mem_of_getElem? (i := 1) rfl)) (ty := .long) (by decide) rfl rfl (g := (mkF m 23 #[.val (.ref a1), .val (.long q1), .second, .val (.long q2), .second, .val (.long q3), .second, .val (.long q4), .second] [(.long q4), (.ref a1)])) rfl rfl (hb hby own_rm1_d23)
  have Fw5 := f4_Fld_a1_period.same W5
  have f5_Exa_a1 := f4_Exa_a1.wr W5
  have f5_Fld_a1_firstStart := f4_Fld_a1_firstStart.other W5 (Or.inr (slot_ne (Or.inr (hw _ (List.mem_of_getElem? (i := 10) rfl))) (Or.inr (hw _ (List.mem_of_getElem? (i := 16) rfl))) (by decide) (t := .long) (t' := .long) (by decide) (by decide)))
  have f5_Fld_a1_lastStart := f4_Fld_a1_lastStart.other W5 (Or.inr (slot_ne (Or.inr (hw _ (List.mem_of_getElem? (i := 12) rfl))) (Or.inr (hw _ (List.mem_of_getElem? (i := 16) rfl))) (by decide) (t := .long) (t' := .long) (by decide) (by decide)))
  have f5_Fld_a1_size := Fw4.other W5 (Or.inr (slot_ne (Or.inr (hw _ (List.mem_of_getElem? (i := 14) rfl))) (Or.inr (hw _ (List.mem_of_getElem? (i := 16) rfl))) (by decide) (t := .long) (t' := .long) (by decide) (by decide)))
  have N5 := Fr.snoc X5 N4 bg_a1
  have Z5 : n0 ≤ h5.size := Nat.le_trans Z4 (Keep.of_wr W5).1
  have K5 := K4.wr W5 (Or.inl (List.mem_of_getElem? (i := 0) rfl))
  refine own_st (t' := T5.setTop (mkF m 26 #[.val (.ref a1), .val (.long q1), .second, .val (.long q2), .second, .val (.long q3), .second, .val (.long q4), .second] [])) st5 ?_
  obtain ⟨fs, hr, hrun, hended, hW, hsame⟩ := X5.leave (v := none) (fun _ => rfl)
  exact ⟨_, _, X5.returnOut hx Bd.returns (hb hby own_rm1_d26) hr, hrun, hended, hP _ _ ⟨_, _, rfl, ⟨rfl, N5, (by show Keep h0 T5.heap [a1] ∧ Exa Z T5.heap a1 "com/example/ledgerwarden/ledgerwarden/EntryList$Group" ∧ Fld Z T5.heap a1 "com/example/ledgerwarden/ledgerwarden/EntryList$Group" "firstStart" "J" (.long q1) ∧ Fld Z T5.heap a1 "com/example/ledgerwarden/ledgerwarden/EntryList$Group" "lastStart" "J" (.long q2) ∧ Fld Z T5.heap a1 "com/example/ledgerwarden/ledgerwarden/EntryList$Group" "size" "J" (.long q3) ∧ Fld Z T5.heap a1 "com/example/ledgerwarden/ledgerwarden/EntryList$Group" "period" "J" (.long q4); rw [e5]; exact ⟨K5, f5_Exa_a1, f5_Fld_a1_firstStart, f5_Fld_a1_lastStart, f5_Fld_a1_size, Fw5⟩)⟩, ⟨_, rfl⟩, hW, hsame.mono (by decide) (by decide)⟩⟩

theorem own_rm2_d0 : decode prog_3_method_6_code 0 = .ok (.aload_n 1, 1) := by decide +kernel
theorem own_rm2_d1 : decode prog_3_method_6_code 1 = .ok (.instanceof 8, 3) := by decide +kernel
theorem own_rm2_d4 : decode prog_3_method_6_code 4 = .ok (.ifCond .eq 60, 3) := by decide +kernel
theorem own_rm2_d7 : decode prog_3_method_6_code 7 = .ok (.aload_n 1, 1) := by decide +kernel
theorem own_rm2_d8 : decode prog_3_method_6_code 8 = .ok (.checkcast 8, 3) := by decide +kernel
theorem own_rm2_d11 : decode prog_3_method_6_code 11 = .ok (.astore_n 2, 1) := by decide +kernel
theorem own_rm2_d12 : decode prog_3_method_6_code 12 = .ok (.aload_n 2, 1) := by decide +kernel
theorem own_rm2_d13 : decode prog_3_method_6_code 13 = .ok (.getfield 7, 3) := by decide +kernel
theorem own_rm2_d16 : decode prog_3_method_6_code 16 = .ok (.aload_n 0, 1) := by decide +kernel
theorem own_rm2_d17 : decode prog_3_method_6_code 17 = .ok (.getfield 7, 3) := by decide +kernel
theorem own_rm2_d20 : decode prog_3_method_6_code 20 = .ok (.lcmp, 1) := by decide +kernel
theorem own_rm2_d21 : decode prog_3_method_6_code 21 = .ok (.ifCond .ne 43, 3) := by decide +kernel
theorem own_rm2_d24 : decode prog_3_method_6_code 24 = .ok (.aload_n 2, 1) := by decide +kernel
theorem own_rm2_d25 : decode prog_3_method_6_code 25 = .ok (.getfield 13, 3) := by decide +kernel
theorem own_rm2_d28 : decode prog_3_method_6_code 28 = .ok (.aload_n 0, 1) := by decide +kernel
theorem own_rm2_d29 : decode prog_3_method_6_code 29 = .ok (.getfield 13, 3) := by decide +kernel
theorem own_rm2_d32 : decode prog_3_method_6_code 32 = .ok (.lcmp, 1) := by decide +kernel
theorem own_rm2_d33 : decode prog_3_method_6_code 33 = .ok (.ifCond .ne 31, 3) := by decide +kernel
theorem own_rm2_d36 : decode prog_3_method_6_code 36 = .ok (.aload_n 2, 1) := by decide +kernel
theorem own_rm2_d37 : decode prog_3_method_6_code 37 = .ok (.getfield 16, 3) := by decide +kernel
theorem own_rm2_d40 : decode prog_3_method_6_code 40 = .ok (.aload_n 0, 1) := by decide +kernel
theorem own_rm2_d41 : decode prog_3_method_6_code 41 = .ok (.getfield 16, 3) := by decide +kernel
theorem own_rm2_d44 : decode prog_3_method_6_code 44 = .ok (.lcmp, 1) := by decide +kernel
theorem own_rm2_d45 : decode prog_3_method_6_code 45 = .ok (.ifCond .ne 19, 3) := by decide +kernel
theorem own_rm2_d48 : decode prog_3_method_6_code 48 = .ok (.aload_n 2, 1) := by decide +kernel
theorem own_rm2_d49 : decode prog_3_method_6_code 49 = .ok (.getfield 19, 3) := by decide +kernel
theorem own_rm2_d52 : decode prog_3_method_6_code 52 = .ok (.aload_n 0, 1) := by decide +kernel
theorem own_rm2_d53 : decode prog_3_method_6_code 53 = .ok (.getfield 19, 3) := by decide +kernel
theorem own_rm2_d56 : decode prog_3_method_6_code 56 = .ok (.lcmp, 1) := by decide +kernel
theorem own_rm2_d57 : decode prog_3_method_6_code 57 = .ok (.ifCond .ne 7, 3) := by decide +kernel
theorem own_rm2_d60 : decode prog_3_method_6_code 60 = .ok (.iconst 1, 1) := by decide +kernel
theorem own_rm2_d61 : decode prog_3_method_6_code 61 = .ok (.goto 4, 3) := by decide +kernel
theorem own_rm2_d64 : decode prog_3_method_6_code 64 = .ok (.iconst 0, 1) := by decide +kernel
theorem own_rm2_d65 : decode prog_3_method_6_code 65 = .ok (.ireturn, 1) := by decide +kernel
theorem own_rm2_pn : plainName "com/example/ledgerwarden/ledgerwarden/EntryList$Group" = true := by first | (simp [plainName, overriddenIn]; done) | decide +kernel
theorem own_rm2_ef (m : MethodId) (x0 : Addr) (x1 : Addr) : entryFrame m #[(.ref x0), (.ref x1)] 3 = mkF m 0 #[.val (.ref x0), .val (.ref x1), .unset] [] := by first | (simp [entryFrame, mkF, argsToLocals, Value.category]; done) | rfl
def own_rm2_Q (Z : State) (a1 : Addr) (a2 : Addr) (x1 : Int64) (x2 : Int64) (x3 : Int64) (x4 : Int64) (y1 : Int64) (y2 : Int64) (y3 : Int64) (y4 : Int64) (h0 : Heap) (n0 : Nat) (v : Option Value) (h : Heap) (L : List Loc) : Prop := v = some (.int (own_e x1 x2 x3 x4 y1 y2 y3 y4)) ∧ Fr n0 L ∧ h = h0
set_option maxRecDepth 65536 in
set_option maxHeartbeats 40000000 in
theorem own_rm2 (l : Launch) (Z : State) (a0 : Array Value) (hw : ∀ d ∈ tables_1, d.before a0 Z = true) (ws : List Jvm.Cond) (a1 : Addr) (a2 : Addr) (x1 : Int64) (x2 : Int64) (x3 : Int64) (x4 : Int64) (y1 : Int64) (y2 : Int64) (y3 : Int64) (y4 : Int64) (h0 : Heap) (n0 : Nat) (Z0 : n0 ≤ h0.size) (E_a2 : Exa Z h0 a2 "com/example/ledgerwarden/ledgerwarden/EntryList$Group") (F_firstStart_a1 : Fld Z h0 a1 "com/example/ledgerwarden/ledgerwarden/EntryList$Group" "firstStart" "J" (.long x1)) (F_lastStart_a1 : Fld Z h0 a1 "com/example/ledgerwarden/ledgerwarden/EntryList$Group" "lastStart" "J" (.long x2)) (F_size_a1 : Fld Z h0 a1 "com/example/ledgerwarden/ledgerwarden/EntryList$Group" "size" "J" (.long x3)) (F_period_a1 : Fld Z h0 a1 "com/example/ledgerwarden/ledgerwarden/EntryList$Group" "period" "J" (.long x4)) (F_firstStart_a2 : Fld Z h0 a2 "com/example/ledgerwarden/ledgerwarden/EntryList$Group" "firstStart" "J" (.long y1)) (F_lastStart_a2 : Fld Z h0 a2 "com/example/ledgerwarden/ledgerwarden/EntryList$Group" "lastStart" "J" (.long y2)) (F_size_a2 : Fld Z h0 a2 "com/example/ledgerwarden/ledgerwarden/EntryList$Group" "size" "J" (.long y3)) (F_period_a2 : Fld Z h0 a2 "com/example/ledgerwarden/ledgerwarden/EntryList$Group" "period" "J" (.long y4)) :
    MetFree l (⟨"com/example/ledgerwarden/ledgerwarden/EntryList$Group", "equals", "(Ljava/lang/Object;)Z"⟩ : MethodName) (head1 (Jvm.Cond.code (⟨"com/example/ledgerwarden/ledgerwarden/EntryList$Group", "equals", "(Ljava/lang/Object;)Z"⟩ : MethodName) prog_3_method_6_code 3 (some .boolean) :: ws) ({ frames := 0, cells := 0, slots := 0, locals := 0 } : Room)) (fun a U => a = #[(.ref a1), (.ref a2)] ∧ Z.Warmed39 U.vm ∧ U.heap = h0) (fun _ _ _ _ _ => True) (fun _ U o U' => ∃ v L, o = .returned v ∧ own_rm2_Q Z a1 a2 x1 x2 x3 x4 y1 y2 y3 y4 h0 n0 v U'.heap L ∧ FrameEnd U o U' L ({ frames := 0, cells := 0, slots := 0, locals := 0 } : Room).cells ({ frames := 0, cells := 0, slots := 0, locals := 0 } : Room).slots) := by
  refine MetFree.of_bodySF (plainFor_of_name own_rm2_pn) hisR ?_
  intro p e s m args below meth c s₁ Bd hml0 hPre hK
  obtain ⟨rfl, hZ, hh⟩ := hPre
  have hx := Bd.exec
  have hby := Bd.bytes
  have hml : c.maxLocals = 3 := hml0
  have hown : s.vm.findClass "com/example/ledgerwarden/ledgerwarden/EntryList$Group" = some m.cls := findClass_of_methodNamed Bd.named
  have hnm := (name_of_methodNamed Bd.named Bd.method).1
  have X0 : Stand p l e ({ frames := 0, cells := 0, slots := 0, locals := 0 } : Room) s m #[(.ref a1), (.ref a2)] below meth c s₁ [] 0 0 := Stand.of_body Bd
  have e0 : s₁.heap = h0 := by rw [← hh, Bd.state]; rfl
  have N0 := Fr.nil n0
  refine own_body fun P hP => ?_
  refine own_st (t' := s₁.setTop (mkF m 0 #[.val (.ref a1), .val (.ref a2), .unset] [])) (fun _ k => castTop (own_rm2_ef m a1 a2) k) ?_
  refine own_st (t' := s₁.setTop (mkF m 1 #[.val (.ref a1), .val (.ref a2), .unset] [(.ref a2)])) (fun _ k => XS.aloadN X0.here hx rfl (hb hby own_rm2_d0) rfl rfl k) ?_
  obtain ⟨T1, X1, e1, st1⟩ := instY X0 hx hZ hown (hw _ (List.mem_of_getElem? (i := 22) rfl)) e0 (Ins.self E_a2) (g := (mkF m 1 #[.val (.ref a1), .val (.ref a2), .unset] [(.ref a2)])) rfl rfl (hb hby own_rm2_d1)
  refine own_st (t' := T1.setTop (mkF m 4 #[.val (.ref a1), .val (.ref a2), .unset] [(.int (1 : Int32))])) st1 ?_
  refine own_st (t' := T1.setTop (mkF m 7 #[.val (.ref a1), .val (.ref a2), .unset] [])) (fun _ k => XS.ifNo X1.here hx rfl (hb hby own_rm2_d4) rfl ((if0 _ _).trans (feq (by decide : ¬ ((1 : Int32) = (0 : Int32)))).1) k) ?_
  refine own_st (t' := T1.setTop (mkF m 8 #[.val (.ref a1), .val (.ref a2), .unset] [(.ref a2)])) (fun _ k => XS.aloadN X1.here hx rfl (hb hby own_rm2_d7) rfl rfl k) ?_
  obtain ⟨T2, X2, e2, st2⟩ := castY X1 hx hZ hown (hw _ (List.mem_of_getElem? (i := 22) rfl)) e1 (Ins.self E_a2) (g := (mkF m 8 #[.val (.ref a1), .val (.ref a2), .unset] [(.ref a2)])) rfl rfl (hb hby own_rm2_d8)
  refine own_st (t' := T2.setTop (mkF m 11 #[.val (.ref a1), .val (.ref a2), .unset] [(.ref a2)])) st2 ?_
  refine own_st (t' := T2.setTop (mkF m 12 #[.val (.ref a1), .val (.ref a2), .val (.ref a2)] [])) (fun _ k => XS.astoreN X2.here hx rfl (hb hby own_rm2_d11) rfl rfl (l' := #[.val (.ref a1), .val (.ref a2), .val (.ref a2)]) rfl k) ?_
  refine own_st (t' := T2.setTop (mkF m 13 #[.val (.ref a1), .val (.ref a2), .val (.ref a2)] [(.ref a2)])) (fun _ k => XS.aloadN X2.here hx rfl (hb hby own_rm2_d12) rfl rfl k) ?_
  obtain ⟨T3, X3, e3, st3⟩ := getF X2 hx hZ hown (host := "") (Or.inl (hw _ (List.mem_of_getElem? (i := 9) rfl))) Via.refl e2 F_firstStart_a2 (g := (mkF m 13 #[.val (.ref a1), .val (.ref a2), .val (.ref a2)] [(.ref a2)])) rfl rfl (hb hby own_rm2_d13)
  refine own_st (t' := T3.setTop (mkF m 16 #[.val (.ref a1), .val (.ref a2), .val (.ref a2)] [(.long y1)])) st3 ?_
  refine own_st (t' := T3.setTop (mkF m 17 #[.val (.ref a1), .val (.ref a2), .val (.ref a2)] [(.ref a1), (.long y1)])) (fun _ k => XS.aloadN X3.here hx rfl (hb hby own_rm2_d16) rfl rfl k) ?_
  obtain ⟨T4, X4, e4, st4⟩ := getF X3 hx hZ hown (host := "") (Or.inl (hw _ (List.mem_of_getElem? (i := 9) rfl))) Via.refl e3 F_firstStart_a1 (g := (mkF m 17 #[.val (.ref a1), .val (.ref a2), .val (.ref a2)] [(.ref a1), (.long y1)])) rfl rfl (hb hby own_rm2_d17)
  refine own_st (t' := T4.setTop (mkF m 20 #[.val (.ref a1), .val (.ref a2), .val (.ref a2)] [(.long x1), (.long y1)])) st4 ?_
  refine own_st (t' := T4.setTop (mkF m 21 #[.val (.ref a1), .val (.ref a2), .val (.ref a2)] [(.int (lcmpW y1 x1))])) (fun _ k => XS.lcmp X4.here hx rfl (hb hby own_rm2_d20) rfl k) ?_
  by_cases c21_5 : (lcmpW y1 x1) = (0 : Int32)
  · refine own_st (t' := T4.setTop (mkF m 24 #[.val (.ref a1), .val (.ref a2), .val (.ref a2)] [])) (fun _ k => XS.ifNo X4.here hx rfl (hb hby own_rm2_d21) rfl ((if0 _ _).trans (teq c21_5).2) k) ?_
    refine own_st (t' := T4.setTop (mkF m 25 #[.val (.ref a1), .val (.ref a2), .val (.ref a2)] [(.ref a2)])) (fun _ k => XS.aloadN X4.here hx rfl (hb hby own_rm2_d24) rfl rfl k) ?_
    obtain ⟨T6, X6, e6, st6⟩ := getF X4 hx hZ hown (host := "") (Or.inl (hw _ (List.mem_of_getElem? (i := 11) rfl))) Via.refl e4 F_lastStart_a2 (g := (mkF m 25 #[.val (.ref a1), .val (.ref a2), .val (.ref a2)] [(.ref a2)])) rfl rfl (hb hby own_rm2_d25)
    refine own_st (t' := T6.setTop (mkF m 28 #[.val (.ref a1), .val (.ref a2), .val (.ref a2)] [(.long y2)])) st6 ?_
    refine own_st (t' := T6.setTop (mkF m 29 #[.val (.ref a1), .val (.ref a2), .val (.ref a2)] [(.ref a1), (.long y2)])) (fun _ k => XS.aloadN X6.here hx rfl (hb hby own_rm2_d28) rfl rfl k) ?_
    obtain ⟨T7, X7, e7, st7⟩ := getF X6 hx hZ hown (host := "") (Or.inl (hw _ (List.mem_of_getElem? (i := 11) rfl))) Via.refl e6 F_lastStart_a1 (g := (mkF m 29 #[.val (.ref a1), .val (.ref a2), .val (.ref a2)] [(.ref a1), (.long y2)])) rfl rfl (hb hby own_rm2_d29)
    refine own_st (t' := T7.setTop (mkF m 32 #[.val (.ref a1), .val (.ref a2), .val (.ref a2)] [(.long x2), (.long y2)])) st7 ?_
    refine own_st (t' := T7.setTop (mkF m 33 #[.val (.ref a1), .val (.ref a2), .val (.ref a2)] [(.int (lcmpW y2 x2))])) (fun _ k => XS.lcmp X7.here hx rfl (hb hby own_rm2_d32) rfl k) ?_
    by_cases c33_8 : (lcmpW y2 x2) = (0 : Int32)
    · refine own_st (t' := T7.setTop (mkF m 36 #[.val (.ref a1), .val (.ref a2), .val (.ref a2)] [])) (fun _ k => XS.ifNo X7.here hx rfl (hb hby own_rm2_d33) rfl ((if0 _ _).trans (teq c33_8).2) k) ?_
      refine own_st (t' := T7.setTop (mkF m 37 #[.val (.ref a1), .val (.ref a2), .val (.ref a2)] [(.ref a2)])) (fun _ k => XS.aloadN X7.here hx rfl (hb hby own_rm2_d36) rfl rfl k) ?_
      obtain ⟨T9, X9, e9, st9⟩ := getF X7 hx hZ hown (host := "") (Or.inl (hw _ (List.mem_of_getElem? (i := 13) rfl))) Via.refl e7 F_size_a2 (g := (mkF m 37 #[.val (.ref a1), .val (.ref a2), .val (.ref a2)] [(.ref a2)])) rfl rfl (hb hby own_rm2_d37)
      refine own_st (t' := T9.setTop (mkF m 40 #[.val (.ref a1), .val (.ref a2), .val (.ref a2)] [(.long y3)])) st9 ?_
      refine own_st (t' := T9.setTop (mkF m 41 #[.val (.ref a1), .val (.ref a2), .val (.ref a2)] [(.ref a1), (.long y3)])) (fun _ k => XS.aloadN X9.here hx rfl (hb hby own_rm2_d40) rfl rfl k) ?_
      obtain ⟨T10, X10, e10, st10⟩ := getF X9 hx hZ hown (host := "") (Or.inl (hw _ (List.mem_of_getElem? (i := 13) rfl))) Via.refl e9 F_size_a1 (g := (mkF m 41 #[.val (.ref a1), .val (.ref a2), .val (.ref a2)] [(.ref a1), (.long y3)])) rfl rfl (hb hby own_rm2_d41)
      refine own_st (t' := T10.setTop (mkF m 44 #[.val (.ref a1), .val (.ref a2), .val (.ref a2)] [(.long x3), (.long y3)])) st10 ?_
      refine own_st (t' := T10.setTop (mkF m 45 #[.val (.ref a1), .val (.ref a2), .val (.ref a2)] [(.int (lcmpW y3 x3))])) (fun _ k => XS.lcmp X10.here hx rfl (hb hby own_rm2_d44) rfl k) ?_
      by_cases c45_11 : (lcmpW y3 x3) = (0 : Int32)
      · refine own_st (t' := T10.setTop (mkF m 48 #[.val (.ref a1), .val (.ref a2), .val (.ref a2)] [])) (fun _ k => XS.ifNo X10.here hx rfl (hb hby own_rm2_d45) rfl ((if0 _ _).trans (teq c45_11).2) k) ?_
        refine own_st (t' := T10.setTop (mkF m 49 #[.val (.ref a1), .val (.ref a2), .val (.ref a2)] [(.ref a2)])) (fun _ k => XS.aloadN X10.here hx rfl (hb hby own_rm2_d48) rfl rfl k) ?_
        obtain ⟨T12, X12, e12, st12⟩ := getF X10 hx hZ hown (host := "") (Or.inl (hw _ (List.mem_of_getElem? (i := 15) rfl))) Via.refl e10 F_period_a2 (g := (mkF m 49 #[.val (.ref a1), .val (.ref a2), .val (.ref a2)] [(.ref a2)])) rfl rfl (hb hby own_rm2_d49)
        refine own_st (t' := T12.setTop (mkF m 52 #[.val (.ref a1), .val (.ref a2), .val (.ref a2)] [(.long y4)])) st12 ?_
        refine own_st (t' := T12.setTop (mkF m 53 #[.val (.ref a1), .val (.ref a2), .val (.ref a2)] [(.ref a1), (.long y4)])) (fun _ k => XS.aloadN X12.here hx rfl (hb hby own_rm2_d52) rfl rfl k) ?_
        obtain ⟨T13, X13, e13, st13⟩ := getF X12 hx hZ hown (host := "") (Or.inl (hw _ (List.mem_of_getElem? (i := 15) rfl))) Via.refl e12 F_period_a1 (g := (mkF m 53 #[.val (.ref a1), .val (.ref a2), .val (.ref a2)] [(.ref a1), (.long y4)])) rfl rfl (hb hby own_rm2_d53)
        refine own_st (t' := T13.setTop (mkF m 56 #[.val (.ref a1), .val (.ref a2), .val (.ref a2)] [(.long x4), (.long y4)])) st13 ?_
        refine own_st (t' := T13.setTop (mkF m 57 #[.val (.ref a1), .val (.ref a2), .val (.ref a2)] [(.int (lcmpW y4 x4))])) (fun _ k => XS.lcmp X13.here hx rfl (hb hby own_rm2_d56) rfl k) ?_
        by_cases c57_14 : (lcmpW y4 x4) = (0 : Int32)
        · refine own_st (t' := T13.setTop (mkF m 60 #[.val (.ref a1), .val (.ref a2), .val (.ref a2)] [])) (fun _ k => XS.ifNo X13.here hx rfl (hb hby own_rm2_d57) rfl ((if0 _ _).trans (teq c57_14).2) k) ?_
          refine own_st (t' := T13.setTop (mkF m 61 #[.val (.ref a1), .val (.ref a2), .val (.ref a2)] [(.int (1 : Int32))])) (fun _ k => XS.iconst X13.here hx rfl (hb hby own_rm2_d60) k) ?_
          refine own_st (t' := T13.setTop (mkF m 65 #[.val (.ref a1), .val (.ref a2), .val (.ref a2)] [(.int (1 : Int32))])) (fun _ k => XS.goto X13.here hx rfl (pc0 := 61) (pc' := 65) rfl (hb hby own_rm2_d61) (by decide) (by decide) k) ?_
          have hv15 : (1 : Int32) = own_e x1 x2 x3 x4 y1 y2 y3 y4 := by rw [own_e, if_pos c21_5, if_pos c33_8, if_pos c45_11, if_pos c57_14]
          obtain ⟨fs, hr, hrun, hended, hW, hsame⟩ := X13.leave (v := some (.int (1 : Int32))) (fun h => by rw [Bd.returns] at h; cases h)
          exact ⟨_, _, retN X13 hx (t := .boolean) Bd.returns (by simp) (hb hby own_rm2_d65) hr, hrun, hended, hP _ _ ⟨_, _, rfl, ⟨(congrArg (fun z => some (Value.int z)) hv15), N0, e13⟩, ⟨_, rfl⟩, hW, hsame.mono (by decide) (by decide)⟩⟩
        · refine own_st (t' := T13.setTop (mkF m 64 #[.val (.ref a1), .val (.ref a2), .val (.ref a2)] [])) (fun _ k => XS.ifYes X13.here hx rfl (pc0 := 57) (pc' := 64) rfl (hb hby own_rm2_d57) rfl ((if0 _ _).trans (feq c57_14).2) (by decide) (by decide) k) ?_
          refine own_st (t' := T13.setTop (mkF m 65 #[.val (.ref a1), .val (.ref a2), .val (.ref a2)] [(.int (0 : Int32))])) (fun _ k => XS.iconst X13.here hx rfl (hb hby own_rm2_d64) k) ?_
          have hv16 : (0 : Int32) = own_e x1 x2 x3 x4 y1 y2 y3 y4 := by rw [own_e, if_pos c21_5, if_pos c33_8, if_pos c45_11, if_neg c57_14]
          obtain ⟨fs, hr, hrun, hended, hW, hsame⟩ := X13.leave (v := some (.int (0 : Int32))) (fun h => by rw [Bd.returns] at h; cases h)
          exact ⟨_, _, retN X13 hx (t := .boolean) Bd.returns (by simp) (hb hby own_rm2_d65) hr, hrun, hended, hP _ _ ⟨_, _, rfl, ⟨(congrArg (fun z => some (Value.int z)) hv16), N0, e13⟩, ⟨_, rfl⟩, hW, hsame.mono (by decide) (by decide)⟩⟩
      · refine own_st (t' := T10.setTop (mkF m 64 #[.val (.ref a1), .val (.ref a2), .val (.ref a2)] [])) (fun _ k => XS.ifYes X10.here hx rfl (pc0 := 45) (pc' := 64) rfl (hb hby own_rm2_d45) rfl ((if0 _ _).trans (feq c45_11).2) (by decide) (by decide) k) ?_
        refine own_st (t' := T10.setTop (mkF m 65 #[.val (.ref a1), .val (.ref a2), .val (.ref a2)] [(.int (0 : Int32))])) (fun _ k => XS.iconst X10.here hx rfl (hb hby own_rm2_d64) k) ?_
        have hv17 : (0 : Int32) = own_e x1 x2 x3 x4 y1 y2 y3 y4 := by rw [own_e, if_pos c21_5, if_pos c33_8, if_neg c45_11]
        obtain ⟨fs, hr, hrun, hended, hW, hsame⟩ := X10.leave (v := some (.int (0 : Int32))) (fun h => by rw [Bd.returns] at h; cases h)
        exact ⟨_, _, retN X10 hx (t := .boolean) Bd.returns (by simp) (hb hby own_rm2_d65) hr, hrun, hended, hP _ _ ⟨_, _, rfl, ⟨(congrArg (fun z => some (Value.int z)) hv17), N0, e10⟩, ⟨_, rfl⟩, hW, hsame.mono (by decide) (by decide)⟩⟩
    · refine own_st (t' := T7.setTop (mkF m 64 #[.val (.ref a1), .val (.ref a2), .val (.ref a2)] [])) (fun _ k => XS.ifYes X7.here hx rfl (pc0 := 33) (pc' := 64) rfl (hb hby own_rm2_d33) rfl ((if0 _ _).trans (feq c33_8).2) (by decide) (by decide) k) ?_
      refine own_st (t' := T7.setTop (mkF m 65 #[.val (.ref a1), .val (.ref a2), .val (.ref a2)] [(.int (0 : Int32))])) (fun _ k => XS.iconst X7.here hx rfl (hb hby own_rm2_d64) k) ?_
      have hv18 : (0 : Int32) = own_e x1 x2 x3 x4 y1 y2 y3 y4 := by rw [own_e, if_pos c21_5, if_neg c33_8]
      obtain ⟨fs, hr, hrun, hended, hW, hsame⟩ := X7.leave (v := some (.int (0 : Int32))) (fun h => by rw [Bd.returns] at h; cases h)
      exact ⟨_, _, retN X7 hx (t := .boolean) Bd.returns (by simp) (hb hby own_rm2_d65) hr, hrun, hended, hP _ _ ⟨_, _, rfl, ⟨(congrArg (fun z => some (Value.int z)) hv18), N0, e7⟩, ⟨_, rfl⟩, hW, hsame.mono (by decide) (by decide)⟩⟩
  · refine own_st (t' := T4.setTop (mkF m 64 #[.val (.ref a1), .val (.ref a2), .val (.ref a2)] [])) (fun _ k => XS.ifYes X4.here hx rfl (pc0 := 21) (pc' := 64) rfl (hb hby own_rm2_d21) rfl ((if0 _ _).trans (feq c21_5).2) (by decide) (by decide) k) ?_
    refine own_st (t' := T4.setTop (mkF m 65 #[.val (.ref a1), .val (.ref a2), .val (.ref a2)] [(.int (0 : Int32))])) (fun _ k => XS.iconst X4.here hx rfl (hb hby own_rm2_d64) k) ?_
    have hv19 : (0 : Int32) = own_e x1 x2 x3 x4 y1 y2 y3 y4 := by rw [own_e, if_neg c21_5]
    obtain ⟨fs, hr, hrun, hended, hW, hsame⟩ := X4.leave (v := some (.int (0 : Int32))) (fun h => by rw [Bd.returns] at h; cases h)
    exact ⟨_, _, retN X4 hx (t := .boolean) Bd.returns (by simp) (hb hby own_rm2_d65) hr, hrun, hended, hP _ _ ⟨_, _, rfl, ⟨(congrArg (fun z => some (Value.int z)) hv19), N0, e4⟩, ⟨_, rfl⟩, hW, hsame.mono (by decide) (by decide)⟩⟩

theorem own_rm3_d0 : decode prog_3_method_6_code 0 = .ok (.aload_n 1, 1) := by decide +kernel
theorem own_rm3_d1 : decode prog_3_method_6_code 1 = .ok (.instanceof 8, 3) := by decide +kernel
theorem own_rm3_d4 : decode prog_3_method_6_code 4 = .ok (.ifCond .eq 60, 3) := by decide +kernel
theorem own_rm3_d64 : decode prog_3_method_6_code 64 = .ok (.iconst 0, 1) := by decide +kernel
theorem own_rm3_d65 : decode prog_3_method_6_code 65 = .ok (.ireturn, 1) := by decide +kernel
theorem own_rm3_pn : plainName "com/example/ledgerwarden/ledgerwarden/EntryList$Group" = true := by first | (simp [plainName, overriddenIn]; done) | decide +kernel
theorem own_rm3_ef (m : MethodId) (x0 : Addr) : entryFrame m #[(.ref x0), .null] 3 = mkF m 0 #[.val (.ref x0), .val .null, .unset] [] := by first | (simp [entryFrame, mkF, argsToLocals, Value.category]; done) | rfl
def own_rm3_Q (Z : State) (a1 : Addr) (h0 : Heap) (n0 : Nat) (v : Option Value) (h : Heap) (L : List Loc) : Prop := v = some (.int ((0 : Int32))) ∧ Fr n0 L ∧ h = h0
set_option maxRecDepth 65536 in
set_option maxHeartbeats 40000000 in
theorem own_rm3 (l : Launch) (Z : State) (a0 : Array Value) (hw : ∀ d ∈ tables_1, d.before a0 Z = true) (ws : List Jvm.Cond) (a1 : Addr) (h0 : Heap) (n0 : Nat) (Z0 : n0 ≤ h0.size) :
    MetFree l (⟨"com/example/ledgerwarden/ledgerwarden/EntryList$Group", "equals", "(Ljava/lang/Object;)Z"⟩ : MethodName) (head1 (Jvm.Cond.code (⟨"com/example/ledgerwarden/ledgerwarden/EntryList$Group", "equals", "(Ljava/lang/Object;)Z"⟩ : MethodName) prog_3_method_6_code 3 (some .boolean) :: ws) ({ frames := 0, cells := 0, slots := 0, locals := 0 } : Room)) (fun a U => a = #[(.ref a1), .null] ∧ Z.Warmed39 U.vm ∧ U.heap = h0) (fun _ _ _ _ _ => True) (fun _ U o U' => ∃ v L, o = .returned v ∧ own_rm3_Q Z a1 h0 n0 v U'.heap L ∧ FrameEnd U o U' L ({ frames := 0, cells := 0, slots := 0, locals := 0 } : Room).cells ({ frames := 0, cells := 0, slots := 0, locals := 0 } : Room).slots) := by
  refine MetFree.of_bodySF (plainFor_of_name own_rm3_pn) hisR ?_
  intro p e s m args below meth c s₁ Bd hml0 hPre hK
  obtain ⟨rfl, hZ, hh⟩ := hPre
  have hx := Bd.exec
  have hby := Bd.bytes
  have hml : c.maxLocals = 3 := hml0
  have hown : s.vm.findClass "com/example/ledgerwarden/ledgerwarden/EntryList$Group" = some m.cls := findClass_of_methodNamed Bd.named
  have hnm := (name_of_methodNamed Bd.named Bd.method).1
  have X0 : Stand p l e ({ frames := 0, cells := 0, slots := 0, locals := 0 } : Room) s m #[(.ref a1), .null] below meth c s₁ [] 0 0 := Stand.of_body Bd
  have e0 : s₁.heap = h0 := by rw [← hh, Bd.state]; rfl
  have N0 := Fr.nil n0
  refine own_body fun P hP => ?_
  refine own_st (t' := s₁.setTop (mkF m 0 #[.val (.ref a1), .val .null, .unset] [])) (fun _ k => castTop (own_rm3_ef m a1) k) ?_
  refine own_st (t' := s₁.setTop (mkF m 1 #[.val (.ref a1), .val .null, .unset] [.null])) (fun _ k => XS.aloadN X0.here hx rfl (hb hby own_rm3_d0) rfl rfl k) ?_
  refine own_st (t' := s₁.setTop (mkF m 4 #[.val (.ref a1), .val .null, .unset] [(.int (0 : Int32))])) (fun _ k => X0.instanceofNull hx (g := (mkF m 1 #[.val (.ref a1), .val .null, .unset] [.null])) rfl rfl (hb hby own_rm3_d1) _ k) ?_
  refine own_st (t' := s₁.setTop (mkF m 64 #[.val (.ref a1), .val .null, .unset] [])) (fun _ k => XS.ifYes X0.here hx rfl (pc0 := 4) (pc' := 64) rfl (hb hby own_rm3_d4) rfl ((if0 _ _).trans (teq (rfl : (0 : Int32) = (0 : Int32))).1) (by decide) (by decide) k) ?_
  refine own_st (t' := s₁.setTop (mkF m 65 #[.val (.ref a1), .val .null, .unset] [(.int (0 : Int32))])) (fun _ k => XS.iconst X0.here hx rfl (hb hby own_rm3_d64) k) ?_
  have hv1 : (0 : Int32) = (0 : Int32) := rfl
  obtain ⟨fs, hr, hrun, hended, hW, hsame⟩ := X0.leave (v := some (.int (0 : Int32))) (fun h => by rw [Bd.returns] at h; cases h)
  exact ⟨_, _, retN X0 hx (t := .boolean) Bd.returns (by simp) (hb hby own_rm3_d65) hr, hrun, hended, hP _ _ ⟨_, _, rfl, ⟨(congrArg (fun z => some (Value.int z)) hv1), N0, e0⟩, ⟨_, rfl⟩, hW, hsame.mono (by decide) (by decide)⟩⟩

theorem own_rm4_d0 : decode prog_3_method_6_code 0 = .ok (.aload_n 1, 1) := by decide +kernel
theorem own_rm4_d1 : decode prog_3_method_6_code 1 = .ok (.instanceof 8, 3) := by decide +kernel
theorem own_rm4_d4 : decode prog_3_method_6_code 4 = .ok (.ifCond .eq 60, 3) := by decide +kernel
theorem own_rm4_d64 : decode prog_3_method_6_code 64 = .ok (.iconst 0, 1) := by decide +kernel
theorem own_rm4_d65 : decode prog_3_method_6_code 65 = .ok (.ireturn, 1) := by decide +kernel
theorem own_rm4_pn : plainName "com/example/ledgerwarden/ledgerwarden/EntryList$Group" = true := by first | (simp [plainName, overriddenIn]; done) | decide +kernel
theorem own_rm4_ef (m : MethodId) (x0 : Addr) (x1 : Addr) : entryFrame m #[(.ref x0), (.ref x1)] 3 = mkF m 0 #[.val (.ref x0), .val (.ref x1), .unset] [] := by first | (simp [entryFrame, mkF, argsToLocals, Value.category]; done) | rfl
def own_rm4_Q (Z : State) (a1 : Addr) (a2 : Addr) (h0 : Heap) (n0 : Nat) (v : Option Value) (h : Heap) (L : List Loc) : Prop := v = some (.int ((0 : Int32))) ∧ Fr n0 L ∧ h = h0
set_option maxRecDepth 65536 in
set_option maxHeartbeats 40000000 in
theorem own_rm4 (l : Launch) (Z : State) (a0 : Array Value) (hw : ∀ d ∈ tables_1, d.before a0 Z = true) (ws : List Jvm.Cond) (a1 : Addr) (a2 : Addr) (h0 : Heap) (n0 : Nat) (Z0 : n0 ≤ h0.size) (E_a2 : Exa Z h0 a2 "java/lang/Long") (NO : ∃ c t, Z.vm.findClass "java/lang/Long" = some c ∧ Z.vm.findClass "com/example/ledgerwarden/ledgerwarden/EntryList$Group" = some t ∧ Z.vm.assignable c t = false) :
    MetFree l (⟨"com/example/ledgerwarden/ledgerwarden/EntryList$Group", "equals", "(Ljava/lang/Object;)Z"⟩ : MethodName) (head1 (Jvm.Cond.code (⟨"com/example/ledgerwarden/ledgerwarden/EntryList$Group", "equals", "(Ljava/lang/Object;)Z"⟩ : MethodName) prog_3_method_6_code 3 (some .boolean) :: ws) ({ frames := 0, cells := 0, slots := 0, locals := 0 } : Room)) (fun a U => a = #[(.ref a1), (.ref a2)] ∧ Z.Warmed39 U.vm ∧ U.heap = h0) (fun _ _ _ _ _ => True) (fun _ U o U' => ∃ v L, o = .returned v ∧ own_rm4_Q Z a1 a2 h0 n0 v U'.heap L ∧ FrameEnd U o U' L ({ frames := 0, cells := 0, slots := 0, locals := 0 } : Room).cells ({ frames := 0, cells := 0, slots := 0, locals := 0 } : Room).slots) := by
  refine MetFree.of_bodySF (plainFor_of_name own_rm4_pn) hisR ?_
  intro p e s m args below meth c s₁ Bd hml0 hPre hK
  obtain ⟨rfl, hZ, hh⟩ := hPre
  have hx := Bd.exec
  have hby := Bd.bytes
  have hml : c.maxLocals = 3 := hml0
  have hown : s.vm.findClass "com/example/ledgerwarden/ledgerwarden/EntryList$Group" = some m.cls := findClass_of_methodNamed Bd.named
  have hnm := (name_of_methodNamed Bd.named Bd.method).1
  have X0 : Stand p l e ({ frames := 0, cells := 0, slots := 0, locals := 0 } : Room) s m #[(.ref a1), (.ref a2)] below meth c s₁ [] 0 0 := Stand.of_body Bd
  have e0 : s₁.heap = h0 := by rw [← hh, Bd.state]; rfl
  have N0 := Fr.nil n0
  refine own_body fun P hP => ?_
  refine own_st (t' := s₁.setTop (mkF m 0 #[.val (.ref a1), .val (.ref a2), .unset] [])) (fun _ k => castTop (own_rm4_ef m a1 a2) k) ?_
  refine own_st (t' := s₁.setTop (mkF m 1 #[.val (.ref a1), .val (.ref a2), .unset] [(.ref a2)])) (fun _ k => XS.aloadN X0.here hx rfl (hb hby own_rm4_d0) rfl rfl k) ?_
  obtain ⟨T1, X1, e1, st1⟩ := instNo X0 hx hZ hown (hw _ (List.mem_of_getElem? (i := 22) rfl)) e0 E_a2 NO (g := (mkF m 1 #[.val (.ref a1), .val (.ref a2), .unset] [(.ref a2)])) rfl rfl (hb hby own_rm4_d1)
  refine own_st (t' := T1.setTop (mkF m 4 #[.val (.ref a1), .val (.ref a2), .unset] [(.int (0 : Int32))])) st1 ?_
  refine own_st (t' := T1.setTop (mkF m 64 #[.val (.ref a1), .val (.ref a2), .unset] [])) (fun _ k => XS.ifYes X1.here hx rfl (pc0 := 4) (pc' := 64) rfl (hb hby own_rm4_d4) rfl ((if0 _ _).trans (teq (rfl : (0 : Int32) = (0 : Int32))).1) (by decide) (by decide) k) ?_
  refine own_st (t' := T1.setTop (mkF m 65 #[.val (.ref a1), .val (.ref a2), .unset] [(.int (0 : Int32))])) (fun _ k => XS.iconst X1.here hx rfl (hb hby own_rm4_d64) k) ?_
  have hv2 : (0 : Int32) = (0 : Int32) := rfl
  obtain ⟨fs, hr, hrun, hended, hW, hsame⟩ := X1.leave (v := some (.int (0 : Int32))) (fun h => by rw [Bd.returns] at h; cases h)
  exact ⟨_, _, retN X1 hx (t := .boolean) Bd.returns (by simp) (hb hby own_rm4_d65) hr, hrun, hended, hP _ _ ⟨_, _, rfl, ⟨(congrArg (fun z => some (Value.int z)) hv2), N0, e1⟩, ⟨_, rfl⟩, hW, hsame.mono (by decide) (by decide)⟩⟩

theorem own_rm0_pn : plainName "com/example/ledgerwarden/ledgerwarden/GroupEqualsPinLaw" = true := by first | (simp [plainName, overriddenIn]; done) | decide +kernel
theorem own_rm0_pd0 : parseMethodDescriptor "(JJJJ)V" = some ⟨[.long, .long, .long, .long], none⟩ := by decide +kernel
theorem own_rm0_pd1 : parseMethodDescriptor "(J)Ljava/lang/Long;" = some ⟨[.long], some (.object "java/lang/Long")⟩ := by decide +kernel
theorem own_rm0_pd2 : parseMethodDescriptor "(Ljava/lang/Object;)Z" = some ⟨[(.object "java/lang/Object")], some .boolean⟩ := by decide +kernel
theorem own_rm0_ef (m : MethodId) (x0 : Int64) (x1 : Int64) (x2 : Int64) (x3 : Int64) (x4 : Int64) (x5 : Int32) : entryFrame m #[(.long x0), (.long x1), (.long x2), (.long x3), (.long x4), (.int x5)] maxLocals = mkF m 0 #[.val (.long x0), .second, .val (.long x1), .second, .val (.long x2), .second, .val (.long x3), .second, .val (.long x4), .second, .val (.int x5), .unset, .unset, .unset, .unset, .unset, .unset, .unset, .unset, .unset, .unset, .unset, .unset, .unset, .unset] [] := by first | (simp [entryFrame, mkF, argsToLocals, Value.category, maxLocals]; done) | rfl
def own_rm0_Q (Z : State) (q1 : Int64) (q2 : Int64) (q3 : Int64) (q4 : Int64) (q5 : Int64) (p6 : Int32) (wC : Addr) (cC : Cell) (val : Int32 → Value) (h0 : Heap) (n0 : Nat) (v : Option Value) (h : Heap) (L : List Loc) : Prop := v = some (.int ((1 : Int32))) ∧ Fr n0 L
set_option maxRecDepth 65536 in
set_option maxHeartbeats 40000000 in
theorem own_rm0 (l : Launch) (Z : State) (a0 : Array Value) (hw : ∀ d ∈ tables_1, d.before a0 Z = true) (ws : List Jvm.Cond) (q1 : Int64) (q2 : Int64) (q3 : Int64) (q4 : Int64) (q5 : Int64) (p6 : Int32) (wC : Addr) (cC : Cell) (val : Int32 → Value) (h0 : Heap) (n0 : Nat) (Z0 : n0 ≤ h0.size) (O : Old Z n0 h0) (S_c : Sta Z h0 "java/lang/Long$LongCache" "cache" "[Ljava/lang/Long;" (.ref wC)) (BX : Bxs Z wC cC "java/lang/Long" "J" (256 : Int32) val) :
    MetFree l x (head1 (Jvm.Cond.code x code maxLocals ret :: ws) room_1) (fun a U => a = #[(.long q1), (.long q2), (.long q3), (.long q4), (.long q5), (.int p6)] ∧ Z.Warmed39 U.vm ∧ U.heap = h0) (fun _ _ _ _ _ => True) (fun _ U o U' => ∃ v L, o = .returned v ∧ own_rm0_Q Z q1 q2 q3 q4 q5 p6 wC cC val h0 n0 v U'.heap L ∧ FrameEnd U o U' L room_1.cells room_1.slots) := by
  refine MetFree.of_bodySF (plainFor_of_name own_rm0_pn) hisR ?_
  intro p e s m args below meth c s₁ Bd hml0 hPre hK
  obtain ⟨rfl, hZ, hh⟩ := hPre
  have hx := Bd.exec
  have hby := Bd.bytes
  have hml : c.maxLocals = 25 := hml0
  have hown : s.vm.findClass "com/example/ledgerwarden/ledgerwarden/GroupEqualsPinLaw" = some m.cls := findClass_of_methodNamed Bd.named
  have hnm := (name_of_methodNamed Bd.named Bd.method).1
  have X0 : Stand p l e room_1 s m #[(.long q1), (.long q2), (.long q3), (.long q4), (.long q5), (.int p6)] below meth c s₁ [] 0 0 := Stand.of_body Bd
  have e0 : s₁.heap = h0 := by rw [← hh, Bd.state]; rfl
  have N0 := Fr.nil n0
  refine own_body fun P hP => ?_
  refine own_st (t' := s₁.setTop (mkF m 0 #[.val (.long q1), .second, .val (.long q2), .second, .val (.long q3), .second, .val (.long q4), .second, .val (.long q5), .second, .val (.int p6), .unset, .unset, .unset, .unset, .unset, .unset, .unset, .unset, .unset, .unset, .unset, .unset, .unset, .unset] [])) (fun _ k => castTop (own_rm0_ef m q1 q2 q3 q4 q5 p6) k) ?_
  have hno := own_no (hw _ (List.mem_of_getElem? (i := 45) rfl)) (hw _ (List.mem_of_getElem? (i := 46) rfl)) (hw _ (List.mem_of_getElem? (i := 47) rfl)) (hw _ (List.mem_of_getElem? (i := 1) rfl)) (K := "com/example/ledgerwarden/ledgerwarden/EntryList$Group") (by decide) (by decide) (by decide)
  have J1 : ∀ a2 : Int64, True → own_At p e below P (s₁.setTop (mkF m 13 #[.val (.long q1), .second, .val (.long q2), .second, .val (.long q3), .second, .val (.long q4), .second, .val (.long q5), .second, .val (.int p6), .unset, .unset, .unset, .unset, .unset, .unset, .unset, .unset, .unset, .unset, .unset, .unset, .unset, .unset] [(.long a2)])) := by
    intro a2  _
    refine own_st (t' := s₁.setTop (mkF m 15 #[.val (.long q1), .second, .val (.long q2), .second, .val (.long q3), .second, .val (.long q4), .second, .val (.long q5), .second, .val (.int p6), .val (.long a2), .second, .unset, .unset, .unset, .unset, .unset, .unset, .unset, .unset, .unset, .unset, .unset, .unset] [])) (fun _ k => XS.lstore X0.here hx rfl (hb hby at_13) rfl (l' := #[.val (.long q1), .second, .val (.long q2), .second, .val (.long q3), .second, .val (.long q4), .second, .val (.long q5), .second, .val (.int p6), .val (.long a2), .second, .unset, .unset, .unset, .unset, .unset, .unset, .unset, .unset, .unset, .unset, .unset, .unset]) rfl k) ?_
    have J2 : ∀ b2 : Int64, True → own_At p e below P (s₁.setTop (mkF m 28 #[.val (.long q1), .second, .val (.long q2), .second, .val (.long q3), .second, .val (.long q4), .second, .val (.long q5), .second, .val (.int p6), .val (.long a2), .second, .unset, .unset, .unset, .unset, .unset, .unset, .unset, .unset, .unset, .unset, .unset, .unset] [(.long b2)])) := by
      intro b2  _
      refine own_st (t' := s₁.setTop (mkF m 30 #[.val (.long q1), .second, .val (.long q2), .second, .val (.long q3), .second, .val (.long q4), .second, .val (.long q5), .second, .val (.int p6), .val (.long a2), .second, .val (.long b2), .second, .unset, .unset, .unset, .unset, .unset, .unset, .unset, .unset, .unset, .unset] [])) (fun _ k => XS.lstore X0.here hx rfl (hb hby at_28) rfl (l' := #[.val (.long q1), .second, .val (.long q2), .second, .val (.long q3), .second, .val (.long q4), .second, .val (.long q5), .second, .val (.int p6), .val (.long a2), .second, .val (.long b2), .second, .unset, .unset, .unset, .unset, .unset, .unset, .unset, .unset, .unset, .unset]) rfl k) ?_
      have J3 : ∀ c2 : Int64, True → own_At p e below P (s₁.setTop (mkF m 44 #[.val (.long q1), .second, .val (.long q2), .second, .val (.long q3), .second, .val (.long q4), .second, .val (.long q5), .second, .val (.int p6), .val (.long a2), .second, .val (.long b2), .second, .unset, .unset, .unset, .unset, .unset, .unset, .unset, .unset, .unset, .unset] [(.long c2)])) := by
        intro c2  _
        refine own_st (t' := s₁.setTop (mkF m 46 #[.val (.long q1), .second, .val (.long q2), .second, .val (.long q3), .second, .val (.long q4), .second, .val (.long q5), .second, .val (.int p6), .val (.long a2), .second, .val (.long b2), .second, .val (.long c2), .second, .unset, .unset, .unset, .unset, .unset, .unset, .unset, .unset] [])) (fun _ k => XS.lstore X0.here hx rfl (hb hby at_44) rfl (l' := #[.val (.long q1), .second, .val (.long q2), .second, .val (.long q3), .second, .val (.long q4), .second, .val (.long q5), .second, .val (.int p6), .val (.long a2), .second, .val (.long b2), .second, .val (.long c2), .second, .unset, .unset, .unset, .unset, .unset, .unset, .unset, .unset]) rfl k) ?_
        have J4 : ∀ d2 : Int64, True → own_At p e below P (s₁.setTop (mkF m 61 #[.val (.long q1), .second, .val (.long q2), .second, .val (.long q3), .second, .val (.long q4), .second, .val (.long q5), .second, .val (.int p6), .val (.long a2), .second, .val (.long b2), .second, .val (.long c2), .second, .unset, .unset, .unset, .unset, .unset, .unset, .unset, .unset] [(.long d2)])) := by
          intro d2  _
          refine own_st (t' := s₁.setTop (mkF m 63 #[.val (.long q1), .second, .val (.long q2), .second, .val (.long q3), .second, .val (.long q4), .second, .val (.long q5), .second, .val (.int p6), .val (.long a2), .second, .val (.long b2), .second, .val (.long c2), .second, .val (.long d2), .second, .unset, .unset, .unset, .unset, .unset, .unset] [])) (fun _ k => XS.lstore X0.here hx rfl (hb hby at_61) rfl (l' := #[.val (.long q1), .second, .val (.long q2), .second, .val (.long q3), .second, .val (.long q4), .second, .val (.long q5), .second, .val (.int p6), .val (.long a2), .second, .val (.long b2), .second, .val (.long c2), .second, .val (.long d2), .second, .unset, .unset, .unset, .unset, .unset, .unset]) rfl k) ?_
          obtain ⟨T5, h5, X5, e5, E5, A5, D5, -, st5⟩ := newO X0 hx hZ hown (hw _ (List.mem_of_getElem? (i := 0) rfl)) (hw _ (List.mem_of_getElem? (i := 1) rfl)) (hw _ (List.mem_of_getElem? (i := 2) rfl)) e0 (g := (mkF m 63 #[.val (.long q1), .second, .val (.long q2), .second, .val (.long q3), .second, .val (.long q4), .second, .val (.long q5), .second, .val (.int p6), .val (.long a2), .second, .val (.long b2), .second, .val (.long c2), .second, .val (.long d2), .second, .unset, .unset, .unset, .unset, .unset, .unset] [])) rfl (hb hby at_63) (by decide) (by decide)
          obtain ⟨b5, g5⟩ : ∃ z, z = h0.size := ⟨_, rfl⟩
          rw [← g5] at A5 D5 st5
          have f5_Old := O.ext E5
          have f5_Sta_java_lang_Long_LongCache_cache := S_c.ext E5
          have bg_b5 : n0 ≤ b5 := Nat.le_trans Z0 (Nat.le_of_eq g5.symm)
          have Z5 : n0 ≤ h5.size := Nat.le_trans Z0 E5.1
          have F5_firstStart : Fld Z h5 b5 "com/example/ledgerwarden/ledgerwarden/EntryList$Group" "firstStart" "J" (.long (0 : Int64)) := D5 (Or.inr (hw _ (List.mem_of_getElem? (i := 10) rfl))) (ty := .long) (by decide)
          have F5_lastStart : Fld Z h5 b5 "com/example/ledgerwarden/ledgerwarden/EntryList$Group" "lastStart" "J" (.long (0 : Int64)) := D5 (Or.inr (hw _ (List.mem_of_getElem? (i := 12) rfl))) (ty := .long) (by decide)
          have F5_size : Fld Z h5 b5 "com/example/ledgerwarden/ledgerwarden/EntryList$Group" "size" "J" (.long (0 : Int64)) := D5 (Or.inr (hw _ (List.mem_of_getElem? (i := 14) rfl))) (ty := .long) (by decide)
          have F5_period : Fld Z h5 b5 "com/example/ledgerwarden/ledgerwarden/EntryList$Group" "period" "J" (.long (0 : Int64)) := D5 (Or.inr (hw _ (List.mem_of_getElem? (i := 16) rfl))) (ty := .long) (by decide)
          refine own_st (t' := T5.setTop (mkF m 66 #[.val (.long q1), .second, .val (.long q2), .second, .val (.long q3), .second, .val (.long q4), .second, .val (.long q5), .second, .val (.int p6), .val (.long a2), .second, .val (.long b2), .second, .val (.long c2), .second, .val (.long d2), .second, .unset, .unset, .unset, .unset, .unset, .unset] [(.ref b5)])) st5 ?_
          refine own_st (t' := T5.setTop (mkF m 67 #[.val (.long q1), .second, .val (.long q2), .second, .val (.long q3), .second, .val (.long q4), .second, .val (.long q5), .second, .val (.int p6), .val (.long a2), .second, .val (.long b2), .second, .val (.long c2), .second, .val (.long d2), .second, .unset, .unset, .unset, .unset, .unset, .unset] [(.ref b5), (.ref b5)])) (fun _ k => XS.dup X5.here hx rfl (hb hby at_66) rfl rfl k) ?_
          refine own_st (t' := T5.setTop (mkF m 68 #[.val (.long q1), .second, .val (.long q2), .second, .val (.long q3), .second, .val (.long q4), .second, .val (.long q5), .second, .val (.int p6), .val (.long a2), .second, .val (.long b2), .second, .val (.long c2), .second, .val (.long d2), .second, .unset, .unset, .unset, .unset, .unset, .unset] [(.long q1), (.ref b5), (.ref b5)])) (fun _ k => XS.lloadN X5.here hx rfl (hb hby at_67) rfl k) ?_
          refine own_st (t' := T5.setTop (mkF m 69 #[.val (.long q1), .second, .val (.long q2), .second, .val (.long q3), .second, .val (.long q4), .second, .val (.long q5), .second, .val (.int p6), .val (.long a2), .second, .val (.long b2), .second, .val (.long c2), .second, .val (.long d2), .second, .unset, .unset, .unset, .unset, .unset, .unset] [(.long q2), (.long q1), (.ref b5), (.ref b5)])) (fun _ k => XS.lloadN X5.here hx rfl (hb hby at_68) rfl k) ?_
          refine own_st (t' := T5.setTop (mkF m 71 #[.val (.long q1), .second, .val (.long q2), .second, .val (.long q3), .second, .val (.long q4), .second, .val (.long q5), .second, .val (.int p6), .val (.long a2), .second, .val (.long b2), .second, .val (.long c2), .second, .val (.long d2), .second, .unset, .unset, .unset, .unset, .unset, .unset] [(.long q3), (.long q2), (.long q1), (.ref b5), (.ref b5)])) (fun _ k => XS.lload X5.here hx rfl (hb hby at_69) rfl k) ?_
          refine own_st (t' := T5.setTop (mkF m 73 #[.val (.long q1), .second, .val (.long q2), .second, .val (.long q3), .second, .val (.long q4), .second, .val (.long q5), .second, .val (.int p6), .val (.long a2), .second, .val (.long b2), .second, .val (.long c2), .second, .val (.long d2), .second, .unset, .unset, .unset, .unset, .unset, .unset] [(.long q4), (.long q3), (.long q2), (.long q1), (.ref b5), (.ref b5)])) (fun _ k => XS.lload X5.here hx rfl (hb hby at_71) rfl k) ?_
          obtain ⟨_, _, ⟨T6, L6, k6, n6⟩, -, X6, ⟨Lc6, hQ6, l6, y6, z6⟩, st6⟩ := X5.specialBack hx (y := (⟨"com/example/ledgerwarden/ledgerwarden/EntryList$Group", "<init>", "(JJJJ)V"⟩ : MethodName)) rfl hown (mvT hZ (hw _ (List.mem_of_getElem? (i := 3) rfl))) (mvT hZ (hw _ (List.mem_of_getElem? (i := 4) rfl))) (mvT hZ (hw _ (List.mem_of_getElem? (i := 5) rfl))) (by decide) (backOf (W := 1) (own_rm1 l Z a0 hw [] b5 q1 q2 q3 q4 h5 n0 Z5 A5 F5_firstStart F5_lastStart F5_size F5_period bg_b5 ) hZ (hw _ (List.mem_of_getElem? (i := 5) rfl)) (hw _ (List.mem_of_getElem? (i := 2) rfl)) (by decide) (by decide)) (g := (mkF m 73 #[.val (.long q1), .second, .val (.long q2), .second, .val (.long q3), .second, .val (.long q4), .second, .val (.long q5), .second, .val (.int p6), .val (.long a2), .second, .val (.long b2), .second, .val (.long c2), .second, .val (.long d2), .second, .unset, .unset, .unset, .unset, .unset, .unset] [(.long q4), (.long q3), (.long q2), (.long q1), (.ref b5), (.ref b5)])) rfl (by rw [hml]; rfl) (Steps.refl _) (a := b5) (argsL := [(.long q1), (.long q2), (.long q3), (.long q4)]) (rest := [(.ref b5)]) (lenOf own_rm0_pd0 rfl) rfl (by show 2 * 0 + _ ≤ _; exact Nat.le_of_eq rfl) (hb hby at_73) (fun _ _ => ⟨rfl, e5, (by decide : 0 + 1 + 0 ≤ _), (by decide : 0 + 4 + 0 ≤ _)⟩)
          dsimp only [Pt.U, Pt.locs, Pt.cells, Pt.slots] at X6 l6 y6 z6 st6 hQ6
          subst l6 y6 z6
          obtain ⟨rfl, N6q, K6q, g6e, g6f0, g6f1, g6f2, g6f3⟩ := hQ6
          have N6 := Fr.app N0 N6q
          have f6_Old := f5_Old.keep K6q (fun y hy => by cases List.mem_singleton.mp hy; exact bg_b5)
          have f6_Sta_java_lang_Long_LongCache_cache := own_staK f5_Sta_java_lang_Long_LongCache_cache K6q A5
          have f6_Exa_b5 := A5.keep K6q
          have Z6 : n0 ≤ T6.heap.size := Nat.le_trans Z5 K6q.1
          refine own_tr (t' := T6.setTop (mkF m 76 #[.val (.long q1), .second, .val (.long q2), .second, .val (.long q3), .second, .val (.long q4), .second, .val (.long q5), .second, .val (.int p6), .val (.long a2), .second, .val (.long b2), .second, .val (.long c2), .second, .val (.long d2), .second, .unset, .unset, .unset, .unset, .unset, .unset] [(.ref b5)])) st6 ?_
          refine own_st (t' := T6.setTop (mkF m 78 #[.val (.long q1), .second, .val (.long q2), .second, .val (.long q3), .second, .val (.long q4), .second, .val (.long q5), .second, .val (.int p6), .val (.long a2), .second, .val (.long b2), .second, .val (.long c2), .second, .val (.long d2), .second, .val (.ref b5), .unset, .unset, .unset, .unset, .unset] [])) (fun _ k => XS.astore X6.here hx rfl (hb hby at_76) rfl rfl (l' := #[.val (.long q1), .second, .val (.long q2), .second, .val (.long q3), .second, .val (.long q4), .second, .val (.long q5), .second, .val (.int p6), .val (.long a2), .second, .val (.long b2), .second, .val (.long c2), .second, .val (.long d2), .second, .val (.ref b5), .unset, .unset, .unset, .unset, .unset]) rfl k) ?_
          obtain ⟨T7, h7, X7, e7, E7, A7, D7, -, st7⟩ := newO X6 hx hZ hown (hw _ (List.mem_of_getElem? (i := 0) rfl)) (hw _ (List.mem_of_getElem? (i := 1) rfl)) (hw _ (List.mem_of_getElem? (i := 2) rfl)) rfl (g := (mkF m 78 #[.val (.long q1), .second, .val (.long q2), .second, .val (.long q3), .second, .val (.long q4), .second, .val (.long q5), .second, .val (.int p6), .val (.long a2), .second, .val (.long b2), .second, .val (.long c2), .second, .val (.long d2), .second, .val (.ref b5), .unset, .unset, .unset, .unset, .unset] [])) rfl (hb hby at_78) (by decide) (by decide)
          obtain ⟨b7, g7⟩ : ∃ z, z = T6.heap.size := ⟨_, rfl⟩
          rw [← g7] at A7 D7 st7
          have ne7_b5 : b5 ≠ b7 := Nat.ne_of_lt (Nat.lt_of_lt_of_le g6e.lt (Nat.le_of_eq g7.symm))
          have f7_Old := f6_Old.ext E7
          have f7_Sta_java_lang_Long_LongCache_cache := f6_Sta_java_lang_Long_LongCache_cache.ext E7
          have f7_Exa_b5 := g6e.ext E7
          have f7_Fld_b5_firstStart := g6f0.ext E7
          have f7_Fld_b5_lastStart := g6f1.ext E7
          have f7_Fld_b5_size := g6f2.ext E7
          have f7_Fld_b5_period := g6f3.ext E7
          have bg_b7 : n0 ≤ b7 := Nat.le_trans Z6 (Nat.le_of_eq g7.symm)
          have Z7 : n0 ≤ h7.size := Nat.le_trans Z6 E7.1
          have F7_firstStart : Fld Z h7 b7 "com/example/ledgerwarden/ledgerwarden/EntryList$Group" "firstStart" "J" (.long (0 : Int64)) := D7 (Or.inr (hw _ (List.mem_of_getElem? (i := 10) rfl))) (ty := .long) (by decide)
          have F7_lastStart : Fld Z h7 b7 "com/example/ledgerwarden/ledgerwarden/EntryList$Group" "lastStart" "J" (.long (0 : Int64)) := D7 (Or.inr (hw _ (List.mem_of_getElem? (i := 12) rfl))) (ty := .long) (by decide)
          have F7_size : Fld Z h7 b7 "com/example/ledgerwarden/ledgerwarden/EntryList$Group" "size" "J" (.long (0 : Int64)) := D7 (Or.inr (hw _ (List.mem_of_getElem? (i := 14) rfl))) (ty := .long) (by decide)
          have F7_period : Fld Z h7 b7 "com/example/ledgerwarden/ledgerwarden/EntryList$Group" "period" "J" (.long (0 : Int64)) := D7 (Or.inr (hw _ (List.mem_of_getElem? (i := 16) rfl))) (ty := .long) (by decide)
          refine own_st (t' := T7.setTop (mkF m 81 #[.val (.long q1), .second, .val (.long q2), .second, .val (.long q3), .second, .val (.long q4), .second, .val (.long q5), .second, .val (.int p6), .val (.long a2), .second, .val (.long b2), .second, .val (.long c2), .second, .val (.long d2), .second, .val (.ref b5), .unset, .unset, .unset, .unset, .unset] [(.ref b7)])) st7 ?_
          refine own_st (t' := T7.setTop (mkF m 82 #[.val (.long q1), .second, .val (.long q2), .second, .val (.long q3), .second, .val (.long q4), .second, .val (.long q5), .second, .val (.int p6), .val (.long a2), .second, .val (.long b2), .second, .val (.long c2), .second, .val (.long d2), .second, .val (.ref b5), .unset, .unset, .unset, .unset, .unset] [(.ref b7), (.ref b7)])) (fun _ k => XS.dup X7.here hx rfl (hb hby at_81) rfl rfl k) ?_
          refine own_st (t' := T7.setTop (mkF m 84 #[.val (.long q1), .second, .val (.long q2), .second, .val (.long q3), .second, .val (.long q4), .second, .val (.long q5), .second, .val (.int p6), .val (.long a2), .second, .val (.long b2), .second, .val (.long c2), .second, .val (.long d2), .second, .val (.ref b5), .unset, .unset, .unset, .unset, .unset] [(.long a2), (.ref b7), (.ref b7)])) (fun _ k => XS.lload X7.here hx rfl (hb hby at_82) rfl k) ?_
          refine own_st (t' := T7.setTop (mkF m 86 #[.val (.long q1), .second, .val (.long q2), .second, .val (.long q3), .second, .val (.long q4), .second, .val (.long q5), .second, .val (.int p6), .val (.long a2), .second, .val (.long b2), .second, .val (.long c2), .second, .val (.long d2), .second, .val (.ref b5), .unset, .unset, .unset, .unset, .unset] [(.long b2), (.long a2), (.ref b7), (.ref b7)])) (fun _ k => XS.lload X7.here hx rfl (hb hby at_84) rfl k) ?_
          refine own_st (t' := T7.setTop (mkF m 88 #[.val (.long q1), .second, .val (.long q2), .second, .val (.long q3), .second, .val (.long q4), .second, .val (.long q5), .second, .val (.int p6), .val (.long a2), .second, .val (.long b2), .second, .val (.long c2), .second, .val (.long d2), .second, .val (.ref b5), .unset, .unset, .unset, .unset, .unset] [(.long c2), (.long b2), (.long a2), (.ref b7), (.ref b7)])) (fun _ k => XS.lload X7.here hx rfl (hb hby at_86) rfl k) ?_
          refine own_st (t' := T7.setTop (mkF m 90 #[.val (.long q1), .second, .val (.long q2), .second, .val (.long q3), .second, .val (.long q4), .second, .val (.long q5), .second, .val (.int p6), .val (.long a2), .second, .val (.long b2), .second, .val (.long c2), .second, .val (.long d2), .second, .val (.ref b5), .unset, .unset, .unset, .unset, .unset] [(.long d2), (.long c2), (.long b2), (.long a2), (.ref b7), (.ref b7)])) (fun _ k => XS.lload X7.here hx rfl (hb hby at_88) rfl k) ?_
          obtain ⟨_, _, ⟨T8, L8, k8, n8⟩, -, X8, ⟨Lc8, hQ8, l8, y8, z8⟩, st8⟩ := X7.specialBack hx (y := (⟨"com/example/ledgerwarden/ledgerwarden/EntryList$Group", "<init>", "(JJJJ)V"⟩ : MethodName)) rfl hown (mvT hZ (hw _ (List.mem_of_getElem? (i := 3) rfl))) (mvT hZ (hw _ (List.mem_of_getElem? (i := 4) rfl))) (mvT hZ (hw _ (List.mem_of_getElem? (i := 5) rfl))) (by decide) (backOf (W := 1) (own_rm1 l Z a0 hw [] b7 a2 b2 c2 d2 h7 n0 Z7 A7 F7_firstStart F7_lastStart F7_size F7_period bg_b7 ) hZ (hw _ (List.mem_of_getElem? (i := 5) rfl)) (hw _ (List.mem_of_getElem? (i := 2) rfl)) (by decide) (by decide)) (g := (mkF m 90 #[.val (.long q1), .second, .val (.long q2), .second, .val (.long q3), .second, .val (.long q4), .second, .val (.long q5), .second, .val (.int p6), .val (.long a2), .second, .val (.long b2), .second, .val (.long c2), .second, .val (.long d2), .second, .val (.ref b5), .unset, .unset, .unset, .unset, .unset] [(.long d2), (.long c2), (.long b2), (.long a2), (.ref b7), (.ref b7)])) rfl (by rw [hml]; rfl) (Steps.refl _) (a := b7) (argsL := [(.long a2), (.long b2), (.long c2), (.long d2)]) (rest := [(.ref b7)]) (lenOf own_rm0_pd0 rfl) rfl (by show 2 * 0 + _ ≤ _; exact Nat.le_of_eq rfl) (hb hby at_90) (fun _ _ => ⟨rfl, e7, (by decide : 0 + 1 + 0 + 1 + 0 ≤ _), (by decide : 0 + 4 + 0 + 4 + 0 ≤ _)⟩)
          dsimp only [Pt.U, Pt.locs, Pt.cells, Pt.slots] at X8 l8 y8 z8 st8 hQ8
          subst l8 y8 z8
          obtain ⟨rfl, N8q, K8q, g8e, g8f0, g8f1, g8f2, g8f3⟩ := hQ8
          have N8 := Fr.app N6 N8q
          have f8_Old := f7_Old.keep K8q (fun y hy => by cases List.mem_singleton.mp hy; exact bg_b7)
          have f8_Sta_java_lang_Long_LongCache_cache := own_staK f7_Sta_java_lang_Long_LongCache_cache K8q A7
          have f8_Exa_b5 := f7_Exa_b5.keep K8q
          have f8_Fld_b5_firstStart := f7_Fld_b5_firstStart.keep K8q (own_nin ne7_b5)
          have f8_Fld_b5_lastStart := f7_Fld_b5_lastStart.keep K8q (own_nin ne7_b5)
          have f8_Fld_b5_size := f7_Fld_b5_size.keep K8q (own_nin ne7_b5)
          have f8_Fld_b5_period := f7_Fld_b5_period.keep K8q (own_nin ne7_b5)
          have f8_Exa_b7 := A7.keep K8q
          have Z8 : n0 ≤ T8.heap.size := Nat.le_trans Z7 K8q.1
          refine own_tr (t' := T8.setTop (mkF m 93 #[.val (.long q1), .second, .val (.long q2), .second, .val (.long q3), .second, .val (.long q4), .second, .val (.long q5), .second, .val (.int p6), .val (.long a2), .second, .val (.long b2), .second, .val (.long c2), .second, .val (.long d2), .second, .val (.ref b5), .unset, .unset, .unset, .unset, .unset] [(.ref b7)])) st8 ?_
          refine own_st (t' := T8.setTop (mkF m 95 #[.val (.long q1), .second, .val (.long q2), .second, .val (.long q3), .second, .val (.long q4), .second, .val (.long q5), .second, .val (.int p6), .val (.long a2), .second, .val (.long b2), .second, .val (.long c2), .second, .val (.long d2), .second, .val (.ref b5), .val (.ref b7), .unset, .unset, .unset, .unset] [])) (fun _ k => XS.astore X8.here hx rfl (hb hby at_93) rfl rfl (l' := #[.val (.long q1), .second, .val (.long q2), .second, .val (.long q3), .second, .val (.long q4), .second, .val (.long q5), .second, .val (.int p6), .val (.long a2), .second, .val (.long b2), .second, .val (.long c2), .second, .val (.long d2), .second, .val (.ref b5), .val (.ref b7), .unset, .unset, .unset, .unset]) rfl k) ?_
          refine own_st (t' := T8.setTop (mkF m 97 #[.val (.long q1), .second, .val (.long q2), .second, .val (.long q3), .second, .val (.long q4), .second, .val (.long q5), .second, .val (.int p6), .val (.long a2), .second, .val (.long b2), .second, .val (.long c2), .second, .val (.long d2), .second, .val (.ref b5), .val (.ref b7), .unset, .unset, .unset, .unset] [(.int p6)])) (fun _ k => XS.iload X8.here hx rfl (hb hby at_95) rfl k) ?_
          refine own_st (t' := T8.setTop (mkF m 98 #[.val (.long q1), .second, .val (.long q2), .second, .val (.long q3), .second, .val (.long q4), .second, .val (.long q5), .second, .val (.int p6), .val (.long a2), .second, .val (.long b2), .second, .val (.long c2), .second, .val (.long d2), .second, .val (.ref b5), .val (.ref b7), .unset, .unset, .unset, .unset] [(.int (4 : Int32)), (.int p6)])) (fun _ k => XS.iconst X8.here hx rfl (hb hby at_97) k) ?_
          refine own_st (t' := T8.setTop (mkF m 99 #[.val (.long q1), .second, .val (.long q2), .second, .val (.long q3), .second, .val (.long q4), .second, .val (.long q5), .second, .val (.int p6), .val (.long a2), .second, .val (.long b2), .second, .val (.long c2), .second, .val (.long d2), .second, .val (.ref b5), .val (.ref b7), .unset, .unset, .unset, .unset] [(.int ((p6.toUInt32 >>> ((4 : Int32) &&& 31).toUInt32).toInt32))])) (fun _ k => XS.iushr X8.here hx rfl (hb hby at_98) rfl k) ?_
          refine own_st (t' := T8.setTop (mkF m 100 #[.val (.long q1), .second, .val (.long q2), .second, .val (.long q3), .second, .val (.long q4), .second, .val (.long q5), .second, .val (.int p6), .val (.long a2), .second, .val (.long b2), .second, .val (.long c2), .second, .val (.long d2), .second, .val (.ref b5), .val (.ref b7), .unset, .unset, .unset, .unset] [(.int (3 : Int32)), (.int ((p6.toUInt32 >>> ((4 : Int32) &&& 31).toUInt32).toInt32))])) (fun _ k => XS.iconst X8.here hx rfl (hb hby at_99) k) ?_
          refine own_st (t' := T8.setTop (mkF m 101 #[.val (.long q1), .second, .val (.long q2), .second, .val (.long q3), .second, .val (.long q4), .second, .val (.long q5), .second, .val (.int p6), .val (.long a2), .second, .val (.long b2), .second, .val (.long c2), .second, .val (.long d2), .second, .val (.ref b5), .val (.ref b7), .unset, .unset, .unset, .unset] [(.int (((p6.toUInt32 >>> ((4 : Int32) &&& 31).toUInt32).toInt32) &&& (3 : Int32)))])) (fun _ k => XS.iand X8.here hx rfl (hb hby at_100) rfl k) ?_
          refine own_st (t' := T8.setTop (mkF m 103 #[.val (.long q1), .second, .val (.long q2), .second, .val (.long q3), .second, .val (.long q4), .second, .val (.long q5), .second, .val (.int p6), .val (.long a2), .second, .val (.long b2), .second, .val (.long c2), .second, .val (.long d2), .second, .val (.ref b5), .val (.ref b7), .val (.int (((p6.toUInt32 >>> ((4 : Int32) &&& 31).toUInt32).toInt32) &&& (3 : Int32))), .unset, .unset, .unset] [])) (fun _ k => XS.istore X8.here hx rfl (hb hby at_101) rfl (l' := #[.val (.long q1), .second, .val (.long q2), .second, .val (.long q3), .second, .val (.long q4), .second, .val (.long q5), .second, .val (.int p6), .val (.long a2), .second, .val (.long b2), .second, .val (.long c2), .second, .val (.long d2), .second, .val (.ref b5), .val (.ref b7), .val (.int (((p6.toUInt32 >>> ((4 : Int32) &&& 31).toUInt32).toInt32) &&& (3 : Int32))), .unset, .unset, .unset]) rfl k) ?_
          generalize g_kd : (((p6.toUInt32 >>> ((4 : Int32) &&& 31).toUInt32).toInt32) &&& (3 : Int32)) = kd
          refine own_st (t' := T8.setTop (mkF m 105 #[.val (.long q1), .second, .val (.long q2), .second, .val (.long q3), .second, .val (.long q4), .second, .val (.long q5), .second, .val (.int p6), .val (.long a2), .second, .val (.long b2), .second, .val (.long c2), .second, .val (.long d2), .second, .val (.ref b5), .val (.ref b7), .val (.int kd), .unset, .unset, .unset] [(.int kd)])) (fun _ k => XS.iload X8.here hx rfl (hb hby at_103) rfl k) ?_
          refine own_st (t' := T8.setTop (mkF m 106 #[.val (.long q1), .second, .val (.long q2), .second, .val (.long q3), .second, .val (.long q4), .second, .val (.long q5), .second, .val (.int p6), .val (.long a2), .second, .val (.long b2), .second, .val (.long c2), .second, .val (.long d2), .second, .val (.ref b5), .val (.ref b7), .val (.int kd), .unset, .unset, .unset] [(.int (2 : Int32)), (.int kd)])) (fun _ k => XS.iconst X8.here hx rfl (hb hby at_105) k) ?_
          by_cases c106_9 : kd = (2 : Int32)
          · refine own_st (t' := T8.setTop (mkF m 109 #[.val (.long q1), .second, .val (.long q2), .second, .val (.long q3), .second, .val (.long q4), .second, .val (.long q5), .second, .val (.int p6), .val (.long a2), .second, .val (.long b2), .second, .val (.long c2), .second, .val (.long d2), .second, .val (.ref b5), .val (.ref b7), .val (.int kd), .unset, .unset, .unset] [])) (fun _ k => XS.icmpNo X8.here hx rfl (hb hby at_106) rfl (teq c106_9).2 k) ?_
            refine own_st (t' := T8.setTop (mkF m 110 #[.val (.long q1), .second, .val (.long q2), .second, .val (.long q3), .second, .val (.long q4), .second, .val (.long q5), .second, .val (.int p6), .val (.long a2), .second, .val (.long b2), .second, .val (.long c2), .second, .val (.long d2), .second, .val (.ref b5), .val (.ref b7), .val (.int kd), .unset, .unset, .unset] [(.long q1)])) (fun _ k => XS.lloadN X8.here hx rfl (hb hby at_109) rfl k) ?_
            obtain ⟨_, _, ⟨T10, L10, k10, n10⟩, -, X10, ⟨Lc10, hQ10, l10, y10, z10⟩, st10⟩ := Jvm.LawKit.callS X8 hx (y := (⟨"java/lang/Long", "valueOf", "(J)Ljava/lang/Long;"⟩ : MethodName)) hown (mvT hZ (hw _ (List.mem_of_getElem? (i := 24) rfl))) (mvT hZ (hw _ (List.mem_of_getElem? (i := 25) rfl))) (mvT hZ (hw _ (List.mem_of_getElem? (i := 26) rfl))) (mvT hZ (hw _ (List.mem_of_getElem? (i := 27) rfl))) (by decide) (backOf (W := 0) (own_bx3 l Z a0 hw [] q1 wC cC val T8.heap n0 Z8 f8_Old f8_Sta_java_lang_Long_LongCache_cache BX) hZ (hw _ (List.mem_of_getElem? (i := 27) rfl)) (hw _ (List.mem_of_getElem? (i := 26) rfl)) (by decide) (by decide)) (g := (mkF m 110 #[.val (.long q1), .second, .val (.long q2), .second, .val (.long q3), .second, .val (.long q4), .second, .val (.long q5), .second, .val (.int p6), .val (.long a2), .second, .val (.long b2), .second, .val (.long c2), .second, .val (.long d2), .second, .val (.ref b5), .val (.ref b7), .val (.int kd), .unset, .unset, .unset] [(.long q1)])) rfl (by rw [hml]; rfl) (argsL := [(.long q1)]) (rest := []) (lenOf own_rm0_pd1 rfl) rfl (by show 2 * 0 + _ ≤ _; exact Nat.le_of_eq rfl) (hb hby at_110) (fun _ _ => ⟨rfl, rfl, (by decide : 0 + 1 + 0 + 1 + 0 + 1 ≤ _), (by decide : 0 + 4 + 0 + 4 + 0 + 1 ≤ _)⟩)
            dsimp only [Pt.U, Pt.locs, Pt.cells, Pt.slots] at X10 l10 y10 z10 st10 hQ10
            subst l10 y10 z10
            obtain ⟨r10, rfl, N10q, K10q, E10r⟩ := hQ10
            have N10 := Fr.app N8 N10q
            have f10_Old := f8_Old.keep K10q (fun y hy => nomatch hy)
            have f10_Sta_java_lang_Long_LongCache_cache := own_staK0 f8_Sta_java_lang_Long_LongCache_cache K10q
            have f10_Exa_b5 := f8_Exa_b5.keep K10q
            have f10_Fld_b5_firstStart := f8_Fld_b5_firstStart.keep K10q (own_nin0 _)
            have f10_Fld_b5_lastStart := f8_Fld_b5_lastStart.keep K10q (own_nin0 _)
            have f10_Fld_b5_size := f8_Fld_b5_size.keep K10q (own_nin0 _)
            have f10_Fld_b5_period := f8_Fld_b5_period.keep K10q (own_nin0 _)
            have f10_Exa_b7 := g8e.keep K10q
            have f10_Fld_b7_firstStart := g8f0.keep K10q (own_nin0 _)
            have f10_Fld_b7_lastStart := g8f1.keep K10q (own_nin0 _)
            have f10_Fld_b7_size := g8f2.keep K10q (own_nin0 _)
            have f10_Fld_b7_period := g8f3.keep K10q (own_nin0 _)
            have Z10 : n0 ≤ T10.heap.size := Nat.le_trans Z8 K10q.1
            refine own_st (t' := T10.setTop (mkF m 113 #[.val (.long q1), .second, .val (.long q2), .second, .val (.long q3), .second, .val (.long q4), .second, .val (.long q5), .second, .val (.int p6), .val (.long a2), .second, .val (.long b2), .second, .val (.long c2), .second, .val (.long d2), .second, .val (.ref b5), .val (.ref b7), .val (.int kd), .unset, .unset, .unset] [(.ref r10)])) st10 ?_
            refine own_st (t' := T10.setTop (mkF m 115 #[.val (.long q1), .second, .val (.long q2), .second, .val (.long q3), .second, .val (.long q4), .second, .val (.long q5), .second, .val (.int p6), .val (.long a2), .second, .val (.long b2), .second, .val (.long c2), .second, .val (.long d2), .second, .val (.ref b5), .val (.ref b7), .val (.int kd), .val (.ref r10), .unset, .unset] [])) (fun _ k => XS.astore X10.here hx rfl (hb hby at_113) rfl rfl (l' := #[.val (.long q1), .second, .val (.long q2), .second, .val (.long q3), .second, .val (.long q4), .second, .val (.long q5), .second, .val (.int p6), .val (.long a2), .second, .val (.long b2), .second, .val (.long c2), .second, .val (.long d2), .second, .val (.ref b5), .val (.ref b7), .val (.int kd), .val (.ref r10), .unset, .unset]) rfl k) ?_
            refine own_st (t' := T10.setTop (mkF m 116 #[.val (.long q1), .second, .val (.long q2), .second, .val (.long q3), .second, .val (.long q4), .second, .val (.long q5), .second, .val (.int p6), .val (.long a2), .second, .val (.long b2), .second, .val (.long c2), .second, .val (.long d2), .second, .val (.ref b5), .val (.ref b7), .val (.int kd), .val (.ref r10), .unset, .unset] [(.int (0 : Int32))])) (fun _ k => XS.iconst X10.here hx rfl (hb hby at_115) k) ?_
            refine own_st (t' := T10.setTop (mkF m 118 #[.val (.long q1), .second, .val (.long q2), .second, .val (.long q3), .second, .val (.long q4), .second, .val (.long q5), .second, .val (.int p6), .val (.long a2), .second, .val (.long b2), .second, .val (.long c2), .second, .val (.long d2), .second, .val (.ref b5), .val (.ref b7), .val (.int kd), .val (.ref r10), .val (.int (0 : Int32)), .unset] [])) (fun _ k => XS.istore X10.here hx rfl (hb hby at_116) rfl (l' := #[.val (.long q1), .second, .val (.long q2), .second, .val (.long q3), .second, .val (.long q4), .second, .val (.long q5), .second, .val (.int p6), .val (.long a2), .second, .val (.long b2), .second, .val (.long c2), .second, .val (.long d2), .second, .val (.ref b5), .val (.ref b7), .val (.int kd), .val (.ref r10), .val (.int (0 : Int32)), .unset]) rfl k) ?_
            refine own_st (t' := T10.setTop (mkF m 177 #[.val (.long q1), .second, .val (.long q2), .second, .val (.long q3), .second, .val (.long q4), .second, .val (.long q5), .second, .val (.int p6), .val (.long a2), .second, .val (.long b2), .second, .val (.long c2), .second, .val (.long d2), .second, .val (.ref b5), .val (.ref b7), .val (.int kd), .val (.ref r10), .val (.int (0 : Int32)), .unset] [])) (fun _ k => XS.goto X10.here hx rfl (pc0 := 118) (pc' := 177) rfl (hb hby at_118) (by decide) (by decide) k) ?_
            refine own_st (t' := T10.setTop (mkF m 179 #[.val (.long q1), .second, .val (.long q2), .second, .val (.long q3), .second, .val (.long q4), .second, .val (.long q5), .second, .val (.int p6), .val (.long a2), .second, .val (.long b2), .second, .val (.long c2), .second, .val (.long d2), .second, .val (.ref b5), .val (.ref b7), .val (.int kd), .val (.ref r10), .val (.int (0 : Int32)), .unset] [(.ref b5)])) (fun _ k => XS.aload X10.here hx rfl (hb hby at_177) rfl rfl k) ?_
            refine own_st (t' := T10.setTop (mkF m 181 #[.val (.long q1), .second, .val (.long q2), .second, .val (.long q3), .second, .val (.long q4), .second, .val (.long q5), .second, .val (.int p6), .val (.long a2), .second, .val (.long b2), .second, .val (.long c2), .second, .val (.long d2), .second, .val (.ref b5), .val (.ref b7), .val (.int kd), .val (.ref r10), .val (.int (0 : Int32)), .unset] [(.ref r10), (.ref b5)])) (fun _ k => XS.aload X10.here hx rfl (hb hby at_179) rfl rfl k) ?_
            obtain ⟨cq11, kq11, q11a, q11b, q11c⟩ := isOf hZ rfl f10_Exa_b5
            obtain ⟨_, _, ⟨T11, L11, k11, n11⟩, -, X11, ⟨Lc11, hQ11, l11, y11, z11⟩, st11⟩ := X10.virtualBack hx (y := (⟨"com/example/ledgerwarden/ledgerwarden/EntryList$Group", "equals", "(Ljava/lang/Object;)Z"⟩ : MethodName)) (z := (⟨"com/example/ledgerwarden/ledgerwarden/EntryList$Group", "equals", "(Ljava/lang/Object;)Z"⟩ : MethodName)) hown (mvT hZ (hw _ (List.mem_of_getElem? (i := 17) rfl))) (mvT hZ (hw _ (List.mem_of_getElem? (i := 18) rfl))) (notFace_of_selects (args := #[]) (mvT hZ (hw _ (List.mem_of_getElem? (i := 20) rfl)))) (mvT hZ (hw _ (List.mem_of_getElem? (i := 20) rfl))) (mvT hZ (hw _ (List.mem_of_getElem? (i := 19) rfl))) (by decide) (backOf (W := 0) (own_rm4 l Z a0 hw [] b5 r10 T10.heap n0 Z10 E10r hno) hZ (hw _ (List.mem_of_getElem? (i := 21) rfl)) (hw _ (List.mem_of_getElem? (i := 2) rfl)) (by decide) (by decide)) q11a q11c (g := (mkF m 181 #[.val (.long q1), .second, .val (.long q2), .second, .val (.long q3), .second, .val (.long q4), .second, .val (.long q5), .second, .val (.int p6), .val (.long a2), .second, .val (.long b2), .second, .val (.long c2), .second, .val (.long d2), .second, .val (.ref b5), .val (.ref b7), .val (.int kd), .val (.ref r10), .val (.int (0 : Int32)), .unset] [(.ref r10), (.ref b5)])) rfl (by rw [hml]; rfl) (Steps.refl _) (argsL := [(.ref r10)]) (rest := []) (lenOf own_rm0_pd2 rfl) rfl (by show 2 * 0 + _ ≤ _; exact Nat.le_of_eq rfl) (hb hby at_181) (fun _ _ => ⟨rfl, rfl, (by decide : 0 + 1 + 0 + 1 + 0 + 1 + 0 ≤ _), (by decide : 0 + 4 + 0 + 4 + 0 + 1 + 0 ≤ _)⟩)
            dsimp only [Pt.U, Pt.locs, Pt.cells, Pt.slots] at X11 l11 y11 z11 st11 hQ11
            subst l11 y11 z11
            obtain ⟨rfl, N11q, e11⟩ := hQ11
            have N11 := Fr.app N10 N11q
            refine own_tr (t' := T11.setTop (mkF m 184 #[.val (.long q1), .second, .val (.long q2), .second, .val (.long q3), .second, .val (.long q4), .second, .val (.long q5), .second, .val (.int p6), .val (.long a2), .second, .val (.long b2), .second, .val (.long c2), .second, .val (.long d2), .second, .val (.ref b5), .val (.ref b7), .val (.int kd), .val (.ref r10), .val (.int (0 : Int32)), .unset] [(.int (0 : Int32))])) st11 ?_
            refine own_st (t' := T11.setTop (mkF m 186 #[.val (.long q1), .second, .val (.long q2), .second, .val (.long q3), .second, .val (.long q4), .second, .val (.long q5), .second, .val (.int p6), .val (.long a2), .second, .val (.long b2), .second, .val (.long c2), .second, .val (.long d2), .second, .val (.ref b5), .val (.ref b7), .val (.int kd), .val (.ref r10), .val (.int (0 : Int32)), .unset] [(.int (0 : Int32)), (.int (0 : Int32))])) (fun _ k => XS.iload X11.here hx rfl (hb hby at_184) rfl k) ?_
            refine own_st (t' := T11.setTop (mkF m 189 #[.val (.long q1), .second, .val (.long q2), .second, .val (.long q3), .second, .val (.long q4), .second, .val (.long q5), .second, .val (.int p6), .val (.long a2), .second, .val (.long b2), .second, .val (.long c2), .second, .val (.long d2), .second, .val (.ref b5), .val (.ref b7), .val (.int kd), .val (.ref r10), .val (.int (0 : Int32)), .unset] [])) (fun _ k => XS.icmpNo X11.here hx rfl (hb hby at_186) rfl (teq (rfl : (0 : Int32) = (0 : Int32))).2 k) ?_
            refine own_st (t' := T11.setTop (mkF m 190 #[.val (.long q1), .second, .val (.long q2), .second, .val (.long q3), .second, .val (.long q4), .second, .val (.long q5), .second, .val (.int p6), .val (.long a2), .second, .val (.long b2), .second, .val (.long c2), .second, .val (.long d2), .second, .val (.ref b5), .val (.ref b7), .val (.int kd), .val (.ref r10), .val (.int (0 : Int32)), .unset] [(.int (1 : Int32))])) (fun _ k => XS.iconst X11.here hx rfl (hb hby at_189) k) ?_
            refine own_st (t' := T11.setTop (mkF m 194 #[.val (.long q1), .second, .val (.long q2), .second, .val (.long q3), .second, .val (.long q4), .second, .val (.long q5), .second, .val (.int p6), .val (.long a2), .second, .val (.long b2), .second, .val (.long c2), .second, .val (.long d2), .second, .val (.ref b5), .val (.ref b7), .val (.int kd), .val (.ref r10), .val (.int (0 : Int32)), .unset] [(.int (1 : Int32))])) (fun _ k => XS.goto X11.here hx rfl (pc0 := 190) (pc' := 194) rfl (hb hby at_190) (by decide) (by decide) k) ?_
            refine own_st (t' := T11.setTop (mkF m 196 #[.val (.long q1), .second, .val (.long q2), .second, .val (.long q3), .second, .val (.long q4), .second, .val (.long q5), .second, .val (.int p6), .val (.long a2), .second, .val (.long b2), .second, .val (.long c2), .second, .val (.long d2), .second, .val (.ref b5), .val (.ref b7), .val (.int kd), .val (.ref r10), .val (.int (0 : Int32)), .val (.int (1 : Int32))] [])) (fun _ k => XS.istore X11.here hx rfl (hb hby at_194) rfl (l' := #[.val (.long q1), .second, .val (.long q2), .second, .val (.long q3), .second, .val (.long q4), .second, .val (.long q5), .second, .val (.int p6), .val (.long a2), .second, .val (.long b2), .second, .val (.long c2), .second, .val (.long d2), .second, .val (.ref b5), .val (.ref b7), .val (.int kd), .val (.ref r10), .val (.int (0 : Int32)), .val (.int (1 : Int32))]) rfl k) ?_
            refine own_st (t' := T11.setTop (mkF m 198 #[.val (.long q1), .second, .val (.long q2), .second, .val (.long q3), .second, .val (.long q4), .second, .val (.long q5), .second, .val (.int p6), .val (.long a2), .second, .val (.long b2), .second, .val (.long c2), .second, .val (.long d2), .second, .val (.ref b5), .val (.ref b7), .val (.int kd), .val (.ref r10), .val (.int (0 : Int32)), .val (.int (1 : Int32))] [(.int kd)])) (fun _ k => XS.iload X11.here hx rfl (hb hby at_196) rfl k) ?_
            refine own_st (t' := T11.setTop (mkF m 199 #[.val (.long q1), .second, .val (.long q2), .second, .val (.long q3), .second, .val (.long q4), .second, .val (.long q5), .second, .val (.int p6), .val (.long a2), .second, .val (.long b2), .second, .val (.long c2), .second, .val (.long d2), .second, .val (.ref b5), .val (.ref b7), .val (.int kd), .val (.ref r10), .val (.int (0 : Int32)), .val (.int (1 : Int32))] [(.int (2 : Int32)), (.int kd)])) (fun _ k => XS.iconst X11.here hx rfl (hb hby at_198) k) ?_
            refine own_st (t' := T11.setTop (mkF m 226 #[.val (.long q1), .second, .val (.long q2), .second, .val (.long q3), .second, .val (.long q4), .second, .val (.long q5), .second, .val (.int p6), .val (.long a2), .second, .val (.long b2), .second, .val (.long c2), .second, .val (.long d2), .second, .val (.ref b5), .val (.ref b7), .val (.int kd), .val (.ref r10), .val (.int (0 : Int32)), .val (.int (1 : Int32))] [])) (fun _ k => XS.icmpYes X11.here hx rfl (pc0 := 199) (pc' := 226) rfl (hb hby at_199) rfl (flt (own_k2 c106_9)).2.1 (by decide) (by decide) k) ?_
            refine own_st (t' := T11.setTop (mkF m 228 #[.val (.long q1), .second, .val (.long q2), .second, .val (.long q3), .second, .val (.long q4), .second, .val (.long q5), .second, .val (.int p6), .val (.long a2), .second, .val (.long b2), .second, .val (.long c2), .second, .val (.long d2), .second, .val (.ref b5), .val (.ref b7), .val (.int kd), .val (.ref r10), .val (.int (0 : Int32)), .val (.int (1 : Int32))] [(.int (1 : Int32))])) (fun _ k => XS.iload X11.here hx rfl (hb hby at_226) rfl k) ?_
            refine own_st (t' := T11.setTop (mkF m 231 #[.val (.long q1), .second, .val (.long q2), .second, .val (.long q3), .second, .val (.long q4), .second, .val (.long q5), .second, .val (.int p6), .val (.long a2), .second, .val (.long b2), .second, .val (.long c2), .second, .val (.long d2), .second, .val (.ref b5), .val (.ref b7), .val (.int kd), .val (.ref r10), .val (.int (0 : Int32)), .val (.int (1 : Int32))] [])) (fun _ k => XS.ifNo X11.here hx rfl (hb hby at_228) rfl ((if0 _ _).trans (feq (by decide : ¬ ((1 : Int32) = (0 : Int32)))).1) k) ?_
            refine own_st (t' := T11.setTop (mkF m 233 #[.val (.long q1), .second, .val (.long q2), .second, .val (.long q3), .second, .val (.long q4), .second, .val (.long q5), .second, .val (.int p6), .val (.long a2), .second, .val (.long b2), .second, .val (.long c2), .second, .val (.long d2), .second, .val (.ref b5), .val (.ref b7), .val (.int kd), .val (.ref r10), .val (.int (0 : Int32)), .val (.int (1 : Int32))] [(.ref b5)])) (fun _ k => XS.aload X11.here hx rfl (hb hby at_231) rfl rfl k) ?_
            refine own_st (t' := T11.setTop (mkF m 235 #[.val (.long q1), .second, .val (.long q2), .second, .val (.long q3), .second, .val (.long q4), .second, .val (.long q5), .second, .val (.int p6), .val (.long a2), .second, .val (.long b2), .second, .val (.long c2), .second, .val (.long d2), .second, .val (.ref b5), .val (.ref b7), .val (.int kd), .val (.ref r10), .val (.int (0 : Int32)), .val (.int (1 : Int32))] [(.ref b5), (.ref b5)])) (fun _ k => XS.aload X11.here hx rfl (hb hby at_233) rfl rfl k) ?_
            obtain ⟨cq12, kq12, q12a, q12b, q12c⟩ := isOf hZ e11 f10_Exa_b5
            obtain ⟨_, _, ⟨T12, L12, k12, n12⟩, -, X12, ⟨Lc12, hQ12, l12, y12, z12⟩, st12⟩ := X11.virtualBack hx (y := (⟨"com/example/ledgerwarden/ledgerwarden/EntryList$Group", "equals", "(Ljava/lang/Object;)Z"⟩ : MethodName)) (z := (⟨"com/example/ledgerwarden/ledgerwarden/EntryList$Group", "equals", "(Ljava/lang/Object;)Z"⟩ : MethodName)) hown (mvT hZ (hw _ (List.mem_of_getElem? (i := 17) rfl))) (mvT hZ (hw _ (List.mem_of_getElem? (i := 18) rfl))) (notFace_of_selects (args := #[]) (mvT hZ (hw _ (List.mem_of_getElem? (i := 20) rfl)))) (mvT hZ (hw _ (List.mem_of_getElem? (i := 20) rfl))) (mvT hZ (hw _ (List.mem_of_getElem? (i := 19) rfl))) (by decide) (backOf (W := 0) (own_rm2 l Z a0 hw [] b5 b5 q1 q2 q3 q4 q1 q2 q3 q4 T10.heap n0 Z10 f10_Exa_b5 f10_Fld_b5_firstStart f10_Fld_b5_lastStart f10_Fld_b5_size f10_Fld_b5_period f10_Fld_b5_firstStart f10_Fld_b5_lastStart f10_Fld_b5_size f10_Fld_b5_period) hZ (hw _ (List.mem_of_getElem? (i := 21) rfl)) (hw _ (List.mem_of_getElem? (i := 2) rfl)) (by decide) (by decide)) q12a q12c (g := (mkF m 235 #[.val (.long q1), .second, .val (.long q2), .second, .val (.long q3), .second, .val (.long q4), .second, .val (.long q5), .second, .val (.int p6), .val (.long a2), .second, .val (.long b2), .second, .val (.long c2), .second, .val (.long d2), .second, .val (.ref b5), .val (.ref b7), .val (.int kd), .val (.ref r10), .val (.int (0 : Int32)), .val (.int (1 : Int32))] [(.ref b5), (.ref b5)])) rfl (by rw [hml]; rfl) (Steps.refl _) (argsL := [(.ref b5)]) (rest := []) (lenOf own_rm0_pd2 rfl) rfl (by show 2 * 0 + _ ≤ _; exact Nat.le_of_eq rfl) (hb hby at_235) (fun _ _ => ⟨rfl, e11, (by decide : 0 + 1 + 0 + 1 + 0 + 1 + 0 + 0 ≤ _), (by decide : 0 + 4 + 0 + 4 + 0 + 1 + 0 + 0 ≤ _)⟩)
            dsimp only [Pt.U, Pt.locs, Pt.cells, Pt.slots] at X12 l12 y12 z12 st12 hQ12
            subst l12 y12 z12
            obtain ⟨rfl, N12q, e12⟩ := hQ12
            have N12 := Fr.app N11 N12q
            refine own_tr (t' := T12.setTop (mkF m 238 #[.val (.long q1), .second, .val (.long q2), .second, .val (.long q3), .second, .val (.long q4), .second, .val (.long q5), .second, .val (.int p6), .val (.long a2), .second, .val (.long b2), .second, .val (.long c2), .second, .val (.long d2), .second, .val (.ref b5), .val (.ref b7), .val (.int kd), .val (.ref r10), .val (.int (0 : Int32)), .val (.int (1 : Int32))] [(.int (own_e q1 q2 q3 q4 q1 q2 q3 q4))])) st12 ?_
            refine own_st (t' := T12.setTop (mkF m 241 #[.val (.long q1), .second, .val (.long q2), .second, .val (.long q3), .second, .val (.long q4), .second, .val (.long q5), .second, .val (.int p6), .val (.long a2), .second, .val (.long b2), .second, .val (.long c2), .second, .val (.long d2), .second, .val (.ref b5), .val (.ref b7), .val (.int kd), .val (.ref r10), .val (.int (0 : Int32)), .val (.int (1 : Int32))] [])) (fun _ k => XS.ifNo X12.here hx rfl (hb hby at_238) rfl ((if0 _ _).trans (feq (own_self _ _ _ _)).1) k) ?_
            refine own_st (t' := T12.setTop (mkF m 242 #[.val (.long q1), .second, .val (.long q2), .second, .val (.long q3), .second, .val (.long q4), .second, .val (.long q5), .second, .val (.int p6), .val (.long a2), .second, .val (.long b2), .second, .val (.long c2), .second, .val (.long d2), .second, .val (.ref b5), .val (.ref b7), .val (.int kd), .val (.ref r10), .val (.int (0 : Int32)), .val (.int (1 : Int32))] [(.int (1 : Int32))])) (fun _ k => XS.iconst X12.here hx rfl (hb hby at_241) k) ?_
            refine own_st (t' := T12.setTop (mkF m 246 #[.val (.long q1), .second, .val (.long q2), .second, .val (.long q3), .second, .val (.long q4), .second, .val (.long q5), .second, .val (.int p6), .val (.long a2), .second, .val (.long b2), .second, .val (.long c2), .second, .val (.long d2), .second, .val (.ref b5), .val (.ref b7), .val (.int kd), .val (.ref r10), .val (.int (0 : Int32)), .val (.int (1 : Int32))] [(.int (1 : Int32))])) (fun _ k => XS.goto X12.here hx rfl (pc0 := 242) (pc' := 246) rfl (hb hby at_242) (by decide) (by decide) k) ?_
            have hv13 : (1 : Int32) = (1 : Int32) := rfl
            obtain ⟨fs, hr, hrun, hended, hW, hsame⟩ := X12.leave (v := some (.int (1 : Int32))) (fun h => by rw [Bd.returns] at h; cases h)
            exact ⟨_, _, retN X12 hx (t := .boolean) Bd.returns (by simp) (hb hby at_246) hr, hrun, hended, hP _ _ ⟨_, _, rfl, ⟨(congrArg (fun z => some (Value.int z)) hv13), N12⟩, ⟨_, rfl⟩, hW, hsame.mono (by decide) (by decide)⟩⟩
          · refine own_st (t' := T8.setTop (mkF m 121 #[.val (.long q1), .second, .val (.long q2), .second, .val (.long q3), .second, .val (.long q4), .second, .val (.long q5), .second, .val (.int p6), .val (.long a2), .second, .val (.long b2), .second, .val (.long c2), .second, .val (.long d2), .second, .val (.ref b5), .val (.ref b7), .val (.int kd), .unset, .unset, .unset] [])) (fun _ k => XS.icmpYes X8.here hx rfl (pc0 := 106) (pc' := 121) rfl (hb hby at_106) rfl (feq c106_9).2 (by decide) (by decide) k) ?_
            refine own_st (t' := T8.setTop (mkF m 123 #[.val (.long q1), .second, .val (.long q2), .second, .val (.long q3), .second, .val (.long q4), .second, .val (.long q5), .second, .val (.int p6), .val (.long a2), .second, .val (.long b2), .second, .val (.long c2), .second, .val (.long d2), .second, .val (.ref b5), .val (.ref b7), .val (.int kd), .unset, .unset, .unset] [(.int kd)])) (fun _ k => XS.iload X8.here hx rfl (hb hby at_121) rfl k) ?_
            refine own_st (t' := T8.setTop (mkF m 124 #[.val (.long q1), .second, .val (.long q2), .second, .val (.long q3), .second, .val (.long q4), .second, .val (.long q5), .second, .val (.int p6), .val (.long a2), .second, .val (.long b2), .second, .val (.long c2), .second, .val (.long d2), .second, .val (.ref b5), .val (.ref b7), .val (.int kd), .unset, .unset, .unset] [(.int (3 : Int32)), (.int kd)])) (fun _ k => XS.iconst X8.here hx rfl (hb hby at_123) k) ?_
            by_cases c124_14 : kd = (3 : Int32)
            · refine own_st (t' := T8.setTop (mkF m 127 #[.val (.long q1), .second, .val (.long q2), .second, .val (.long q3), .second, .val (.long q4), .second, .val (.long q5), .second, .val (.int p6), .val (.long a2), .second, .val (.long b2), .second, .val (.long c2), .second, .val (.long d2), .second, .val (.ref b5), .val (.ref b7), .val (.int kd), .unset, .unset, .unset] [])) (fun _ k => XS.icmpNo X8.here hx rfl (hb hby at_124) rfl (teq c124_14).2 k) ?_
              refine own_st (t' := T8.setTop (mkF m 128 #[.val (.long q1), .second, .val (.long q2), .second, .val (.long q3), .second, .val (.long q4), .second, .val (.long q5), .second, .val (.int p6), .val (.long a2), .second, .val (.long b2), .second, .val (.long c2), .second, .val (.long d2), .second, .val (.ref b5), .val (.ref b7), .val (.int kd), .unset, .unset, .unset] [.null])) (fun _ k => XS.aconstNull X8.here hx rfl (hb hby at_127) k) ?_
              refine own_st (t' := T8.setTop (mkF m 130 #[.val (.long q1), .second, .val (.long q2), .second, .val (.long q3), .second, .val (.long q4), .second, .val (.long q5), .second, .val (.int p6), .val (.long a2), .second, .val (.long b2), .second, .val (.long c2), .second, .val (.long d2), .second, .val (.ref b5), .val (.ref b7), .val (.int kd), .val .null, .unset, .unset] [])) (fun _ k => XS.astore X8.here hx rfl (hb hby at_128) rfl rfl (l' := #[.val (.long q1), .second, .val (.long q2), .second, .val (.long q3), .second, .val (.long q4), .second, .val (.long q5), .second, .val (.int p6), .val (.long a2), .second, .val (.long b2), .second, .val (.long c2), .second, .val (.long d2), .second, .val (.ref b5), .val (.ref b7), .val (.int kd), .val .null, .unset, .unset]) rfl k) ?_
              refine own_st (t' := T8.setTop (mkF m 131 #[.val (.long q1), .second, .val (.long q2), .second, .val (.long q3), .second, .val (.long q4), .second, .val (.long q5), .second, .val (.int p6), .val (.long a2), .second, .val (.long b2), .second, .val (.long c2), .second, .val (.long d2), .second, .val (.ref b5), .val (.ref b7), .val (.int kd), .val .null, .unset, .unset] [(.int (0 : Int32))])) (fun _ k => XS.iconst X8.here hx rfl (hb hby at_130) k) ?_
              refine own_st (t' := T8.setTop (mkF m 133 #[.val (.long q1), .second, .val (.long q2), .second, .val (.long q3), .second, .val (.long q4), .second, .val (.long q5), .second, .val (.int p6), .val (.long a2), .second, .val (.long b2), .second, .val (.long c2), .second, .val (.long d2), .second, .val (.ref b5), .val (.ref b7), .val (.int kd), .val .null, .val (.int (0 : Int32)), .unset] [])) (fun _ k => XS.istore X8.here hx rfl (hb hby at_131) rfl (l' := #[.val (.long q1), .second, .val (.long q2), .second, .val (.long q3), .second, .val (.long q4), .second, .val (.long q5), .second, .val (.int p6), .val (.long a2), .second, .val (.long b2), .second, .val (.long c2), .second, .val (.long d2), .second, .val (.ref b5), .val (.ref b7), .val (.int kd), .val .null, .val (.int (0 : Int32)), .unset]) rfl k) ?_
              refine own_st (t' := T8.setTop (mkF m 177 #[.val (.long q1), .second, .val (.long q2), .second, .val (.long q3), .second, .val (.long q4), .second, .val (.long q5), .second, .val (.int p6), .val (.long a2), .second, .val (.long b2), .second, .val (.long c2), .second, .val (.long d2), .second, .val (.ref b5), .val (.ref b7), .val (.int kd), .val .null, .val (.int (0 : Int32)), .unset] [])) (fun _ k => XS.goto X8.here hx rfl (pc0 := 133) (pc' := 177) rfl (hb hby at_133) (by decide) (by decide) k) ?_
              refine own_st (t' := T8.setTop (mkF m 179 #[.val (.long q1), .second, .val (.long q2), .second, .val (.long q3), .second, .val (.long q4), .second, .val (.long q5), .second, .val (.int p6), .val (.long a2), .second, .val (.long b2), .second, .val (.long c2), .second, .val (.long d2), .second, .val (.ref b5), .val (.ref b7), .val (.int kd), .val .null, .val (.int (0 : Int32)), .unset] [(.ref b5)])) (fun _ k => XS.aload X8.here hx rfl (hb hby at_177) rfl rfl k) ?_
              refine own_st (t' := T8.setTop (mkF m 181 #[.val (.long q1), .second, .val (.long q2), .second, .val (.long q3), .second, .val (.long q4), .second, .val (.long q5), .second, .val (.int p6), .val (.long a2), .second, .val (.long b2), .second, .val (.long c2), .second, .val (.long d2), .second, .val (.ref b5), .val (.ref b7), .val (.int kd), .val .null, .val (.int (0 : Int32)), .unset] [.null, (.ref b5)])) (fun _ k => XS.aload X8.here hx rfl (hb hby at_179) rfl rfl k) ?_
              obtain ⟨cq15, kq15, q15a, q15b, q15c⟩ := isOf hZ rfl f8_Exa_b5
              obtain ⟨_, _, ⟨T15, L15, k15, n15⟩, -, X15, ⟨Lc15, hQ15, l15, y15, z15⟩, st15⟩ := X8.virtualBack hx (y := (⟨"com/example/ledgerwarden/ledgerwarden/EntryList$Group", "equals", "(Ljava/lang/Object;)Z"⟩ : MethodName)) (z := (⟨"com/example/ledgerwarden/ledgerwarden/EntryList$Group", "equals", "(Ljava/lang/Object;)Z"⟩ : MethodName)) hown (mvT hZ (hw _ (List.mem_of_getElem? (i := 17) rfl))) (mvT hZ (hw _ (List.mem_of_getElem? (i := 18) rfl))) (notFace_of_selects (args := #[]) (mvT hZ (hw _ (List.mem_of_getElem? (i := 20) rfl)))) (mvT hZ (hw _ (List.mem_of_getElem? (i := 20) rfl))) (mvT hZ (hw _ (List.mem_of_getElem? (i := 19) rfl))) (by decide) (backOf (W := 0) (own_rm3 l Z a0 hw [] b5 T8.heap n0 Z8) hZ (hw _ (List.mem_of_getElem? (i := 21) rfl)) (hw _ (List.mem_of_getElem? (i := 2) rfl)) (by decide) (by decide)) q15a q15c (g := (mkF m 181 #[.val (.long q1), .second, .val (.long q2), .second, .val (.long q3), .second, .val (.long q4), .second, .val (.long q5), .second, .val (.int p6), .val (.long a2), .second, .val (.long b2), .second, .val (.long c2), .second, .val (.long d2), .second, .val (.ref b5), .val (.ref b7), .val (.int kd), .val .null, .val (.int (0 : Int32)), .unset] [.null, (.ref b5)])) rfl (by rw [hml]; rfl) (Steps.refl _) (argsL := [.null]) (rest := []) (lenOf own_rm0_pd2 rfl) rfl (by show 2 * 0 + _ ≤ _; exact Nat.le_of_eq rfl) (hb hby at_181) (fun _ _ => ⟨rfl, rfl, (by decide : 0 + 1 + 0 + 1 + 0 + 0 ≤ _), (by decide : 0 + 4 + 0 + 4 + 0 + 0 ≤ _)⟩)
              dsimp only [Pt.U, Pt.locs, Pt.cells, Pt.slots] at X15 l15 y15 z15 st15 hQ15
              subst l15 y15 z15
              obtain ⟨rfl, N15q, e15⟩ := hQ15
              have N15 := Fr.app N8 N15q
              refine own_tr (t' := T15.setTop (mkF m 184 #[.val (.long q1), .second, .val (.long q2), .second, .val (.long q3), .second, .val (.long q4), .second, .val (.long q5), .second, .val (.int p6), .val (.long a2), .second, .val (.long b2), .second, .val (.long c2), .second, .val (.long d2), .second, .val (.ref b5), .val (.ref b7), .val (.int kd), .val .null, .val (.int (0 : Int32)), .unset] [(.int (0 : Int32))])) st15 ?_
              refine own_st (t' := T15.setTop (mkF m 186 #[.val (.long q1), .second, .val (.long q2), .second, .val (.long q3), .second, .val (.long q4), .second, .val (.long q5), .second, .val (.int p6), .val (.long a2), .second, .val (.long b2), .second, .val (.long c2), .second, .val (.long d2), .second, .val (.ref b5), .val (.ref b7), .val (.int kd), .val .null, .val (.int (0 : Int32)), .unset] [(.int (0 : Int32)), (.int (0 : Int32))])) (fun _ k => XS.iload X15.here hx rfl (hb hby at_184) rfl k) ?_
              refine own_st (t' := T15.setTop (mkF m 189 #[.val (.long q1), .second, .val (.long q2), .second, .val (.long q3), .second, .val (.long q4), .second, .val (.long q5), .second, .val (.int p6), .val (.long a2), .second, .val (.long b2), .second, .val (.long c2), .second, .val (.long d2), .second, .val (.ref b5), .val (.ref b7), .val (.int kd), .val .null, .val (.int (0 : Int32)), .unset] [])) (fun _ k => XS.icmpNo X15.here hx rfl (hb hby at_186) rfl (teq (rfl : (0 : Int32) = (0 : Int32))).2 k) ?_
              refine own_st (t' := T15.setTop (mkF m 190 #[.val (.long q1), .second, .val (.long q2), .second, .val (.long q3), .second, .val (.long q4), .second, .val (.long q5), .second, .val (.int p6), .val (.long a2), .second, .val (.long b2), .second, .val (.long c2), .second, .val (.long d2), .second, .val (.ref b5), .val (.ref b7), .val (.int kd), .val .null, .val (.int (0 : Int32)), .unset] [(.int (1 : Int32))])) (fun _ k => XS.iconst X15.here hx rfl (hb hby at_189) k) ?_
              refine own_st (t' := T15.setTop (mkF m 194 #[.val (.long q1), .second, .val (.long q2), .second, .val (.long q3), .second, .val (.long q4), .second, .val (.long q5), .second, .val (.int p6), .val (.long a2), .second, .val (.long b2), .second, .val (.long c2), .second, .val (.long d2), .second, .val (.ref b5), .val (.ref b7), .val (.int kd), .val .null, .val (.int (0 : Int32)), .unset] [(.int (1 : Int32))])) (fun _ k => XS.goto X15.here hx rfl (pc0 := 190) (pc' := 194) rfl (hb hby at_190) (by decide) (by decide) k) ?_
              refine own_st (t' := T15.setTop (mkF m 196 #[.val (.long q1), .second, .val (.long q2), .second, .val (.long q3), .second, .val (.long q4), .second, .val (.long q5), .second, .val (.int p6), .val (.long a2), .second, .val (.long b2), .second, .val (.long c2), .second, .val (.long d2), .second, .val (.ref b5), .val (.ref b7), .val (.int kd), .val .null, .val (.int (0 : Int32)), .val (.int (1 : Int32))] [])) (fun _ k => XS.istore X15.here hx rfl (hb hby at_194) rfl (l' := #[.val (.long q1), .second, .val (.long q2), .second, .val (.long q3), .second, .val (.long q4), .second, .val (.long q5), .second, .val (.int p6), .val (.long a2), .second, .val (.long b2), .second, .val (.long c2), .second, .val (.long d2), .second, .val (.ref b5), .val (.ref b7), .val (.int kd), .val .null, .val (.int (0 : Int32)), .val (.int (1 : Int32))]) rfl k) ?_
              refine own_st (t' := T15.setTop (mkF m 198 #[.val (.long q1), .second, .val (.long q2), .second, .val (.long q3), .second, .val (.long q4), .second, .val (.long q5), .second, .val (.int p6), .val (.long a2), .second, .val (.long b2), .second, .val (.long c2), .second, .val (.long d2), .second, .val (.ref b5), .val (.ref b7), .val (.int kd), .val .null, .val (.int (0 : Int32)), .val (.int (1 : Int32))] [(.int kd)])) (fun _ k => XS.iload X15.here hx rfl (hb hby at_196) rfl k) ?_
              refine own_st (t' := T15.setTop (mkF m 199 #[.val (.long q1), .second, .val (.long q2), .second, .val (.long q3), .second, .val (.long q4), .second, .val (.long q5), .second, .val (.int p6), .val (.long a2), .second, .val (.long b2), .second, .val (.long c2), .second, .val (.long d2), .second, .val (.ref b5), .val (.ref b7), .val (.int kd), .val .null, .val (.int (0 : Int32)), .val (.int (1 : Int32))] [(.int (2 : Int32)), (.int kd)])) (fun _ k => XS.iconst X15.here hx rfl (hb hby at_198) k) ?_
              refine own_st (t' := T15.setTop (mkF m 226 #[.val (.long q1), .second, .val (.long q2), .second, .val (.long q3), .second, .val (.long q4), .second, .val (.long q5), .second, .val (.int p6), .val (.long a2), .second, .val (.long b2), .second, .val (.long c2), .second, .val (.long d2), .second, .val (.ref b5), .val (.ref b7), .val (.int kd), .val .null, .val (.int (0 : Int32)), .val (.int (1 : Int32))] [])) (fun _ k => XS.icmpYes X15.here hx rfl (pc0 := 199) (pc' := 226) rfl (hb hby at_199) rfl (flt (own_k3 c124_14)).2.1 (by decide) (by decide) k) ?_
              refine own_st (t' := T15.setTop (mkF m 228 #[.val (.long q1), .second, .val (.long q2), .second, .val (.long q3), .second, .val (.long q4), .second, .val (.long q5), .second, .val (.int p6), .val (.long a2), .second, .val (.long b2), .second, .val (.long c2), .second, .val (.long d2), .second, .val (.ref b5), .val (.ref b7), .val (.int kd), .val .null, .val (.int (0 : Int32)), .val (.int (1 : Int32))] [(.int (1 : Int32))])) (fun _ k => XS.iload X15.here hx rfl (hb hby at_226) rfl k) ?_
              refine own_st (t' := T15.setTop (mkF m 231 #[.val (.long q1), .second, .val (.long q2), .second, .val (.long q3), .second, .val (.long q4), .second, .val (.long q5), .second, .val (.int p6), .val (.long a2), .second, .val (.long b2), .second, .val (.long c2), .second, .val (.long d2), .second, .val (.ref b5), .val (.ref b7), .val (.int kd), .val .null, .val (.int (0 : Int32)), .val (.int (1 : Int32))] [])) (fun _ k => XS.ifNo X15.here hx rfl (hb hby at_228) rfl ((if0 _ _).trans (feq (by decide : ¬ ((1 : Int32) = (0 : Int32)))).1) k) ?_
              refine own_st (t' := T15.setTop (mkF m 233 #[.val (.long q1), .second, .val (.long q2), .second, .val (.long q3), .second, .val (.long q4), .second, .val (.long q5), .second, .val (.int p6), .val (.long a2), .second, .val (.long b2), .second, .val (.long c2), .second, .val (.long d2), .second, .val (.ref b5), .val (.ref b7), .val (.int kd), .val .null, .val (.int (0 : Int32)), .val (.int (1 : Int32))] [(.ref b5)])) (fun _ k => XS.aload X15.here hx rfl (hb hby at_231) rfl rfl k) ?_
              refine own_st (t' := T15.setTop (mkF m 235 #[.val (.long q1), .second, .val (.long q2), .second, .val (.long q3), .second, .val (.long q4), .second, .val (.long q5), .second, .val (.int p6), .val (.long a2), .second, .val (.long b2), .second, .val (.long c2), .second, .val (.long d2), .second, .val (.ref b5), .val (.ref b7), .val (.int kd), .val .null, .val (.int (0 : Int32)), .val (.int (1 : Int32))] [(.ref b5), (.ref b5)])) (fun _ k => XS.aload X15.here hx rfl (hb hby at_233) rfl rfl k) ?_
              obtain ⟨cq16, kq16, q16a, q16b, q16c⟩ := isOf hZ e15 f8_Exa_b5
              obtain ⟨_, _, ⟨T16, L16, k16, n16⟩, -, X16, ⟨Lc16, hQ16, l16, y16, z16⟩, st16⟩ := X15.virtualBack hx (y := (⟨"com/example/ledgerwarden/ledgerwarden/EntryList$Group", "equals", "(Ljava/lang/Object;)Z"⟩ : MethodName)) (z := (⟨"com/example/ledgerwarden/ledgerwarden/EntryList$Group", "equals", "(Ljava/lang/Object;)Z"⟩ : MethodName)) hown (mvT hZ (hw _ (List.mem_of_getElem? (i := 17) rfl))) (mvT hZ (hw _ (List.mem_of_getElem? (i := 18) rfl))) (notFace_of_selects (args := #[]) (mvT hZ (hw _ (List.mem_of_getElem? (i := 20) rfl)))) (mvT hZ (hw _ (List.mem_of_getElem? (i := 20) rfl))) (mvT hZ (hw _ (List.mem_of_getElem? (i := 19) rfl))) (by decide) (backOf (W := 0) (own_rm2 l Z a0 hw [] b5 b5 q1 q2 q3 q4 q1 q2 q3 q4 T8.heap n0 Z8 f8_Exa_b5 f8_Fld_b5_firstStart f8_Fld_b5_lastStart f8_Fld_b5_size f8_Fld_b5_period f8_Fld_b5_firstStart f8_Fld_b5_lastStart f8_Fld_b5_size f8_Fld_b5_period) hZ (hw _ (List.mem_of_getElem? (i := 21) rfl)) (hw _ (List.mem_of_getElem? (i := 2) rfl)) (by decide) (by decide)) q16a q16c (g := (mkF m 235 #[.val (.long q1), .second, .val (.long q2), .second, .val (.long q3), .second, .val (.long q4), .second, .val (.long q5), .second, .val (.int p6), .val (.long a2), .second, .val (.long b2), .second, .val (.long c2), .second, .val (.long d2), .second, .val (.ref b5), .val (.ref b7), .val (.int kd), .val .null, .val (.int (0 : Int32)), .val (.int (1 : Int32))] [(.ref b5), (.ref b5)])) rfl (by rw [hml]; rfl) (Steps.refl _) (argsL := [(.ref b5)]) (rest := []) (lenOf own_rm0_pd2 rfl) rfl (by show 2 * 0 + _ ≤ _; exact Nat.le_of_eq rfl) (hb hby at_235) (fun _ _ => ⟨rfl, e15, (by decide : 0 + 1 + 0 + 1 + 0 + 0 + 0 ≤ _), (by decide : 0 + 4 + 0 + 4 + 0 + 0 + 0 ≤ _)⟩)
              dsimp only [Pt.U, Pt.locs, Pt.cells, Pt.slots] at X16 l16 y16 z16 st16 hQ16
              subst l16 y16 z16
              obtain ⟨rfl, N16q, e16⟩ := hQ16
              have N16 := Fr.app N15 N16q
              refine own_tr (t' := T16.setTop (mkF m 238 #[.val (.long q1), .second, .val (.long q2), .second, .val (.long q3), .second, .val (.long q4), .second, .val (.long q5), .second, .val (.int p6), .val (.long a2), .second, .val (.long b2), .second, .val (.long c2), .second, .val (.long d2), .second, .val (.ref b5), .val (.ref b7), .val (.int kd), .val .null, .val (.int (0 : Int32)), .val (.int (1 : Int32))] [(.int (own_e q1 q2 q3 q4 q1 q2 q3 q4))])) st16 ?_
              refine own_st (t' := T16.setTop (mkF m 241 #[.val (.long q1), .second, .val (.long q2), .second, .val (.long q3), .second, .val (.long q4), .second, .val (.long q5), .second, .val (.int p6), .val (.long a2), .second, .val (.long b2), .second, .val (.long c2), .second, .val (.long d2), .second, .val (.ref b5), .val (.ref b7), .val (.int kd), .val .null, .val (.int (0 : Int32)), .val (.int (1 : Int32))] [])) (fun _ k => XS.ifNo X16.here hx rfl (hb hby at_238) rfl ((if0 _ _).trans (feq (own_self _ _ _ _)).1) k) ?_
              refine own_st (t' := T16.setTop (mkF m 242 #[.val (.long q1), .second, .val (.long q2), .second, .val (.long q3), .second, .val (.long q4), .second, .val (.long q5), .second, .val (.int p6), .val (.long a2), .second, .val (.long b2), .second, .val (.long c2), .second, .val (.long d2), .second, .val (.ref b5), .val (.ref b7), .val (.int kd), .val .null, .val (.int (0 : Int32)), .val (.int (1 : Int32))] [(.int (1 : Int32))])) (fun _ k => XS.iconst X16.here hx rfl (hb hby at_241) k) ?_
              refine own_st (t' := T16.setTop (mkF m 246 #[.val (.long q1), .second, .val (.long q2), .second, .val (.long q3), .second, .val (.long q4), .second, .val (.long q5), .second, .val (.int p6), .val (.long a2), .second, .val (.long b2), .second, .val (.long c2), .second, .val (.long d2), .second, .val (.ref b5), .val (.ref b7), .val (.int kd), .val .null, .val (.int (0 : Int32)), .val (.int (1 : Int32))] [(.int (1 : Int32))])) (fun _ k => XS.goto X16.here hx rfl (pc0 := 242) (pc' := 246) rfl (hb hby at_242) (by decide) (by decide) k) ?_
              have hv17 : (1 : Int32) = (1 : Int32) := rfl
              obtain ⟨fs, hr, hrun, hended, hW, hsame⟩ := X16.leave (v := some (.int (1 : Int32))) (fun h => by rw [Bd.returns] at h; cases h)
              exact ⟨_, _, retN X16 hx (t := .boolean) Bd.returns (by simp) (hb hby at_246) hr, hrun, hended, hP _ _ ⟨_, _, rfl, ⟨(congrArg (fun z => some (Value.int z)) hv17), N16⟩, ⟨_, rfl⟩, hW, hsame.mono (by decide) (by decide)⟩⟩
            · refine own_st (t' := T8.setTop (mkF m 136 #[.val (.long q1), .second, .val (.long q2), .second, .val (.long q3), .second, .val (.long q4), .second, .val (.long q5), .second, .val (.int p6), .val (.long a2), .second, .val (.long b2), .second, .val (.long c2), .second, .val (.long d2), .second, .val (.ref b5), .val (.ref b7), .val (.int kd), .unset, .unset, .unset] [])) (fun _ k => XS.icmpYes X8.here hx rfl (pc0 := 124) (pc' := 136) rfl (hb hby at_124) rfl (feq c124_14).2 (by decide) (by decide) k) ?_
              refine own_st (t' := T8.setTop (mkF m 138 #[.val (.long q1), .second, .val (.long q2), .second, .val (.long q3), .second, .val (.long q4), .second, .val (.long q5), .second, .val (.int p6), .val (.long a2), .second, .val (.long b2), .second, .val (.long c2), .second, .val (.long d2), .second, .val (.ref b5), .val (.ref b7), .val (.int kd), .unset, .unset, .unset] [(.ref b7)])) (fun _ k => XS.aload X8.here hx rfl (hb hby at_136) rfl rfl k) ?_
              refine own_st (t' := T8.setTop (mkF m 140 #[.val (.long q1), .second, .val (.long q2), .second, .val (.long q3), .second, .val (.long q4), .second, .val (.long q5), .second, .val (.int p6), .val (.long a2), .second, .val (.long b2), .second, .val (.long c2), .second, .val (.long d2), .second, .val (.ref b5), .val (.ref b7), .val (.int kd), .val (.ref b7), .unset, .unset] [])) (fun _ k => XS.astore X8.here hx rfl (hb hby at_138) rfl rfl (l' := #[.val (.long q1), .second, .val (.long q2), .second, .val (.long q3), .second, .val (.long q4), .second, .val (.long q5), .second, .val (.int p6), .val (.long a2), .second, .val (.long b2), .second, .val (.long c2), .second, .val (.long d2), .second, .val (.ref b5), .val (.ref b7), .val (.int kd), .val (.ref b7), .unset, .unset]) rfl k) ?_
              have J18 : ∀ ex : Int32, ex = own_e q1 q2 q3 q4 a2 b2 c2 d2 → own_At p e below P (T8.setTop (mkF m 175 #[.val (.long q1), .second, .val (.long q2), .second, .val (.long q3), .second, .val (.long q4), .second, .val (.long q5), .second, .val (.int p6), .val (.long a2), .second, .val (.long b2), .second, .val (.long c2), .second, .val (.long d2), .second, .val (.ref b5), .val (.ref b7), .val (.int kd), .val (.ref b7), .unset, .unset] [(.int ex)])) := by
                intro ex  hz_ex
                refine own_st (t' := T8.setTop (mkF m 177 #[.val (.long q1), .second, .val (.long q2), .second, .val (.long q3), .second, .val (.long q4), .second, .val (.long q5), .second, .val (.int p6), .val (.long a2), .second, .val (.long b2), .second, .val (.long c2), .second, .val (.long d2), .second, .val (.ref b5), .val (.ref b7), .val (.int kd), .val (.ref b7), .val (.int ex), .unset] [])) (fun _ k => XS.istore X8.here hx rfl (hb hby at_175) rfl (l' := #[.val (.long q1), .second, .val (.long q2), .second, .val (.long q3), .second, .val (.long q4), .second, .val (.long q5), .second, .val (.int p6), .val (.long a2), .second, .val (.long b2), .second, .val (.long c2), .second, .val (.long d2), .second, .val (.ref b5), .val (.ref b7), .val (.int kd), .val (.ref b7), .val (.int ex), .unset]) rfl k) ?_
                refine own_st (t' := T8.setTop (mkF m 179 #[.val (.long q1), .second, .val (.long q2), .second, .val (.long q3), .second, .val (.long q4), .second, .val (.long q5), .second, .val (.int p6), .val (.long a2), .second, .val (.long b2), .second, .val (.long c2), .second, .val (.long d2), .second, .val (.ref b5), .val (.ref b7), .val (.int kd), .val (.ref b7), .val (.int ex), .unset] [(.ref b5)])) (fun _ k => XS.aload X8.here hx rfl (hb hby at_177) rfl rfl k) ?_
                refine own_st (t' := T8.setTop (mkF m 181 #[.val (.long q1), .second, .val (.long q2), .second, .val (.long q3), .second, .val (.long q4), .second, .val (.long q5), .second, .val (.int p6), .val (.long a2), .second, .val (.long b2), .second, .val (.long c2), .second, .val (.long d2), .second, .val (.ref b5), .val (.ref b7), .val (.int kd), .val (.ref b7), .val (.int ex), .unset] [(.ref b7), (.ref b5)])) (fun _ k => XS.aload X8.here hx rfl (hb hby at_179) rfl rfl k) ?_
                obtain ⟨cq19, kq19, q19a, q19b, q19c⟩ := isOf hZ rfl f8_Exa_b5
                obtain ⟨_, _, ⟨T19, L19, k19, n19⟩, -, X19, ⟨Lc19, hQ19, l19, y19, z19⟩, st19⟩ := X8.virtualBack hx (y := (⟨"com/example/ledgerwarden/ledgerwarden/EntryList$Group", "equals", "(Ljava/lang/Object;)Z"⟩ : MethodName)) (z := (⟨"com/example/ledgerwarden/ledgerwarden/EntryList$Group", "equals", "(Ljava/lang/Object;)Z"⟩ : MethodName)) hown (mvT hZ (hw _ (List.mem_of_getElem? (i := 17) rfl))) (mvT hZ (hw _ (List.mem_of_getElem? (i := 18) rfl))) (notFace_of_selects (args := #[]) (mvT hZ (hw _ (List.mem_of_getElem? (i := 20) rfl)))) (mvT hZ (hw _ (List.mem_of_getElem? (i := 20) rfl))) (mvT hZ (hw _ (List.mem_of_getElem? (i := 19) rfl))) (by decide) (backOf (W := 0) (own_rm2 l Z a0 hw [] b5 b7 q1 q2 q3 q4 a2 b2 c2 d2 T8.heap n0 Z8 g8e f8_Fld_b5_firstStart f8_Fld_b5_lastStart f8_Fld_b5_size f8_Fld_b5_period g8f0 g8f1 g8f2 g8f3) hZ (hw _ (List.mem_of_getElem? (i := 21) rfl)) (hw _ (List.mem_of_getElem? (i := 2) rfl)) (by decide) (by decide)) q19a q19c (g := (mkF m 181 #[.val (.long q1), .second, .val (.long q2), .second, .val (.long q3), .second, .val (.long q4), .second, .val (.long q5), .second, .val (.int p6), .val (.long a2), .second, .val (.long b2), .second, .val (.long c2), .second, .val (.long d2), .second, .val (.ref b5), .val (.ref b7), .val (.int kd), .val (.ref b7), .val (.int ex), .unset] [(.ref b7), (.ref b5)])) rfl (by rw [hml]; rfl) (Steps.refl _) (argsL := [(.ref b7)]) (rest := []) (lenOf own_rm0_pd2 rfl) rfl (by show 2 * 0 + _ ≤ _; exact Nat.le_of_eq rfl) (hb hby at_181) (fun _ _ => ⟨rfl, rfl, (by decide : 0 + 1 + 0 + 1 + 0 + 0 ≤ _), (by decide : 0 + 4 + 0 + 4 + 0 + 0 ≤ _)⟩)
                dsimp only [Pt.U, Pt.locs, Pt.cells, Pt.slots] at X19 l19 y19 z19 st19 hQ19
                subst l19 y19 z19
                obtain ⟨rfl, N19q, e19⟩ := hQ19
                have N19 := Fr.app N8 N19q
                refine own_tr (t' := T19.setTop (mkF m 184 #[.val (.long q1), .second, .val (.long q2), .second, .val (.long q3), .second, .val (.long q4), .second, .val (.long q5), .second, .val (.int p6), .val (.long a2), .second, .val (.long b2), .second, .val (.long c2), .second, .val (.long d2), .second, .val (.ref b5), .val (.ref b7), .val (.int kd), .val (.ref b7), .val (.int ex), .unset] [(.int (own_e q1 q2 q3 q4 a2 b2 c2 d2))])) st19 ?_
                refine own_st (t' := T19.setTop (mkF m 186 #[.val (.long q1), .second, .val (.long q2), .second, .val (.long q3), .second, .val (.long q4), .second, .val (.long q5), .second, .val (.int p6), .val (.long a2), .second, .val (.long b2), .second, .val (.long c2), .second, .val (.long d2), .second, .val (.ref b5), .val (.ref b7), .val (.int kd), .val (.ref b7), .val (.int ex), .unset] [(.int ex), (.int (own_e q1 q2 q3 q4 a2 b2 c2 d2))])) (fun _ k => XS.iload X19.here hx rfl (hb hby at_184) rfl k) ?_
                refine own_st (t' := T19.setTop (mkF m 189 #[.val (.long q1), .second, .val (.long q2), .second, .val (.long q3), .second, .val (.long q4), .second, .val (.long q5), .second, .val (.int p6), .val (.long a2), .second, .val (.long b2), .second, .val (.long c2), .second, .val (.long d2), .second, .val (.ref b5), .val (.ref b7), .val (.int kd), .val (.ref b7), .val (.int ex), .unset] [])) (fun _ k => XS.icmpNo X19.here hx rfl (hb hby at_186) rfl (teq hz_ex.symm).2 k) ?_
                refine own_st (t' := T19.setTop (mkF m 190 #[.val (.long q1), .second, .val (.long q2), .second, .val (.long q3), .second, .val (.long q4), .second, .val (.long q5), .second, .val (.int p6), .val (.long a2), .second, .val (.long b2), .second, .val (.long c2), .second, .val (.long d2), .second, .val (.ref b5), .val (.ref b7), .val (.int kd), .val (.ref b7), .val (.int ex), .unset] [(.int (1 : Int32))])) (fun _ k => XS.iconst X19.here hx rfl (hb hby at_189) k) ?_
                refine own_st (t' := T19.setTop (mkF m 194 #[.val (.long q1), .second, .val (.long q2), .second, .val (.long q3), .second, .val (.long q4), .second, .val (.long q5), .second, .val (.int p6), .val (.long a2), .second, .val (.long b2), .second, .val (.long c2), .second, .val (.long d2), .second, .val (.ref b5), .val (.ref b7), .val (.int kd), .val (.ref b7), .val (.int ex), .unset] [(.int (1 : Int32))])) (fun _ k => XS.goto X19.here hx rfl (pc0 := 190) (pc' := 194) rfl (hb hby at_190) (by decide) (by decide) k) ?_
                refine own_st (t' := T19.setTop (mkF m 196 #[.val (.long q1), .second, .val (.long q2), .second, .val (.long q3), .second, .val (.long q4), .second, .val (.long q5), .second, .val (.int p6), .val (.long a2), .second, .val (.long b2), .second, .val (.long c2), .second, .val (.long d2), .second, .val (.ref b5), .val (.ref b7), .val (.int kd), .val (.ref b7), .val (.int ex), .val (.int (1 : Int32))] [])) (fun _ k => XS.istore X19.here hx rfl (hb hby at_194) rfl (l' := #[.val (.long q1), .second, .val (.long q2), .second, .val (.long q3), .second, .val (.long q4), .second, .val (.long q5), .second, .val (.int p6), .val (.long a2), .second, .val (.long b2), .second, .val (.long c2), .second, .val (.long d2), .second, .val (.ref b5), .val (.ref b7), .val (.int kd), .val (.ref b7), .val (.int ex), .val (.int (1 : Int32))]) rfl k) ?_
                refine own_st (t' := T19.setTop (mkF m 198 #[.val (.long q1), .second, .val (.long q2), .second, .val (.long q3), .second, .val (.long q4), .second, .val (.long q5), .second, .val (.int p6), .val (.long a2), .second, .val (.long b2), .second, .val (.long c2), .second, .val (.long d2), .second, .val (.ref b5), .val (.ref b7), .val (.int kd), .val (.ref b7), .val (.int ex), .val (.int (1 : Int32))] [(.int kd)])) (fun _ k => XS.iload X19.here hx rfl (hb hby at_196) rfl k) ?_
                refine own_st (t' := T19.setTop (mkF m 199 #[.val (.long q1), .second, .val (.long q2), .second, .val (.long q3), .second, .val (.long q4), .second, .val (.long q5), .second, .val (.int p6), .val (.long a2), .second, .val (.long b2), .second, .val (.long c2), .second, .val (.long d2), .second, .val (.ref b5), .val (.ref b7), .val (.int kd), .val (.ref b7), .val (.int ex), .val (.int (1 : Int32))] [(.int (2 : Int32)), (.int kd)])) (fun _ k => XS.iconst X19.here hx rfl (hb hby at_198) k) ?_
                by_cases c199_20 : kd < (2 : Int32)
                · refine own_st (t' := T19.setTop (mkF m 202 #[.val (.long q1), .second, .val (.long q2), .second, .val (.long q3), .second, .val (.long q4), .second, .val (.long q5), .second, .val (.int p6), .val (.long a2), .second, .val (.long b2), .second, .val (.long c2), .second, .val (.long d2), .second, .val (.ref b5), .val (.ref b7), .val (.int kd), .val (.ref b7), .val (.int ex), .val (.int (1 : Int32))] [])) (fun _ k => XS.icmpNo X19.here hx rfl (hb hby at_199) rfl (tlt c199_20).2.1 k) ?_
                  refine own_st (t' := T19.setTop (mkF m 204 #[.val (.long q1), .second, .val (.long q2), .second, .val (.long q3), .second, .val (.long q4), .second, .val (.long q5), .second, .val (.int p6), .val (.long a2), .second, .val (.long b2), .second, .val (.long c2), .second, .val (.long d2), .second, .val (.ref b5), .val (.ref b7), .val (.int kd), .val (.ref b7), .val (.int ex), .val (.int (1 : Int32))] [(.int (1 : Int32))])) (fun _ k => XS.iload X19.here hx rfl (hb hby at_202) rfl k) ?_
                  refine own_st (t' := T19.setTop (mkF m 207 #[.val (.long q1), .second, .val (.long q2), .second, .val (.long q3), .second, .val (.long q4), .second, .val (.long q5), .second, .val (.int p6), .val (.long a2), .second, .val (.long b2), .second, .val (.long c2), .second, .val (.long d2), .second, .val (.ref b5), .val (.ref b7), .val (.int kd), .val (.ref b7), .val (.int ex), .val (.int (1 : Int32))] [])) (fun _ k => XS.ifNo X19.here hx rfl (hb hby at_204) rfl ((if0 _ _).trans (feq (by decide : ¬ ((1 : Int32) = (0 : Int32)))).1) k) ?_
                  refine own_st (t' := T19.setTop (mkF m 209 #[.val (.long q1), .second, .val (.long q2), .second, .val (.long q3), .second, .val (.long q4), .second, .val (.long q5), .second, .val (.int p6), .val (.long a2), .second, .val (.long b2), .second, .val (.long c2), .second, .val (.long d2), .second, .val (.ref b5), .val (.ref b7), .val (.int kd), .val (.ref b7), .val (.int ex), .val (.int (1 : Int32))] [(.ref b7)])) (fun _ k => XS.aload X19.here hx rfl (hb hby at_207) rfl rfl k) ?_
                  refine own_st (t' := T19.setTop (mkF m 211 #[.val (.long q1), .second, .val (.long q2), .second, .val (.long q3), .second, .val (.long q4), .second, .val (.long q5), .second, .val (.int p6), .val (.long a2), .second, .val (.long b2), .second, .val (.long c2), .second, .val (.long d2), .second, .val (.ref b5), .val (.ref b7), .val (.int kd), .val (.ref b7), .val (.int ex), .val (.int (1 : Int32))] [(.ref b5), (.ref b7)])) (fun _ k => XS.aload X19.here hx rfl (hb hby at_209) rfl rfl k) ?_
                  obtain ⟨cq21, kq21, q21a, q21b, q21c⟩ := isOf hZ e19 g8e
                  obtain ⟨_, _, ⟨T21, L21, k21, n21⟩, -, X21, ⟨Lc21, hQ21, l21, y21, z21⟩, st21⟩ := X19.virtualBack hx (y := (⟨"com/example/ledgerwarden/ledgerwarden/EntryList$Group", "equals", "(Ljava/lang/Object;)Z"⟩ : MethodName)) (z := (⟨"com/example/ledgerwarden/ledgerwarden/EntryList$Group", "equals", "(Ljava/lang/Object;)Z"⟩ : MethodName)) hown (mvT hZ (hw _ (List.mem_of_getElem? (i := 17) rfl))) (mvT hZ (hw _ (List.mem_of_getElem? (i := 18) rfl))) (notFace_of_selects (args := #[]) (mvT hZ (hw _ (List.mem_of_getElem? (i := 20) rfl)))) (mvT hZ (hw _ (List.mem_of_getElem? (i := 20) rfl))) (mvT hZ (hw _ (List.mem_of_getElem? (i := 19) rfl))) (by decide) (backOf (W := 0) (own_rm2 l Z a0 hw [] b7 b5 a2 b2 c2 d2 q1 q2 q3 q4 T8.heap n0 Z8 f8_Exa_b5 g8f0 g8f1 g8f2 g8f3 f8_Fld_b5_firstStart f8_Fld_b5_lastStart f8_Fld_b5_size f8_Fld_b5_period) hZ (hw _ (List.mem_of_getElem? (i := 21) rfl)) (hw _ (List.mem_of_getElem? (i := 2) rfl)) (by decide) (by decide)) q21a q21c (g := (mkF m 211 #[.val (.long q1), .second, .val (.long q2), .second, .val (.long q3), .second, .val (.long q4), .second, .val (.long q5), .second, .val (.int p6), .val (.long a2), .second, .val (.long b2), .second, .val (.long c2), .second, .val (.long d2), .second, .val (.ref b5), .val (.ref b7), .val (.int kd), .val (.ref b7), .val (.int ex), .val (.int (1 : Int32))] [(.ref b5), (.ref b7)])) rfl (by rw [hml]; rfl) (Steps.refl _) (argsL := [(.ref b5)]) (rest := []) (lenOf own_rm0_pd2 rfl) rfl (by show 2 * 0 + _ ≤ _; exact Nat.le_of_eq rfl) (hb hby at_211) (fun _ _ => ⟨rfl, e19, (by decide : 0 + 1 + 0 + 1 + 0 + 0 + 0 ≤ _), (by decide : 0 + 4 + 0 + 4 + 0 + 0 + 0 ≤ _)⟩)
                  dsimp only [Pt.U, Pt.locs, Pt.cells, Pt.slots] at X21 l21 y21 z21 st21 hQ21
                  subst l21 y21 z21
                  obtain ⟨rfl, N21q, e21⟩ := hQ21
                  have N21 := Fr.app N19 N21q
                  refine own_tr (t' := T21.setTop (mkF m 214 #[.val (.long q1), .second, .val (.long q2), .second, .val (.long q3), .second, .val (.long q4), .second, .val (.long q5), .second, .val (.int p6), .val (.long a2), .second, .val (.long b2), .second, .val (.long c2), .second, .val (.long d2), .second, .val (.ref b5), .val (.ref b7), .val (.int kd), .val (.ref b7), .val (.int ex), .val (.int (1 : Int32))] [(.int (own_e a2 b2 c2 d2 q1 q2 q3 q4))])) st21 ?_
                  refine own_st (t' := T21.setTop (mkF m 216 #[.val (.long q1), .second, .val (.long q2), .second, .val (.long q3), .second, .val (.long q4), .second, .val (.long q5), .second, .val (.int p6), .val (.long a2), .second, .val (.long b2), .second, .val (.long c2), .second, .val (.long d2), .second, .val (.ref b5), .val (.ref b7), .val (.int kd), .val (.ref b7), .val (.int ex), .val (.int (1 : Int32))] [(.int ex), (.int (own_e a2 b2 c2 d2 q1 q2 q3 q4))])) (fun _ k => XS.iload X21.here hx rfl (hb hby at_214) rfl k) ?_
                  refine own_st (t' := T21.setTop (mkF m 219 #[.val (.long q1), .second, .val (.long q2), .second, .val (.long q3), .second, .val (.long q4), .second, .val (.long q5), .second, .val (.int p6), .val (.long a2), .second, .val (.long b2), .second, .val (.long c2), .second, .val (.long d2), .second, .val (.ref b5), .val (.ref b7), .val (.int kd), .val (.ref b7), .val (.int ex), .val (.int (1 : Int32))] [])) (fun _ k => XS.icmpNo X21.here hx rfl (hb hby at_216) rfl (teq (own_sym hz_ex)).2 k) ?_
                  refine own_st (t' := T21.setTop (mkF m 220 #[.val (.long q1), .second, .val (.long q2), .second, .val (.long q3), .second, .val (.long q4), .second, .val (.long q5), .second, .val (.int p6), .val (.long a2), .second, .val (.long b2), .second, .val (.long c2), .second, .val (.long d2), .second, .val (.ref b5), .val (.ref b7), .val (.int kd), .val (.ref b7), .val (.int ex), .val (.int (1 : Int32))] [(.int (1 : Int32))])) (fun _ k => XS.iconst X21.here hx rfl (hb hby at_219) k) ?_
                  refine own_st (t' := T21.setTop (mkF m 224 #[.val (.long q1), .second, .val (.long q2), .second, .val (.long q3), .second, .val (.long q4), .second, .val (.long q5), .second, .val (.int p6), .val (.long a2), .second, .val (.long b2), .second, .val (.long c2), .second, .val (.long d2), .second, .val (.ref b5), .val (.ref b7), .val (.int kd), .val (.ref b7), .val (.int ex), .val (.int (1 : Int32))] [(.int (1 : Int32))])) (fun _ k => XS.goto X21.here hx rfl (pc0 := 220) (pc' := 224) rfl (hb hby at_220) (by decide) (by decide) k) ?_
                  refine own_st (t' := T21.setTop (mkF m 226 #[.val (.long q1), .second, .val (.long q2), .second, .val (.long q3), .second, .val (.long q4), .second, .val (.long q5), .second, .val (.int p6), .val (.long a2), .second, .val (.long b2), .second, .val (.long c2), .second, .val (.long d2), .second, .val (.ref b5), .val (.ref b7), .val (.int kd), .val (.ref b7), .val (.int ex), .val (.int (1 : Int32))] [])) (fun _ k => XS.istore X21.here hx rfl (hb hby at_224) rfl (l' := #[.val (.long q1), .second, .val (.long q2), .second, .val (.long q3), .second, .val (.long q4), .second, .val (.long q5), .second, .val (.int p6), .val (.long a2), .second, .val (.long b2), .second, .val (.long c2), .second, .val (.long d2), .second, .val (.ref b5), .val (.ref b7), .val (.int kd), .val (.ref b7), .val (.int ex), .val (.int (1 : Int32))]) rfl k) ?_
                  refine own_st (t' := T21.setTop (mkF m 228 #[.val (.long q1), .second, .val (.long q2), .second, .val (.long q3), .second, .val (.long q4), .second, .val (.long q5), .second, .val (.int p6), .val (.long a2), .second, .val (.long b2), .second, .val (.long c2), .second, .val (.long d2), .second, .val (.ref b5), .val (.ref b7), .val (.int kd), .val (.ref b7), .val (.int ex), .val (.int (1 : Int32))] [(.int (1 : Int32))])) (fun _ k => XS.iload X21.here hx rfl (hb hby at_226) rfl k) ?_
                  refine own_st (t' := T21.setTop (mkF m 231 #[.val (.long q1), .second, .val (.long q2), .second, .val (.long q3), .second, .val (.long q4), .second, .val (.long q5), .second, .val (.int p6), .val (.long a2), .second, .val (.long b2), .second, .val (.long c2), .second, .val (.long d2), .second, .val (.ref b5), .val (.ref b7), .val (.int kd), .val (.ref b7), .val (.int ex), .val (.int (1 : Int32))] [])) (fun _ k => XS.ifNo X21.here hx rfl (hb hby at_228) rfl ((if0 _ _).trans (feq (by decide : ¬ ((1 : Int32) = (0 : Int32)))).1) k) ?_
                  refine own_st (t' := T21.setTop (mkF m 233 #[.val (.long q1), .second, .val (.long q2), .second, .val (.long q3), .second, .val (.long q4), .second, .val (.long q5), .second, .val (.int p6), .val (.long a2), .second, .val (.long b2), .second, .val (.long c2), .second, .val (.long d2), .second, .val (.ref b5), .val (.ref b7), .val (.int kd), .val (.ref b7), .val (.int ex), .val (.int (1 : Int32))] [(.ref b5)])) (fun _ k => XS.aload X21.here hx rfl (hb hby at_231) rfl rfl k) ?_
                  refine own_st (t' := T21.setTop (mkF m 235 #[.val (.long q1), .second, .val (.long q2), .second, .val (.long q3), .second, .val (.long q4), .second, .val (.long q5), .second, .val (.int p6), .val (.long a2), .second, .val (.long b2), .second, .val (.long c2), .second, .val (.long d2), .second, .val (.ref b5), .val (.ref b7), .val (.int kd), .val (.ref b7), .val (.int ex), .val (.int (1 : Int32))] [(.ref b5), (.ref b5)])) (fun _ k => XS.aload X21.here hx rfl (hb hby at_233) rfl rfl k) ?_
                  obtain ⟨cq22, kq22, q22a, q22b, q22c⟩ := isOf hZ e21 f8_Exa_b5
                  obtain ⟨_, _, ⟨T22, L22, k22, n22⟩, -, X22, ⟨Lc22, hQ22, l22, y22, z22⟩, st22⟩ := X21.virtualBack hx (y := (⟨"com/example/ledgerwarden/ledgerwarden/EntryList$Group", "equals", "(Ljava/lang/Object;)Z"⟩ : MethodName)) (z := (⟨"com/example/ledgerwarden/ledgerwarden/EntryList$Group", "equals", "(Ljava/lang/Object;)Z"⟩ : MethodName)) hown (mvT hZ (hw _ (List.mem_of_getElem? (i := 17) rfl))) (mvT hZ (hw _ (List.mem_of_getElem? (i := 18) rfl))) (notFace_of_selects (args := #[]) (mvT hZ (hw _ (List.mem_of_getElem? (i := 20) rfl)))) (mvT hZ (hw _ (List.mem_of_getElem? (i := 20) rfl))) (mvT hZ (hw _ (List.mem_of_getElem? (i := 19) rfl))) (by decide) (backOf (W := 0) (own_rm2 l Z a0 hw [] b5 b5 q1 q2 q3 q4 q1 q2 q3 q4 T8.heap n0 Z8 f8_Exa_b5 f8_Fld_b5_firstStart f8_Fld_b5_lastStart f8_Fld_b5_size f8_Fld_b5_period f8_Fld_b5_firstStart f8_Fld_b5_lastStart f8_Fld_b5_size f8_Fld_b5_period) hZ (hw _ (List.mem_of_getElem? (i := 21) rfl)) (hw _ (List.mem_of_getElem? (i := 2) rfl)) (by decide) (by decide)) q22a q22c (g := (mkF m 235 #[.val (.long q1), .second, .val (.long q2), .second, .val (.long q3), .second, .val (.long q4), .second, .val (.long q5), .second, .val (.int p6), .val (.long a2), .second, .val (.long b2), .second, .val (.long c2), .second, .val (.long d2), .second, .val (.ref b5), .val (.ref b7), .val (.int kd), .val (.ref b7), .val (.int ex), .val (.int (1 : Int32))] [(.ref b5), (.ref b5)])) rfl (by rw [hml]; rfl) (Steps.refl _) (argsL := [(.ref b5)]) (rest := []) (lenOf own_rm0_pd2 rfl) rfl (by show 2 * 0 + _ ≤ _; exact Nat.le_of_eq rfl) (hb hby at_235) (fun _ _ => ⟨rfl, e21, (by decide : 0 + 1 + 0 + 1 + 0 + 0 + 0 + 0 ≤ _), (by decide : 0 + 4 + 0 + 4 + 0 + 0 + 0 + 0 ≤ _)⟩)
                  dsimp only [Pt.U, Pt.locs, Pt.cells, Pt.slots] at X22 l22 y22 z22 st22 hQ22
                  subst l22 y22 z22
                  obtain ⟨rfl, N22q, e22⟩ := hQ22
                  have N22 := Fr.app N21 N22q
                  refine own_tr (t' := T22.setTop (mkF m 238 #[.val (.long q1), .second, .val (.long q2), .second, .val (.long q3), .second, .val (.long q4), .second, .val (.long q5), .second, .val (.int p6), .val (.long a2), .second, .val (.long b2), .second, .val (.long c2), .second, .val (.long d2), .second, .val (.ref b5), .val (.ref b7), .val (.int kd), .val (.ref b7), .val (.int ex), .val (.int (1 : Int32))] [(.int (own_e q1 q2 q3 q4 q1 q2 q3 q4))])) st22 ?_
                  refine own_st (t' := T22.setTop (mkF m 241 #[.val (.long q1), .second, .val (.long q2), .second, .val (.long q3), .second, .val (.long q4), .second, .val (.long q5), .second, .val (.int p6), .val (.long a2), .second, .val (.long b2), .second, .val (.long c2), .second, .val (.long d2), .second, .val (.ref b5), .val (.ref b7), .val (.int kd), .val (.ref b7), .val (.int ex), .val (.int (1 : Int32))] [])) (fun _ k => XS.ifNo X22.here hx rfl (hb hby at_238) rfl ((if0 _ _).trans (feq (own_self _ _ _ _)).1) k) ?_
                  refine own_st (t' := T22.setTop (mkF m 242 #[.val (.long q1), .second, .val (.long q2), .second, .val (.long q3), .second, .val (.long q4), .second, .val (.long q5), .second, .val (.int p6), .val (.long a2), .second, .val (.long b2), .second, .val (.long c2), .second, .val (.long d2), .second, .val (.ref b5), .val (.ref b7), .val (.int kd), .val (.ref b7), .val (.int ex), .val (.int (1 : Int32))] [(.int (1 : Int32))])) (fun _ k => XS.iconst X22.here hx rfl (hb hby at_241) k) ?_
                  refine own_st (t' := T22.setTop (mkF m 246 #[.val (.long q1), .second, .val (.long q2), .second, .val (.long q3), .second, .val (.long q4), .second, .val (.long q5), .second, .val (.int p6), .val (.long a2), .second, .val (.long b2), .second, .val (.long c2), .second, .val (.long d2), .second, .val (.ref b5), .val (.ref b7), .val (.int kd), .val (.ref b7), .val (.int ex), .val (.int (1 : Int32))] [(.int (1 : Int32))])) (fun _ k => XS.goto X22.here hx rfl (pc0 := 242) (pc' := 246) rfl (hb hby at_242) (by decide) (by decide) k) ?_
                  have hv23 : (1 : Int32) = (1 : Int32) := rfl
                  obtain ⟨fs, hr, hrun, hended, hW, hsame⟩ := X22.leave (v := some (.int (1 : Int32))) (fun h => by rw [Bd.returns] at h; cases h)
                  exact ⟨_, _, retN X22 hx (t := .boolean) Bd.returns (by simp) (hb hby at_246) hr, hrun, hended, hP _ _ ⟨_, _, rfl, ⟨(congrArg (fun z => some (Value.int z)) hv23), N22⟩, ⟨_, rfl⟩, hW, hsame.mono (by decide) (by decide)⟩⟩
                · refine own_st (t' := T19.setTop (mkF m 226 #[.val (.long q1), .second, .val (.long q2), .second, .val (.long q3), .second, .val (.long q4), .second, .val (.long q5), .second, .val (.int p6), .val (.long a2), .second, .val (.long b2), .second, .val (.long c2), .second, .val (.long d2), .second, .val (.ref b5), .val (.ref b7), .val (.int kd), .val (.ref b7), .val (.int ex), .val (.int (1 : Int32))] [])) (fun _ k => XS.icmpYes X19.here hx rfl (pc0 := 199) (pc' := 226) rfl (hb hby at_199) rfl (flt c199_20).2.1 (by decide) (by decide) k) ?_
                  refine own_st (t' := T19.setTop (mkF m 228 #[.val (.long q1), .second, .val (.long q2), .second, .val (.long q3), .second, .val (.long q4), .second, .val (.long q5), .second, .val (.int p6), .val (.long a2), .second, .val (.long b2), .second, .val (.long c2), .second, .val (.long d2), .second, .val (.ref b5), .val (.ref b7), .val (.int kd), .val (.ref b7), .val (.int ex), .val (.int (1 : Int32))] [(.int (1 : Int32))])) (fun _ k => XS.iload X19.here hx rfl (hb hby at_226) rfl k) ?_
                  refine own_st (t' := T19.setTop (mkF m 231 #[.val (.long q1), .second, .val (.long q2), .second, .val (.long q3), .second, .val (.long q4), .second, .val (.long q5), .second, .val (.int p6), .val (.long a2), .second, .val (.long b2), .second, .val (.long c2), .second, .val (.long d2), .second, .val (.ref b5), .val (.ref b7), .val (.int kd), .val (.ref b7), .val (.int ex), .val (.int (1 : Int32))] [])) (fun _ k => XS.ifNo X19.here hx rfl (hb hby at_228) rfl ((if0 _ _).trans (feq (by decide : ¬ ((1 : Int32) = (0 : Int32)))).1) k) ?_
                  refine own_st (t' := T19.setTop (mkF m 233 #[.val (.long q1), .second, .val (.long q2), .second, .val (.long q3), .second, .val (.long q4), .second, .val (.long q5), .second, .val (.int p6), .val (.long a2), .second, .val (.long b2), .second, .val (.long c2), .second, .val (.long d2), .second, .val (.ref b5), .val (.ref b7), .val (.int kd), .val (.ref b7), .val (.int ex), .val (.int (1 : Int32))] [(.ref b5)])) (fun _ k => XS.aload X19.here hx rfl (hb hby at_231) rfl rfl k) ?_
                  refine own_st (t' := T19.setTop (mkF m 235 #[.val (.long q1), .second, .val (.long q2), .second, .val (.long q3), .second, .val (.long q4), .second, .val (.long q5), .second, .val (.int p6), .val (.long a2), .second, .val (.long b2), .second, .val (.long c2), .second, .val (.long d2), .second, .val (.ref b5), .val (.ref b7), .val (.int kd), .val (.ref b7), .val (.int ex), .val (.int (1 : Int32))] [(.ref b5), (.ref b5)])) (fun _ k => XS.aload X19.here hx rfl (hb hby at_233) rfl rfl k) ?_
                  obtain ⟨cq24, kq24, q24a, q24b, q24c⟩ := isOf hZ e19 f8_Exa_b5
                  obtain ⟨_, _, ⟨T24, L24, k24, n24⟩, -, X24, ⟨Lc24, hQ24, l24, y24, z24⟩, st24⟩ := X19.virtualBack hx (y := (⟨"com/example/ledgerwarden/ledgerwarden/EntryList$Group", "equals", "(Ljava/lang/Object;)Z"⟩ : MethodName)) (z := (⟨"com/example/ledgerwarden/ledgerwarden/EntryList$Group", "equals", "(Ljava/lang/Object;)Z"⟩ : MethodName)) hown (mvT hZ (hw _ (List.mem_of_getElem? (i := 17) rfl))) (mvT hZ (hw _ (List.mem_of_getElem? (i := 18) rfl))) (notFace_of_selects (args := #[]) (mvT hZ (hw _ (List.mem_of_getElem? (i := 20) rfl)))) (mvT hZ (hw _ (List.mem_of_getElem? (i := 20) rfl))) (mvT hZ (hw _ (List.mem_of_getElem? (i := 19) rfl))) (by decide) (backOf (W := 0) (own_rm2 l Z a0 hw [] b5 b5 q1 q2 q3 q4 q1 q2 q3 q4 T8.heap n0 Z8 f8_Exa_b5 f8_Fld_b5_firstStart f8_Fld_b5_lastStart f8_Fld_b5_size f8_Fld_b5_period f8_Fld_b5_firstStart f8_Fld_b5_lastStart f8_Fld_b5_size f8_Fld_b5_period) hZ (hw _ (List.mem_of_getElem? (i := 21) rfl)) (hw _ (List.mem_of_getElem? (i := 2) rfl)) (by decide) (by decide)) q24a q24c (g := (mkF m 235 #[.val (.long q1), .second, .val (.long q2), .second, .val (.long q3), .second, .val (.long q4), .second, .val (.long q5), .second, .val (.int p6), .val (.long a2), .second, .val (.long b2), .second, .val (.long c2), .second, .val (.long d2), .second, .val (.ref b5), .val (.ref b7), .val (.int kd), .val (.ref b7), .val (.int ex), .val (.int (1 : Int32))] [(.ref b5), (.ref b5)])) rfl (by rw [hml]; rfl) (Steps.refl _) (argsL := [(.ref b5)]) (rest := []) (lenOf own_rm0_pd2 rfl) rfl (by show 2 * 0 + _ ≤ _; exact Nat.le_of_eq rfl) (hb hby at_235) (fun _ _ => ⟨rfl, e19, (by decide : 0 + 1 + 0 + 1 + 0 + 0 + 0 ≤ _), (by decide : 0 + 4 + 0 + 4 + 0 + 0 + 0 ≤ _)⟩)
                  dsimp only [Pt.U, Pt.locs, Pt.cells, Pt.slots] at X24 l24 y24 z24 st24 hQ24
                  subst l24 y24 z24
                  obtain ⟨rfl, N24q, e24⟩ := hQ24
                  have N24 := Fr.app N19 N24q
                  refine own_tr (t' := T24.setTop (mkF m 238 #[.val (.long q1), .second, .val (.long q2), .second, .val (.long q3), .second, .val (.long q4), .second, .val (.long q5), .second, .val (.int p6), .val (.long a2), .second, .val (.long b2), .second, .val (.long c2), .second, .val (.long d2), .second, .val (.ref b5), .val (.ref b7), .val (.int kd), .val (.ref b7), .val (.int ex), .val (.int (1 : Int32))] [(.int (own_e q1 q2 q3 q4 q1 q2 q3 q4))])) st24 ?_
                  refine own_st (t' := T24.setTop (mkF m 241 #[.val (.long q1), .second, .val (.long q2), .second, .val (.long q3), .second, .val (.long q4), .second, .val (.long q5), .second, .val (.int p6), .val (.long a2), .second, .val (.long b2), .second, .val (.long c2), .second, .val (.long d2), .second, .val (.ref b5), .val (.ref b7), .val (.int kd), .val (.ref b7), .val (.int ex), .val (.int (1 : Int32))] [])) (fun _ k => XS.ifNo X24.here hx rfl (hb hby at_238) rfl ((if0 _ _).trans (feq (own_self _ _ _ _)).1) k) ?_
                  refine own_st (t' := T24.setTop (mkF m 242 #[.val (.long q1), .second, .val (.long q2), .second, .val (.long q3), .second, .val (.long q4), .second, .val (.long q5), .second, .val (.int p6), .val (.long a2), .second, .val (.long b2), .second, .val (.long c2), .second, .val (.long d2), .second, .val (.ref b5), .val (.ref b7), .val (.int kd), .val (.ref b7), .val (.int ex), .val (.int (1 : Int32))] [(.int (1 : Int32))])) (fun _ k => XS.iconst X24.here hx rfl (hb hby at_241) k) ?_
                  refine own_st (t' := T24.setTop (mkF m 246 #[.val (.long q1), .second, .val (.long q2), .second, .val (.long q3), .second, .val (.long q4), .second, .val (.long q5), .second, .val (.int p6), .val (.long a2), .second, .val (.long b2), .second, .val (.long c2), .second, .val (.long d2), .second, .val (.ref b5), .val (.ref b7), .val (.int kd), .val (.ref b7), .val (.int ex), .val (.int (1 : Int32))] [(.int (1 : Int32))])) (fun _ k => XS.goto X24.here hx rfl (pc0 := 242) (pc' := 246) rfl (hb hby at_242) (by decide) (by decide) k) ?_
                  have hv25 : (1 : Int32) = (1 : Int32) := rfl
                  obtain ⟨fs, hr, hrun, hended, hW, hsame⟩ := X24.leave (v := some (.int (1 : Int32))) (fun h => by rw [Bd.returns] at h; cases h)
                  exact ⟨_, _, retN X24 hx (t := .boolean) Bd.returns (by simp) (hb hby at_246) hr, hrun, hended, hP _ _ ⟨_, _, rfl, ⟨(congrArg (fun z => some (Value.int z)) hv25), N24⟩, ⟨_, rfl⟩, hW, hsame.mono (by decide) (by decide)⟩⟩
              refine own_st (t' := T8.setTop (mkF m 142 #[.val (.long q1), .second, .val (.long q2), .second, .val (.long q3), .second, .val (.long q4), .second, .val (.long q5), .second, .val (.int p6), .val (.long a2), .second, .val (.long b2), .second, .val (.long c2), .second, .val (.long d2), .second, .val (.ref b5), .val (.ref b7), .val (.int kd), .val (.ref b7), .unset, .unset] [(.long a2)])) (fun _ k => XS.lload X8.here hx rfl (hb hby at_140) rfl k) ?_
              refine own_st (t' := T8.setTop (mkF m 143 #[.val (.long q1), .second, .val (.long q2), .second, .val (.long q3), .second, .val (.long q4), .second, .val (.long q5), .second, .val (.int p6), .val (.long a2), .second, .val (.long b2), .second, .val (.long c2), .second, .val (.long d2), .second, .val (.ref b5), .val (.ref b7), .val (.int kd), .val (.ref b7), .unset, .unset] [(.long q1), (.long a2)])) (fun _ k => XS.lloadN X8.here hx rfl (hb hby at_142) rfl k) ?_
              refine own_st (t' := T8.setTop (mkF m 144 #[.val (.long q1), .second, .val (.long q2), .second, .val (.long q3), .second, .val (.long q4), .second, .val (.long q5), .second, .val (.int p6), .val (.long a2), .second, .val (.long b2), .second, .val (.long c2), .second, .val (.long d2), .second, .val (.ref b5), .val (.ref b7), .val (.int kd), .val (.ref b7), .unset, .unset] [(.int (lcmpW a2 q1))])) (fun _ k => XS.lcmp X8.here hx rfl (hb hby at_143) rfl k) ?_
              by_cases c144_26 : (lcmpW a2 q1) = (0 : Int32)
              · refine own_st (t' := T8.setTop (mkF m 147 #[.val (.long q1), .second, .val (.long q2), .second, .val (.long q3), .second, .val (.long q4), .second, .val (.long q5), .second, .val (.int p6), .val (.long a2), .second, .val (.long b2), .second, .val (.long c2), .second, .val (.long d2), .second, .val (.ref b5), .val (.ref b7), .val (.int kd), .val (.ref b7), .unset, .unset] [])) (fun _ k => XS.ifNo X8.here hx rfl (hb hby at_144) rfl ((if0 _ _).trans (teq c144_26).2) k) ?_
                refine own_st (t' := T8.setTop (mkF m 149 #[.val (.long q1), .second, .val (.long q2), .second, .val (.long q3), .second, .val (.long q4), .second, .val (.long q5), .second, .val (.int p6), .val (.long a2), .second, .val (.long b2), .second, .val (.long c2), .second, .val (.long d2), .second, .val (.ref b5), .val (.ref b7), .val (.int kd), .val (.ref b7), .unset, .unset] [(.long b2)])) (fun _ k => XS.lload X8.here hx rfl (hb hby at_147) rfl k) ?_
                refine own_st (t' := T8.setTop (mkF m 150 #[.val (.long q1), .second, .val (.long q2), .second, .val (.long q3), .second, .val (.long q4), .second, .val (.long q5), .second, .val (.int p6), .val (.long a2), .second, .val (.long b2), .second, .val (.long c2), .second, .val (.long d2), .second, .val (.ref b5), .val (.ref b7), .val (.int kd), .val (.ref b7), .unset, .unset] [(.long q2), (.long b2)])) (fun _ k => XS.lloadN X8.here hx rfl (hb hby at_149) rfl k) ?_
                refine own_st (t' := T8.setTop (mkF m 151 #[.val (.long q1), .second, .val (.long q2), .second, .val (.long q3), .second, .val (.long q4), .second, .val (.long q5), .second, .val (.int p6), .val (.long a2), .second, .val (.long b2), .second, .val (.long c2), .second, .val (.long d2), .second, .val (.ref b5), .val (.ref b7), .val (.int kd), .val (.ref b7), .unset, .unset] [(.int (lcmpW b2 q2))])) (fun _ k => XS.lcmp X8.here hx rfl (hb hby at_150) rfl k) ?_
                by_cases c151_27 : (lcmpW b2 q2) = (0 : Int32)
                · refine own_st (t' := T8.setTop (mkF m 154 #[.val (.long q1), .second, .val (.long q2), .second, .val (.long q3), .second, .val (.long q4), .second, .val (.long q5), .second, .val (.int p6), .val (.long a2), .second, .val (.long b2), .second, .val (.long c2), .second, .val (.long d2), .second, .val (.ref b5), .val (.ref b7), .val (.int kd), .val (.ref b7), .unset, .unset] [])) (fun _ k => XS.ifNo X8.here hx rfl (hb hby at_151) rfl ((if0 _ _).trans (teq c151_27).2) k) ?_
                  refine own_st (t' := T8.setTop (mkF m 156 #[.val (.long q1), .second, .val (.long q2), .second, .val (.long q3), .second, .val (.long q4), .second, .val (.long q5), .second, .val (.int p6), .val (.long a2), .second, .val (.long b2), .second, .val (.long c2), .second, .val (.long d2), .second, .val (.ref b5), .val (.ref b7), .val (.int kd), .val (.ref b7), .unset, .unset] [(.long c2)])) (fun _ k => XS.lload X8.here hx rfl (hb hby at_154) rfl k) ?_
                  refine own_st (t' := T8.setTop (mkF m 158 #[.val (.long q1), .second, .val (.long q2), .second, .val (.long q3), .second, .val (.long q4), .second, .val (.long q5), .second, .val (.int p6), .val (.long a2), .second, .val (.long b2), .second, .val (.long c2), .second, .val (.long d2), .second, .val (.ref b5), .val (.ref b7), .val (.int kd), .val (.ref b7), .unset, .unset] [(.long q3), (.long c2)])) (fun _ k => XS.lload X8.here hx rfl (hb hby at_156) rfl k) ?_
                  refine own_st (t' := T8.setTop (mkF m 159 #[.val (.long q1), .second, .val (.long q2), .second, .val (.long q3), .second, .val (.long q4), .second, .val (.long q5), .second, .val (.int p6), .val (.long a2), .second, .val (.long b2), .second, .val (.long c2), .second, .val (.long d2), .second, .val (.ref b5), .val (.ref b7), .val (.int kd), .val (.ref b7), .unset, .unset] [(.int (lcmpW c2 q3))])) (fun _ k => XS.lcmp X8.here hx rfl (hb hby at_158) rfl k) ?_
                  by_cases c159_28 : (lcmpW c2 q3) = (0 : Int32)
                  · refine own_st (t' := T8.setTop (mkF m 162 #[.val (.long q1), .second, .val (.long q2), .second, .val (.long q3), .second, .val (.long q4), .second, .val (.long q5), .second, .val (.int p6), .val (.long a2), .second, .val (.long b2), .second, .val (.long c2), .second, .val (.long d2), .second, .val (.ref b5), .val (.ref b7), .val (.int kd), .val (.ref b7), .unset, .unset] [])) (fun _ k => XS.ifNo X8.here hx rfl (hb hby at_159) rfl ((if0 _ _).trans (teq c159_28).2) k) ?_
                    refine own_st (t' := T8.setTop (mkF m 164 #[.val (.long q1), .second, .val (.long q2), .second, .val (.long q3), .second, .val (.long q4), .second, .val (.long q5), .second, .val (.int p6), .val (.long a2), .second, .val (.long b2), .second, .val (.long c2), .second, .val (.long d2), .second, .val (.ref b5), .val (.ref b7), .val (.int kd), .val (.ref b7), .unset, .unset] [(.long d2)])) (fun _ k => XS.lload X8.here hx rfl (hb hby at_162) rfl k) ?_
                    refine own_st (t' := T8.setTop (mkF m 166 #[.val (.long q1), .second, .val (.long q2), .second, .val (.long q3), .second, .val (.long q4), .second, .val (.long q5), .second, .val (.int p6), .val (.long a2), .second, .val (.long b2), .second, .val (.long c2), .second, .val (.long d2), .second, .val (.ref b5), .val (.ref b7), .val (.int kd), .val (.ref b7), .unset, .unset] [(.long q4), (.long d2)])) (fun _ k => XS.lload X8.here hx rfl (hb hby at_164) rfl k) ?_
                    refine own_st (t' := T8.setTop (mkF m 167 #[.val (.long q1), .second, .val (.long q2), .second, .val (.long q3), .second, .val (.long q4), .second, .val (.long q5), .second, .val (.int p6), .val (.long a2), .second, .val (.long b2), .second, .val (.long c2), .second, .val (.long d2), .second, .val (.ref b5), .val (.ref b7), .val (.int kd), .val (.ref b7), .unset, .unset] [(.int (lcmpW d2 q4))])) (fun _ k => XS.lcmp X8.here hx rfl (hb hby at_166) rfl k) ?_
                    by_cases c167_29 : (lcmpW d2 q4) = (0 : Int32)
                    · refine own_st (t' := T8.setTop (mkF m 170 #[.val (.long q1), .second, .val (.long q2), .second, .val (.long q3), .second, .val (.long q4), .second, .val (.long q5), .second, .val (.int p6), .val (.long a2), .second, .val (.long b2), .second, .val (.long c2), .second, .val (.long d2), .second, .val (.ref b5), .val (.ref b7), .val (.int kd), .val (.ref b7), .unset, .unset] [])) (fun _ k => XS.ifNo X8.here hx rfl (hb hby at_167) rfl ((if0 _ _).trans (teq c167_29).2) k) ?_
                      refine own_st (t' := T8.setTop (mkF m 171 #[.val (.long q1), .second, .val (.long q2), .second, .val (.long q3), .second, .val (.long q4), .second, .val (.long q5), .second, .val (.int p6), .val (.long a2), .second, .val (.long b2), .second, .val (.long c2), .second, .val (.long d2), .second, .val (.ref b5), .val (.ref b7), .val (.int kd), .val (.ref b7), .unset, .unset] [(.int (1 : Int32))])) (fun _ k => XS.iconst X8.here hx rfl (hb hby at_170) k) ?_
                      refine own_st (t' := T8.setTop (mkF m 175 #[.val (.long q1), .second, .val (.long q2), .second, .val (.long q3), .second, .val (.long q4), .second, .val (.long q5), .second, .val (.int p6), .val (.long a2), .second, .val (.long b2), .second, .val (.long c2), .second, .val (.long d2), .second, .val (.ref b5), .val (.ref b7), .val (.int kd), .val (.ref b7), .unset, .unset] [(.int (1 : Int32))])) (fun _ k => XS.goto X8.here hx rfl (pc0 := 171) (pc' := 175) rfl (hb hby at_171) (by decide) (by decide) k) ?_
                      exact J18 _ (by rw [own_e, if_pos c144_26, if_pos c151_27, if_pos c159_28, if_pos c167_29])
                    · refine own_st (t' := T8.setTop (mkF m 174 #[.val (.long q1), .second, .val (.long q2), .second, .val (.long q3), .second, .val (.long q4), .second, .val (.long q5), .second, .val (.int p6), .val (.long a2), .second, .val (.long b2), .second, .val (.long c2), .second, .val (.long d2), .second, .val (.ref b5), .val (.ref b7), .val (.int kd), .val (.ref b7), .unset, .unset] [])) (fun _ k => XS.ifYes X8.here hx rfl (pc0 := 167) (pc' := 174) rfl (hb hby at_167) rfl ((if0 _ _).trans (feq c167_29).2) (by decide) (by decide) k) ?_
                      refine own_st (t' := T8.setTop (mkF m 175 #[.val (.long q1), .second, .val (.long q2), .second, .val (.long q3), .second, .val (.long q4), .second, .val (.long q5), .second, .val (.int p6), .val (.long a2), .second, .val (.long b2), .second, .val (.long c2), .second, .val (.long d2), .second, .val (.ref b5), .val (.ref b7), .val (.int kd), .val (.ref b7), .unset, .unset] [(.int (0 : Int32))])) (fun _ k => XS.iconst X8.here hx rfl (hb hby at_174) k) ?_
                      exact J18 _ (by rw [own_e, if_pos c144_26, if_pos c151_27, if_pos c159_28, if_neg c167_29])
                  · refine own_st (t' := T8.setTop (mkF m 174 #[.val (.long q1), .second, .val (.long q2), .second, .val (.long q3), .second, .val (.long q4), .second, .val (.long q5), .second, .val (.int p6), .val (.long a2), .second, .val (.long b2), .second, .val (.long c2), .second, .val (.long d2), .second, .val (.ref b5), .val (.ref b7), .val (.int kd), .val (.ref b7), .unset, .unset] [])) (fun _ k => XS.ifYes X8.here hx rfl (pc0 := 159) (pc' := 174) rfl (hb hby at_159) rfl ((if0 _ _).trans (feq c159_28).2) (by decide) (by decide) k) ?_
                    refine own_st (t' := T8.setTop (mkF m 175 #[.val (.long q1), .second, .val (.long q2), .second, .val (.long q3), .second, .val (.long q4), .second, .val (.long q5), .second, .val (.int p6), .val (.long a2), .second, .val (.long b2), .second, .val (.long c2), .second, .val (.long d2), .second, .val (.ref b5), .val (.ref b7), .val (.int kd), .val (.ref b7), .unset, .unset] [(.int (0 : Int32))])) (fun _ k => XS.iconst X8.here hx rfl (hb hby at_174) k) ?_
                    exact J18 _ (by rw [own_e, if_pos c144_26, if_pos c151_27, if_neg c159_28])
                · refine own_st (t' := T8.setTop (mkF m 174 #[.val (.long q1), .second, .val (.long q2), .second, .val (.long q3), .second, .val (.long q4), .second, .val (.long q5), .second, .val (.int p6), .val (.long a2), .second, .val (.long b2), .second, .val (.long c2), .second, .val (.long d2), .second, .val (.ref b5), .val (.ref b7), .val (.int kd), .val (.ref b7), .unset, .unset] [])) (fun _ k => XS.ifYes X8.here hx rfl (pc0 := 151) (pc' := 174) rfl (hb hby at_151) rfl ((if0 _ _).trans (feq c151_27).2) (by decide) (by decide) k) ?_
                  refine own_st (t' := T8.setTop (mkF m 175 #[.val (.long q1), .second, .val (.long q2), .second, .val (.long q3), .second, .val (.long q4), .second, .val (.long q5), .second, .val (.int p6), .val (.long a2), .second, .val (.long b2), .second, .val (.long c2), .second, .val (.long d2), .second, .val (.ref b5), .val (.ref b7), .val (.int kd), .val (.ref b7), .unset, .unset] [(.int (0 : Int32))])) (fun _ k => XS.iconst X8.here hx rfl (hb hby at_174) k) ?_
                  exact J18 _ (by rw [own_e, if_pos c144_26, if_neg c151_27])
              · refine own_st (t' := T8.setTop (mkF m 174 #[.val (.long q1), .second, .val (.long q2), .second, .val (.long q3), .second, .val (.long q4), .second, .val (.long q5), .second, .val (.int p6), .val (.long a2), .second, .val (.long b2), .second, .val (.long c2), .second, .val (.long d2), .second, .val (.ref b5), .val (.ref b7), .val (.int kd), .val (.ref b7), .unset, .unset] [])) (fun _ k => XS.ifYes X8.here hx rfl (pc0 := 144) (pc' := 174) rfl (hb hby at_144) rfl ((if0 _ _).trans (feq c144_26).2) (by decide) (by decide) k) ?_
                refine own_st (t' := T8.setTop (mkF m 175 #[.val (.long q1), .second, .val (.long q2), .second, .val (.long q3), .second, .val (.long q4), .second, .val (.long q5), .second, .val (.int p6), .val (.long a2), .second, .val (.long b2), .second, .val (.long c2), .second, .val (.long d2), .second, .val (.ref b5), .val (.ref b7), .val (.int kd), .val (.ref b7), .unset, .unset] [(.int (0 : Int32))])) (fun _ k => XS.iconst X8.here hx rfl (hb hby at_174) k) ?_
                exact J18 _ (by rw [own_e, if_neg c144_26])
        refine own_st (t' := s₁.setTop (mkF m 48 #[.val (.long q1), .second, .val (.long q2), .second, .val (.long q3), .second, .val (.long q4), .second, .val (.long q5), .second, .val (.int p6), .val (.long a2), .second, .val (.long b2), .second, .val (.long c2), .second, .unset, .unset, .unset, .unset, .unset, .unset, .unset, .unset] [(.int p6)])) (fun _ k => XS.iload X0.here hx rfl (hb hby at_46) rfl k) ?_
        refine own_st (t' := s₁.setTop (mkF m 50 #[.val (.long q1), .second, .val (.long q2), .second, .val (.long q3), .second, .val (.long q4), .second, .val (.long q5), .second, .val (.int p6), .val (.long a2), .second, .val (.long b2), .second, .val (.long c2), .second, .unset, .unset, .unset, .unset, .unset, .unset, .unset, .unset] [(.int (8 : Int32)), (.int p6)])) (fun _ k => XS.bipush X0.here hx rfl (hb hby at_48) k) ?_
        refine own_st (t' := s₁.setTop (mkF m 51 #[.val (.long q1), .second, .val (.long q2), .second, .val (.long q3), .second, .val (.long q4), .second, .val (.long q5), .second, .val (.int p6), .val (.long a2), .second, .val (.long b2), .second, .val (.long c2), .second, .unset, .unset, .unset, .unset, .unset, .unset, .unset, .unset] [(.int (p6 &&& (8 : Int32)))])) (fun _ k => XS.iand X0.here hx rfl (hb hby at_50) rfl k) ?_
        by_cases c51_30 : (p6 &&& (8 : Int32)) = (0 : Int32)
        · refine own_st (t' := s₁.setTop (mkF m 59 #[.val (.long q1), .second, .val (.long q2), .second, .val (.long q3), .second, .val (.long q4), .second, .val (.long q5), .second, .val (.int p6), .val (.long a2), .second, .val (.long b2), .second, .val (.long c2), .second, .unset, .unset, .unset, .unset, .unset, .unset, .unset, .unset] [])) (fun _ k => XS.ifYes X0.here hx rfl (pc0 := 51) (pc' := 59) rfl (hb hby at_51) rfl ((if0 _ _).trans (teq c51_30).1) (by decide) (by decide) k) ?_
          refine own_st (t' := s₁.setTop (mkF m 61 #[.val (.long q1), .second, .val (.long q2), .second, .val (.long q3), .second, .val (.long q4), .second, .val (.long q5), .second, .val (.int p6), .val (.long a2), .second, .val (.long b2), .second, .val (.long c2), .second, .unset, .unset, .unset, .unset, .unset, .unset, .unset, .unset] [(.long q4)])) (fun _ k => XS.lload X0.here hx rfl (hb hby at_59) rfl k) ?_
          exact J4 _ trivial
        · refine own_st (t' := s₁.setTop (mkF m 54 #[.val (.long q1), .second, .val (.long q2), .second, .val (.long q3), .second, .val (.long q4), .second, .val (.long q5), .second, .val (.int p6), .val (.long a2), .second, .val (.long b2), .second, .val (.long c2), .second, .unset, .unset, .unset, .unset, .unset, .unset, .unset, .unset] [])) (fun _ k => XS.ifNo X0.here hx rfl (hb hby at_51) rfl ((if0 _ _).trans (feq c51_30).1) k) ?_
          refine own_st (t' := s₁.setTop (mkF m 56 #[.val (.long q1), .second, .val (.long q2), .second, .val (.long q3), .second, .val (.long q4), .second, .val (.long q5), .second, .val (.int p6), .val (.long a2), .second, .val (.long b2), .second, .val (.long c2), .second, .unset, .unset, .unset, .unset, .unset, .unset, .unset, .unset] [(.long q5)])) (fun _ k => XS.lload X0.here hx rfl (hb hby at_54) rfl k) ?_
          refine own_st (t' := s₁.setTop (mkF m 61 #[.val (.long q1), .second, .val (.long q2), .second, .val (.long q3), .second, .val (.long q4), .second, .val (.long q5), .second, .val (.int p6), .val (.long a2), .second, .val (.long b2), .second, .val (.long c2), .second, .unset, .unset, .unset, .unset, .unset, .unset, .unset, .unset] [(.long q5)])) (fun _ k => XS.goto X0.here hx rfl (pc0 := 56) (pc' := 61) rfl (hb hby at_56) (by decide) (by decide) k) ?_
          exact J4 _ trivial
      refine own_st (t' := s₁.setTop (mkF m 32 #[.val (.long q1), .second, .val (.long q2), .second, .val (.long q3), .second, .val (.long q4), .second, .val (.long q5), .second, .val (.int p6), .val (.long a2), .second, .val (.long b2), .second, .unset, .unset, .unset, .unset, .unset, .unset, .unset, .unset, .unset, .unset] [(.int p6)])) (fun _ k => XS.iload X0.here hx rfl (hb hby at_30) rfl k) ?_
      refine own_st (t' := s₁.setTop (mkF m 33 #[.val (.long q1), .second, .val (.long q2), .second, .val (.long q3), .second, .val (.long q4), .second, .val (.long q5), .second, .val (.int p6), .val (.long a2), .second, .val (.long b2), .second, .unset, .unset, .unset, .unset, .unset, .unset, .unset, .unset, .unset, .unset] [(.int (4 : Int32)), (.int p6)])) (fun _ k => XS.iconst X0.here hx rfl (hb hby at_32) k) ?_
      refine own_st (t' := s₁.setTop (mkF m 34 #[.val (.long q1), .second, .val (.long q2), .second, .val (.long q3), .second, .val (.long q4), .second, .val (.long q5), .second, .val (.int p6), .val (.long a2), .second, .val (.long b2), .second, .unset, .unset, .unset, .unset, .unset, .unset, .unset, .unset, .unset, .unset] [(.int (p6 &&& (4 : Int32)))])) (fun _ k => XS.iand X0.here hx rfl (hb hby at_33) rfl k) ?_
      by_cases c34_31 : (p6 &&& (4 : Int32)) = (0 : Int32)
      · refine own_st (t' := s₁.setTop (mkF m 42 #[.val (.long q1), .second, .val (.long q2), .second, .val (.long q3), .second, .val (.long q4), .second, .val (.long q5), .second, .val (.int p6), .val (.long a2), .second, .val (.long b2), .second, .unset, .unset, .unset, .unset, .unset, .unset, .unset, .unset, .unset, .unset] [])) (fun _ k => XS.ifYes X0.here hx rfl (pc0 := 34) (pc' := 42) rfl (hb hby at_34) rfl ((if0 _ _).trans (teq c34_31).1) (by decide) (by decide) k) ?_
        refine own_st (t' := s₁.setTop (mkF m 44 #[.val (.long q1), .second, .val (.long q2), .second, .val (.long q3), .second, .val (.long q4), .second, .val (.long q5), .second, .val (.int p6), .val (.long a2), .second, .val (.long b2), .second, .unset, .unset, .unset, .unset, .unset, .unset, .unset, .unset, .unset, .unset] [(.long q3)])) (fun _ k => XS.lload X0.here hx rfl (hb hby at_42) rfl k) ?_
        exact J3 _ trivial
      · refine own_st (t' := s₁.setTop (mkF m 37 #[.val (.long q1), .second, .val (.long q2), .second, .val (.long q3), .second, .val (.long q4), .second, .val (.long q5), .second, .val (.int p6), .val (.long a2), .second, .val (.long b2), .second, .unset, .unset, .unset, .unset, .unset, .unset, .unset, .unset, .unset, .unset] [])) (fun _ k => XS.ifNo X0.here hx rfl (hb hby at_34) rfl ((if0 _ _).trans (feq c34_31).1) k) ?_
        refine own_st (t' := s₁.setTop (mkF m 39 #[.val (.long q1), .second, .val (.long q2), .second, .val (.long q3), .second, .val (.long q4), .second, .val (.long q5), .second, .val (.int p6), .val (.long a2), .second, .val (.long b2), .second, .unset, .unset, .unset, .unset, .unset, .unset, .unset, .unset, .unset, .unset] [(.long q5)])) (fun _ k => XS.lload X0.here hx rfl (hb hby at_37) rfl k) ?_
        refine own_st (t' := s₁.setTop (mkF m 44 #[.val (.long q1), .second, .val (.long q2), .second, .val (.long q3), .second, .val (.long q4), .second, .val (.long q5), .second, .val (.int p6), .val (.long a2), .second, .val (.long b2), .second, .unset, .unset, .unset, .unset, .unset, .unset, .unset, .unset, .unset, .unset] [(.long q5)])) (fun _ k => XS.goto X0.here hx rfl (pc0 := 39) (pc' := 44) rfl (hb hby at_39) (by decide) (by decide) k) ?_
        exact J3 _ trivial
    refine own_st (t' := s₁.setTop (mkF m 17 #[.val (.long q1), .second, .val (.long q2), .second, .val (.long q3), .second, .val (.long q4), .second, .val (.long q5), .second, .val (.int p6), .val (.long a2), .second, .unset, .unset, .unset, .unset, .unset, .unset, .unset, .unset, .unset, .unset, .unset, .unset] [(.int p6)])) (fun _ k => XS.iload X0.here hx rfl (hb hby at_15) rfl k) ?_
    refine own_st (t' := s₁.setTop (mkF m 18 #[.val (.long q1), .second, .val (.long q2), .second, .val (.long q3), .second, .val (.long q4), .second, .val (.long q5), .second, .val (.int p6), .val (.long a2), .second, .unset, .unset, .unset, .unset, .unset, .unset, .unset, .unset, .unset, .unset, .unset, .unset] [(.int (2 : Int32)), (.int p6)])) (fun _ k => XS.iconst X0.here hx rfl (hb hby at_17) k) ?_
    refine own_st (t' := s₁.setTop (mkF m 19 #[.val (.long q1), .second, .val (.long q2), .second, .val (.long q3), .second, .val (.long q4), .second, .val (.long q5), .second, .val (.int p6), .val (.long a2), .second, .unset, .unset, .unset, .unset, .unset, .unset, .unset, .unset, .unset, .unset, .unset, .unset] [(.int (p6 &&& (2 : Int32)))])) (fun _ k => XS.iand X0.here hx rfl (hb hby at_18) rfl k) ?_
    by_cases c19_32 : (p6 &&& (2 : Int32)) = (0 : Int32)
    · refine own_st (t' := s₁.setTop (mkF m 27 #[.val (.long q1), .second, .val (.long q2), .second, .val (.long q3), .second, .val (.long q4), .second, .val (.long q5), .second, .val (.int p6), .val (.long a2), .second, .unset, .unset, .unset, .unset, .unset, .unset, .unset, .unset, .unset, .unset, .unset, .unset] [])) (fun _ k => XS.ifYes X0.here hx rfl (pc0 := 19) (pc' := 27) rfl (hb hby at_19) rfl ((if0 _ _).trans (teq c19_32).1) (by decide) (by decide) k) ?_
      refine own_st (t' := s₁.setTop (mkF m 28 #[.val (.long q1), .second, .val (.long q2), .second, .val (.long q3), .second, .val (.long q4), .second, .val (.long q5), .second, .val (.int p6), .val (.long a2), .second, .unset, .unset, .unset, .unset, .unset, .unset, .unset, .unset, .unset, .unset, .unset, .unset] [(.long q2)])) (fun _ k => XS.lloadN X0.here hx rfl (hb hby at_27) rfl k) ?_
      exact J2 _ trivial
    · refine own_st (t' := s₁.setTop (mkF m 22 #[.val (.long q1), .second, .val (.long q2), .second, .val (.long q3), .second, .val (.long q4), .second, .val (.long q5), .second, .val (.int p6), .val (.long a2), .second, .unset, .unset, .unset, .unset, .unset, .unset, .unset, .unset, .unset, .unset, .unset, .unset] [])) (fun _ k => XS.ifNo X0.here hx rfl (hb hby at_19) rfl ((if0 _ _).trans (feq c19_32).1) k) ?_
      refine own_st (t' := s₁.setTop (mkF m 24 #[.val (.long q1), .second, .val (.long q2), .second, .val (.long q3), .second, .val (.long q4), .second, .val (.long q5), .second, .val (.int p6), .val (.long a2), .second, .unset, .unset, .unset, .unset, .unset, .unset, .unset, .unset, .unset, .unset, .unset, .unset] [(.long q5)])) (fun _ k => XS.lload X0.here hx rfl (hb hby at_22) rfl k) ?_
      refine own_st (t' := s₁.setTop (mkF m 28 #[.val (.long q1), .second, .val (.long q2), .second, .val (.long q3), .second, .val (.long q4), .second, .val (.long q5), .second, .val (.int p6), .val (.long a2), .second, .unset, .unset, .unset, .unset, .unset, .unset, .unset, .unset, .unset, .unset, .unset, .unset] [(.long q5)])) (fun _ k => XS.goto X0.here hx rfl (pc0 := 24) (pc' := 28) rfl (hb hby at_24) (by decide) (by decide) k) ?_
      exact J2 _ trivial
  refine own_st (t' := s₁.setTop (mkF m 2 #[.val (.long q1), .second, .val (.long q2), .second, .val (.long q3), .second, .val (.long q4), .second, .val (.long q5), .second, .val (.int p6), .unset, .unset, .unset, .unset, .unset, .unset, .unset, .unset, .unset, .unset, .unset, .unset, .unset, .unset] [(.int p6)])) (fun _ k => XS.iload X0.here hx rfl (hb hby at_0) rfl k) ?_
  refine own_st (t' := s₁.setTop (mkF m 3 #[.val (.long q1), .second, .val (.long q2), .second, .val (.long q3), .second, .val (.long q4), .second, .val (.long q5), .second, .val (.int p6), .unset, .unset, .unset, .unset, .unset, .unset, .unset, .unset, .unset, .unset, .unset, .unset, .unset, .unset] [(.int (1 : Int32)), (.int p6)])) (fun _ k => XS.iconst X0.here hx rfl (hb hby at_2) k) ?_
  refine own_st (t' := s₁.setTop (mkF m 4 #[.val (.long q1), .second, .val (.long q2), .second, .val (.long q3), .second, .val (.long q4), .second, .val (.long q5), .second, .val (.int p6), .unset, .unset, .unset, .unset, .unset, .unset, .unset, .unset, .unset, .unset, .unset, .unset, .unset, .unset] [(.int (p6 &&& (1 : Int32)))])) (fun _ k => XS.iand X0.here hx rfl (hb hby at_3) rfl k) ?_
  by_cases c4_33 : (p6 &&& (1 : Int32)) = (0 : Int32)
  · refine own_st (t' := s₁.setTop (mkF m 12 #[.val (.long q1), .second, .val (.long q2), .second, .val (.long q3), .second, .val (.long q4), .second, .val (.long q5), .second, .val (.int p6), .unset, .unset, .unset, .unset, .unset, .unset, .unset, .unset, .unset, .unset, .unset, .unset, .unset, .unset] [])) (fun _ k => XS.ifYes X0.here hx rfl (pc0 := 4) (pc' := 12) rfl (hb hby at_4) rfl ((if0 _ _).trans (teq c4_33).1) (by decide) (by decide) k) ?_
    refine own_st (t' := s₁.setTop (mkF m 13 #[.val (.long q1), .second, .val (.long q2), .second, .val (.long q3), .second, .val (.long q4), .second, .val (.long q5), .second, .val (.int p6), .unset, .unset, .unset, .unset, .unset, .unset, .unset, .unset, .unset, .unset, .unset, .unset, .unset, .unset] [(.long q1)])) (fun _ k => XS.lloadN X0.here hx rfl (hb hby at_12) rfl k) ?_
    exact J1 _ trivial
  · refine own_st (t' := s₁.setTop (mkF m 7 #[.val (.long q1), .second, .val (.long q2), .second, .val (.long q3), .second, .val (.long q4), .second, .val (.long q5), .second, .val (.int p6), .unset, .unset, .unset, .unset, .unset, .unset, .unset, .unset, .unset, .unset, .unset, .unset, .unset, .unset] [])) (fun _ k => XS.ifNo X0.here hx rfl (hb hby at_4) rfl ((if0 _ _).trans (feq c4_33).1) k) ?_
    refine own_st (t' := s₁.setTop (mkF m 9 #[.val (.long q1), .second, .val (.long q2), .second, .val (.long q3), .second, .val (.long q4), .second, .val (.long q5), .second, .val (.int p6), .unset, .unset, .unset, .unset, .unset, .unset, .unset, .unset, .unset, .unset, .unset, .unset, .unset, .unset] [(.long q5)])) (fun _ k => XS.lload X0.here hx rfl (hb hby at_7) rfl k) ?_
    refine own_st (t' := s₁.setTop (mkF m 13 #[.val (.long q1), .second, .val (.long q2), .second, .val (.long q3), .second, .val (.long q4), .second, .val (.long q5), .second, .val (.int p6), .unset, .unset, .unset, .unset, .unset, .unset, .unset, .unset, .unset, .unset, .unset, .unset, .unset, .unset] [(.long q5)])) (fun _ k => XS.goto X0.here hx rfl (pc0 := 9) (pc' := 13) rfl (hb hby at_9) (by decide) (by decide) k) ?_
    exact J1 _ trivial

set_option maxRecDepth 65536 in
set_option maxHeartbeats 40000000 in
theorem comes_1 {Post : Tables → Env → Array Value → State → Outcome → State → Prop} (hpost : ∀ tb e args s v u, (limb_1_1.after args s (.returned v) u = true ∧ limb_1_2.after args s (.returned v) u = true ∧ True) → FrameEnd s (.returned v) u (Jvm.fieldLocs frame_1_writes args s ++ Jvm.arrayLocs frame_1_arrays args s ++ Jvm.staticLocs frame_1_statics s) 16 128 → Post tb e args s (.returned v) u) :
    ArmFor flags0 classFile x code maxLocals ret World_1 tables_1 room_1 Calls_1 rest_1 Pre_1 Post := by
  intro l hfl _ _ p e ha hc hk s m args below hf hA hF happ hP
  obtain ⟨hcalls, hrest, hpre⟩ := hP
  obtain ⟨-, -, -, hnamed, -, -, -, hat⟩ := (Spec.applies_iff hf).mp happ
  obtain ⟨hg, hn⟩ := and_e (Cond.before_iff.mp (show (Jvm.Cond.and given_1 narrow_1).before args s = true from hpre))
  obtain ⟨hcnt, hg0⟩ := and_e hg
  obtain ⟨ga0, hg1⟩ := and_e hg0
  obtain ⟨ga1, hg2⟩ := and_e hg1
  obtain ⟨ga2, hg3⟩ := and_e hg2
  obtain ⟨ga3, hg4⟩ := and_e hg3
  obtain ⟨ga4, hg5⟩ := and_e hg4
  obtain ⟨w0, w1, w2, w3, w4, w5, rfl⟩ : ∃ w0 w1 w2 w3 w4 w5 : Value, args = #[w0, w1, w2, w3, w4, w5] := by
    have hs : args.size = 6 := by simpa [Cond.value, given_1] using hcnt
    obtain ⟨L⟩ := args
    match L, hs with
    | [w0, w1, w2, w3, w4, w5], _ => exact ⟨w0, w1, w2, w3, w4, w5, rfl⟩
  have hw := fun d (hd : d ∈ tables_1) => atoms_spec (ws := Jvm.Cond.code x code maxLocals ret :: tables_1) hat d (List.mem_cons_of_mem _ hd)
  have hfit : Fit s := fun {y c} hc i hi => by
    obtain ⟨ha, rfl⟩ := Array.getElem?_eq_some_iff.mp hc
    have q := List.all_eq_true.mp ((Array.all_eq_true_iff_forall_mem.mp hF) _ (Array.getElem_mem ha)) i (List.mem_range.mpr hi)
    simpa [Array.getElem?_eq_getElem hi] using q
  obtain ⟨hsets, hown0⟩ := atoms_of _ (rest_1_c_eq ▸ (show rest_1_c.before _ s = true from hrest))
  have hr0 := Cond.before_iff.mp hown0
  obtain ⟨i0, ei0⟩ := isL_v ga0
  obtain rfl : w0 = (.long i0) := Option.some.inj ei0
  obtain ⟨i1, ei1⟩ := isL_v ga1
  obtain rfl : w1 = (.long i1) := Option.some.inj ei1
  obtain ⟨i2, ei2⟩ := isL_v ga2
  obtain rfl : w2 = (.long i2) := Option.some.inj ei2
  obtain ⟨i3, ei3⟩ := isL_v ga3
  obtain rfl : w3 = (.long i3) := Option.some.inj ei3
  obtain ⟨i4, ei4⟩ := isL_v ga4
  obtain rfl : w4 = (.long i4) := Option.some.inj ei4
  obtain ⟨i5, ei5⟩ := is_v hg5
  obtain rfl : w5 = (.int i5) := Option.some.inj ei5
  obtain ⟨wC, eC⟩ := arr_v (Cond.before_iff.mp (hsets _ (List.mem_of_getElem? (i := 2) rfl)))
  obtain ⟨cC, AC⟩ := Arr.start eC (Cond.before_iff.mp (hsets _ (List.mem_of_getElem? (i := 2) rfl)))
  have hlC := own_len eC AC (Cond.before_iff.mp (hsets _ (List.mem_of_getElem? (i := 4) rfl)))
  have SC := Sta.start eC (Or.inl (hsets _ (List.mem_of_getElem? (i := 1) rfl)))
  have BX := Bxs.start (val := fun j => .long (j - (128 : Int32)).toInt64) (fun idx => own_stat eC idx) AC hlC.1 hlC.2 (by decide) (Cond.before_iff.mp (hsets _ (List.mem_of_getElem? (i := 5) rfl))) (fun X j nn h => eqv_l (i2l_at (sub_f (idx_at nn) rfl)) h)
  obtain ⟨n, o, h1, h2, h3, _, L, rfl, ⟨rfl, N⟩, hq⟩ := own_rm0 l s _ hw tables_1 i0 i1 i2 i3 i4 i5 wC cC _ s.heap s.heap.size (Nat.le_refl _) (Old.start s) SC BX p e ha hc hk s m _ below hf ((Spec.applies_iff_loose hf).mp happ).1 ⟨rfl, State.Warmed39.refl s, rfl⟩ trivial
  refine ⟨n, _, h1, h2, h3, hpost _ _ _ _ _ _ ⟨Cond.after_iff.mpr rfl, Cond.after_iff.mpr (eq_i res_at (Term.int_eval (1)) rfl), trivial⟩ ⟨hq.1, hq.2.1, (hq.2.2.sift fun y hy => Or.inr (N y hy)).mono (by decide) (by decide)⟩⟩
theorem main_1_1 : Claimed_1_1 := comes_1 fun _ _ _ _ _ _ h hF => ⟨h.1, hF⟩
theorem main_1_2 : Claimed_1_2 := comes_1 fun _ _ _ _ _ _ h hF => ⟨h.2.1, hF⟩
end Jvm.Pilot.@@N@@
namespace Jvm.Pilot.@@N@@
open Jvm Jvm.ClassFile Sem Op Lib Jvm.Free Jvm.Stand Jvm.Pilot.@@N@@.Jvm.D
/-! MADE BY PROGRAM (witnessworld.py) out of the Statement's table words and the real class files: 14 classes; the members and pool entries that the words name. The judged class is class 1, her method 1. -/
namespace start1
open Jvm.ClassFile
def u (s : String) : CpInfo := .utf8 (stringToUtf16 s)
/-- a pool by its gaps: so many unusable entries, then the entry; so many at the end -/
def gap : Nat → List CpInfo → List CpInfo
  | 0, r => r
  | n + 1, r => .unusable :: gap n r
def poolList (es : List (Nat × CpInfo)) (last : Nat) : List CpInfo := es.foldr (fun e r => gap e.1 (e.2 :: r)) (gap last [])
def pool (es : List (Nat × CpInfo)) (last : Nat) : Array CpInfo := ⟨poolList es last⟩
def fileOf (pool : Array CpInfo) (this : Nat) (attrs : Array Attribute := #[]) (ms : Array MethodInfo := #[]) (fl : Nat := 33) (sup : Nat := 0) (ifs : Array Nat := #[]) (fds : Array FieldInfo := #[]) : ClassFile where
  minorVersion := 0
  majorVersion := 65
  constantPool := pool
  accessFlags := fl
  thisClass := this
  superClass := sup
  interfaces := ifs
  fields := fds
  methods := ms
  attributes := attrs
def plain (name : String) (sup : Option ClassId) : Class where
  name := name
  kind := .ordinary
  loader := none
  accessFlags := 33
  super := sup
  interfaces := #[]
  cf := none
  fields := #[]
  methods := #[]
  instanceTypes := #[]
  staticTypes := #[]
  resolved := #[]
  callSites := []
  init := .initialized
  statics := none
  mirror := none

def pool0 : Array CpInfo := pool [(5, u "<init>"), (0, u "()V"), (1, .class_ 10), (1, u "java/lang/Object")] 113

def k0c0 : Code := { maxStack := 0, maxLocals := 1, code := object_method_1_code, exceptionTable := #[], attributes := #[] }
def k0m0 : Method := { name := "<init>", desc := "()V", sig := { parameters := [], returnType := none }, accessFlags := 1, code := some k0c0 }
/-- java/lang/Object -/
def k0 : Class := { plain "java/lang/Object" none with
  accessFlags := 33
  interfaces := #[]
  cf := some (fileOf pool0 8 #[] #[{ accessFlags := 1, nameIndex := 5, descriptorIndex := 6, attributes := #[] }] 33 0 #[] #[])
  fields := #[]
  methods := #[k0m0]
  instanceTypes := #[]
  staticTypes := #[]
  resolved := Array.replicate 124 none
  statics := none }

def pool1 : Array CpInfo := pool [(2, .class_ 4), (1, u "java/lang/Object"), (0, u "<init>"), (0, u "()V"), (0, .class_ 8), (0, u "com/example/ledgerwarden/ledgerwarden/EntryList$Group"), (0, .methodref 7 10), (0, .nameAndType 5 11), (0, u "(JJJJ)V"), (0, .methodref 13 14), (0, .class_ 15), (0, .nameAndType 16 17), (0, u "java/lang/Long"), (0, u "valueOf"), (0, u "(J)Ljava/lang/Long;"), (0, .methodref 7 19), (0, .nameAndType 20 21), (0, u "equals"), (0, u "(Ljava/lang/Object;)Z"), (0, .class_ 23), (0, u "com/example/ledgerwarden/ledgerwarden/GroupEqualsPinLaw"), (2, u "law"), (0, u "(JJJJJI)Z")] 7

def k1m0 : Method := { name := "<init>", desc := "()V", sig := { parameters := [], returnType := none }, accessFlags := 1, code := none }
def k1c1 : Code := { maxStack := 10, maxLocals := 25, code := code, exceptionTable := #[], attributes := #[] }
def k1m1 : Method := { name := "law", desc := "(JJJJJI)Z", sig := { parameters := [.long, .long, .long, .long, .long, .int], returnType := some .boolean }, accessFlags := 9, code := some k1c1 }
/-- com/example/ledgerwarden/ledgerwarden/GroupEqualsPinLaw -/
def k1 : Class := { plain "com/example/ledgerwarden/ledgerwarden/GroupEqualsPinLaw" (some 0) with
  accessFlags := 49
  interfaces := #[]
  cf := some (fileOf pool1 22 #[] #[{ accessFlags := 1, nameIndex := 5, descriptorIndex := 6, attributes := #[] }, { accessFlags := 9, nameIndex := 26, descriptorIndex := 27, attributes := #[] }] 49 2 #[] #[])
  fields := #[]
  methods := #[k1m0, k1m1]
  instanceTypes := #[]
  staticTypes := #[]
  resolved := Array.replicate 35 none
  statics := none }

def pool2 : Array CpInfo := pool [(1, .methodref 2 3), (0, .class_ 4), (0, .nameAndType 5 6), (0, u "java/lang/Object"), (0, u "<init>"), (0, u "()V"), (0, .fieldref 8 9), (0, .class_ 10), (0, .nameAndType 11 12), (0, u "com/example/ledgerwarden/ledgerwarden/EntryList$Group"), (0, u "firstStart"), (0, u "J"), (0, .fieldref 8 14), (0, .nameAndType 15 12), (0, u "lastStart"), (0, .fieldref 8 17), (0, .nameAndType 18 12), (0, u "size"), (0, .fieldref 8 20), (0, .nameAndType 21 12), (0, u "period"), (73, u "(JJJJ)V"), (2, u "equals"), (0, u "(Ljava/lang/Object;)Z"), (18, .class_ 119), (0, u "com/example/ledgerwarden/ledgerwarden/EntryList")] 40

def k2c0 : Code := { maxStack := 3, maxLocals := 9, code := prog_3_method_1_code, exceptionTable := #[], attributes := #[] }
def k2m0 : Method := { name := "<init>", desc := "(JJJJ)V", sig := { parameters := [.long, .long, .long, .long], returnType := none }, accessFlags := 0, code := some k2c0 }
def k2c1 : Code := { maxStack := 4, maxLocals := 3, code := prog_3_method_6_code, exceptionTable := #[], attributes := #[] }
def k2m1 : Method := { name := "equals", desc := "(Ljava/lang/Object;)Z", sig := { parameters := [(.object "java/lang/Object")], returnType := some .boolean }, accessFlags := 1, code := some k2c1 }
/-- com/example/ledgerwarden/ledgerwarden/EntryList$Group -/
def k2 : Class := { plain "com/example/ledgerwarden/ledgerwarden/EntryList$Group" (some 0) with
  accessFlags := 49
  interfaces := #[]
  cf := some (fileOf pool2 8 #[.nestHost 118] #[{ accessFlags := 0, nameIndex := 5, descriptorIndex := 95, attributes := #[] }, { accessFlags := 1, nameIndex := 98, descriptorIndex := 99, attributes := #[] }] 49 2 #[] #[{ accessFlags := 18, nameIndex := 11, descriptorIndex := 12, attributes := #[] }, { accessFlags := 18, nameIndex := 15, descriptorIndex := 12, attributes := #[] }, { accessFlags := 18, nameIndex := 18, descriptorIndex := 12, attributes := #[] }, { accessFlags := 18, nameIndex := 21, descriptorIndex := 12, attributes := #[] }])
  fields := #[{ name := "firstStart", type := .long, accessFlags := 18, slot := 0, constantValue := 0 }, { name := "lastStart", type := .long, accessFlags := 18, slot := 1, constantValue := 0 }, { name := "size", type := .long, accessFlags := 18, slot := 2, constantValue := 0 }, { name := "period", type := .long, accessFlags := 18, slot := 3, constantValue := 0 }]
  methods := #[k2m0, k2m1]
  instanceTypes := #[.long, .long, .long, .long]
  staticTypes := #[]
  resolved := Array.replicate 160 none
  statics := none }

def pool3 : Array CpInfo := pool [(1, .class_ 2), (0, u "java/io/Serializable"), (0, .class_ 4), (0, u "java/lang/Object")] 2

/-- java/io/Serializable -/
def k3 : Class := { plain "java/io/Serializable" (some 0) with
  accessFlags := 1537
  interfaces := #[]
  cf := some (fileOf pool3 1 #[] #[] 1537 3 #[] #[])
  fields := #[]
  methods := #[]
  instanceTypes := #[]
  staticTypes := #[]
  resolved := Array.replicate 7 none
  statics := none }

def pool4 : Array CpInfo := pool [(1, .methodref 2 3), (0, .class_ 4), (0, .nameAndType 5 6), (0, u "java/lang/Object"), (0, u "<init>"), (0, u "()V"), (1, .class_ 10), (1, u "java/lang/Number"), (2, .class_ 14), (0, u "java/io/Serializable"), (0, u "serialVersionUID"), (0, u "J")] 20

def k4c0 : Code := { maxStack := 1, maxLocals := 1, code := jdk_18_method_1_code, exceptionTable := #[], attributes := #[] }
def k4m0 : Method := { name := "<init>", desc := "()V", sig := { parameters := [], returnType := none }, accessFlags := 1, code := some k4c0 }
/-- java/lang/Number -/
def k4 : Class := { plain "java/lang/Number" (some 0) with
  accessFlags := 1057
  interfaces := #[3]
  cf := some (fileOf pool4 8 #[] #[{ accessFlags := 1, nameIndex := 5, descriptorIndex := 6, attributes := #[] }] 1057 2 #[13] #[{ accessFlags := 26, nameIndex := 15, descriptorIndex := 16, attributes := #[] }])
  fields := #[{ name := "serialVersionUID", type := .long, accessFlags := 26, slot := 0, constantValue := 0 }]
  methods := #[k4m0]
  instanceTypes := #[]
  staticTypes := #[.long]
  resolved := Array.replicate 37 none
  statics := none }

def pool5 : Array CpInfo := pool [(1, .class_ 2), (0, u "java/lang/Comparable"), (0, .class_ 4), (0, u "java/lang/Object")] 7

/-- java/lang/Comparable -/
def k5 : Class := { plain "java/lang/Comparable" (some 0) with
  accessFlags := 1537
  interfaces := #[]
  cf := some (fileOf pool5 1 #[] #[] 1537 3 #[] #[])
  fields := #[]
  methods := #[]
  instanceTypes := #[]
  staticTypes := #[]
  resolved := Array.replicate 12 none
  statics := none }

def pool6 : Array CpInfo := pool [(1, .class_ 2), (0, u "java/lang/constant/Constable"), (0, .class_ 4), (0, u "java/lang/Object")] 6

/-- java/lang/constant/Constable -/
def k6 : Class := { plain "java/lang/constant/Constable" (some 0) with
  accessFlags := 1537
  interfaces := #[]
  cf := some (fileOf pool6 1 #[] #[] 1537 3 #[] #[])
  fields := #[]
  methods := #[]
  instanceTypes := #[]
  staticTypes := #[]
  resolved := Array.replicate 11 none
  statics := none }

def pool7 : Array CpInfo := pool [(1, .class_ 2), (0, u "java/lang/constant/ConstantDesc"), (0, .class_ 4), (0, u "java/lang/Object")] 32

/-- java/lang/constant/ConstantDesc -/
def k7 : Class := { plain "java/lang/constant/ConstantDesc" (some 0) with
  accessFlags := 1537
  interfaces := #[]
  cf := some (fileOf pool7 1 #[] #[] 1537 3 #[] #[])
  fields := #[]
  methods := #[]
  instanceTypes := #[]
  staticTypes := #[]
  resolved := Array.replicate 37 none
  statics := none }

def pool8 : Array CpInfo := pool [(1, .class_ 2), (0, u "java/lang/Long"), (55, .nameAndType 59 60), (0, u "<init>"), (0, u "()V"), (24, u "valueOf"), (143, u "(J)Ljava/lang/Long;"), (0, .long 18446744073709551488), (1, .long 127), (1, .fieldref 235 236), (0, .class_ 237), (0, .nameAndType 238 239), (0, u "java/lang/Long$LongCache"), (0, u "cache"), (0, u "[Ljava/lang/Long;"), (0, .methodref 1 241), (0, .nameAndType 59 242), (0, u "(J)V"), (27, .methodref 271 58), (0, .class_ 272), (0, u "java/lang/Number"), (0, .fieldref 1 274), (0, .nameAndType 275 276), (0, u "value"), (0, u "J"), (84, u "TYPE"), (0, u "Ljava/lang/Class;"), (0, .class_ 364), (0, u "java/lang/Comparable"), (0, .class_ 366), (0, u "java/lang/constant/Constable"), (0, .class_ 368), (0, u "java/lang/constant/ConstantDesc"), (0, u "MIN_VALUE"), (1, u "MAX_VALUE"), (4, u "SIZE"), (0, u "I"), (1, u "BYTES"), (1, u "serialVersionUID")] 142

def k8c0 : Code := { maxStack := 4, maxLocals := 3, code := jdk_35_method_24_code, exceptionTable := #[], attributes := #[] }
def k8m0 : Method := { name := "valueOf", desc := "(J)Ljava/lang/Long;", sig := { parameters := [.long], returnType := some (.object "java/lang/Long") }, accessFlags := 9, code := some k8c0 }
def k8c1 : Code := { maxStack := 3, maxLocals := 3, code := jdk_35_method_26_code, exceptionTable := #[], attributes := #[] }
def k8m1 : Method := { name := "<init>", desc := "(J)V", sig := { parameters := [.long], returnType := none }, accessFlags := 1, code := some k8c1 }
/-- java/lang/Long -/
def k8 : Class := { plain "java/lang/Long" (some 4) with
  accessFlags := 49
  interfaces := #[5, 6, 7]
  cf := some (fileOf pool8 1 #[.nestMembers #[235]] #[{ accessFlags := 9, nameIndex := 85, descriptorIndex := 229, attributes := #[] }, { accessFlags := 1, nameIndex := 59, descriptorIndex := 242, attributes := #[] }] 49 271 #[363, 365, 367] #[{ accessFlags := 25, nameIndex := 369, descriptorIndex := 276, attributes := #[] }, { accessFlags := 25, nameIndex := 371, descriptorIndex := 276, attributes := #[] }, { accessFlags := 25, nameIndex := 361, descriptorIndex := 362, attributes := #[] }, { accessFlags := 18, nameIndex := 275, descriptorIndex := 276, attributes := #[] }, { accessFlags := 25, nameIndex := 376, descriptorIndex := 377, attributes := #[] }, { accessFlags := 25, nameIndex := 379, descriptorIndex := 377, attributes := #[] }, { accessFlags := 26, nameIndex := 381, descriptorIndex := 276, attributes := #[] }])
  fields := #[{ name := "MIN_VALUE", type := .long, accessFlags := 25, slot := 0, constantValue := 0 }, { name := "MAX_VALUE", type := .long, accessFlags := 25, slot := 1, constantValue := 0 }, { name := "TYPE", type := (.object "java/lang/Class"), accessFlags := 25, slot := 2, constantValue := 0 }, { name := "value", type := .long, accessFlags := 18, slot := 0, constantValue := 0 }, { name := "SIZE", type := .int, accessFlags := 25, slot := 3, constantValue := 0 }, { name := "BYTES", type := .int, accessFlags := 25, slot := 4, constantValue := 0 }, { name := "serialVersionUID", type := .long, accessFlags := 26, slot := 5, constantValue := 0 }]
  methods := #[k8m0, k8m1]
  instanceTypes := #[.long]
  staticTypes := #[.long, .long, (.object "java/lang/Class"), .int, .int, .long]
  resolved := Array.replicate 524 none
  statics := none }

def pool9 : Array CpInfo := pool [(2, .class_ 4), (1, u "java/lang/Object"), (0, u "<init>"), (0, u "()V"), (0, .class_ 8), (0, u "java/lang/Long"), (7, .class_ 18), (1, u "java/lang/Long$LongCache"), (0, u "$assertionsDisabled"), (0, u "Z"), (8, u "archivedCache"), (0, u "[Ljava/lang/Long;"), (7, u "cache")] 24

def k9m0 : Method := { name := "<init>", desc := "()V", sig := { parameters := [], returnType := none }, accessFlags := 2, code := none }
/-- java/lang/Long$LongCache -/
def k9 : Class := { plain "java/lang/Long$LongCache" (some 0) with
  accessFlags := 48
  interfaces := #[]
  cf := some (fileOf pool9 16 #[.nestHost 7] #[{ accessFlags := 2, nameIndex := 5, descriptorIndex := 6, attributes := #[] }] 48 2 #[] #[{ accessFlags := 24, nameIndex := 38, descriptorIndex := 30, attributes := #[] }, { accessFlags := 8, nameIndex := 29, descriptorIndex := 30, attributes := #[] }, { accessFlags := 4120, nameIndex := 19, descriptorIndex := 20, attributes := #[] }])
  fields := #[{ name := "cache", type := (.array (.object "java/lang/Long")), accessFlags := 24, slot := 0, constantValue := 0 }, { name := "archivedCache", type := (.array (.object "java/lang/Long")), accessFlags := 8, slot := 1, constantValue := 0 }, { name := "$assertionsDisabled", type := .boolean, accessFlags := 4120, slot := 2, constantValue := 0 }]
  methods := #[k9m0]
  instanceTypes := #[]
  staticTypes := #[(.array (.object "java/lang/Long")), (.array (.object "java/lang/Long")), .boolean]
  resolved := Array.replicate 63 none
  statics := some 0 }

def pool10 : Array CpInfo := pool [(1, u "java/lang/Cloneable"), (0, .class_ 1), (0, u "java/lang/Object"), (0, .class_ 3)] 3

/-- java/lang/Cloneable -/
def k10 : Class := { plain "java/lang/Cloneable" (some 0) with
  accessFlags := 1537
  interfaces := #[]
  cf := some (fileOf pool10 2 #[] #[] 1537 4 #[] #[])
  fields := #[]
  methods := #[]
  instanceTypes := #[]
  staticTypes := #[]
  resolved := Array.replicate 8 none
  statics := none }

/-- the primitive byte -/
def k11 : Class := { plain "byte" none with kind := .primitive 'B', accessFlags := 0x411 }
/-- [B -/
def k12 : Class := { plain "[B" (some 0) with kind := .array 11 .byte, interfaces := #[10, 3], accessFlags := 1041 }

/-- [Ljava/lang/Long; -/
def k13 : Class := { plain "[Ljava/lang/Long;" (some 0) with kind := .array 8 (.object "java/lang/Long"), interfaces := #[10, 3], accessFlags := 1041 }

def heap : Heap := #[{ cls := 9, slots := #[.ref 1, .null, .int 0], vm := .statics 9 },
  { cls := 13, slots := #[.ref 2, .ref 3, .ref 4, .ref 5, .ref 6, .ref 7, .ref 8, .ref 9, .ref 10, .ref 11, .ref 12, .ref 13, .ref 14, .ref 15, .ref 16, .ref 17, .ref 18, .ref 19, .ref 20, .ref 21, .ref 22, .ref 23, .ref 24, .ref 25, .ref 26, .ref 27, .ref 28, .ref 29, .ref 30, .ref 31, .ref 32, .ref 33, .ref 34, .ref 35, .ref 36, .ref 37, .ref 38, .ref 39, .ref 40, .ref 41, .ref 42, .ref 43, .ref 44, .ref 45, .ref 46, .ref 47, .ref 48, .ref 49, .ref 50, .ref 51, .ref 52, .ref 53, .ref 54, .ref 55, .ref 56, .ref 57, .ref 58, .ref 59, .ref 60, .ref 61, .ref 62, .ref 63, .ref 64, .ref 65, .ref 66, .ref 67, .ref 68, .ref 69, .ref 70, .ref 71, .ref 72, .ref 73, .ref 74, .ref 75, .ref 76, .ref 77, .ref 78, .ref 79, .ref 80, .ref 81, .ref 82, .ref 83, .ref 84, .ref 85, .ref 86, .ref 87, .ref 88, .ref 89, .ref 90, .ref 91, .ref 92, .ref 93, .ref 94, .ref 95, .ref 96, .ref 97, .ref 98, .ref 99, .ref 100, .ref 101, .ref 102, .ref 103, .ref 104, .ref 105, .ref 106, .ref 107, .ref 108, .ref 109, .ref 110, .ref 111, .ref 112, .ref 113, .ref 114, .ref 115, .ref 116, .ref 117, .ref 118, .ref 119, .ref 120, .ref 121, .ref 122, .ref 123, .ref 124, .ref 125, .ref 126, .ref 127, .ref 128, .ref 129, .ref 130, .ref 131, .ref 132, .ref 133, .ref 134, .ref 135, .ref 136, .ref 137, .ref 138, .ref 139, .ref 140, .ref 141, .ref 142, .ref 143, .ref 144, .ref 145, .ref 146, .ref 147, .ref 148, .ref 149, .ref 150, .ref 151, .ref 152, .ref 153, .ref 154, .ref 155, .ref 156, .ref 157, .ref 158, .ref 159, .ref 160, .ref 161, .ref 162, .ref 163, .ref 164, .ref 165, .ref 166, .ref 167, .ref 168, .ref 169, .ref 170, .ref 171, .ref 172, .ref 173, .ref 174, .ref 175, .ref 176, .ref 177, .ref 178, .ref 179, .ref 180, .ref 181, .ref 182, .ref 183, .ref 184, .ref 185, .ref 186, .ref 187, .ref 188, .ref 189, .ref 190, .ref 191, .ref 192, .ref 193, .ref 194, .ref 195, .ref 196, .ref 197, .ref 198, .ref 199, .ref 200, .ref 201, .ref 202, .ref 203, .ref 204, .ref 205, .ref 206, .ref 207, .ref 208, .ref 209, .ref 210, .ref 211, .ref 212, .ref 213, .ref 214, .ref 215, .ref 216, .ref 217, .ref 218, .ref 219, .ref 220, .ref 221, .ref 222, .ref 223, .ref 224, .ref 225, .ref 226, .ref 227, .ref 228, .ref 229, .ref 230, .ref 231, .ref 232, .ref 233, .ref 234, .ref 235, .ref 236, .ref 237, .ref 238, .ref 239, .ref 240, .ref 241, .ref 242, .ref 243, .ref 244, .ref 245, .ref 246, .ref 247, .ref 248, .ref 249, .ref 250, .ref 251, .ref 252, .ref 253, .ref 254, .ref 255, .ref 256, .ref 257], vm := .none },
  { cls := 8, slots := #[.long (-128)], vm := .none },
  { cls := 8, slots := #[.long (-127)], vm := .none },
  { cls := 8, slots := #[.long (-126)], vm := .none },
  { cls := 8, slots := #[.long (-125)], vm := .none },
  { cls := 8, slots := #[.long (-124)], vm := .none },
  { cls := 8, slots := #[.long (-123)], vm := .none },
  { cls := 8, slots := #[.long (-122)], vm := .none },
  { cls := 8, slots := #[.long (-121)], vm := .none },
  { cls := 8, slots := #[.long (-120)], vm := .none },
  { cls := 8, slots := #[.long (-119)], vm := .none },
  { cls := 8, slots := #[.long (-118)], vm := .none },
  { cls := 8, slots := #[.long (-117)], vm := .none },
  { cls := 8, slots := #[.long (-116)], vm := .none },
  { cls := 8, slots := #[.long (-115)], vm := .none },
  { cls := 8, slots := #[.long (-114)], vm := .none },
  { cls := 8, slots := #[.long (-113)], vm := .none },
  { cls := 8, slots := #[.long (-112)], vm := .none },
  { cls := 8, slots := #[.long (-111)], vm := .none },
  { cls := 8, slots := #[.long (-110)], vm := .none },
  { cls := 8, slots := #[.long (-109)], vm := .none },
  { cls := 8, slots := #[.long (-108)], vm := .none },
  { cls := 8, slots := #[.long (-107)], vm := .none },
  { cls := 8, slots := #[.long (-106)], vm := .none },
  { cls := 8, slots := #[.long (-105)], vm := .none },
  { cls := 8, slots := #[.long (-104)], vm := .none },
  { cls := 8, slots := #[.long (-103)], vm := .none },
  { cls := 8, slots := #[.long (-102)], vm := .none },
  { cls := 8, slots := #[.long (-101)], vm := .none },
  { cls := 8, slots := #[.long (-100)], vm := .none },
  { cls := 8, slots := #[.long (-99)], vm := .none },
  { cls := 8, slots := #[.long (-98)], vm := .none },
  { cls := 8, slots := #[.long (-97)], vm := .none },
  { cls := 8, slots := #[.long (-96)], vm := .none },
  { cls := 8, slots := #[.long (-95)], vm := .none },
  { cls := 8, slots := #[.long (-94)], vm := .none },
  { cls := 8, slots := #[.long (-93)], vm := .none },
  { cls := 8, slots := #[.long (-92)], vm := .none },
  { cls := 8, slots := #[.long (-91)], vm := .none },
  { cls := 8, slots := #[.long (-90)], vm := .none },
  { cls := 8, slots := #[.long (-89)], vm := .none },
  { cls := 8, slots := #[.long (-88)], vm := .none },
  { cls := 8, slots := #[.long (-87)], vm := .none },
  { cls := 8, slots := #[.long (-86)], vm := .none },
  { cls := 8, slots := #[.long (-85)], vm := .none },
  { cls := 8, slots := #[.long (-84)], vm := .none },
  { cls := 8, slots := #[.long (-83)], vm := .none },
  { cls := 8, slots := #[.long (-82)], vm := .none },
  { cls := 8, slots := #[.long (-81)], vm := .none },
  { cls := 8, slots := #[.long (-80)], vm := .none },
  { cls := 8, slots := #[.long (-79)], vm := .none },
  { cls := 8, slots := #[.long (-78)], vm := .none },
  { cls := 8, slots := #[.long (-77)], vm := .none },
  { cls := 8, slots := #[.long (-76)], vm := .none },
  { cls := 8, slots := #[.long (-75)], vm := .none },
  { cls := 8, slots := #[.long (-74)], vm := .none },
  { cls := 8, slots := #[.long (-73)], vm := .none },
  { cls := 8, slots := #[.long (-72)], vm := .none },
  { cls := 8, slots := #[.long (-71)], vm := .none },
  { cls := 8, slots := #[.long (-70)], vm := .none },
  { cls := 8, slots := #[.long (-69)], vm := .none },
  { cls := 8, slots := #[.long (-68)], vm := .none },
  { cls := 8, slots := #[.long (-67)], vm := .none },
  { cls := 8, slots := #[.long (-66)], vm := .none },
  { cls := 8, slots := #[.long (-65)], vm := .none },
  { cls := 8, slots := #[.long (-64)], vm := .none },
  { cls := 8, slots := #[.long (-63)], vm := .none },
  { cls := 8, slots := #[.long (-62)], vm := .none },
  { cls := 8, slots := #[.long (-61)], vm := .none },
  { cls := 8, slots := #[.long (-60)], vm := .none },
  { cls := 8, slots := #[.long (-59)], vm := .none },
  { cls := 8, slots := #[.long (-58)], vm := .none },
  { cls := 8, slots := #[.long (-57)], vm := .none },
  { cls := 8, slots := #[.long (-56)], vm := .none },
  { cls := 8, slots := #[.long (-55)], vm := .none },
  { cls := 8, slots := #[.long (-54)], vm := .none },
  { cls := 8, slots := #[.long (-53)], vm := .none },
  { cls := 8, slots := #[.long (-52)], vm := .none },
  { cls := 8, slots := #[.long (-51)], vm := .none },
  { cls := 8, slots := #[.long (-50)], vm := .none },
  { cls := 8, slots := #[.long (-49)], vm := .none },
  { cls := 8, slots := #[.long (-48)], vm := .none },
  { cls := 8, slots := #[.long (-47)], vm := .none },
  { cls := 8, slots := #[.long (-46)], vm := .none },
  { cls := 8, slots := #[.long (-45)], vm := .none },
  { cls := 8, slots := #[.long (-44)], vm := .none },
  { cls := 8, slots := #[.long (-43)], vm := .none },
  { cls := 8, slots := #[.long (-42)], vm := .none },
  { cls := 8, slots := #[.long (-41)], vm := .none },
  { cls := 8, slots := #[.long (-40)], vm := .none },
  { cls := 8, slots := #[.long (-39)], vm := .none },
  { cls := 8, slots := #[.long (-38)], vm := .none },
  { cls := 8, slots := #[.long (-37)], vm := .none },
  { cls := 8, slots := #[.long (-36)], vm := .none },
  { cls := 8, slots := #[.long (-35)], vm := .none },
  { cls := 8, slots := #[.long (-34)], vm := .none },
  { cls := 8, slots := #[.long (-33)], vm := .none },
  { cls := 8, slots := #[.long (-32)], vm := .none },
  { cls := 8, slots := #[.long (-31)], vm := .none },
  { cls := 8, slots := #[.long (-30)], vm := .none },
  { cls := 8, slots := #[.long (-29)], vm := .none },
  { cls := 8, slots := #[.long (-28)], vm := .none },
  { cls := 8, slots := #[.long (-27)], vm := .none },
  { cls := 8, slots := #[.long (-26)], vm := .none },
  { cls := 8, slots := #[.long (-25)], vm := .none },
  { cls := 8, slots := #[.long (-24)], vm := .none },
  { cls := 8, slots := #[.long (-23)], vm := .none },
  { cls := 8, slots := #[.long (-22)], vm := .none },
  { cls := 8, slots := #[.long (-21)], vm := .none },
  { cls := 8, slots := #[.long (-20)], vm := .none },
  { cls := 8, slots := #[.long (-19)], vm := .none },
  { cls := 8, slots := #[.long (-18)], vm := .none },
  { cls := 8, slots := #[.long (-17)], vm := .none },
  { cls := 8, slots := #[.long (-16)], vm := .none },
  { cls := 8, slots := #[.long (-15)], vm := .none },
  { cls := 8, slots := #[.long (-14)], vm := .none },
  { cls := 8, slots := #[.long (-13)], vm := .none },
  { cls := 8, slots := #[.long (-12)], vm := .none },
  { cls := 8, slots := #[.long (-11)], vm := .none },
  { cls := 8, slots := #[.long (-10)], vm := .none },
  { cls := 8, slots := #[.long (-9)], vm := .none },
  { cls := 8, slots := #[.long (-8)], vm := .none },
  { cls := 8, slots := #[.long (-7)], vm := .none },
  { cls := 8, slots := #[.long (-6)], vm := .none },
  { cls := 8, slots := #[.long (-5)], vm := .none },
  { cls := 8, slots := #[.long (-4)], vm := .none },
  { cls := 8, slots := #[.long (-3)], vm := .none },
  { cls := 8, slots := #[.long (-2)], vm := .none },
  { cls := 8, slots := #[.long (-1)], vm := .none },
  { cls := 8, slots := #[.long 0], vm := .none },
  { cls := 8, slots := #[.long 1], vm := .none },
  { cls := 8, slots := #[.long 2], vm := .none },
  { cls := 8, slots := #[.long 3], vm := .none },
  { cls := 8, slots := #[.long 4], vm := .none },
  { cls := 8, slots := #[.long 5], vm := .none },
  { cls := 8, slots := #[.long 6], vm := .none },
  { cls := 8, slots := #[.long 7], vm := .none },
  { cls := 8, slots := #[.long 8], vm := .none },
  { cls := 8, slots := #[.long 9], vm := .none },
  { cls := 8, slots := #[.long 10], vm := .none },
  { cls := 8, slots := #[.long 11], vm := .none },
  { cls := 8, slots := #[.long 12], vm := .none },
  { cls := 8, slots := #[.long 13], vm := .none },
  { cls := 8, slots := #[.long 14], vm := .none },
  { cls := 8, slots := #[.long 15], vm := .none },
  { cls := 8, slots := #[.long 16], vm := .none },
  { cls := 8, slots := #[.long 17], vm := .none },
  { cls := 8, slots := #[.long 18], vm := .none },
  { cls := 8, slots := #[.long 19], vm := .none },
  { cls := 8, slots := #[.long 20], vm := .none },
  { cls := 8, slots := #[.long 21], vm := .none },
  { cls := 8, slots := #[.long 22], vm := .none },
  { cls := 8, slots := #[.long 23], vm := .none },
  { cls := 8, slots := #[.long 24], vm := .none },
  { cls := 8, slots := #[.long 25], vm := .none },
  { cls := 8, slots := #[.long 26], vm := .none },
  { cls := 8, slots := #[.long 27], vm := .none },
  { cls := 8, slots := #[.long 28], vm := .none },
  { cls := 8, slots := #[.long 29], vm := .none },
  { cls := 8, slots := #[.long 30], vm := .none },
  { cls := 8, slots := #[.long 31], vm := .none },
  { cls := 8, slots := #[.long 32], vm := .none },
  { cls := 8, slots := #[.long 33], vm := .none },
  { cls := 8, slots := #[.long 34], vm := .none },
  { cls := 8, slots := #[.long 35], vm := .none },
  { cls := 8, slots := #[.long 36], vm := .none },
  { cls := 8, slots := #[.long 37], vm := .none },
  { cls := 8, slots := #[.long 38], vm := .none },
  { cls := 8, slots := #[.long 39], vm := .none },
  { cls := 8, slots := #[.long 40], vm := .none },
  { cls := 8, slots := #[.long 41], vm := .none },
  { cls := 8, slots := #[.long 42], vm := .none },
  { cls := 8, slots := #[.long 43], vm := .none },
  { cls := 8, slots := #[.long 44], vm := .none },
  { cls := 8, slots := #[.long 45], vm := .none },
  { cls := 8, slots := #[.long 46], vm := .none },
  { cls := 8, slots := #[.long 47], vm := .none },
  { cls := 8, slots := #[.long 48], vm := .none },
  { cls := 8, slots := #[.long 49], vm := .none },
  { cls := 8, slots := #[.long 50], vm := .none },
  { cls := 8, slots := #[.long 51], vm := .none },
  { cls := 8, slots := #[.long 52], vm := .none },
  { cls := 8, slots := #[.long 53], vm := .none },
  { cls := 8, slots := #[.long 54], vm := .none },
  { cls := 8, slots := #[.long 55], vm := .none },
  { cls := 8, slots := #[.long 56], vm := .none },
  { cls := 8, slots := #[.long 57], vm := .none },
  { cls := 8, slots := #[.long 58], vm := .none },
  { cls := 8, slots := #[.long 59], vm := .none },
  { cls := 8, slots := #[.long 60], vm := .none },
  { cls := 8, slots := #[.long 61], vm := .none },
  { cls := 8, slots := #[.long 62], vm := .none },
  { cls := 8, slots := #[.long 63], vm := .none },
  { cls := 8, slots := #[.long 64], vm := .none },
  { cls := 8, slots := #[.long 65], vm := .none },
  { cls := 8, slots := #[.long 66], vm := .none },
  { cls := 8, slots := #[.long 67], vm := .none },
  { cls := 8, slots := #[.long 68], vm := .none },
  { cls := 8, slots := #[.long 69], vm := .none },
  { cls := 8, slots := #[.long 70], vm := .none },
  { cls := 8, slots := #[.long 71], vm := .none },
  { cls := 8, slots := #[.long 72], vm := .none },
  { cls := 8, slots := #[.long 73], vm := .none },
  { cls := 8, slots := #[.long 74], vm := .none },
  { cls := 8, slots := #[.long 75], vm := .none },
  { cls := 8, slots := #[.long 76], vm := .none },
  { cls := 8, slots := #[.long 77], vm := .none },
  { cls := 8, slots := #[.long 78], vm := .none },
  { cls := 8, slots := #[.long 79], vm := .none },
  { cls := 8, slots := #[.long 80], vm := .none },
  { cls := 8, slots := #[.long 81], vm := .none },
  { cls := 8, slots := #[.long 82], vm := .none },
  { cls := 8, slots := #[.long 83], vm := .none },
  { cls := 8, slots := #[.long 84], vm := .none },
  { cls := 8, slots := #[.long 85], vm := .none },
  { cls := 8, slots := #[.long 86], vm := .none },
  { cls := 8, slots := #[.long 87], vm := .none },
  { cls := 8, slots := #[.long 88], vm := .none },
  { cls := 8, slots := #[.long 89], vm := .none },
  { cls := 8, slots := #[.long 90], vm := .none },
  { cls := 8, slots := #[.long 91], vm := .none },
  { cls := 8, slots := #[.long 92], vm := .none },
  { cls := 8, slots := #[.long 93], vm := .none },
  { cls := 8, slots := #[.long 94], vm := .none },
  { cls := 8, slots := #[.long 95], vm := .none },
  { cls := 8, slots := #[.long 96], vm := .none },
  { cls := 8, slots := #[.long 97], vm := .none },
  { cls := 8, slots := #[.long 98], vm := .none },
  { cls := 8, slots := #[.long 99], vm := .none },
  { cls := 8, slots := #[.long 100], vm := .none },
  { cls := 8, slots := #[.long 101], vm := .none },
  { cls := 8, slots := #[.long 102], vm := .none },
  { cls := 8, slots := #[.long 103], vm := .none },
  { cls := 8, slots := #[.long 104], vm := .none },
  { cls := 8, slots := #[.long 105], vm := .none },
  { cls := 8, slots := #[.long 106], vm := .none },
  { cls := 8, slots := #[.long 107], vm := .none },
  { cls := 8, slots := #[.long 108], vm := .none },
  { cls := 8, slots := #[.long 109], vm := .none },
  { cls := 8, slots := #[.long 110], vm := .none },
  { cls := 8, slots := #[.long 111], vm := .none },
  { cls := 8, slots := #[.long 112], vm := .none },
  { cls := 8, slots := #[.long 113], vm := .none },
  { cls := 8, slots := #[.long 114], vm := .none },
  { cls := 8, slots := #[.long 115], vm := .none },
  { cls := 8, slots := #[.long 116], vm := .none },
  { cls := 8, slots := #[.long 117], vm := .none },
  { cls := 8, slots := #[.long 118], vm := .none },
  { cls := 8, slots := #[.long 119], vm := .none },
  { cls := 8, slots := #[.long 120], vm := .none },
  { cls := 8, slots := #[.long 121], vm := .none },
  { cls := 8, slots := #[.long 122], vm := .none },
  { cls := 8, slots := #[.long 123], vm := .none },
  { cls := 8, slots := #[.long 124], vm := .none },
  { cls := 8, slots := #[.long 125], vm := .none },
  { cls := 8, slots := #[.long 126], vm := .none },
  { cls := 8, slots := #[.long 127], vm := .none }]
def classes : Array Class := #[k0, k1, k2, k3, k4, k5, k6, k7, k8, k9, k10, k11, k12, k13]
def interned : List (Array UInt16 × Addr) := []
def slotsUsed : Nat := 515
def theMethod : MethodId := ⟨1, 1⟩
def args0 : Array Value := #[.long 5, .long 5, .long 5, .long 5, .long 5, .int 3]
def aboutOver (below : List Frame) : State where
  vm := { classes := classes, interned := interned.toArray }
  heap := heap
  slotsUsed := slotsUsed
  threads := #[{ frames := .invoking theMethod args0 :: below }]
def below0 : List Frame := [.native { method := ⟨0, 0⟩, args := #[] }]
def about1 : State := aboutOver below0
def p0 : Program := .bare "" "" ""
def e0 : Env := launch0.env 0 0 0
theorem w_frames : about1.frames = Frame.invoking theMethod args0 :: below0 := rfl
set_option maxRecDepth 65536 in
theorem w_args : argsFit about1.vm theMethod args0 = true := by decide +kernel
set_option maxRecDepth 65536 in
theorem w_heap : heapFits about1 = true := by decide +kernel
set_option maxRecDepth 65536 in
theorem w_runnable : about1.curStatus? = some .runnable := by decide +kernel
set_option maxRecDepth 65536 in
theorem w_alone : about1.alone = true := by decide +kernel
set_option maxRecDepth 65536 in
theorem w_named : about1.methodNamed? x = some theMethod := by decide +kernel
set_option maxRecDepth 65536 in
theorem w_hears : about1.hears theMethod below0 = true := by decide +kernel
set_option maxRecDepth 65536 in
theorem w_ripe : about1.ripe theMethod args0 below0 = true := by decide +kernel
theorem w_running : about1.status = .running := rfl
set_option maxRecDepth 65536 in
theorem w_room : about1.hasRoom e0.platform room_1 = true :=
  launch0.hasRoom_least _ room_1 (by decide +kernel) (by decide +kernel) (by decide +kernel) (by decide +kernel) (by decide +kernel) (by decide +kernel)
theorem allAtoms_all (ts : List Jvm.Cond) (a : Array Jvm.Value) (st : Jvm.State) : (allAtoms ts).before a st = ts.all (fun c => c.before a st) := by
  induction ts with
  | nil => rfl
  | cons c t ih =>
    show (Jvm.Cond.and c (allAtoms t)).before a st = _
    rw [Jvm.Cond.before_and, ih, List.all_cons]
def words1 : List Jvm.Cond := Jvm.Cond.code x code maxLocals ret :: tables_1
/-- a 'code' word, met by the world's own term for the bytes: nothing is compared byte by byte -/
theorem code_word {y : MethodName} {bytes : ByteArray} {mx : Nat} {rt : Option FieldType} {a : Array Value} {s : State} {m : MethodId} {meth : Method} {c : Code} (h1 : s.methodNamed? y = some m) (h2 : s.vm.method? m = some meth) (h3 : meth.code = some c) (h4 : c.code = bytes)
    (h5 : (c.maxLocals == mx && c.exceptionTable.isEmpty && decide (c.maxStack ≤ mostOperands) && decide (meth.sig.returnType = rt) && !meth.locks && decide (parseMethodDescriptor y.desc = some meth.sig)) = true) : (Jvm.Cond.code y bytes mx rt).before a s = true := by
  simp only [Bool.and_eq_true, beq_iff_eq, Bool.not_eq_true', decide_eq_true_eq] at h5
  obtain ⟨⟨⟨⟨⟨g1, g2⟩, g3⟩, g4⟩, g5⟩, g6⟩ := h5
  simp [Cond.before, Cond.holds, Cond.value, h1, h2, h3, h4, g1, g2, g3, g4, g5, g6]
def isCode : Jvm.Cond → Bool
  | .code _ _ _ _ => true
  | _ => false
theorem all_split {L : List Jvm.Cond} {P : Jvm.Cond → Bool} (h1 : L.all (fun c => isCode c || P c) = true) (h2 : ∀ c ∈ L.filter isCode, P c = true) : L.all P = true := by
  refine List.all_eq_true.mpr fun c hc => ?_
  have h := List.all_eq_true.mp h1 c hc
  rcases Bool.eq_false_or_eq_true (isCode c) with hi | hi
  · exact h2 c (List.mem_filter.mpr ⟨hc, hi⟩)
  · simpa [hi] using h
set_option maxRecDepth 65536 in
theorem w_c0 : (Jvm.Cond.code x code maxLocals ret).before args0 about1 = true := code_word (m := ⟨1, 1⟩) (meth := k1m1) (c := k1c1) (by decide +kernel) rfl rfl rfl (by decide +kernel)
set_option maxRecDepth 65536 in
theorem w_c1 : (Jvm.Cond.code ({ cls := "com/example/ledgerwarden/ledgerwarden/EntryList$Group", name := "<init>", desc := "(JJJJ)V" } : Jvm.MethodName) prog_3_method_1_code (9 : Nat) (Option.none : Option Jvm.ClassFile.FieldType)).before args0 about1 = true := code_word (m := ⟨2, 0⟩) (meth := k2m0) (c := k2c0) (by decide +kernel) rfl rfl rfl (by decide +kernel)
set_option maxRecDepth 65536 in
theorem w_c2 : (Jvm.Cond.code ({ cls := "java/lang/Object", name := "<init>", desc := "()V" } : Jvm.MethodName) object_method_1_code (1 : Nat) (Option.none : Option Jvm.ClassFile.FieldType)).before args0 about1 = true := code_word (m := ⟨0, 0⟩) (meth := k0m0) (c := k0c0) (by decide +kernel) rfl rfl rfl (by decide +kernel)
set_option maxRecDepth 65536 in
theorem w_c3 : (Jvm.Cond.code ({ cls := "com/example/ledgerwarden/ledgerwarden/EntryList$Group", name := "equals", desc := "(Ljava/lang/Object;)Z" } : Jvm.MethodName) prog_3_method_6_code (3 : Nat) (Option.some Jvm.ClassFile.FieldType.boolean)).before args0 about1 = true := code_word (m := ⟨2, 1⟩) (meth := k2m1) (c := k2c1) (by decide +kernel) rfl rfl rfl (by decide +kernel)
set_option maxRecDepth 65536 in
theorem w_c4 : (Jvm.Cond.code ({ cls := "java/lang/Long", name := "valueOf", desc := "(J)Ljava/lang/Long;" } : Jvm.MethodName) jdk_35_method_24_code (3 : Nat) (Option.some (Jvm.ClassFile.FieldType.object "java/lang/Long"))).before args0 about1 = true := code_word (m := ⟨8, 0⟩) (meth := k8m0) (c := k8c0) (by decide +kernel) rfl rfl rfl (by decide +kernel)
set_option maxRecDepth 65536 in
theorem w_c5 : (Jvm.Cond.code ({ cls := "java/lang/Long", name := "<init>", desc := "(J)V" } : Jvm.MethodName) jdk_35_method_26_code (3 : Nat) (Option.none : Option Jvm.ClassFile.FieldType)).before args0 about1 = true := code_word (m := ⟨8, 1⟩) (meth := k8m1) (c := k8c1) (by decide +kernel) rfl rfl rfl (by decide +kernel)
set_option maxRecDepth 65536 in
theorem w_c6 : (Jvm.Cond.code ({ cls := "java/lang/Number", name := "<init>", desc := "()V" } : Jvm.MethodName) jdk_18_method_1_code (1 : Nat) (Option.none : Option Jvm.ClassFile.FieldType)).before args0 about1 = true := code_word (m := ⟨4, 0⟩) (meth := k4m0) (c := k4c0) (by decide +kernel) rfl rfl rfl (by decide +kernel)
def codes1 : List Jvm.Cond := [Jvm.Cond.code x code maxLocals ret, Jvm.Cond.code ({ cls := "com/example/ledgerwarden/ledgerwarden/EntryList$Group", name := "<init>", desc := "(JJJJ)V" } : Jvm.MethodName) prog_3_method_1_code (9 : Nat) (Option.none : Option Jvm.ClassFile.FieldType), Jvm.Cond.code ({ cls := "java/lang/Object", name := "<init>", desc := "()V" } : Jvm.MethodName) object_method_1_code (1 : Nat) (Option.none : Option Jvm.ClassFile.FieldType), Jvm.Cond.code ({ cls := "com/example/ledgerwarden/ledgerwarden/EntryList$Group", name := "equals", desc := "(Ljava/lang/Object;)Z" } : Jvm.MethodName) prog_3_method_6_code (3 : Nat) (Option.some Jvm.ClassFile.FieldType.boolean), Jvm.Cond.code ({ cls := "java/lang/Long", name := "valueOf", desc := "(J)Ljava/lang/Long;" } : Jvm.MethodName) jdk_35_method_24_code (3 : Nat) (Option.some (Jvm.ClassFile.FieldType.object "java/lang/Long")), Jvm.Cond.code ({ cls := "java/lang/Long", name := "<init>", desc := "(J)V" } : Jvm.MethodName) jdk_35_method_26_code (3 : Nat) (Option.none : Option Jvm.ClassFile.FieldType), Jvm.Cond.code ({ cls := "java/lang/Number", name := "<init>", desc := "()V" } : Jvm.MethodName) jdk_18_method_1_code (1 : Nat) (Option.none : Option Jvm.ClassFile.FieldType)]
set_option maxRecDepth 65536 in
theorem codes_eq : words1.filter isCode = codes1 := rfl
theorem w_codes : ∀ c ∈ words1.filter isCode, c.before args0 about1 = true := by
  rw [codes_eq]
  intro c hc
  simp only [codes1, List.mem_cons, List.not_mem_nil, or_false] at hc
  rcases hc with rfl | rfl | rfl | rfl | rfl | rfl | rfl
  · exact w_c0
  · exact w_c1
  · exact w_c2
  · exact w_c3
  · exact w_c4
  · exact w_c5
  · exact w_c6
set_option maxRecDepth 65536 in
theorem w_t1 : (words1.take 24).all (fun c => isCode c || c.before args0 about1) = true := by decide +kernel
set_option maxRecDepth 65536 in
theorem w_t2 : ((words1.drop 24).take 24).all (fun c => isCode c || c.before args0 about1) = true := by decide +kernel
set_option maxRecDepth 65536 in
theorem w_t3 : ((words1.drop 24).drop 24).all (fun c => isCode c || c.before args0 about1) = true := by decide +kernel
theorem w_tables : (allAtoms (Jvm.Cond.code x code maxLocals ret :: tables_1)).before args0 about1 = true := by
  rw [allAtoms_all]
  show words1.all (fun c => c.before args0 about1) = true
  refine all_split ?_ w_codes
  rw [← List.take_append_drop 24 words1, List.all_append, w_t1, ← List.take_append_drop 24 (words1.drop 24), List.all_append, w_t2, w_t3]
  rfl
set_option maxRecDepth 65536 in
theorem w_rest : rest_1_c.before args0 about1 = true := by decide +kernel
set_option maxRecDepth 65536 in
theorem w_case : (Jvm.Cond.and given_1 narrow_1).before args0 about1 = true := by decide +kernel
theorem w_applies : (headSpec (Jvm.Cond.code x code maxLocals ret :: tables_1) room_1).applies x e0.platform about1 = true :=
  (Spec.applies_iff w_frames).mpr ⟨w_running, w_runnable, w_alone, w_named, w_hears, w_ripe, w_room, w_tables⟩
theorem atStart : AtStart classFile x code maxLocals ret World_1 tables_1 room_1 Calls_1 rest_1 Pre_1 launch0 p0 e0 about1 theMethod args0 below0 :=
  ⟨lists_1, trivial, launch0.admits_env _ _ _, launch0.least_env, fairChoices_fair.cas, fairChoices_fair.clock, w_frames, w_args, w_heap, w_applies, trivial, w_rest, w_case⟩
end start1
theorem witness_1 : WitnessClaimed_1 := ⟨start1.p0, start1.e0, start1.about1, start1.theMethod, start1.args0, start1.below0, start1.atStart⟩
end Jvm.Pilot.@@N@@
