import JvmDerived
import JvmDerived.Pilot.@@N@@Statement
import JvmDerived.Pilot.@@N@@Code
set_option linter.unusedVariables false
set_option linter.unusedSimpArgs false
namespace Jvm.RoadKit
open Sem ClassFile Op Lib Jvm.Stand Jvm.Free Jvm.LawKit
section New
variable {p : Program} {l : Launch} {e : Env} {R : Room} {s : State} {m : MethodId} {args : Array Value} {below : List Frame} {meth : Method} {c : Code} {T : State} {locs : List Loc} {cells slots : Nat}
theorem retI (X : Stand p l e R s m args below meth c T locs cells slots) (hx : p.tables.exec = Jvm.exec) {pc : Nat} {Ls : Array Slot} {z : Int32} {rest : List Value} (hret : meth.sig.returnType = some .int) (hd : decode c.code pc = .ok (.ireturn, 1)) {fs : List Frame}
    (hl : ∀ (f : JFrame) (acts : List Action), f.method = m → f.locked = none → f.entered = [] → (doReturn e (T.setTop f) acts (some (.int z))).1 = T.setFrames fs) : Steps p.tables e below (T.setTop (mkF m pc Ls (.int z :: rest))) (T.setFrames fs) := by
  have hm' : T.vm.method? m = some meth := X.method'
  have hn : narrow .int (.int z) = .int z := rfl
  show Steps p.tables e below (T.setTop { method := m, pc := pc, locals := Ls, stack := _ :: rest, locked := none }) _
  jvm_step X.here [X.here.top, hx, hd, hm', hret, hn]
  first | (intro acts; rw [hl _ acts rfl rfl rfl]) | rw [hl _ _ rfl rfl rfl]
  exact Steps.refl _
end New
end Jvm.RoadKit
namespace Jvm.Pilot.@@N@@
open Jvm Jvm.ClassFile Sem Op Lib Jvm.Free Jvm.Stand Jvm.LawKit Jvm.RoadKit Bundle Jvm.Pilot.@@N@@.Jvm.D
/-! the rest of a run, from the state t on: it comes to an end of which P holds -/
def own_At (p : Program) (e : Env) (below : List Frame) (P : Outcome → State → Prop) (t : State) : Prop := ∃ s₂ o, Steps p.tables e below t s₂ ∧ s₂.status = .running ∧ Ended s₂ below o ∧ P o s₂
theorem own_body {p : Program} {e : Env} {below : List Frame} {P : Outcome → State → Prop} {t : State} (h : ∀ P' : Outcome → State → Prop, (∀ o u, P o u → P' o u) → own_At p e below P' t) : own_At p e below P t := h P fun _ _ q => q
theorem own_st {p : Program} {e : Env} {below : List Frame} {P : Outcome → State → Prop} {t t' : State} (h : ∀ target, Steps p.tables e below t' target → Steps p.tables e below t target) (k : own_At p e below P t') : own_At p e below P t := by
  obtain ⟨s₂, o, h1, h2⟩ := k
  exact ⟨s₂, o, h _ h1, h2⟩
theorem own_tr {p : Program} {e : Env} {below : List Frame} {P : Outcome → State → Prop} {t t' : State} (h : Steps p.tables e below t t') (k : own_At p e below P t') : own_At p e below P t := by
  obtain ⟨s₂, o, h1, h2⟩ := k
  exact ⟨s₂, o, h.trans h1, h2⟩
theorem own_sta {s : State} {a : Array Value} {C n d : String} {z : Int32} (h : (Jvm.Cond.eq (Jvm.Term.static C n d) (Jvm.Term.int z)).value a s none s [] = some true) (hi : (Cond.initializedFor C n d).before a s = true ∨ ((Cond.initialized C).before a s = true ∧ (Cond.laysStatic C n d).before a s = true)) : Sta s s.heap C n d (.int z) := Sta.start (eqv_i rfl h) hi
theorem own_staL {s : State} {a : Array Value} {C n d : String} {z : Int64} (h : (Jvm.Cond.eq (Jvm.Term.static C n d) (Jvm.Term.long z)).value a s none s [] = some true) (hi : (Cond.initializedFor C n d).before a s = true ∨ ((Cond.initialized C).before a s = true ∧ (Cond.laysStatic C n d).before a s = true)) : Sta s s.heap C n d (.long z) := Sta.start (eqv_l rfl h) hi
theorem own_enum {s : State} {a : Array Value} {C n d K : String} (h : (Jvm.Cond.exactly (Jvm.Term.static C n d) K).value a s none s [] = some true) (hi : (Cond.initializedFor C n d).before a s = true ∨ ((Cond.initialized C).before a s = true ∧ (Cond.laysStatic C n d).before a s = true)) : ∃ r : Addr, (Jvm.Term.static C n d).eval a s none [] s = some (.ref r) ∧ Sta s s.heap C n d (.ref r) ∧ Exa s s.heap r K := by
  obtain ⟨r, c', cell, k, e1, -⟩ := Cond.exactly_spec (Cond.before_iff.mpr h)
  exact ⟨r, e1, Sta.start e1 hi, Exa.start e1 h⟩
theorem own_ord {s : State} {a : Array Value} {t : Jvm.Term} {C n d : String} {r : Addr} {z : Int32} (e : t.eval a s none [] s = some (.ref r)) (h : (Jvm.Cond.eq (Jvm.Term.field t C n d) (Jvm.Term.int z)).value a s none s [] = some true) : s.fieldOf? r C n d = some (.int z) := by
  have q := eqv_i (F := Jvm.Term.int z) rfl h
  simpa [Term.eval, e] using q
theorem own_ne {s : State} {r r' : Addr} {C n d : String} {z z' : Int32} (h : s.fieldOf? r C n d = some (.int z)) (h' : s.fieldOf? r' C n d = some (.int z')) (q : z ≠ z') : r ≠ r' := fun e => by
  subst e
  exact q (Value.int.inj (Option.some.inj (h.symm.trans h')))

theorem own_len {s : State} {a : Array Value} {t : Jvm.Term} {r : Addr} {cl : Cell} {ty : FieldType} {z : Int32} (e : t.eval a s none [] s = some (.ref r)) (A : Arr s s.heap r cl ty) (h : (Jvm.Cond.eq (Jvm.Term.length t) (Jvm.Term.int z)).value a s none s [] = some true) : cl.slots.size < 2 ^ 31 ∧ cl.slots.size.toInt32 = z := by
  have q := eqv_i (F := Jvm.Term.int z) rfl h
  have w := A.fin (Vm.Alike.refl s.vm)
  by_cases hl : cl.slots.size < 2 ^ 31
  · rw [len_f e w hl] at q
    exact ⟨hl, Value.int.inj (Option.some.inj q)⟩
  · simp [Term.eval, e, w, hl] at q
theorem own_elem {s : State} {a : Array Value} {t u : Jvm.Term} {r w : Addr} {cl : Cell} {ty : FieldType} {j : Int32} (e : t.eval a s none [] s = some (.ref r)) (A : Arr s s.heap r cl ty) (eu : u.eval a s none [] s = some (.ref w)) (h : (Jvm.Cond.eq (Jvm.Term.elem t (Jvm.Term.int j)) u).value a s none s [] = some true) (hj : ¬ j < 0) : cl.slots[j.toNatClampNeg]? = some (.ref w) := by
  obtain ⟨x, y, e1, e2, k1, k2⟩ := cmp_v (Or.inl h)
  cases eu.symm.trans e2
  have hx : x.isRef = true := k2.2
  have q := gotT (eq_R e1 eu hx rfl) h
  have w1 := elem_f (a := Jvm.Term.int j) e (rfl : (Jvm.Term.int j).eval a s none [] s = some (.int j)) (A.fin (Vm.Alike.refl s.vm)) hj
  rw [← w1, e1, q]

theorem own_rm1_d0 : decode prog_12_method_11_code 0 = .ok (.getstatic 103, 3) := by decide +kernel
theorem own_rm1_d3 : decode prog_12_method_11_code 3 = .ok (.astore_n 1, 1) := by decide +kernel
theorem own_rm1_d4 : decode prog_12_method_11_code 4 = .ok (.aload_n 1, 1) := by decide +kernel
theorem own_rm1_d5 : decode prog_12_method_11_code 5 = .ok (.arraylength, 1) := by decide +kernel
theorem own_rm1_d6 : decode prog_12_method_11_code 6 = .ok (.istore_n 2, 1) := by decide +kernel
theorem own_rm1_d7 : decode prog_12_method_11_code 7 = .ok (.iconst 0, 1) := by decide +kernel
theorem own_rm1_d8 : decode prog_12_method_11_code 8 = .ok (.istore_n 3, 1) := by decide +kernel
theorem own_rm1_d9 : decode prog_12_method_11_code 9 = .ok (.iload_n 3, 1) := by decide +kernel
theorem own_rm1_d10 : decode prog_12_method_11_code 10 = .ok (.iload_n 2, 1) := by decide +kernel
theorem own_rm1_d11 : decode prog_12_method_11_code 11 = .ok (.if_icmp .ge 26, 3) := by decide +kernel
theorem own_rm1_d14 : decode prog_12_method_11_code 14 = .ok (.aload_n 1, 1) := by decide +kernel
theorem own_rm1_d15 : decode prog_12_method_11_code 15 = .ok (.iload_n 3, 1) := by decide +kernel
theorem own_rm1_d16 : decode prog_12_method_11_code 16 = .ok (.aaload, 1) := by decide +kernel
theorem own_rm1_d17 : decode prog_12_method_11_code 17 = .ok (.astore 4, 2) := by decide +kernel
theorem own_rm1_d19 : decode prog_12_method_11_code 19 = .ok (.aload 4, 2) := by decide +kernel
theorem own_rm1_d21 : decode prog_12_method_11_code 21 = .ok (.getfield 42, 3) := by decide +kernel
theorem own_rm1_d24 : decode prog_12_method_11_code 24 = .ok (.iload_n 0, 1) := by decide +kernel
theorem own_rm1_d25 : decode prog_12_method_11_code 25 = .ok (.if_icmp .ne 6, 3) := by decide +kernel
theorem own_rm1_d28 : decode prog_12_method_11_code 28 = .ok (.aload 4, 2) := by decide +kernel
theorem own_rm1_d30 : decode prog_12_method_11_code 30 = .ok (.areturn, 1) := by decide +kernel
theorem own_rm1_d31 : decode prog_12_method_11_code 31 = .ok (.iinc 3 1, 3) := by decide +kernel
theorem own_rm1_d34 : decode prog_12_method_11_code 34 = .ok (.goto (-25), 3) := by decide +kernel
theorem own_rm1_d37 : decode prog_12_method_11_code 37 = .ok (.aconst_null, 1) := by decide +kernel
theorem own_rm1_d38 : decode prog_12_method_11_code 38 = .ok (.areturn, 1) := by decide +kernel
theorem own_rm1_pn : plainName "com/example/hashbook/hashbook/proofs/ColumnType" = true := by first | (simp [plainName, overriddenIn]; done) | decide +kernel
theorem own_rm1_ef (m : MethodId) (x0 : Int32) : entryFrame m #[(.int x0)] 5 = mkF m 0 #[.val (.int x0), .unset, .unset, .unset, .unset] [] := by first | (simp [entryFrame, mkF, argsToLocals, Value.category]; done) | rfl
def own_rm1_Q (Z : State) (p1 : Int32) (wALL : Addr) (kA : ClassId) (wTEXT : Addr) (wCOLUMNS : Addr) (wINTEGER : Addr) (wDECIMAL : Addr) (wBOOLEAN : Addr) (w : Value) (h0 : Heap) (n0 : Nat) (v : Option Value) (h : Heap) (L : List Loc) : Prop := v = some (w) ∧ Fr n0 L ∧ h = h0
set_option maxRecDepth 65536 in
set_option maxHeartbeats 40000000 in
theorem own_rm1 (l : Launch) (Z : State) (a0 : Array Value) (hw : ∀ d ∈ tables_1, d.before a0 Z = true) (ws : List Jvm.Cond) (p1 : Int32) (wALL : Addr) (kA : ClassId) (wTEXT : Addr) (wCOLUMNS : Addr) (wINTEGER : Addr) (wDECIMAL : Addr) (wBOOLEAN : Addr) (w : Value) (h0 : Heap) (n0 : Nat) (Z0 : n0 ≤ h0.size) (S_ALL : Sta Z h0 "com/example/hashbook/hashbook/proofs/ColumnType" "ALL" "[Lcom/example/hashbook/hashbook/proofs/ColumnType;" (.ref wALL)) (V : Arv Z h0 wALL kA (.object "com/example/hashbook/hashbook/proofs/ColumnType") (5 : Int32) [(.ref wTEXT), (.ref wCOLUMNS), (.ref wINTEGER), (.ref wDECIMAL), (.ref wBOOLEAN)] .null) (F_TEXT : Fld Z h0 wTEXT "com/example/hashbook/hashbook/proofs/ColumnType" "kind" "I" (.int (1 : Int32))) (F_COLUMNS : Fld Z h0 wCOLUMNS "com/example/hashbook/hashbook/proofs/ColumnType" "kind" "I" (.int (2 : Int32))) (F_INTEGER : Fld Z h0 wINTEGER "com/example/hashbook/hashbook/proofs/ColumnType" "kind" "I" (.int (3 : Int32))) (F_DECIMAL : Fld Z h0 wDECIMAL "com/example/hashbook/hashbook/proofs/ColumnType" "kind" "I" (.int (4 : Int32))) (F_BOOLEAN : Fld Z h0 wBOOLEAN "com/example/hashbook/hashbook/proofs/ColumnType" "kind" "I" (.int (5 : Int32))) (hv : w = if (1 : Int32) = p1 then .ref wTEXT else if (2 : Int32) = p1 then .ref wCOLUMNS else if (3 : Int32) = p1 then .ref wINTEGER else if (4 : Int32) = p1 then .ref wDECIMAL else if (5 : Int32) = p1 then .ref wBOOLEAN else .null) :
    MetFree l (⟨"com/example/hashbook/hashbook/proofs/ColumnType", "ofKind", "(I)Lcom/example/hashbook/hashbook/proofs/ColumnType;"⟩ : MethodName) (head1 (Jvm.Cond.code (⟨"com/example/hashbook/hashbook/proofs/ColumnType", "ofKind", "(I)Lcom/example/hashbook/hashbook/proofs/ColumnType;"⟩ : MethodName) prog_12_method_11_code 5 (some (.object "com/example/hashbook/hashbook/proofs/ColumnType")) :: ws) ({ frames := 0, cells := 0, slots := 0, locals := 0 } : Room)) (fun a U => a = #[(.int p1)] ∧ Z.Warmed39 U.vm ∧ U.heap = h0) (fun _ _ _ _ _ => True) (fun _ U o U' => ∃ v L, o = .returned v ∧ own_rm1_Q Z p1 wALL kA wTEXT wCOLUMNS wINTEGER wDECIMAL wBOOLEAN w h0 n0 v U'.heap L ∧ FrameEnd U o U' L ({ frames := 0, cells := 0, slots := 0, locals := 0 } : Room).cells ({ frames := 0, cells := 0, slots := 0, locals := 0 } : Room).slots) := by
  refine MetFree.of_bodySF (plainFor_of_name own_rm1_pn) hisR ?_
  intro p e s m args below meth c s₁ Bd hml0 hPre hK
  obtain ⟨rfl, hZ, hh⟩ := hPre
  have hx := Bd.exec
  have hby := Bd.bytes
  have hml : c.maxLocals = 5 := hml0
  have hown : s.vm.findClass "com/example/hashbook/hashbook/proofs/ColumnType" = some m.cls := findClass_of_methodNamed Bd.named
  have hnm := (name_of_methodNamed Bd.named Bd.method).1
  have X0 : Stand p l e ({ frames := 0, cells := 0, slots := 0, locals := 0 } : Room) s m #[(.int p1)] below meth c s₁ [] 0 0 := Stand.of_body Bd
  have e0 : s₁.heap = h0 := by rw [← hh, Bd.state]; rfl
  have N0 := Fr.nil n0
  refine own_body fun P hP => ?_
  refine own_st (t' := s₁.setTop (mkF m 0 #[.val (.int p1), .unset, .unset, .unset, .unset] [])) (fun _ k => castTop (own_rm1_ef m p1) k) ?_
  obtain ⟨T1, X1, e1, st1⟩ := getS2 X0 hx hZ hown (host := "") (Or.inl (hw _ (List.mem_of_getElem? (i := 4) rfl))) Via.refl e0 S_ALL (g := (mkF m 0 #[.val (.int p1), .unset, .unset, .unset, .unset] [])) rfl (hb hby own_rm1_d0)
  refine own_st (t' := T1.setTop (mkF m 3 #[.val (.int p1), .unset, .unset, .unset, .unset] [(.ref wALL)])) st1 ?_
  refine own_st (t' := T1.setTop (mkF m 4 #[.val (.int p1), .val (.ref wALL), .unset, .unset, .unset] [])) (fun _ k => XS.astoreN X1.here hx rfl (hb hby own_rm1_d3) rfl rfl (l' := #[.val (.int p1), .val (.ref wALL), .unset, .unset, .unset]) rfl k) ?_
  refine own_st (t' := T1.setTop (mkF m 5 #[.val (.int p1), .val (.ref wALL), .unset, .unset, .unset] [(.ref wALL)])) (fun _ k => XS.aloadN X1.here hx rfl (hb hby own_rm1_d4) rfl rfl k) ?_
  obtain ⟨cl_2, Ar_2, qa_2, Sa_2, Ma_2, Ha_2, Ga_2⟩ := id V
  refine own_st (t' := T1.setTop (mkF m 6 #[.val (.int p1), .val (.ref wALL), .unset, .unset, .unset] [(.int cl_2.slots.size.toInt32)])) (fun _ k => X1.arraylength hx (by rw [e1]; exact Ar_2.1) (State.isArrayOf_alike hZ.alike Ar_2.2.1) (g := (mkF m 5 #[.val (.int p1), .val (.ref wALL), .unset, .unset, .unset] [(.ref wALL)])) rfl rfl (hb hby own_rm1_d5) _ k) ?_
  rw [len_of Sa_2 Ma_2]
  refine own_st (t' := T1.setTop (mkF m 7 #[.val (.int p1), .val (.ref wALL), .val (.int (5 : Int32)), .unset, .unset] [])) (fun _ k => XS.istoreN X1.here hx rfl (hb hby own_rm1_d6) rfl (l' := #[.val (.int p1), .val (.ref wALL), .val (.int (5 : Int32)), .unset, .unset]) rfl k) ?_
  refine own_st (t' := T1.setTop (mkF m 8 #[.val (.int p1), .val (.ref wALL), .val (.int (5 : Int32)), .unset, .unset] [(.int (0 : Int32))])) (fun _ k => XS.iconst X1.here hx rfl (hb hby own_rm1_d7) k) ?_
  refine own_st (t' := T1.setTop (mkF m 9 #[.val (.int p1), .val (.ref wALL), .val (.int (5 : Int32)), .val (.int (0 : Int32)), .unset] [])) (fun _ k => XS.istoreN X1.here hx rfl (hb hby own_rm1_d8) rfl (l' := #[.val (.int p1), .val (.ref wALL), .val (.int (5 : Int32)), .val (.int (0 : Int32)), .unset]) rfl k) ?_
  refine own_st (t' := T1.setTop (mkF m 10 #[.val (.int p1), .val (.ref wALL), .val (.int (5 : Int32)), .val (.int (0 : Int32)), .unset] [(.int (0 : Int32))])) (fun _ k => XS.iloadN X1.here hx rfl (hb hby own_rm1_d9) rfl k) ?_
  refine own_st (t' := T1.setTop (mkF m 11 #[.val (.int p1), .val (.ref wALL), .val (.int (5 : Int32)), .val (.int (0 : Int32)), .unset] [(.int (5 : Int32)), (.int (0 : Int32))])) (fun _ k => XS.iloadN X1.here hx rfl (hb hby own_rm1_d10) rfl k) ?_
  refine own_st (t' := T1.setTop (mkF m 14 #[.val (.int p1), .val (.ref wALL), .val (.int (5 : Int32)), .val (.int (0 : Int32)), .unset] [])) (fun _ k => XS.icmpNo X1.here hx rfl (hb hby own_rm1_d11) rfl (tlt (by decide : (0 : Int32) < (5 : Int32))).2.1 k) ?_
  refine own_st (t' := T1.setTop (mkF m 15 #[.val (.int p1), .val (.ref wALL), .val (.int (5 : Int32)), .val (.int (0 : Int32)), .unset] [(.ref wALL)])) (fun _ k => XS.aloadN X1.here hx rfl (hb hby own_rm1_d14) rfl rfl k) ?_
  refine own_st (t' := T1.setTop (mkF m 16 #[.val (.int p1), .val (.ref wALL), .val (.int (5 : Int32)), .val (.int (0 : Int32)), .unset] [(.int (0 : Int32)), (.ref wALL)])) (fun _ k => XS.iloadN X1.here hx rfl (hb hby own_rm1_d15) rfl k) ?_
  obtain ⟨cl_3, Ar_3, qa_3, Sa_3, Ma_3, Ha_3, Ga_3⟩ := id V
  have hin_3 : ¬ ((0 : Int32) < 0 ∨ cl_3.slots.size ≤ ((0 : Int32)).toNatClampNeg) := inb_of Sa_3 ⟨by decide, by decide⟩
  refine own_st (t' := T1.setTop (mkF m 17 #[.val (.int p1), .val (.ref wALL), .val (.int (5 : Int32)), .val (.int (0 : Int32)), .unset] [(.ref wTEXT)])) (fun _ k => X1.aaload hx (j := (0 : Int32)) (v := (.ref wTEXT)) (by rw [e1]; exact Ar_3.1) (State.isArrayOf_alike hZ.alike Ar_3.2.1) rfl Ar_3.2.2 hin_3 (Has.at Ha_3 hin_3 rfl) (g := (mkF m 16 #[.val (.int p1), .val (.ref wALL), .val (.int (5 : Int32)), .val (.int (0 : Int32)), .unset] [(.int (0 : Int32)), (.ref wALL)])) rfl rfl (hb hby own_rm1_d16) _ k) ?_
  refine own_st (t' := T1.setTop (mkF m 19 #[.val (.int p1), .val (.ref wALL), .val (.int (5 : Int32)), .val (.int (0 : Int32)), .val (.ref wTEXT)] [])) (fun _ k => XS.astore X1.here hx rfl (hb hby own_rm1_d17) rfl rfl (l' := #[.val (.int p1), .val (.ref wALL), .val (.int (5 : Int32)), .val (.int (0 : Int32)), .val (.ref wTEXT)]) rfl k) ?_
  refine own_st (t' := T1.setTop (mkF m 21 #[.val (.int p1), .val (.ref wALL), .val (.int (5 : Int32)), .val (.int (0 : Int32)), .val (.ref wTEXT)] [(.ref wTEXT)])) (fun _ k => XS.aload X1.here hx rfl (hb hby own_rm1_d19) rfl rfl k) ?_
  obtain ⟨T4, X4, e4, st4⟩ := getF X1 hx hZ hown (host := "") (Or.inl (hw _ (List.mem_of_getElem? (i := 7) rfl))) Via.refl e1 F_TEXT (g := (mkF m 21 #[.val (.int p1), .val (.ref wALL), .val (.int (5 : Int32)), .val (.int (0 : Int32)), .val (.ref wTEXT)] [(.ref wTEXT)])) rfl rfl (hb hby own_rm1_d21)
  refine own_st (t' := T4.setTop (mkF m 24 #[.val (.int p1), .val (.ref wALL), .val (.int (5 : Int32)), .val (.int (0 : Int32)), .val (.ref wTEXT)] [(.int (1 : Int32))])) st4 ?_
  refine own_st (t' := T4.setTop (mkF m 25 #[.val (.int p1), .val (.ref wALL), .val (.int (5 : Int32)), .val (.int (0 : Int32)), .val (.ref wTEXT)] [(.int p1), (.int (1 : Int32))])) (fun _ k => XS.iloadN X4.here hx rfl (hb hby own_rm1_d24) rfl k) ?_
  by_cases c25_5 : (1 : Int32) = p1
  · refine own_st (t' := T4.setTop (mkF m 28 #[.val (.int p1), .val (.ref wALL), .val (.int (5 : Int32)), .val (.int (0 : Int32)), .val (.ref wTEXT)] [])) (fun _ k => XS.icmpNo X4.here hx rfl (hb hby own_rm1_d25) rfl (teq c25_5).2 k) ?_
    refine own_st (t' := T4.setTop (mkF m 30 #[.val (.int p1), .val (.ref wALL), .val (.int (5 : Int32)), .val (.int (0 : Int32)), .val (.ref wTEXT)] [(.ref wTEXT)])) (fun _ k => XS.aload X4.here hx rfl (hb hby own_rm1_d28) rfl rfl k) ?_
    have hv6 : ((.ref wTEXT) : Value) = w := by rw [hv, if_pos c25_5]
    obtain ⟨fs, hr, hrun, hended, hW, hsame⟩ := X4.leave (v := some (.ref wTEXT)) (fun h => by rw [Bd.returns] at h; cases h)
    exact ⟨_, _, X4.areturnOut hx rfl Bd.returns rfl (hb hby own_rm1_d30) hr, hrun, hended, hP _ _ ⟨_, _, rfl, ⟨(congrArg some hv6), N0, e4⟩, ⟨_, rfl⟩, hW, hsame.mono (by decide) (by decide)⟩⟩
  · refine own_st (t' := T4.setTop (mkF m 31 #[.val (.int p1), .val (.ref wALL), .val (.int (5 : Int32)), .val (.int (0 : Int32)), .val (.ref wTEXT)] [])) (fun _ k => XS.icmpYes X4.here hx rfl (pc0 := 25) (pc' := 31) rfl (hb hby own_rm1_d25) rfl (feq c25_5).2 (by decide) (by decide) k) ?_
    refine own_st (t' := T4.setTop (mkF m 34 #[.val (.int p1), .val (.ref wALL), .val (.int (5 : Int32)), .val (.int (1 : Int32)), .val (.ref wTEXT)] [])) (fun _ k => XS.iinc X4.here hx rfl (hb hby own_rm1_d31) rfl (l' := #[.val (.int p1), .val (.ref wALL), .val (.int (5 : Int32)), .val (.int (1 : Int32)), .val (.ref wTEXT)]) rfl k) ?_
    refine own_st (t' := T4.setTop (mkF m 9 #[.val (.int p1), .val (.ref wALL), .val (.int (5 : Int32)), .val (.int (1 : Int32)), .val (.ref wTEXT)] [])) (fun _ k => XS.goto X4.here hx rfl (pc0 := 34) (pc' := 9) rfl (hb hby own_rm1_d34) (by decide) (by decide) k) ?_
    refine own_st (t' := T4.setTop (mkF m 10 #[.val (.int p1), .val (.ref wALL), .val (.int (5 : Int32)), .val (.int (1 : Int32)), .val (.ref wTEXT)] [(.int (1 : Int32))])) (fun _ k => XS.iloadN X4.here hx rfl (hb hby own_rm1_d9) rfl k) ?_
    refine own_st (t' := T4.setTop (mkF m 11 #[.val (.int p1), .val (.ref wALL), .val (.int (5 : Int32)), .val (.int (1 : Int32)), .val (.ref wTEXT)] [(.int (5 : Int32)), (.int (1 : Int32))])) (fun _ k => XS.iloadN X4.here hx rfl (hb hby own_rm1_d10) rfl k) ?_
    refine own_st (t' := T4.setTop (mkF m 14 #[.val (.int p1), .val (.ref wALL), .val (.int (5 : Int32)), .val (.int (1 : Int32)), .val (.ref wTEXT)] [])) (fun _ k => XS.icmpNo X4.here hx rfl (hb hby own_rm1_d11) rfl (tlt (by decide : (1 : Int32) < (5 : Int32))).2.1 k) ?_
    refine own_st (t' := T4.setTop (mkF m 15 #[.val (.int p1), .val (.ref wALL), .val (.int (5 : Int32)), .val (.int (1 : Int32)), .val (.ref wTEXT)] [(.ref wALL)])) (fun _ k => XS.aloadN X4.here hx rfl (hb hby own_rm1_d14) rfl rfl k) ?_
    refine own_st (t' := T4.setTop (mkF m 16 #[.val (.int p1), .val (.ref wALL), .val (.int (5 : Int32)), .val (.int (1 : Int32)), .val (.ref wTEXT)] [(.int (1 : Int32)), (.ref wALL)])) (fun _ k => XS.iloadN X4.here hx rfl (hb hby own_rm1_d15) rfl k) ?_
    obtain ⟨cl_7, Ar_7, qa_7, Sa_7, Ma_7, Ha_7, Ga_7⟩ := id V
    have hin_7 : ¬ ((1 : Int32) < 0 ∨ cl_7.slots.size ≤ ((1 : Int32)).toNatClampNeg) := inb_of Sa_7 ⟨by decide, by decide⟩
    refine own_st (t' := T4.setTop (mkF m 17 #[.val (.int p1), .val (.ref wALL), .val (.int (5 : Int32)), .val (.int (1 : Int32)), .val (.ref wTEXT)] [(.ref wCOLUMNS)])) (fun _ k => X4.aaload hx (j := (1 : Int32)) (v := (.ref wCOLUMNS)) (by rw [e4]; exact Ar_7.1) (State.isArrayOf_alike hZ.alike Ar_7.2.1) rfl Ar_7.2.2 hin_7 (Has.at Ha_7 hin_7 rfl) (g := (mkF m 16 #[.val (.int p1), .val (.ref wALL), .val (.int (5 : Int32)), .val (.int (1 : Int32)), .val (.ref wTEXT)] [(.int (1 : Int32)), (.ref wALL)])) rfl rfl (hb hby own_rm1_d16) _ k) ?_
    refine own_st (t' := T4.setTop (mkF m 19 #[.val (.int p1), .val (.ref wALL), .val (.int (5 : Int32)), .val (.int (1 : Int32)), .val (.ref wCOLUMNS)] [])) (fun _ k => XS.astore X4.here hx rfl (hb hby own_rm1_d17) rfl rfl (l' := #[.val (.int p1), .val (.ref wALL), .val (.int (5 : Int32)), .val (.int (1 : Int32)), .val (.ref wCOLUMNS)]) rfl k) ?_
    refine own_st (t' := T4.setTop (mkF m 21 #[.val (.int p1), .val (.ref wALL), .val (.int (5 : Int32)), .val (.int (1 : Int32)), .val (.ref wCOLUMNS)] [(.ref wCOLUMNS)])) (fun _ k => XS.aload X4.here hx rfl (hb hby own_rm1_d19) rfl rfl k) ?_
    obtain ⟨T8, X8, e8, st8⟩ := getF X4 hx hZ hown (host := "") (Or.inl (hw _ (List.mem_of_getElem? (i := 7) rfl))) Via.refl e4 F_COLUMNS (g := (mkF m 21 #[.val (.int p1), .val (.ref wALL), .val (.int (5 : Int32)), .val (.int (1 : Int32)), .val (.ref wCOLUMNS)] [(.ref wCOLUMNS)])) rfl rfl (hb hby own_rm1_d21)
    refine own_st (t' := T8.setTop (mkF m 24 #[.val (.int p1), .val (.ref wALL), .val (.int (5 : Int32)), .val (.int (1 : Int32)), .val (.ref wCOLUMNS)] [(.int (2 : Int32))])) st8 ?_
    refine own_st (t' := T8.setTop (mkF m 25 #[.val (.int p1), .val (.ref wALL), .val (.int (5 : Int32)), .val (.int (1 : Int32)), .val (.ref wCOLUMNS)] [(.int p1), (.int (2 : Int32))])) (fun _ k => XS.iloadN X8.here hx rfl (hb hby own_rm1_d24) rfl k) ?_
    by_cases c25_9 : (2 : Int32) = p1
    · refine own_st (t' := T8.setTop (mkF m 28 #[.val (.int p1), .val (.ref wALL), .val (.int (5 : Int32)), .val (.int (1 : Int32)), .val (.ref wCOLUMNS)] [])) (fun _ k => XS.icmpNo X8.here hx rfl (hb hby own_rm1_d25) rfl (teq c25_9).2 k) ?_
      refine own_st (t' := T8.setTop (mkF m 30 #[.val (.int p1), .val (.ref wALL), .val (.int (5 : Int32)), .val (.int (1 : Int32)), .val (.ref wCOLUMNS)] [(.ref wCOLUMNS)])) (fun _ k => XS.aload X8.here hx rfl (hb hby own_rm1_d28) rfl rfl k) ?_
      have hv10 : ((.ref wCOLUMNS) : Value) = w := by rw [hv, if_neg c25_5, if_pos c25_9]
      obtain ⟨fs, hr, hrun, hended, hW, hsame⟩ := X8.leave (v := some (.ref wCOLUMNS)) (fun h => by rw [Bd.returns] at h; cases h)
      exact ⟨_, _, X8.areturnOut hx rfl Bd.returns rfl (hb hby own_rm1_d30) hr, hrun, hended, hP _ _ ⟨_, _, rfl, ⟨(congrArg some hv10), N0, e8⟩, ⟨_, rfl⟩, hW, hsame.mono (by decide) (by decide)⟩⟩
    · refine own_st (t' := T8.setTop (mkF m 31 #[.val (.int p1), .val (.ref wALL), .val (.int (5 : Int32)), .val (.int (1 : Int32)), .val (.ref wCOLUMNS)] [])) (fun _ k => XS.icmpYes X8.here hx rfl (pc0 := 25) (pc' := 31) rfl (hb hby own_rm1_d25) rfl (feq c25_9).2 (by decide) (by decide) k) ?_
      refine own_st (t' := T8.setTop (mkF m 34 #[.val (.int p1), .val (.ref wALL), .val (.int (5 : Int32)), .val (.int (2 : Int32)), .val (.ref wCOLUMNS)] [])) (fun _ k => XS.iinc X8.here hx rfl (hb hby own_rm1_d31) rfl (l' := #[.val (.int p1), .val (.ref wALL), .val (.int (5 : Int32)), .val (.int (2 : Int32)), .val (.ref wCOLUMNS)]) rfl k) ?_
      refine own_st (t' := T8.setTop (mkF m 9 #[.val (.int p1), .val (.ref wALL), .val (.int (5 : Int32)), .val (.int (2 : Int32)), .val (.ref wCOLUMNS)] [])) (fun _ k => XS.goto X8.here hx rfl (pc0 := 34) (pc' := 9) rfl (hb hby own_rm1_d34) (by decide) (by decide) k) ?_
      refine own_st (t' := T8.setTop (mkF m 10 #[.val (.int p1), .val (.ref wALL), .val (.int (5 : Int32)), .val (.int (2 : Int32)), .val (.ref wCOLUMNS)] [(.int (2 : Int32))])) (fun _ k => XS.iloadN X8.here hx rfl (hb hby own_rm1_d9) rfl k) ?_
      refine own_st (t' := T8.setTop (mkF m 11 #[.val (.int p1), .val (.ref wALL), .val (.int (5 : Int32)), .val (.int (2 : Int32)), .val (.ref wCOLUMNS)] [(.int (5 : Int32)), (.int (2 : Int32))])) (fun _ k => XS.iloadN X8.here hx rfl (hb hby own_rm1_d10) rfl k) ?_
      refine own_st (t' := T8.setTop (mkF m 14 #[.val (.int p1), .val (.ref wALL), .val (.int (5 : Int32)), .val (.int (2 : Int32)), .val (.ref wCOLUMNS)] [])) (fun _ k => XS.icmpNo X8.here hx rfl (hb hby own_rm1_d11) rfl (tlt (by decide : (2 : Int32) < (5 : Int32))).2.1 k) ?_
      refine own_st (t' := T8.setTop (mkF m 15 #[.val (.int p1), .val (.ref wALL), .val (.int (5 : Int32)), .val (.int (2 : Int32)), .val (.ref wCOLUMNS)] [(.ref wALL)])) (fun _ k => XS.aloadN X8.here hx rfl (hb hby own_rm1_d14) rfl rfl k) ?_
      refine own_st (t' := T8.setTop (mkF m 16 #[.val (.int p1), .val (.ref wALL), .val (.int (5 : Int32)), .val (.int (2 : Int32)), .val (.ref wCOLUMNS)] [(.int (2 : Int32)), (.ref wALL)])) (fun _ k => XS.iloadN X8.here hx rfl (hb hby own_rm1_d15) rfl k) ?_
      obtain ⟨cl_11, Ar_11, qa_11, Sa_11, Ma_11, Ha_11, Ga_11⟩ := id V
      have hin_11 : ¬ ((2 : Int32) < 0 ∨ cl_11.slots.size ≤ ((2 : Int32)).toNatClampNeg) := inb_of Sa_11 ⟨by decide, by decide⟩
      refine own_st (t' := T8.setTop (mkF m 17 #[.val (.int p1), .val (.ref wALL), .val (.int (5 : Int32)), .val (.int (2 : Int32)), .val (.ref wCOLUMNS)] [(.ref wINTEGER)])) (fun _ k => X8.aaload hx (j := (2 : Int32)) (v := (.ref wINTEGER)) (by rw [e8]; exact Ar_11.1) (State.isArrayOf_alike hZ.alike Ar_11.2.1) rfl Ar_11.2.2 hin_11 (Has.at Ha_11 hin_11 rfl) (g := (mkF m 16 #[.val (.int p1), .val (.ref wALL), .val (.int (5 : Int32)), .val (.int (2 : Int32)), .val (.ref wCOLUMNS)] [(.int (2 : Int32)), (.ref wALL)])) rfl rfl (hb hby own_rm1_d16) _ k) ?_
      refine own_st (t' := T8.setTop (mkF m 19 #[.val (.int p1), .val (.ref wALL), .val (.int (5 : Int32)), .val (.int (2 : Int32)), .val (.ref wINTEGER)] [])) (fun _ k => XS.astore X8.here hx rfl (hb hby own_rm1_d17) rfl rfl (l' := #[.val (.int p1), .val (.ref wALL), .val (.int (5 : Int32)), .val (.int (2 : Int32)), .val (.ref wINTEGER)]) rfl k) ?_
      refine own_st (t' := T8.setTop (mkF m 21 #[.val (.int p1), .val (.ref wALL), .val (.int (5 : Int32)), .val (.int (2 : Int32)), .val (.ref wINTEGER)] [(.ref wINTEGER)])) (fun _ k => XS.aload X8.here hx rfl (hb hby own_rm1_d19) rfl rfl k) ?_
      obtain ⟨T12, X12, e12, st12⟩ := getF X8 hx hZ hown (host := "") (Or.inl (hw _ (List.mem_of_getElem? (i := 7) rfl))) Via.refl e8 F_INTEGER (g := (mkF m 21 #[.val (.int p1), .val (.ref wALL), .val (.int (5 : Int32)), .val (.int (2 : Int32)), .val (.ref wINTEGER)] [(.ref wINTEGER)])) rfl rfl (hb hby own_rm1_d21)
      refine own_st (t' := T12.setTop (mkF m 24 #[.val (.int p1), .val (.ref wALL), .val (.int (5 : Int32)), .val (.int (2 : Int32)), .val (.ref wINTEGER)] [(.int (3 : Int32))])) st12 ?_
      refine own_st (t' := T12.setTop (mkF m 25 #[.val (.int p1), .val (.ref wALL), .val (.int (5 : Int32)), .val (.int (2 : Int32)), .val (.ref wINTEGER)] [(.int p1), (.int (3 : Int32))])) (fun _ k => XS.iloadN X12.here hx rfl (hb hby own_rm1_d24) rfl k) ?_
      by_cases c25_13 : (3 : Int32) = p1
      · refine own_st (t' := T12.setTop (mkF m 28 #[.val (.int p1), .val (.ref wALL), .val (.int (5 : Int32)), .val (.int (2 : Int32)), .val (.ref wINTEGER)] [])) (fun _ k => XS.icmpNo X12.here hx rfl (hb hby own_rm1_d25) rfl (teq c25_13).2 k) ?_
        refine own_st (t' := T12.setTop (mkF m 30 #[.val (.int p1), .val (.ref wALL), .val (.int (5 : Int32)), .val (.int (2 : Int32)), .val (.ref wINTEGER)] [(.ref wINTEGER)])) (fun _ k => XS.aload X12.here hx rfl (hb hby own_rm1_d28) rfl rfl k) ?_
        have hv14 : ((.ref wINTEGER) : Value) = w := by rw [hv, if_neg c25_5, if_neg c25_9, if_pos c25_13]
        obtain ⟨fs, hr, hrun, hended, hW, hsame⟩ := X12.leave (v := some (.ref wINTEGER)) (fun h => by rw [Bd.returns] at h; cases h)
        exact ⟨_, _, X12.areturnOut hx rfl Bd.returns rfl (hb hby own_rm1_d30) hr, hrun, hended, hP _ _ ⟨_, _, rfl, ⟨(congrArg some hv14), N0, e12⟩, ⟨_, rfl⟩, hW, hsame.mono (by decide) (by decide)⟩⟩
      · refine own_st (t' := T12.setTop (mkF m 31 #[.val (.int p1), .val (.ref wALL), .val (.int (5 : Int32)), .val (.int (2 : Int32)), .val (.ref wINTEGER)] [])) (fun _ k => XS.icmpYes X12.here hx rfl (pc0 := 25) (pc' := 31) rfl (hb hby own_rm1_d25) rfl (feq c25_13).2 (by decide) (by decide) k) ?_
        refine own_st (t' := T12.setTop (mkF m 34 #[.val (.int p1), .val (.ref wALL), .val (.int (5 : Int32)), .val (.int (3 : Int32)), .val (.ref wINTEGER)] [])) (fun _ k => XS.iinc X12.here hx rfl (hb hby own_rm1_d31) rfl (l' := #[.val (.int p1), .val (.ref wALL), .val (.int (5 : Int32)), .val (.int (3 : Int32)), .val (.ref wINTEGER)]) rfl k) ?_
        refine own_st (t' := T12.setTop (mkF m 9 #[.val (.int p1), .val (.ref wALL), .val (.int (5 : Int32)), .val (.int (3 : Int32)), .val (.ref wINTEGER)] [])) (fun _ k => XS.goto X12.here hx rfl (pc0 := 34) (pc' := 9) rfl (hb hby own_rm1_d34) (by decide) (by decide) k) ?_
        refine own_st (t' := T12.setTop (mkF m 10 #[.val (.int p1), .val (.ref wALL), .val (.int (5 : Int32)), .val (.int (3 : Int32)), .val (.ref wINTEGER)] [(.int (3 : Int32))])) (fun _ k => XS.iloadN X12.here hx rfl (hb hby own_rm1_d9) rfl k) ?_
        refine own_st (t' := T12.setTop (mkF m 11 #[.val (.int p1), .val (.ref wALL), .val (.int (5 : Int32)), .val (.int (3 : Int32)), .val (.ref wINTEGER)] [(.int (5 : Int32)), (.int (3 : Int32))])) (fun _ k => XS.iloadN X12.here hx rfl (hb hby own_rm1_d10) rfl k) ?_
        refine own_st (t' := T12.setTop (mkF m 14 #[.val (.int p1), .val (.ref wALL), .val (.int (5 : Int32)), .val (.int (3 : Int32)), .val (.ref wINTEGER)] [])) (fun _ k => XS.icmpNo X12.here hx rfl (hb hby own_rm1_d11) rfl (tlt (by decide : (3 : Int32) < (5 : Int32))).2.1 k) ?_
        refine own_st (t' := T12.setTop (mkF m 15 #[.val (.int p1), .val (.ref wALL), .val (.int (5 : Int32)), .val (.int (3 : Int32)), .val (.ref wINTEGER)] [(.ref wALL)])) (fun _ k => XS.aloadN X12.here hx rfl (hb hby own_rm1_d14) rfl rfl k) ?_
        refine own_st (t' := T12.setTop (mkF m 16 #[.val (.int p1), .val (.ref wALL), .val (.int (5 : Int32)), .val (.int (3 : Int32)), .val (.ref wINTEGER)] [(.int (3 : Int32)), (.ref wALL)])) (fun _ k => XS.iloadN X12.here hx rfl (hb hby own_rm1_d15) rfl k) ?_
        obtain ⟨cl_15, Ar_15, qa_15, Sa_15, Ma_15, Ha_15, Ga_15⟩ := id V
        have hin_15 : ¬ ((3 : Int32) < 0 ∨ cl_15.slots.size ≤ ((3 : Int32)).toNatClampNeg) := inb_of Sa_15 ⟨by decide, by decide⟩
        refine own_st (t' := T12.setTop (mkF m 17 #[.val (.int p1), .val (.ref wALL), .val (.int (5 : Int32)), .val (.int (3 : Int32)), .val (.ref wINTEGER)] [(.ref wDECIMAL)])) (fun _ k => X12.aaload hx (j := (3 : Int32)) (v := (.ref wDECIMAL)) (by rw [e12]; exact Ar_15.1) (State.isArrayOf_alike hZ.alike Ar_15.2.1) rfl Ar_15.2.2 hin_15 (Has.at Ha_15 hin_15 rfl) (g := (mkF m 16 #[.val (.int p1), .val (.ref wALL), .val (.int (5 : Int32)), .val (.int (3 : Int32)), .val (.ref wINTEGER)] [(.int (3 : Int32)), (.ref wALL)])) rfl rfl (hb hby own_rm1_d16) _ k) ?_
        refine own_st (t' := T12.setTop (mkF m 19 #[.val (.int p1), .val (.ref wALL), .val (.int (5 : Int32)), .val (.int (3 : Int32)), .val (.ref wDECIMAL)] [])) (fun _ k => XS.astore X12.here hx rfl (hb hby own_rm1_d17) rfl rfl (l' := #[.val (.int p1), .val (.ref wALL), .val (.int (5 : Int32)), .val (.int (3 : Int32)), .val (.ref wDECIMAL)]) rfl k) ?_
        refine own_st (t' := T12.setTop (mkF m 21 #[.val (.int p1), .val (.ref wALL), .val (.int (5 : Int32)), .val (.int (3 : Int32)), .val (.ref wDECIMAL)] [(.ref wDECIMAL)])) (fun _ k => XS.aload X12.here hx rfl (hb hby own_rm1_d19) rfl rfl k) ?_
        obtain ⟨T16, X16, e16, st16⟩ := getF X12 hx hZ hown (host := "") (Or.inl (hw _ (List.mem_of_getElem? (i := 7) rfl))) Via.refl e12 F_DECIMAL (g := (mkF m 21 #[.val (.int p1), .val (.ref wALL), .val (.int (5 : Int32)), .val (.int (3 : Int32)), .val (.ref wDECIMAL)] [(.ref wDECIMAL)])) rfl rfl (hb hby own_rm1_d21)
        refine own_st (t' := T16.setTop (mkF m 24 #[.val (.int p1), .val (.ref wALL), .val (.int (5 : Int32)), .val (.int (3 : Int32)), .val (.ref wDECIMAL)] [(.int (4 : Int32))])) st16 ?_
        refine own_st (t' := T16.setTop (mkF m 25 #[.val (.int p1), .val (.ref wALL), .val (.int (5 : Int32)), .val (.int (3 : Int32)), .val (.ref wDECIMAL)] [(.int p1), (.int (4 : Int32))])) (fun _ k => XS.iloadN X16.here hx rfl (hb hby own_rm1_d24) rfl k) ?_
        by_cases c25_17 : (4 : Int32) = p1
        · refine own_st (t' := T16.setTop (mkF m 28 #[.val (.int p1), .val (.ref wALL), .val (.int (5 : Int32)), .val (.int (3 : Int32)), .val (.ref wDECIMAL)] [])) (fun _ k => XS.icmpNo X16.here hx rfl (hb hby own_rm1_d25) rfl (teq c25_17).2 k) ?_
          refine own_st (t' := T16.setTop (mkF m 30 #[.val (.int p1), .val (.ref wALL), .val (.int (5 : Int32)), .val (.int (3 : Int32)), .val (.ref wDECIMAL)] [(.ref wDECIMAL)])) (fun _ k => XS.aload X16.here hx rfl (hb hby own_rm1_d28) rfl rfl k) ?_
          have hv18 : ((.ref wDECIMAL) : Value) = w := by rw [hv, if_neg c25_5, if_neg c25_9, if_neg c25_13, if_pos c25_17]
          obtain ⟨fs, hr, hrun, hended, hW, hsame⟩ := X16.leave (v := some (.ref wDECIMAL)) (fun h => by rw [Bd.returns] at h; cases h)
          exact ⟨_, _, X16.areturnOut hx rfl Bd.returns rfl (hb hby own_rm1_d30) hr, hrun, hended, hP _ _ ⟨_, _, rfl, ⟨(congrArg some hv18), N0, e16⟩, ⟨_, rfl⟩, hW, hsame.mono (by decide) (by decide)⟩⟩
        · refine own_st (t' := T16.setTop (mkF m 31 #[.val (.int p1), .val (.ref wALL), .val (.int (5 : Int32)), .val (.int (3 : Int32)), .val (.ref wDECIMAL)] [])) (fun _ k => XS.icmpYes X16.here hx rfl (pc0 := 25) (pc' := 31) rfl (hb hby own_rm1_d25) rfl (feq c25_17).2 (by decide) (by decide) k) ?_
          refine own_st (t' := T16.setTop (mkF m 34 #[.val (.int p1), .val (.ref wALL), .val (.int (5 : Int32)), .val (.int (4 : Int32)), .val (.ref wDECIMAL)] [])) (fun _ k => XS.iinc X16.here hx rfl (hb hby own_rm1_d31) rfl (l' := #[.val (.int p1), .val (.ref wALL), .val (.int (5 : Int32)), .val (.int (4 : Int32)), .val (.ref wDECIMAL)]) rfl k) ?_
          refine own_st (t' := T16.setTop (mkF m 9 #[.val (.int p1), .val (.ref wALL), .val (.int (5 : Int32)), .val (.int (4 : Int32)), .val (.ref wDECIMAL)] [])) (fun _ k => XS.goto X16.here hx rfl (pc0 := 34) (pc' := 9) rfl (hb hby own_rm1_d34) (by decide) (by decide) k) ?_
          refine own_st (t' := T16.setTop (mkF m 10 #[.val (.int p1), .val (.ref wALL), .val (.int (5 : Int32)), .val (.int (4 : Int32)), .val (.ref wDECIMAL)] [(.int (4 : Int32))])) (fun _ k => XS.iloadN X16.here hx rfl (hb hby own_rm1_d9) rfl k) ?_
          refine own_st (t' := T16.setTop (mkF m 11 #[.val (.int p1), .val (.ref wALL), .val (.int (5 : Int32)), .val (.int (4 : Int32)), .val (.ref wDECIMAL)] [(.int (5 : Int32)), (.int (4 : Int32))])) (fun _ k => XS.iloadN X16.here hx rfl (hb hby own_rm1_d10) rfl k) ?_
          refine own_st (t' := T16.setTop (mkF m 14 #[.val (.int p1), .val (.ref wALL), .val (.int (5 : Int32)), .val (.int (4 : Int32)), .val (.ref wDECIMAL)] [])) (fun _ k => XS.icmpNo X16.here hx rfl (hb hby own_rm1_d11) rfl (tlt (by decide : (4 : Int32) < (5 : Int32))).2.1 k) ?_
          refine own_st (t' := T16.setTop (mkF m 15 #[.val (.int p1), .val (.ref wALL), .val (.int (5 : Int32)), .val (.int (4 : Int32)), .val (.ref wDECIMAL)] [(.ref wALL)])) (fun _ k => XS.aloadN X16.here hx rfl (hb hby own_rm1_d14) rfl rfl k) ?_
          refine own_st (t' := T16.setTop (mkF m 16 #[.val (.int p1), .val (.ref wALL), .val (.int (5 : Int32)), .val (.int (4 : Int32)), .val (.ref wDECIMAL)] [(.int (4 : Int32)), (.ref wALL)])) (fun _ k => XS.iloadN X16.here hx rfl (hb hby own_rm1_d15) rfl k) ?_
          obtain ⟨cl_19, Ar_19, qa_19, Sa_19, Ma_19, Ha_19, Ga_19⟩ := id V
          have hin_19 : ¬ ((4 : Int32) < 0 ∨ cl_19.slots.size ≤ ((4 : Int32)).toNatClampNeg) := inb_of Sa_19 ⟨by decide, by decide⟩
          refine own_st (t' := T16.setTop (mkF m 17 #[.val (.int p1), .val (.ref wALL), .val (.int (5 : Int32)), .val (.int (4 : Int32)), .val (.ref wDECIMAL)] [(.ref wBOOLEAN)])) (fun _ k => X16.aaload hx (j := (4 : Int32)) (v := (.ref wBOOLEAN)) (by rw [e16]; exact Ar_19.1) (State.isArrayOf_alike hZ.alike Ar_19.2.1) rfl Ar_19.2.2 hin_19 (Has.at Ha_19 hin_19 rfl) (g := (mkF m 16 #[.val (.int p1), .val (.ref wALL), .val (.int (5 : Int32)), .val (.int (4 : Int32)), .val (.ref wDECIMAL)] [(.int (4 : Int32)), (.ref wALL)])) rfl rfl (hb hby own_rm1_d16) _ k) ?_
          refine own_st (t' := T16.setTop (mkF m 19 #[.val (.int p1), .val (.ref wALL), .val (.int (5 : Int32)), .val (.int (4 : Int32)), .val (.ref wBOOLEAN)] [])) (fun _ k => XS.astore X16.here hx rfl (hb hby own_rm1_d17) rfl rfl (l' := #[.val (.int p1), .val (.ref wALL), .val (.int (5 : Int32)), .val (.int (4 : Int32)), .val (.ref wBOOLEAN)]) rfl k) ?_
          refine own_st (t' := T16.setTop (mkF m 21 #[.val (.int p1), .val (.ref wALL), .val (.int (5 : Int32)), .val (.int (4 : Int32)), .val (.ref wBOOLEAN)] [(.ref wBOOLEAN)])) (fun _ k => XS.aload X16.here hx rfl (hb hby own_rm1_d19) rfl rfl k) ?_
          obtain ⟨T20, X20, e20, st20⟩ := getF X16 hx hZ hown (host := "") (Or.inl (hw _ (List.mem_of_getElem? (i := 7) rfl))) Via.refl e16 F_BOOLEAN (g := (mkF m 21 #[.val (.int p1), .val (.ref wALL), .val (.int (5 : Int32)), .val (.int (4 : Int32)), .val (.ref wBOOLEAN)] [(.ref wBOOLEAN)])) rfl rfl (hb hby own_rm1_d21)
          refine own_st (t' := T20.setTop (mkF m 24 #[.val (.int p1), .val (.ref wALL), .val (.int (5 : Int32)), .val (.int (4 : Int32)), .val (.ref wBOOLEAN)] [(.int (5 : Int32))])) st20 ?_
          refine own_st (t' := T20.setTop (mkF m 25 #[.val (.int p1), .val (.ref wALL), .val (.int (5 : Int32)), .val (.int (4 : Int32)), .val (.ref wBOOLEAN)] [(.int p1), (.int (5 : Int32))])) (fun _ k => XS.iloadN X20.here hx rfl (hb hby own_rm1_d24) rfl k) ?_
          by_cases c25_21 : (5 : Int32) = p1
          · refine own_st (t' := T20.setTop (mkF m 28 #[.val (.int p1), .val (.ref wALL), .val (.int (5 : Int32)), .val (.int (4 : Int32)), .val (.ref wBOOLEAN)] [])) (fun _ k => XS.icmpNo X20.here hx rfl (hb hby own_rm1_d25) rfl (teq c25_21).2 k) ?_
            refine own_st (t' := T20.setTop (mkF m 30 #[.val (.int p1), .val (.ref wALL), .val (.int (5 : Int32)), .val (.int (4 : Int32)), .val (.ref wBOOLEAN)] [(.ref wBOOLEAN)])) (fun _ k => XS.aload X20.here hx rfl (hb hby own_rm1_d28) rfl rfl k) ?_
            have hv22 : ((.ref wBOOLEAN) : Value) = w := by rw [hv, if_neg c25_5, if_neg c25_9, if_neg c25_13, if_neg c25_17, if_pos c25_21]
            obtain ⟨fs, hr, hrun, hended, hW, hsame⟩ := X20.leave (v := some (.ref wBOOLEAN)) (fun h => by rw [Bd.returns] at h; cases h)
            exact ⟨_, _, X20.areturnOut hx rfl Bd.returns rfl (hb hby own_rm1_d30) hr, hrun, hended, hP _ _ ⟨_, _, rfl, ⟨(congrArg some hv22), N0, e20⟩, ⟨_, rfl⟩, hW, hsame.mono (by decide) (by decide)⟩⟩
          · refine own_st (t' := T20.setTop (mkF m 31 #[.val (.int p1), .val (.ref wALL), .val (.int (5 : Int32)), .val (.int (4 : Int32)), .val (.ref wBOOLEAN)] [])) (fun _ k => XS.icmpYes X20.here hx rfl (pc0 := 25) (pc' := 31) rfl (hb hby own_rm1_d25) rfl (feq c25_21).2 (by decide) (by decide) k) ?_
            refine own_st (t' := T20.setTop (mkF m 34 #[.val (.int p1), .val (.ref wALL), .val (.int (5 : Int32)), .val (.int (5 : Int32)), .val (.ref wBOOLEAN)] [])) (fun _ k => XS.iinc X20.here hx rfl (hb hby own_rm1_d31) rfl (l' := #[.val (.int p1), .val (.ref wALL), .val (.int (5 : Int32)), .val (.int (5 : Int32)), .val (.ref wBOOLEAN)]) rfl k) ?_
            refine own_st (t' := T20.setTop (mkF m 9 #[.val (.int p1), .val (.ref wALL), .val (.int (5 : Int32)), .val (.int (5 : Int32)), .val (.ref wBOOLEAN)] [])) (fun _ k => XS.goto X20.here hx rfl (pc0 := 34) (pc' := 9) rfl (hb hby own_rm1_d34) (by decide) (by decide) k) ?_
            refine own_st (t' := T20.setTop (mkF m 10 #[.val (.int p1), .val (.ref wALL), .val (.int (5 : Int32)), .val (.int (5 : Int32)), .val (.ref wBOOLEAN)] [(.int (5 : Int32))])) (fun _ k => XS.iloadN X20.here hx rfl (hb hby own_rm1_d9) rfl k) ?_
            refine own_st (t' := T20.setTop (mkF m 11 #[.val (.int p1), .val (.ref wALL), .val (.int (5 : Int32)), .val (.int (5 : Int32)), .val (.ref wBOOLEAN)] [(.int (5 : Int32)), (.int (5 : Int32))])) (fun _ k => XS.iloadN X20.here hx rfl (hb hby own_rm1_d10) rfl k) ?_
            refine own_st (t' := T20.setTop (mkF m 37 #[.val (.int p1), .val (.ref wALL), .val (.int (5 : Int32)), .val (.int (5 : Int32)), .val (.ref wBOOLEAN)] [])) (fun _ k => XS.icmpYes X20.here hx rfl (pc0 := 11) (pc' := 37) rfl (hb hby own_rm1_d11) rfl (flt (by decide : ¬ ((5 : Int32) < (5 : Int32)))).2.1 (by decide) (by decide) k) ?_
            refine own_st (t' := T20.setTop (mkF m 38 #[.val (.int p1), .val (.ref wALL), .val (.int (5 : Int32)), .val (.int (5 : Int32)), .val (.ref wBOOLEAN)] [.null])) (fun _ k => XS.aconstNull X20.here hx rfl (hb hby own_rm1_d37) k) ?_
            have hv23 : (.null : Value) = w := by rw [hv, if_neg c25_5, if_neg c25_9, if_neg c25_13, if_neg c25_17, if_neg c25_21]
            obtain ⟨fs, hr, hrun, hended, hW, hsame⟩ := X20.leave (v := some .null) (fun h => by rw [Bd.returns] at h; cases h)
            exact ⟨_, _, X20.areturnOut hx rfl Bd.returns rfl (hb hby own_rm1_d38) hr, hrun, hended, hP _ _ ⟨_, _, rfl, ⟨(congrArg some hv23), N0, e20⟩, ⟨_, rfl⟩, hW, hsame.mono (by decide) (by decide)⟩⟩

theorem own_rm2_d0 : decode method_2_code 0 = .ok (.iload_n 0, 1) := by decide +kernel
theorem own_rm2_d1 : decode method_2_code 1 = .ok (.iconst 1, 1) := by decide +kernel
theorem own_rm2_d2 : decode method_2_code 2 = .ok (.if_icmp .ne 7, 3) := by decide +kernel
theorem own_rm2_d5 : decode method_2_code 5 = .ok (.getstatic 7, 3) := by decide +kernel
theorem own_rm2_d8 : decode method_2_code 8 = .ok (.areturn, 1) := by decide +kernel
theorem own_rm2_d9 : decode method_2_code 9 = .ok (.iload_n 0, 1) := by decide +kernel
theorem own_rm2_d10 : decode method_2_code 10 = .ok (.iconst 2, 1) := by decide +kernel
theorem own_rm2_d11 : decode method_2_code 11 = .ok (.if_icmp .ne 7, 3) := by decide +kernel
theorem own_rm2_d14 : decode method_2_code 14 = .ok (.getstatic 13, 3) := by decide +kernel
theorem own_rm2_d17 : decode method_2_code 17 = .ok (.areturn, 1) := by decide +kernel
theorem own_rm2_d18 : decode method_2_code 18 = .ok (.iload_n 0, 1) := by decide +kernel
theorem own_rm2_d19 : decode method_2_code 19 = .ok (.iconst 3, 1) := by decide +kernel
theorem own_rm2_d20 : decode method_2_code 20 = .ok (.if_icmp .ne 7, 3) := by decide +kernel
theorem own_rm2_d23 : decode method_2_code 23 = .ok (.getstatic 16, 3) := by decide +kernel
theorem own_rm2_d26 : decode method_2_code 26 = .ok (.areturn, 1) := by decide +kernel
theorem own_rm2_d27 : decode method_2_code 27 = .ok (.iload_n 0, 1) := by decide +kernel
theorem own_rm2_d28 : decode method_2_code 28 = .ok (.iconst 4, 1) := by decide +kernel
theorem own_rm2_d29 : decode method_2_code 29 = .ok (.if_icmp .ne 7, 3) := by decide +kernel
theorem own_rm2_d32 : decode method_2_code 32 = .ok (.getstatic 19, 3) := by decide +kernel
theorem own_rm2_d35 : decode method_2_code 35 = .ok (.areturn, 1) := by decide +kernel
theorem own_rm2_d36 : decode method_2_code 36 = .ok (.iload_n 0, 1) := by decide +kernel
theorem own_rm2_d37 : decode method_2_code 37 = .ok (.iconst 5, 1) := by decide +kernel
theorem own_rm2_d38 : decode method_2_code 38 = .ok (.if_icmp .ne 7, 3) := by decide +kernel
theorem own_rm2_d41 : decode method_2_code 41 = .ok (.getstatic 22, 3) := by decide +kernel
theorem own_rm2_d44 : decode method_2_code 44 = .ok (.areturn, 1) := by decide +kernel
theorem own_rm2_d45 : decode method_2_code 45 = .ok (.aconst_null, 1) := by decide +kernel
theorem own_rm2_d46 : decode method_2_code 46 = .ok (.areturn, 1) := by decide +kernel
theorem own_rm2_pn : plainName "com/example/hashbook/hashbook/proofs/ColumnTypeOfKindPinLaw" = true := by first | (simp [plainName, overriddenIn]; done) | decide +kernel
theorem own_rm2_ef (m : MethodId) (x0 : Int32) : entryFrame m #[(.int x0)] 1 = mkF m 0 #[.val (.int x0)] [] := by first | (simp [entryFrame, mkF, argsToLocals, Value.category]; done) | rfl
def own_rm2_Q (Z : State) (p1 : Int32) (wTEXT : Addr) (wCOLUMNS : Addr) (wINTEGER : Addr) (wDECIMAL : Addr) (wBOOLEAN : Addr) (w : Value) (h0 : Heap) (n0 : Nat) (v : Option Value) (h : Heap) (L : List Loc) : Prop := v = some (w) ∧ Fr n0 L ∧ h = h0
set_option maxRecDepth 65536 in
set_option maxHeartbeats 40000000 in
theorem own_rm2 (l : Launch) (Z : State) (a0 : Array Value) (hw : ∀ d ∈ tables_1, d.before a0 Z = true) (ws : List Jvm.Cond) (p1 : Int32) (wTEXT : Addr) (wCOLUMNS : Addr) (wINTEGER : Addr) (wDECIMAL : Addr) (wBOOLEAN : Addr) (w : Value) (h0 : Heap) (n0 : Nat) (Z0 : n0 ≤ h0.size) (S_TEXT : Sta Z h0 "com/example/hashbook/hashbook/proofs/ColumnType" "TEXT" "Lcom/example/hashbook/hashbook/proofs/ColumnType;" (.ref wTEXT)) (S_COLUMNS : Sta Z h0 "com/example/hashbook/hashbook/proofs/ColumnType" "COLUMNS" "Lcom/example/hashbook/hashbook/proofs/ColumnType;" (.ref wCOLUMNS)) (S_INTEGER : Sta Z h0 "com/example/hashbook/hashbook/proofs/ColumnType" "INTEGER" "Lcom/example/hashbook/hashbook/proofs/ColumnType;" (.ref wINTEGER)) (S_DECIMAL : Sta Z h0 "com/example/hashbook/hashbook/proofs/ColumnType" "DECIMAL" "Lcom/example/hashbook/hashbook/proofs/ColumnType;" (.ref wDECIMAL)) (S_BOOLEAN : Sta Z h0 "com/example/hashbook/hashbook/proofs/ColumnType" "BOOLEAN" "Lcom/example/hashbook/hashbook/proofs/ColumnType;" (.ref wBOOLEAN)) (hv : w = if p1 = (1 : Int32) then .ref wTEXT else if p1 = (2 : Int32) then .ref wCOLUMNS else if p1 = (3 : Int32) then .ref wINTEGER else if p1 = (4 : Int32) then .ref wDECIMAL else if p1 = (5 : Int32) then .ref wBOOLEAN else .null) :
    MetFree l (⟨"com/example/hashbook/hashbook/proofs/ColumnTypeOfKindPinLaw", "expected", "(I)Lcom/example/hashbook/hashbook/proofs/ColumnType;"⟩ : MethodName) (head1 (Jvm.Cond.code (⟨"com/example/hashbook/hashbook/proofs/ColumnTypeOfKindPinLaw", "expected", "(I)Lcom/example/hashbook/hashbook/proofs/ColumnType;"⟩ : MethodName) method_2_code 1 (some (.object "com/example/hashbook/hashbook/proofs/ColumnType")) :: ws) ({ frames := 0, cells := 0, slots := 0, locals := 0 } : Room)) (fun a U => a = #[(.int p1)] ∧ Z.Warmed39 U.vm ∧ U.heap = h0) (fun _ _ _ _ _ => True) (fun _ U o U' => ∃ v L, o = .returned v ∧ own_rm2_Q Z p1 wTEXT wCOLUMNS wINTEGER wDECIMAL wBOOLEAN w h0 n0 v U'.heap L ∧ FrameEnd U o U' L ({ frames := 0, cells := 0, slots := 0, locals := 0 } : Room).cells ({ frames := 0, cells := 0, slots := 0, locals := 0 } : Room).slots) := by
  refine MetFree.of_bodySF (plainFor_of_name own_rm2_pn) hisR ?_
  intro p e s m args below meth c s₁ Bd hml0 hPre hK
  obtain ⟨rfl, hZ, hh⟩ := hPre
  have hx := Bd.exec
  have hby := Bd.bytes
  have hml : c.maxLocals = 1 := hml0
  have hown : s.vm.findClass "com/example/hashbook/hashbook/proofs/ColumnTypeOfKindPinLaw" = some m.cls := findClass_of_methodNamed Bd.named
  have hnm := (name_of_methodNamed Bd.named Bd.method).1
  have X0 : Stand p l e ({ frames := 0, cells := 0, slots := 0, locals := 0 } : Room) s m #[(.int p1)] below meth c s₁ [] 0 0 := Stand.of_body Bd
  have e0 : s₁.heap = h0 := by rw [← hh, Bd.state]; rfl
  have N0 := Fr.nil n0
  refine own_body fun P hP => ?_
  refine own_st (t' := s₁.setTop (mkF m 0 #[.val (.int p1)] [])) (fun _ k => castTop (own_rm2_ef m p1) k) ?_
  refine own_st (t' := s₁.setTop (mkF m 1 #[.val (.int p1)] [(.int p1)])) (fun _ k => XS.iloadN X0.here hx rfl (hb hby own_rm2_d0) rfl k) ?_
  refine own_st (t' := s₁.setTop (mkF m 2 #[.val (.int p1)] [(.int (1 : Int32)), (.int p1)])) (fun _ k => XS.iconst X0.here hx rfl (hb hby own_rm2_d1) k) ?_
  by_cases c2_1 : p1 = (1 : Int32)
  · refine own_st (t' := s₁.setTop (mkF m 5 #[.val (.int p1)] [])) (fun _ k => XS.icmpNo X0.here hx rfl (hb hby own_rm2_d2) rfl (teq c2_1).2 k) ?_
    obtain ⟨T2, X2, e2, st2⟩ := getS2 X0 hx hZ hown (host := "") (Or.inl (hw _ (List.mem_of_getElem? (i := 20) rfl))) Via.refl e0 S_TEXT (g := (mkF m 5 #[.val (.int p1)] [])) rfl (hb hby own_rm2_d5)
    refine own_st (t' := T2.setTop (mkF m 8 #[.val (.int p1)] [(.ref wTEXT)])) st2 ?_
    have hv3 : ((.ref wTEXT) : Value) = w := by rw [hv, if_pos c2_1]
    obtain ⟨fs, hr, hrun, hended, hW, hsame⟩ := X2.leave (v := some (.ref wTEXT)) (fun h => by rw [Bd.returns] at h; cases h)
    exact ⟨_, _, X2.areturnOut hx rfl Bd.returns rfl (hb hby own_rm2_d8) hr, hrun, hended, hP _ _ ⟨_, _, rfl, ⟨(congrArg some hv3), N0, e2⟩, ⟨_, rfl⟩, hW, hsame.mono (by decide) (by decide)⟩⟩
  · refine own_st (t' := s₁.setTop (mkF m 9 #[.val (.int p1)] [])) (fun _ k => XS.icmpYes X0.here hx rfl (pc0 := 2) (pc' := 9) rfl (hb hby own_rm2_d2) rfl (feq c2_1).2 (by decide) (by decide) k) ?_
    refine own_st (t' := s₁.setTop (mkF m 10 #[.val (.int p1)] [(.int p1)])) (fun _ k => XS.iloadN X0.here hx rfl (hb hby own_rm2_d9) rfl k) ?_
    refine own_st (t' := s₁.setTop (mkF m 11 #[.val (.int p1)] [(.int (2 : Int32)), (.int p1)])) (fun _ k => XS.iconst X0.here hx rfl (hb hby own_rm2_d10) k) ?_
    by_cases c11_4 : p1 = (2 : Int32)
    · refine own_st (t' := s₁.setTop (mkF m 14 #[.val (.int p1)] [])) (fun _ k => XS.icmpNo X0.here hx rfl (hb hby own_rm2_d11) rfl (teq c11_4).2 k) ?_
      obtain ⟨T5, X5, e5, st5⟩ := getS2 X0 hx hZ hown (host := "") (Or.inl (hw _ (List.mem_of_getElem? (i := 21) rfl))) Via.refl e0 S_COLUMNS (g := (mkF m 14 #[.val (.int p1)] [])) rfl (hb hby own_rm2_d14)
      refine own_st (t' := T5.setTop (mkF m 17 #[.val (.int p1)] [(.ref wCOLUMNS)])) st5 ?_
      have hv6 : ((.ref wCOLUMNS) : Value) = w := by rw [hv, if_neg c2_1, if_pos c11_4]
      obtain ⟨fs, hr, hrun, hended, hW, hsame⟩ := X5.leave (v := some (.ref wCOLUMNS)) (fun h => by rw [Bd.returns] at h; cases h)
      exact ⟨_, _, X5.areturnOut hx rfl Bd.returns rfl (hb hby own_rm2_d17) hr, hrun, hended, hP _ _ ⟨_, _, rfl, ⟨(congrArg some hv6), N0, e5⟩, ⟨_, rfl⟩, hW, hsame.mono (by decide) (by decide)⟩⟩
    · refine own_st (t' := s₁.setTop (mkF m 18 #[.val (.int p1)] [])) (fun _ k => XS.icmpYes X0.here hx rfl (pc0 := 11) (pc' := 18) rfl (hb hby own_rm2_d11) rfl (feq c11_4).2 (by decide) (by decide) k) ?_
      refine own_st (t' := s₁.setTop (mkF m 19 #[.val (.int p1)] [(.int p1)])) (fun _ k => XS.iloadN X0.here hx rfl (hb hby own_rm2_d18) rfl k) ?_
      refine own_st (t' := s₁.setTop (mkF m 20 #[.val (.int p1)] [(.int (3 : Int32)), (.int p1)])) (fun _ k => XS.iconst X0.here hx rfl (hb hby own_rm2_d19) k) ?_
      by_cases c20_7 : p1 = (3 : Int32)
      · refine own_st (t' := s₁.setTop (mkF m 23 #[.val (.int p1)] [])) (fun _ k => XS.icmpNo X0.here hx rfl (hb hby own_rm2_d20) rfl (teq c20_7).2 k) ?_
        obtain ⟨T8, X8, e8, st8⟩ := getS2 X0 hx hZ hown (host := "") (Or.inl (hw _ (List.mem_of_getElem? (i := 17) rfl))) Via.refl e0 S_INTEGER (g := (mkF m 23 #[.val (.int p1)] [])) rfl (hb hby own_rm2_d23)
        refine own_st (t' := T8.setTop (mkF m 26 #[.val (.int p1)] [(.ref wINTEGER)])) st8 ?_
        have hv9 : ((.ref wINTEGER) : Value) = w := by rw [hv, if_neg c2_1, if_neg c11_4, if_pos c20_7]
        obtain ⟨fs, hr, hrun, hended, hW, hsame⟩ := X8.leave (v := some (.ref wINTEGER)) (fun h => by rw [Bd.returns] at h; cases h)
        exact ⟨_, _, X8.areturnOut hx rfl Bd.returns rfl (hb hby own_rm2_d26) hr, hrun, hended, hP _ _ ⟨_, _, rfl, ⟨(congrArg some hv9), N0, e8⟩, ⟨_, rfl⟩, hW, hsame.mono (by decide) (by decide)⟩⟩
      · refine own_st (t' := s₁.setTop (mkF m 27 #[.val (.int p1)] [])) (fun _ k => XS.icmpYes X0.here hx rfl (pc0 := 20) (pc' := 27) rfl (hb hby own_rm2_d20) rfl (feq c20_7).2 (by decide) (by decide) k) ?_
        refine own_st (t' := s₁.setTop (mkF m 28 #[.val (.int p1)] [(.int p1)])) (fun _ k => XS.iloadN X0.here hx rfl (hb hby own_rm2_d27) rfl k) ?_
        refine own_st (t' := s₁.setTop (mkF m 29 #[.val (.int p1)] [(.int (4 : Int32)), (.int p1)])) (fun _ k => XS.iconst X0.here hx rfl (hb hby own_rm2_d28) k) ?_
        by_cases c29_10 : p1 = (4 : Int32)
        · refine own_st (t' := s₁.setTop (mkF m 32 #[.val (.int p1)] [])) (fun _ k => XS.icmpNo X0.here hx rfl (hb hby own_rm2_d29) rfl (teq c29_10).2 k) ?_
          obtain ⟨T11, X11, e11, st11⟩ := getS2 X0 hx hZ hown (host := "") (Or.inl (hw _ (List.mem_of_getElem? (i := 18) rfl))) Via.refl e0 S_DECIMAL (g := (mkF m 32 #[.val (.int p1)] [])) rfl (hb hby own_rm2_d32)
          refine own_st (t' := T11.setTop (mkF m 35 #[.val (.int p1)] [(.ref wDECIMAL)])) st11 ?_
          have hv12 : ((.ref wDECIMAL) : Value) = w := by rw [hv, if_neg c2_1, if_neg c11_4, if_neg c20_7, if_pos c29_10]
          obtain ⟨fs, hr, hrun, hended, hW, hsame⟩ := X11.leave (v := some (.ref wDECIMAL)) (fun h => by rw [Bd.returns] at h; cases h)
          exact ⟨_, _, X11.areturnOut hx rfl Bd.returns rfl (hb hby own_rm2_d35) hr, hrun, hended, hP _ _ ⟨_, _, rfl, ⟨(congrArg some hv12), N0, e11⟩, ⟨_, rfl⟩, hW, hsame.mono (by decide) (by decide)⟩⟩
        · refine own_st (t' := s₁.setTop (mkF m 36 #[.val (.int p1)] [])) (fun _ k => XS.icmpYes X0.here hx rfl (pc0 := 29) (pc' := 36) rfl (hb hby own_rm2_d29) rfl (feq c29_10).2 (by decide) (by decide) k) ?_
          refine own_st (t' := s₁.setTop (mkF m 37 #[.val (.int p1)] [(.int p1)])) (fun _ k => XS.iloadN X0.here hx rfl (hb hby own_rm2_d36) rfl k) ?_
          refine own_st (t' := s₁.setTop (mkF m 38 #[.val (.int p1)] [(.int (5 : Int32)), (.int p1)])) (fun _ k => XS.iconst X0.here hx rfl (hb hby own_rm2_d37) k) ?_
          by_cases c38_13 : p1 = (5 : Int32)
          · refine own_st (t' := s₁.setTop (mkF m 41 #[.val (.int p1)] [])) (fun _ k => XS.icmpNo X0.here hx rfl (hb hby own_rm2_d38) rfl (teq c38_13).2 k) ?_
            obtain ⟨T14, X14, e14, st14⟩ := getS2 X0 hx hZ hown (host := "") (Or.inl (hw _ (List.mem_of_getElem? (i := 19) rfl))) Via.refl e0 S_BOOLEAN (g := (mkF m 41 #[.val (.int p1)] [])) rfl (hb hby own_rm2_d41)
            refine own_st (t' := T14.setTop (mkF m 44 #[.val (.int p1)] [(.ref wBOOLEAN)])) st14 ?_
            have hv15 : ((.ref wBOOLEAN) : Value) = w := by rw [hv, if_neg c2_1, if_neg c11_4, if_neg c20_7, if_neg c29_10, if_pos c38_13]
            obtain ⟨fs, hr, hrun, hended, hW, hsame⟩ := X14.leave (v := some (.ref wBOOLEAN)) (fun h => by rw [Bd.returns] at h; cases h)
            exact ⟨_, _, X14.areturnOut hx rfl Bd.returns rfl (hb hby own_rm2_d44) hr, hrun, hended, hP _ _ ⟨_, _, rfl, ⟨(congrArg some hv15), N0, e14⟩, ⟨_, rfl⟩, hW, hsame.mono (by decide) (by decide)⟩⟩
          · refine own_st (t' := s₁.setTop (mkF m 45 #[.val (.int p1)] [])) (fun _ k => XS.icmpYes X0.here hx rfl (pc0 := 38) (pc' := 45) rfl (hb hby own_rm2_d38) rfl (feq c38_13).2 (by decide) (by decide) k) ?_
            refine own_st (t' := s₁.setTop (mkF m 46 #[.val (.int p1)] [.null])) (fun _ k => XS.aconstNull X0.here hx rfl (hb hby own_rm2_d45) k) ?_
            have hv16 : (.null : Value) = w := by rw [hv, if_neg c2_1, if_neg c11_4, if_neg c20_7, if_neg c29_10, if_neg c38_13]
            obtain ⟨fs, hr, hrun, hended, hW, hsame⟩ := X0.leave (v := some .null) (fun h => by rw [Bd.returns] at h; cases h)
            exact ⟨_, _, X0.areturnOut hx rfl Bd.returns rfl (hb hby own_rm2_d46) hr, hrun, hended, hP _ _ ⟨_, _, rfl, ⟨(congrArg some hv16), N0, e0⟩, ⟨_, rfl⟩, hW, hsame.mono (by decide) (by decide)⟩⟩

theorem own_rm0_pn : plainName "com/example/hashbook/hashbook/proofs/ColumnTypeOfKindPinLaw" = true := by first | (simp [plainName, overriddenIn]; done) | decide +kernel
theorem own_rm0_pd0 : parseMethodDescriptor "(I)Lcom/example/hashbook/hashbook/proofs/ColumnType;" = some ⟨[.int], some (.object "com/example/hashbook/hashbook/proofs/ColumnType")⟩ := by decide +kernel
theorem own_rm0_ef (m : MethodId) (x0 : Int32) (x1 : Int32) : entryFrame m #[(.int x0), (.int x1)] maxLocals = mkF m 0 #[.val (.int x0), .val (.int x1), .unset, .unset, .unset] [] := by first | (simp [entryFrame, mkF, argsToLocals, Value.category, maxLocals]; done) | rfl
def own_rm0_Q (Z : State) (p1 : Int32) (p2 : Int32) (wALL : Addr) (kA : ClassId) (wTEXT : Addr) (wCOLUMNS : Addr) (wINTEGER : Addr) (wDECIMAL : Addr) (wBOOLEAN : Addr) (h0 : Heap) (n0 : Nat) (v : Option Value) (h : Heap) (L : List Loc) : Prop := v = some (.int ((1 : Int32))) ∧ Fr n0 L
set_option maxRecDepth 65536 in
set_option maxHeartbeats 40000000 in
theorem own_rm0 (l : Launch) (Z : State) (a0 : Array Value) (hw : ∀ d ∈ tables_1, d.before a0 Z = true) (ws : List Jvm.Cond) (p1 : Int32) (p2 : Int32) (wALL : Addr) (kA : ClassId) (wTEXT : Addr) (wCOLUMNS : Addr) (wINTEGER : Addr) (wDECIMAL : Addr) (wBOOLEAN : Addr) (h0 : Heap) (n0 : Nat) (Z0 : n0 ≤ h0.size) (S_ALL : Sta Z h0 "com/example/hashbook/hashbook/proofs/ColumnType" "ALL" "[Lcom/example/hashbook/hashbook/proofs/ColumnType;" (.ref wALL)) (V : Arv Z h0 wALL kA (.object "com/example/hashbook/hashbook/proofs/ColumnType") (5 : Int32) [(.ref wTEXT), (.ref wCOLUMNS), (.ref wINTEGER), (.ref wDECIMAL), (.ref wBOOLEAN)] .null) (F_TEXT : Fld Z h0 wTEXT "com/example/hashbook/hashbook/proofs/ColumnType" "kind" "I" (.int (1 : Int32))) (F_COLUMNS : Fld Z h0 wCOLUMNS "com/example/hashbook/hashbook/proofs/ColumnType" "kind" "I" (.int (2 : Int32))) (F_INTEGER : Fld Z h0 wINTEGER "com/example/hashbook/hashbook/proofs/ColumnType" "kind" "I" (.int (3 : Int32))) (F_DECIMAL : Fld Z h0 wDECIMAL "com/example/hashbook/hashbook/proofs/ColumnType" "kind" "I" (.int (4 : Int32))) (F_BOOLEAN : Fld Z h0 wBOOLEAN "com/example/hashbook/hashbook/proofs/ColumnType" "kind" "I" (.int (5 : Int32))) (S_TEXT : Sta Z h0 "com/example/hashbook/hashbook/proofs/ColumnType" "TEXT" "Lcom/example/hashbook/hashbook/proofs/ColumnType;" (.ref wTEXT)) (S_COLUMNS : Sta Z h0 "com/example/hashbook/hashbook/proofs/ColumnType" "COLUMNS" "Lcom/example/hashbook/hashbook/proofs/ColumnType;" (.ref wCOLUMNS)) (S_INTEGER : Sta Z h0 "com/example/hashbook/hashbook/proofs/ColumnType" "INTEGER" "Lcom/example/hashbook/hashbook/proofs/ColumnType;" (.ref wINTEGER)) (S_DECIMAL : Sta Z h0 "com/example/hashbook/hashbook/proofs/ColumnType" "DECIMAL" "Lcom/example/hashbook/hashbook/proofs/ColumnType;" (.ref wDECIMAL)) (S_BOOLEAN : Sta Z h0 "com/example/hashbook/hashbook/proofs/ColumnType" "BOOLEAN" "Lcom/example/hashbook/hashbook/proofs/ColumnType;" (.ref wBOOLEAN)) :
    MetFree l x (head1 (Jvm.Cond.code x code maxLocals ret :: ws) room_1) (fun a U => a = #[(.int p1), (.int p2)] ∧ Z.Warmed39 U.vm ∧ U.heap = h0) (fun _ _ _ _ _ => True) (fun _ U o U' => ∃ v L, o = .returned v ∧ own_rm0_Q Z p1 p2 wALL kA wTEXT wCOLUMNS wINTEGER wDECIMAL wBOOLEAN h0 n0 v U'.heap L ∧ FrameEnd U o U' L room_1.cells room_1.slots) := by
  refine MetFree.of_bodySF (plainFor_of_name own_rm0_pn) hisR ?_
  intro p e s m args below meth c s₁ Bd hml0 hPre hK
  obtain ⟨rfl, hZ, hh⟩ := hPre
  have hx := Bd.exec
  have hby := Bd.bytes
  have hml : c.maxLocals = 5 := hml0
  have hown : s.vm.findClass "com/example/hashbook/hashbook/proofs/ColumnTypeOfKindPinLaw" = some m.cls := findClass_of_methodNamed Bd.named
  have hnm := (name_of_methodNamed Bd.named Bd.method).1
  have X0 : Stand p l e room_1 s m #[(.int p1), (.int p2)] below meth c s₁ [] 0 0 := Stand.of_body Bd
  have e0 : s₁.heap = h0 := by rw [← hh, Bd.state]; rfl
  have N0 := Fr.nil n0
  refine own_body fun P hP => ?_
  refine own_st (t' := s₁.setTop (mkF m 0 #[.val (.int p1), .val (.int p2), .unset, .unset, .unset] [])) (fun _ k => castTop (own_rm0_ef m p1 p2) k) ?_
  refine own_st (t' := s₁.setTop (mkF m 1 #[.val (.int p1), .val (.int p2), .unset, .unset, .unset] [(.int p2)])) (fun _ k => XS.iloadN X0.here hx rfl (hb hby at_0) rfl k) ?_
  refine own_st (t' := s₁.setTop (mkF m 2 #[.val (.int p1), .val (.int p2), .unset, .unset, .unset] [(.int (1 : Int32)), (.int p2)])) (fun _ k => XS.iconst X0.here hx rfl (hb hby at_1) k) ?_
  refine own_st (t' := s₁.setTop (mkF m 3 #[.val (.int p1), .val (.int p2), .unset, .unset, .unset] [(.int (p2 &&& (1 : Int32)))])) (fun _ k => XS.iand X0.here hx rfl (hb hby at_2) rfl k) ?_
  by_cases c3_1 : (p2 &&& (1 : Int32)) = (0 : Int32)
  · refine own_st (t' := s₁.setTop (mkF m 10 #[.val (.int p1), .val (.int p2), .unset, .unset, .unset] [])) (fun _ k => XS.ifYes X0.here hx rfl (pc0 := 3) (pc' := 10) rfl (hb hby at_3) rfl ((if0 _ _).trans (teq c3_1).1) (by decide) (by decide) k) ?_
    refine own_st (t' := s₁.setTop (mkF m 11 #[.val (.int p1), .val (.int p2), .unset, .unset, .unset] [(.int (0 : Int32))])) (fun _ k => XS.iconst X0.here hx rfl (hb hby at_10) k) ?_
    refine own_st (t' := s₁.setTop (mkF m 12 #[.val (.int p1), .val (.int p2), .val (.int (0 : Int32)), .unset, .unset] [])) (fun _ k => XS.istoreN X0.here hx rfl (hb hby at_11) rfl (l' := #[.val (.int p1), .val (.int p2), .val (.int (0 : Int32)), .unset, .unset]) rfl k) ?_
    refine own_st (t' := s₁.setTop (mkF m 13 #[.val (.int p1), .val (.int p2), .val (.int (0 : Int32)), .unset, .unset] [(.int (0 : Int32))])) (fun _ k => XS.iloadN X0.here hx rfl (hb hby at_12) rfl k) ?_
    refine own_st (t' := s₁.setTop (mkF m 20 #[.val (.int p1), .val (.int p2), .val (.int (0 : Int32)), .unset, .unset] [])) (fun _ k => XS.ifYes X0.here hx rfl (pc0 := 13) (pc' := 20) rfl (hb hby at_13) rfl ((if0 _ _).trans (teq (by decide : (0 : Int32) = (0 : Int32))).1) (by decide) (by decide) k) ?_
    refine own_st (t' := s₁.setTop (mkF m 21 #[.val (.int p1), .val (.int p2), .val (.int (0 : Int32)), .unset, .unset] [(.int p1)])) (fun _ k => XS.iloadN X0.here hx rfl (hb hby at_20) rfl k) ?_
    refine own_st (t' := s₁.setTop (mkF m 23 #[.val (.int p1), .val (.int p2), .val (.int (0 : Int32)), .unset, .unset] [(.int (8 : Int32)), (.int p1)])) (fun _ k => XS.bipush X0.here hx rfl (hb hby at_21) k) ?_
    refine own_st (t' := s₁.setTop (mkF m 24 #[.val (.int p1), .val (.int p2), .val (.int (0 : Int32)), .unset, .unset] [(.int (p1 % (8 : Int32)))])) (fun _ k => iremM (g := (mkF m 23 #[.val (.int p1), .val (.int p2), .val (.int (0 : Int32)), .unset, .unset] [(.int (8 : Int32)), (.int p1)])) X0 hx rfl (hb hby at_23) rfl (by decide) k) ?_
    refine own_st (t' := s₁.setTop (mkF m 25 #[.val (.int p1), .val (.int p2), .val (.int (0 : Int32)), .val (.int (p1 % (8 : Int32))), .unset] [])) (fun _ k => XS.istoreN X0.here hx rfl (hb hby at_24) rfl (l' := #[.val (.int p1), .val (.int p2), .val (.int (0 : Int32)), .val (.int (p1 % (8 : Int32))), .unset]) rfl k) ?_
    generalize (p1 % (8 : Int32)) = kk
    by_cases hk1 : kk = (1 : Int32)
    · refine own_st (t' := s₁.setTop (mkF m 26 #[.val (.int p1), .val (.int p2), .val (.int (0 : Int32)), .val (.int kk), .unset] [(.int kk)])) (fun _ k => XS.iloadN X0.here hx rfl (hb hby at_25) rfl k) ?_
      obtain ⟨_, _, ⟨T2, L2, k2, n2⟩, -, X2, ⟨Lc2, hQ2, l2, y2, z2⟩, st2⟩ := Jvm.LawKit.callS X0 hx (y := (⟨"com/example/hashbook/hashbook/proofs/ColumnType", "ofKind", "(I)Lcom/example/hashbook/hashbook/proofs/ColumnType;"⟩ : MethodName)) hown (mvT hZ (hw _ (List.mem_of_getElem? (i := 0) rfl))) (mvT hZ (hw _ (List.mem_of_getElem? (i := 1) rfl))) (mvT hZ (hw _ (List.mem_of_getElem? (i := 2) rfl))) (mvT hZ (hw _ (List.mem_of_getElem? (i := 3) rfl))) (by decide) (backOf (W := 0) (own_rm1 l Z a0 hw [] kk wALL kA wTEXT wCOLUMNS wINTEGER wDECIMAL wBOOLEAN (.ref wTEXT) h0 n0 Z0 S_ALL V F_TEXT F_COLUMNS F_INTEGER F_DECIMAL F_BOOLEAN (by rw [if_pos hk1.symm])) hZ (hw _ (List.mem_of_getElem? (i := 3) rfl)) (hw _ (List.mem_of_getElem? (i := 2) rfl)) (by decide) (by decide)) (g := (mkF m 26 #[.val (.int p1), .val (.int p2), .val (.int (0 : Int32)), .val (.int kk), .unset] [(.int kk)])) rfl (by rw [hml]; rfl) (argsL := [(.int kk)]) (rest := []) (lenOf own_rm0_pd0 rfl) rfl (by show 2 * 0 + _ ≤ _; exact Nat.le_of_eq rfl) (hb hby at_26) (fun _ _ => ⟨rfl, e0, (by decide : 0 + 0 ≤ _), (by decide : 0 + 0 ≤ _)⟩)
      dsimp only [Pt.U, Pt.locs, Pt.cells, Pt.slots] at X2 l2 y2 z2 st2 hQ2
      subst l2 y2 z2
      obtain ⟨rfl, N2q, e2⟩ := hQ2
      have N2 := Fr.app N0 N2q
      refine own_st (t' := T2.setTop (mkF m 29 #[.val (.int p1), .val (.int p2), .val (.int (0 : Int32)), .val (.int kk), .unset] [(.ref wTEXT)])) st2 ?_
      refine own_st (t' := T2.setTop (mkF m 31 #[.val (.int p1), .val (.int p2), .val (.int (0 : Int32)), .val (.int kk), .val (.ref wTEXT)] [])) (fun _ k => XS.astore X2.here hx rfl (hb hby at_29) rfl rfl (l' := #[.val (.int p1), .val (.int p2), .val (.int (0 : Int32)), .val (.int kk), .val (.ref wTEXT)]) rfl k) ?_
      refine own_st (t' := T2.setTop (mkF m 33 #[.val (.int p1), .val (.int p2), .val (.int (0 : Int32)), .val (.int kk), .val (.ref wTEXT)] [(.ref wTEXT)])) (fun _ k => XS.aload X2.here hx rfl (hb hby at_31) rfl rfl k) ?_
      refine own_st (t' := T2.setTop (mkF m 34 #[.val (.int p1), .val (.int p2), .val (.int (0 : Int32)), .val (.int kk), .val (.ref wTEXT)] [(.int kk), (.ref wTEXT)])) (fun _ k => XS.iloadN X2.here hx rfl (hb hby at_33) rfl k) ?_
      obtain ⟨_, _, ⟨T3, L3, k3, n3⟩, -, X3, ⟨Lc3, hQ3, l3, y3, z3⟩, st3⟩ := Jvm.LawKit.callS X2 hx (y := (⟨"com/example/hashbook/hashbook/proofs/ColumnTypeOfKindPinLaw", "expected", "(I)Lcom/example/hashbook/hashbook/proofs/ColumnType;"⟩ : MethodName)) hown (mvT hZ (hw _ (List.mem_of_getElem? (i := 13) rfl))) (mvT hZ (hw _ (List.mem_of_getElem? (i := 14) rfl))) (mvT hZ (hw _ (List.mem_of_getElem? (i := 15) rfl))) (mvT hZ (hw _ (List.mem_of_getElem? (i := 16) rfl))) (by decide) (backOf (W := 1) (own_rm2 l Z a0 hw [] kk wTEXT wCOLUMNS wINTEGER wDECIMAL wBOOLEAN (.ref wTEXT) h0 n0 Z0 S_TEXT S_COLUMNS S_INTEGER S_DECIMAL S_BOOLEAN (by rw [if_pos hk1])) hZ (hw _ (List.mem_of_getElem? (i := 16) rfl)) (hw _ (List.mem_of_getElem? (i := 15) rfl)) (by decide) (by decide)) (g := (mkF m 34 #[.val (.int p1), .val (.int p2), .val (.int (0 : Int32)), .val (.int kk), .val (.ref wTEXT)] [(.int kk), (.ref wTEXT)])) rfl (by rw [hml]; rfl) (argsL := [(.int kk)]) (rest := [(.ref wTEXT)]) (lenOf own_rm0_pd0 rfl) rfl (by show 2 * 0 + _ ≤ _; exact Nat.le_of_eq rfl) (hb hby at_34) (fun _ _ => ⟨rfl, e2, (by decide : 0 + 0 + 0 ≤ _), (by decide : 0 + 0 + 0 ≤ _)⟩)
      dsimp only [Pt.U, Pt.locs, Pt.cells, Pt.slots] at X3 l3 y3 z3 st3 hQ3
      subst l3 y3 z3
      obtain ⟨rfl, N3q, e3⟩ := hQ3
      have N3 := Fr.app N2 N3q
      refine own_st (t' := T3.setTop (mkF m 37 #[.val (.int p1), .val (.int p2), .val (.int (0 : Int32)), .val (.int kk), .val (.ref wTEXT)] [(.ref wTEXT), (.ref wTEXT)])) st3 ?_
      refine own_st (t' := T3.setTop (mkF m 40 #[.val (.int p1), .val (.int p2), .val (.int (0 : Int32)), .val (.int kk), .val (.ref wTEXT)] [])) (fun _ k => Jvm.RoadKit.acmp (g := (mkF m 37 #[.val (.int p1), .val (.int p2), .val (.int (0 : Int32)), .val (.int kk), .val (.ref wTEXT)] [(.ref wTEXT), (.ref wTEXT)])) X3 hx rfl rfl rfl (pc0 := 37) (pc' := 40) (same := true) rfl (hb hby at_37) rfl (decide_eq_true rfl) (by decide) (by decide) k) ?_
      refine own_st (t' := T3.setTop (mkF m 41 #[.val (.int p1), .val (.int p2), .val (.int (0 : Int32)), .val (.int kk), .val (.ref wTEXT)] [(.int (1 : Int32))])) (fun _ k => XS.iconst X3.here hx rfl (hb hby at_40) k) ?_
      refine own_st (t' := T3.setTop (mkF m 45 #[.val (.int p1), .val (.int p2), .val (.int (0 : Int32)), .val (.int kk), .val (.ref wTEXT)] [(.int (1 : Int32))])) (fun _ k => XS.goto X3.here hx rfl (pc0 := 41) (pc' := 45) rfl (hb hby at_41) (by decide) (by decide) k) ?_
      have hv4 : (1 : Int32) = (1 : Int32) := rfl
      obtain ⟨fs, hr, hrun, hended, hW, hsame⟩ := X3.leave (v := some (.int (1 : Int32))) (fun h => by rw [Bd.returns] at h; cases h)
      exact ⟨_, _, retN X3 hx (t := .boolean) Bd.returns (by simp) (hb hby at_45) hr, hrun, hended, hP _ _ ⟨_, _, rfl, ⟨(congrArg (fun z => some (Value.int z)) hv4), N3⟩, ⟨_, rfl⟩, hW, hsame.mono (by decide) (by decide)⟩⟩
    by_cases hk2 : kk = (2 : Int32)
    · refine own_st (t' := s₁.setTop (mkF m 26 #[.val (.int p1), .val (.int p2), .val (.int (0 : Int32)), .val (.int kk), .unset] [(.int kk)])) (fun _ k => XS.iloadN X0.here hx rfl (hb hby at_25) rfl k) ?_
      obtain ⟨_, _, ⟨T5, L5, k5, n5⟩, -, X5, ⟨Lc5, hQ5, l5, y5, z5⟩, st5⟩ := Jvm.LawKit.callS X0 hx (y := (⟨"com/example/hashbook/hashbook/proofs/ColumnType", "ofKind", "(I)Lcom/example/hashbook/hashbook/proofs/ColumnType;"⟩ : MethodName)) hown (mvT hZ (hw _ (List.mem_of_getElem? (i := 0) rfl))) (mvT hZ (hw _ (List.mem_of_getElem? (i := 1) rfl))) (mvT hZ (hw _ (List.mem_of_getElem? (i := 2) rfl))) (mvT hZ (hw _ (List.mem_of_getElem? (i := 3) rfl))) (by decide) (backOf (W := 0) (own_rm1 l Z a0 hw [] kk wALL kA wTEXT wCOLUMNS wINTEGER wDECIMAL wBOOLEAN (.ref wCOLUMNS) h0 n0 Z0 S_ALL V F_TEXT F_COLUMNS F_INTEGER F_DECIMAL F_BOOLEAN (by rw [if_neg (Ne.symm hk1), if_pos hk2.symm])) hZ (hw _ (List.mem_of_getElem? (i := 3) rfl)) (hw _ (List.mem_of_getElem? (i := 2) rfl)) (by decide) (by decide)) (g := (mkF m 26 #[.val (.int p1), .val (.int p2), .val (.int (0 : Int32)), .val (.int kk), .unset] [(.int kk)])) rfl (by rw [hml]; rfl) (argsL := [(.int kk)]) (rest := []) (lenOf own_rm0_pd0 rfl) rfl (by show 2 * 0 + _ ≤ _; exact Nat.le_of_eq rfl) (hb hby at_26) (fun _ _ => ⟨rfl, e0, (by decide : 0 + 0 ≤ _), (by decide : 0 + 0 ≤ _)⟩)
      dsimp only [Pt.U, Pt.locs, Pt.cells, Pt.slots] at X5 l5 y5 z5 st5 hQ5
      subst l5 y5 z5
      obtain ⟨rfl, N5q, e5⟩ := hQ5
      have N5 := Fr.app N0 N5q
      refine own_st (t' := T5.setTop (mkF m 29 #[.val (.int p1), .val (.int p2), .val (.int (0 : Int32)), .val (.int kk), .unset] [(.ref wCOLUMNS)])) st5 ?_
      refine own_st (t' := T5.setTop (mkF m 31 #[.val (.int p1), .val (.int p2), .val (.int (0 : Int32)), .val (.int kk), .val (.ref wCOLUMNS)] [])) (fun _ k => XS.astore X5.here hx rfl (hb hby at_29) rfl rfl (l' := #[.val (.int p1), .val (.int p2), .val (.int (0 : Int32)), .val (.int kk), .val (.ref wCOLUMNS)]) rfl k) ?_
      refine own_st (t' := T5.setTop (mkF m 33 #[.val (.int p1), .val (.int p2), .val (.int (0 : Int32)), .val (.int kk), .val (.ref wCOLUMNS)] [(.ref wCOLUMNS)])) (fun _ k => XS.aload X5.here hx rfl (hb hby at_31) rfl rfl k) ?_
      refine own_st (t' := T5.setTop (mkF m 34 #[.val (.int p1), .val (.int p2), .val (.int (0 : Int32)), .val (.int kk), .val (.ref wCOLUMNS)] [(.int kk), (.ref wCOLUMNS)])) (fun _ k => XS.iloadN X5.here hx rfl (hb hby at_33) rfl k) ?_
      obtain ⟨_, _, ⟨T6, L6, k6, n6⟩, -, X6, ⟨Lc6, hQ6, l6, y6, z6⟩, st6⟩ := Jvm.LawKit.callS X5 hx (y := (⟨"com/example/hashbook/hashbook/proofs/ColumnTypeOfKindPinLaw", "expected", "(I)Lcom/example/hashbook/hashbook/proofs/ColumnType;"⟩ : MethodName)) hown (mvT hZ (hw _ (List.mem_of_getElem? (i := 13) rfl))) (mvT hZ (hw _ (List.mem_of_getElem? (i := 14) rfl))) (mvT hZ (hw _ (List.mem_of_getElem? (i := 15) rfl))) (mvT hZ (hw _ (List.mem_of_getElem? (i := 16) rfl))) (by decide) (backOf (W := 1) (own_rm2 l Z a0 hw [] kk wTEXT wCOLUMNS wINTEGER wDECIMAL wBOOLEAN (.ref wCOLUMNS) h0 n0 Z0 S_TEXT S_COLUMNS S_INTEGER S_DECIMAL S_BOOLEAN (by rw [if_neg hk1, if_pos hk2])) hZ (hw _ (List.mem_of_getElem? (i := 16) rfl)) (hw _ (List.mem_of_getElem? (i := 15) rfl)) (by decide) (by decide)) (g := (mkF m 34 #[.val (.int p1), .val (.int p2), .val (.int (0 : Int32)), .val (.int kk), .val (.ref wCOLUMNS)] [(.int kk), (.ref wCOLUMNS)])) rfl (by rw [hml]; rfl) (argsL := [(.int kk)]) (rest := [(.ref wCOLUMNS)]) (lenOf own_rm0_pd0 rfl) rfl (by show 2 * 0 + _ ≤ _; exact Nat.le_of_eq rfl) (hb hby at_34) (fun _ _ => ⟨rfl, e5, (by decide : 0 + 0 + 0 ≤ _), (by decide : 0 + 0 + 0 ≤ _)⟩)
      dsimp only [Pt.U, Pt.locs, Pt.cells, Pt.slots] at X6 l6 y6 z6 st6 hQ6
      subst l6 y6 z6
      obtain ⟨rfl, N6q, e6⟩ := hQ6
      have N6 := Fr.app N5 N6q
      refine own_st (t' := T6.setTop (mkF m 37 #[.val (.int p1), .val (.int p2), .val (.int (0 : Int32)), .val (.int kk), .val (.ref wCOLUMNS)] [(.ref wCOLUMNS), (.ref wCOLUMNS)])) st6 ?_
      refine own_st (t' := T6.setTop (mkF m 40 #[.val (.int p1), .val (.int p2), .val (.int (0 : Int32)), .val (.int kk), .val (.ref wCOLUMNS)] [])) (fun _ k => Jvm.RoadKit.acmp (g := (mkF m 37 #[.val (.int p1), .val (.int p2), .val (.int (0 : Int32)), .val (.int kk), .val (.ref wCOLUMNS)] [(.ref wCOLUMNS), (.ref wCOLUMNS)])) X6 hx rfl rfl rfl (pc0 := 37) (pc' := 40) (same := true) rfl (hb hby at_37) rfl (decide_eq_true rfl) (by decide) (by decide) k) ?_
      refine own_st (t' := T6.setTop (mkF m 41 #[.val (.int p1), .val (.int p2), .val (.int (0 : Int32)), .val (.int kk), .val (.ref wCOLUMNS)] [(.int (1 : Int32))])) (fun _ k => XS.iconst X6.here hx rfl (hb hby at_40) k) ?_
      refine own_st (t' := T6.setTop (mkF m 45 #[.val (.int p1), .val (.int p2), .val (.int (0 : Int32)), .val (.int kk), .val (.ref wCOLUMNS)] [(.int (1 : Int32))])) (fun _ k => XS.goto X6.here hx rfl (pc0 := 41) (pc' := 45) rfl (hb hby at_41) (by decide) (by decide) k) ?_
      have hv7 : (1 : Int32) = (1 : Int32) := rfl
      obtain ⟨fs, hr, hrun, hended, hW, hsame⟩ := X6.leave (v := some (.int (1 : Int32))) (fun h => by rw [Bd.returns] at h; cases h)
      exact ⟨_, _, retN X6 hx (t := .boolean) Bd.returns (by simp) (hb hby at_45) hr, hrun, hended, hP _ _ ⟨_, _, rfl, ⟨(congrArg (fun z => some (Value.int z)) hv7), N6⟩, ⟨_, rfl⟩, hW, hsame.mono (by decide) (by decide)⟩⟩
    by_cases hk3 : kk = (3 : Int32)
    · refine own_st (t' := s₁.setTop (mkF m 26 #[.val (.int p1), .val (.int p2), .val (.int (0 : Int32)), .val (.int kk), .unset] [(.int kk)])) (fun _ k => XS.iloadN X0.here hx rfl (hb hby at_25) rfl k) ?_
      obtain ⟨_, _, ⟨T8, L8, k8, n8⟩, -, X8, ⟨Lc8, hQ8, l8, y8, z8⟩, st8⟩ := Jvm.LawKit.callS X0 hx (y := (⟨"com/example/hashbook/hashbook/proofs/ColumnType", "ofKind", "(I)Lcom/example/hashbook/hashbook/proofs/ColumnType;"⟩ : MethodName)) hown (mvT hZ (hw _ (List.mem_of_getElem? (i := 0) rfl))) (mvT hZ (hw _ (List.mem_of_getElem? (i := 1) rfl))) (mvT hZ (hw _ (List.mem_of_getElem? (i := 2) rfl))) (mvT hZ (hw _ (List.mem_of_getElem? (i := 3) rfl))) (by decide) (backOf (W := 0) (own_rm1 l Z a0 hw [] kk wALL kA wTEXT wCOLUMNS wINTEGER wDECIMAL wBOOLEAN (.ref wINTEGER) h0 n0 Z0 S_ALL V F_TEXT F_COLUMNS F_INTEGER F_DECIMAL F_BOOLEAN (by rw [if_neg (Ne.symm hk1), if_neg (Ne.symm hk2), if_pos hk3.symm])) hZ (hw _ (List.mem_of_getElem? (i := 3) rfl)) (hw _ (List.mem_of_getElem? (i := 2) rfl)) (by decide) (by decide)) (g := (mkF m 26 #[.val (.int p1), .val (.int p2), .val (.int (0 : Int32)), .val (.int kk), .unset] [(.int kk)])) rfl (by rw [hml]; rfl) (argsL := [(.int kk)]) (rest := []) (lenOf own_rm0_pd0 rfl) rfl (by show 2 * 0 + _ ≤ _; exact Nat.le_of_eq rfl) (hb hby at_26) (fun _ _ => ⟨rfl, e0, (by decide : 0 + 0 ≤ _), (by decide : 0 + 0 ≤ _)⟩)
      dsimp only [Pt.U, Pt.locs, Pt.cells, Pt.slots] at X8 l8 y8 z8 st8 hQ8
      subst l8 y8 z8
      obtain ⟨rfl, N8q, e8⟩ := hQ8
      have N8 := Fr.app N0 N8q
      refine own_st (t' := T8.setTop (mkF m 29 #[.val (.int p1), .val (.int p2), .val (.int (0 : Int32)), .val (.int kk), .unset] [(.ref wINTEGER)])) st8 ?_
      refine own_st (t' := T8.setTop (mkF m 31 #[.val (.int p1), .val (.int p2), .val (.int (0 : Int32)), .val (.int kk), .val (.ref wINTEGER)] [])) (fun _ k => XS.astore X8.here hx rfl (hb hby at_29) rfl rfl (l' := #[.val (.int p1), .val (.int p2), .val (.int (0 : Int32)), .val (.int kk), .val (.ref wINTEGER)]) rfl k) ?_
      refine own_st (t' := T8.setTop (mkF m 33 #[.val (.int p1), .val (.int p2), .val (.int (0 : Int32)), .val (.int kk), .val (.ref wINTEGER)] [(.ref wINTEGER)])) (fun _ k => XS.aload X8.here hx rfl (hb hby at_31) rfl rfl k) ?_
      refine own_st (t' := T8.setTop (mkF m 34 #[.val (.int p1), .val (.int p2), .val (.int (0 : Int32)), .val (.int kk), .val (.ref wINTEGER)] [(.int kk), (.ref wINTEGER)])) (fun _ k => XS.iloadN X8.here hx rfl (hb hby at_33) rfl k) ?_
      obtain ⟨_, _, ⟨T9, L9, k9, n9⟩, -, X9, ⟨Lc9, hQ9, l9, y9, z9⟩, st9⟩ := Jvm.LawKit.callS X8 hx (y := (⟨"com/example/hashbook/hashbook/proofs/ColumnTypeOfKindPinLaw", "expected", "(I)Lcom/example/hashbook/hashbook/proofs/ColumnType;"⟩ : MethodName)) hown (mvT hZ (hw _ (List.mem_of_getElem? (i := 13) rfl))) (mvT hZ (hw _ (List.mem_of_getElem? (i := 14) rfl))) (mvT hZ (hw _ (List.mem_of_getElem? (i := 15) rfl))) (mvT hZ (hw _ (List.mem_of_getElem? (i := 16) rfl))) (by decide) (backOf (W := 1) (own_rm2 l Z a0 hw [] kk wTEXT wCOLUMNS wINTEGER wDECIMAL wBOOLEAN (.ref wINTEGER) h0 n0 Z0 S_TEXT S_COLUMNS S_INTEGER S_DECIMAL S_BOOLEAN (by rw [if_neg hk1, if_neg hk2, if_pos hk3])) hZ (hw _ (List.mem_of_getElem? (i := 16) rfl)) (hw _ (List.mem_of_getElem? (i := 15) rfl)) (by decide) (by decide)) (g := (mkF m 34 #[.val (.int p1), .val (.int p2), .val (.int (0 : Int32)), .val (.int kk), .val (.ref wINTEGER)] [(.int kk), (.ref wINTEGER)])) rfl (by rw [hml]; rfl) (argsL := [(.int kk)]) (rest := [(.ref wINTEGER)]) (lenOf own_rm0_pd0 rfl) rfl (by show 2 * 0 + _ ≤ _; exact Nat.le_of_eq rfl) (hb hby at_34) (fun _ _ => ⟨rfl, e8, (by decide : 0 + 0 + 0 ≤ _), (by decide : 0 + 0 + 0 ≤ _)⟩)
      dsimp only [Pt.U, Pt.locs, Pt.cells, Pt.slots] at X9 l9 y9 z9 st9 hQ9
      subst l9 y9 z9
      obtain ⟨rfl, N9q, e9⟩ := hQ9
      have N9 := Fr.app N8 N9q
      refine own_st (t' := T9.setTop (mkF m 37 #[.val (.int p1), .val (.int p2), .val (.int (0 : Int32)), .val (.int kk), .val (.ref wINTEGER)] [(.ref wINTEGER), (.ref wINTEGER)])) st9 ?_
      refine own_st (t' := T9.setTop (mkF m 40 #[.val (.int p1), .val (.int p2), .val (.int (0 : Int32)), .val (.int kk), .val (.ref wINTEGER)] [])) (fun _ k => Jvm.RoadKit.acmp (g := (mkF m 37 #[.val (.int p1), .val (.int p2), .val (.int (0 : Int32)), .val (.int kk), .val (.ref wINTEGER)] [(.ref wINTEGER), (.ref wINTEGER)])) X9 hx rfl rfl rfl (pc0 := 37) (pc' := 40) (same := true) rfl (hb hby at_37) rfl (decide_eq_true rfl) (by decide) (by decide) k) ?_
      refine own_st (t' := T9.setTop (mkF m 41 #[.val (.int p1), .val (.int p2), .val (.int (0 : Int32)), .val (.int kk), .val (.ref wINTEGER)] [(.int (1 : Int32))])) (fun _ k => XS.iconst X9.here hx rfl (hb hby at_40) k) ?_
      refine own_st (t' := T9.setTop (mkF m 45 #[.val (.int p1), .val (.int p2), .val (.int (0 : Int32)), .val (.int kk), .val (.ref wINTEGER)] [(.int (1 : Int32))])) (fun _ k => XS.goto X9.here hx rfl (pc0 := 41) (pc' := 45) rfl (hb hby at_41) (by decide) (by decide) k) ?_
      have hv10 : (1 : Int32) = (1 : Int32) := rfl
      obtain ⟨fs, hr, hrun, hended, hW, hsame⟩ := X9.leave (v := some (.int (1 : Int32))) (fun h => by rw [Bd.returns] at h; cases h)
      exact ⟨_, _, retN X9 hx (t := .boolean) Bd.returns (by simp) (hb hby at_45) hr, hrun, hended, hP _ _ ⟨_, _, rfl, ⟨(congrArg (fun z => some (Value.int z)) hv10), N9⟩, ⟨_, rfl⟩, hW, hsame.mono (by decide) (by decide)⟩⟩
    by_cases hk4 : kk = (4 : Int32)
    · refine own_st (t' := s₁.setTop (mkF m 26 #[.val (.int p1), .val (.int p2), .val (.int (0 : Int32)), .val (.int kk), .unset] [(.int kk)])) (fun _ k => XS.iloadN X0.here hx rfl (hb hby at_25) rfl k) ?_
      obtain ⟨_, _, ⟨T11, L11, k11, n11⟩, -, X11, ⟨Lc11, hQ11, l11, y11, z11⟩, st11⟩ := Jvm.LawKit.callS X0 hx (y := (⟨"com/example/hashbook/hashbook/proofs/ColumnType", "ofKind", "(I)Lcom/example/hashbook/hashbook/proofs/ColumnType;"⟩ : MethodName)) hown (mvT hZ (hw _ (List.mem_of_getElem? (i := 0) rfl))) (mvT hZ (hw _ (List.mem_of_getElem? (i := 1) rfl))) (mvT hZ (hw _ (List.mem_of_getElem? (i := 2) rfl))) (mvT hZ (hw _ (List.mem_of_getElem? (i := 3) rfl))) (by decide) (backOf (W := 0) (own_rm1 l Z a0 hw [] kk wALL kA wTEXT wCOLUMNS wINTEGER wDECIMAL wBOOLEAN (.ref wDECIMAL) h0 n0 Z0 S_ALL V F_TEXT F_COLUMNS F_INTEGER F_DECIMAL F_BOOLEAN (by rw [if_neg (Ne.symm hk1), if_neg (Ne.symm hk2), if_neg (Ne.symm hk3), if_pos hk4.symm])) hZ (hw _ (List.mem_of_getElem? (i := 3) rfl)) (hw _ (List.mem_of_getElem? (i := 2) rfl)) (by decide) (by decide)) (g := (mkF m 26 #[.val (.int p1), .val (.int p2), .val (.int (0 : Int32)), .val (.int kk), .unset] [(.int kk)])) rfl (by rw [hml]; rfl) (argsL := [(.int kk)]) (rest := []) (lenOf own_rm0_pd0 rfl) rfl (by show 2 * 0 + _ ≤ _; exact Nat.le_of_eq rfl) (hb hby at_26) (fun _ _ => ⟨rfl, e0, (by decide : 0 + 0 ≤ _), (by decide : 0 + 0 ≤ _)⟩)
      dsimp only [Pt.U, Pt.locs, Pt.cells, Pt.slots] at X11 l11 y11 z11 st11 hQ11
      subst l11 y11 z11
      obtain ⟨rfl, N11q, e11⟩ := hQ11
      have N11 := Fr.app N0 N11q
      refine own_st (t' := T11.setTop (mkF m 29 #[.val (.int p1), .val (.int p2), .val (.int (0 : Int32)), .val (.int kk), .unset] [(.ref wDECIMAL)])) st11 ?_
      refine own_st (t' := T11.setTop (mkF m 31 #[.val (.int p1), .val (.int p2), .val (.int (0 : Int32)), .val (.int kk), .val (.ref wDECIMAL)] [])) (fun _ k => XS.astore X11.here hx rfl (hb hby at_29) rfl rfl (l' := #[.val (.int p1), .val (.int p2), .val (.int (0 : Int32)), .val (.int kk), .val (.ref wDECIMAL)]) rfl k) ?_
      refine own_st (t' := T11.setTop (mkF m 33 #[.val (.int p1), .val (.int p2), .val (.int (0 : Int32)), .val (.int kk), .val (.ref wDECIMAL)] [(.ref wDECIMAL)])) (fun _ k => XS.aload X11.here hx rfl (hb hby at_31) rfl rfl k) ?_
      refine own_st (t' := T11.setTop (mkF m 34 #[.val (.int p1), .val (.int p2), .val (.int (0 : Int32)), .val (.int kk), .val (.ref wDECIMAL)] [(.int kk), (.ref wDECIMAL)])) (fun _ k => XS.iloadN X11.here hx rfl (hb hby at_33) rfl k) ?_
      obtain ⟨_, _, ⟨T12, L12, k12, n12⟩, -, X12, ⟨Lc12, hQ12, l12, y12, z12⟩, st12⟩ := Jvm.LawKit.callS X11 hx (y := (⟨"com/example/hashbook/hashbook/proofs/ColumnTypeOfKindPinLaw", "expected", "(I)Lcom/example/hashbook/hashbook/proofs/ColumnType;"⟩ : MethodName)) hown (mvT hZ (hw _ (List.mem_of_getElem? (i := 13) rfl))) (mvT hZ (hw _ (List.mem_of_getElem? (i := 14) rfl))) (mvT hZ (hw _ (List.mem_of_getElem? (i := 15) rfl))) (mvT hZ (hw _ (List.mem_of_getElem? (i := 16) rfl))) (by decide) (backOf (W := 1) (own_rm2 l Z a0 hw [] kk wTEXT wCOLUMNS wINTEGER wDECIMAL wBOOLEAN (.ref wDECIMAL) h0 n0 Z0 S_TEXT S_COLUMNS S_INTEGER S_DECIMAL S_BOOLEAN (by rw [if_neg hk1, if_neg hk2, if_neg hk3, if_pos hk4])) hZ (hw _ (List.mem_of_getElem? (i := 16) rfl)) (hw _ (List.mem_of_getElem? (i := 15) rfl)) (by decide) (by decide)) (g := (mkF m 34 #[.val (.int p1), .val (.int p2), .val (.int (0 : Int32)), .val (.int kk), .val (.ref wDECIMAL)] [(.int kk), (.ref wDECIMAL)])) rfl (by rw [hml]; rfl) (argsL := [(.int kk)]) (rest := [(.ref wDECIMAL)]) (lenOf own_rm0_pd0 rfl) rfl (by show 2 * 0 + _ ≤ _; exact Nat.le_of_eq rfl) (hb hby at_34) (fun _ _ => ⟨rfl, e11, (by decide : 0 + 0 + 0 ≤ _), (by decide : 0 + 0 + 0 ≤ _)⟩)
      dsimp only [Pt.U, Pt.locs, Pt.cells, Pt.slots] at X12 l12 y12 z12 st12 hQ12
      subst l12 y12 z12
      obtain ⟨rfl, N12q, e12⟩ := hQ12
      have N12 := Fr.app N11 N12q
      refine own_st (t' := T12.setTop (mkF m 37 #[.val (.int p1), .val (.int p2), .val (.int (0 : Int32)), .val (.int kk), .val (.ref wDECIMAL)] [(.ref wDECIMAL), (.ref wDECIMAL)])) st12 ?_
      refine own_st (t' := T12.setTop (mkF m 40 #[.val (.int p1), .val (.int p2), .val (.int (0 : Int32)), .val (.int kk), .val (.ref wDECIMAL)] [])) (fun _ k => Jvm.RoadKit.acmp (g := (mkF m 37 #[.val (.int p1), .val (.int p2), .val (.int (0 : Int32)), .val (.int kk), .val (.ref wDECIMAL)] [(.ref wDECIMAL), (.ref wDECIMAL)])) X12 hx rfl rfl rfl (pc0 := 37) (pc' := 40) (same := true) rfl (hb hby at_37) rfl (decide_eq_true rfl) (by decide) (by decide) k) ?_
      refine own_st (t' := T12.setTop (mkF m 41 #[.val (.int p1), .val (.int p2), .val (.int (0 : Int32)), .val (.int kk), .val (.ref wDECIMAL)] [(.int (1 : Int32))])) (fun _ k => XS.iconst X12.here hx rfl (hb hby at_40) k) ?_
      refine own_st (t' := T12.setTop (mkF m 45 #[.val (.int p1), .val (.int p2), .val (.int (0 : Int32)), .val (.int kk), .val (.ref wDECIMAL)] [(.int (1 : Int32))])) (fun _ k => XS.goto X12.here hx rfl (pc0 := 41) (pc' := 45) rfl (hb hby at_41) (by decide) (by decide) k) ?_
      have hv13 : (1 : Int32) = (1 : Int32) := rfl
      obtain ⟨fs, hr, hrun, hended, hW, hsame⟩ := X12.leave (v := some (.int (1 : Int32))) (fun h => by rw [Bd.returns] at h; cases h)
      exact ⟨_, _, retN X12 hx (t := .boolean) Bd.returns (by simp) (hb hby at_45) hr, hrun, hended, hP _ _ ⟨_, _, rfl, ⟨(congrArg (fun z => some (Value.int z)) hv13), N12⟩, ⟨_, rfl⟩, hW, hsame.mono (by decide) (by decide)⟩⟩
    by_cases hk5 : kk = (5 : Int32)
    · refine own_st (t' := s₁.setTop (mkF m 26 #[.val (.int p1), .val (.int p2), .val (.int (0 : Int32)), .val (.int kk), .unset] [(.int kk)])) (fun _ k => XS.iloadN X0.here hx rfl (hb hby at_25) rfl k) ?_
      obtain ⟨_, _, ⟨T14, L14, k14, n14⟩, -, X14, ⟨Lc14, hQ14, l14, y14, z14⟩, st14⟩ := Jvm.LawKit.callS X0 hx (y := (⟨"com/example/hashbook/hashbook/proofs/ColumnType", "ofKind", "(I)Lcom/example/hashbook/hashbook/proofs/ColumnType;"⟩ : MethodName)) hown (mvT hZ (hw _ (List.mem_of_getElem? (i := 0) rfl))) (mvT hZ (hw _ (List.mem_of_getElem? (i := 1) rfl))) (mvT hZ (hw _ (List.mem_of_getElem? (i := 2) rfl))) (mvT hZ (hw _ (List.mem_of_getElem? (i := 3) rfl))) (by decide) (backOf (W := 0) (own_rm1 l Z a0 hw [] kk wALL kA wTEXT wCOLUMNS wINTEGER wDECIMAL wBOOLEAN (.ref wBOOLEAN) h0 n0 Z0 S_ALL V F_TEXT F_COLUMNS F_INTEGER F_DECIMAL F_BOOLEAN (by rw [if_neg (Ne.symm hk1), if_neg (Ne.symm hk2), if_neg (Ne.symm hk3), if_neg (Ne.symm hk4), if_pos hk5.symm])) hZ (hw _ (List.mem_of_getElem? (i := 3) rfl)) (hw _ (List.mem_of_getElem? (i := 2) rfl)) (by decide) (by decide)) (g := (mkF m 26 #[.val (.int p1), .val (.int p2), .val (.int (0 : Int32)), .val (.int kk), .unset] [(.int kk)])) rfl (by rw [hml]; rfl) (argsL := [(.int kk)]) (rest := []) (lenOf own_rm0_pd0 rfl) rfl (by show 2 * 0 + _ ≤ _; exact Nat.le_of_eq rfl) (hb hby at_26) (fun _ _ => ⟨rfl, e0, (by decide : 0 + 0 ≤ _), (by decide : 0 + 0 ≤ _)⟩)
      dsimp only [Pt.U, Pt.locs, Pt.cells, Pt.slots] at X14 l14 y14 z14 st14 hQ14
      subst l14 y14 z14
      obtain ⟨rfl, N14q, e14⟩ := hQ14
      have N14 := Fr.app N0 N14q
      refine own_st (t' := T14.setTop (mkF m 29 #[.val (.int p1), .val (.int p2), .val (.int (0 : Int32)), .val (.int kk), .unset] [(.ref wBOOLEAN)])) st14 ?_
      refine own_st (t' := T14.setTop (mkF m 31 #[.val (.int p1), .val (.int p2), .val (.int (0 : Int32)), .val (.int kk), .val (.ref wBOOLEAN)] [])) (fun _ k => XS.astore X14.here hx rfl (hb hby at_29) rfl rfl (l' := #[.val (.int p1), .val (.int p2), .val (.int (0 : Int32)), .val (.int kk), .val (.ref wBOOLEAN)]) rfl k) ?_
      refine own_st (t' := T14.setTop (mkF m 33 #[.val (.int p1), .val (.int p2), .val (.int (0 : Int32)), .val (.int kk), .val (.ref wBOOLEAN)] [(.ref wBOOLEAN)])) (fun _ k => XS.aload X14.here hx rfl (hb hby at_31) rfl rfl k) ?_
      refine own_st (t' := T14.setTop (mkF m 34 #[.val (.int p1), .val (.int p2), .val (.int (0 : Int32)), .val (.int kk), .val (.ref wBOOLEAN)] [(.int kk), (.ref wBOOLEAN)])) (fun _ k => XS.iloadN X14.here hx rfl (hb hby at_33) rfl k) ?_
      obtain ⟨_, _, ⟨T15, L15, k15, n15⟩, -, X15, ⟨Lc15, hQ15, l15, y15, z15⟩, st15⟩ := Jvm.LawKit.callS X14 hx (y := (⟨"com/example/hashbook/hashbook/proofs/ColumnTypeOfKindPinLaw", "expected", "(I)Lcom/example/hashbook/hashbook/proofs/ColumnType;"⟩ : MethodName)) hown (mvT hZ (hw _ (List.mem_of_getElem? (i := 13) rfl))) (mvT hZ (hw _ (List.mem_of_getElem? (i := 14) rfl))) (mvT hZ (hw _ (List.mem_of_getElem? (i := 15) rfl))) (mvT hZ (hw _ (List.mem_of_getElem? (i := 16) rfl))) (by decide) (backOf (W := 1) (own_rm2 l Z a0 hw [] kk wTEXT wCOLUMNS wINTEGER wDECIMAL wBOOLEAN (.ref wBOOLEAN) h0 n0 Z0 S_TEXT S_COLUMNS S_INTEGER S_DECIMAL S_BOOLEAN (by rw [if_neg hk1, if_neg hk2, if_neg hk3, if_neg hk4, if_pos hk5])) hZ (hw _ (List.mem_of_getElem? (i := 16) rfl)) (hw _ (List.mem_of_getElem? (i := 15) rfl)) (by decide) (by decide)) (g := (mkF m 34 #[.val (.int p1), .val (.int p2), .val (.int (0 : Int32)), .val (.int kk), .val (.ref wBOOLEAN)] [(.int kk), (.ref wBOOLEAN)])) rfl (by rw [hml]; rfl) (argsL := [(.int kk)]) (rest := [(.ref wBOOLEAN)]) (lenOf own_rm0_pd0 rfl) rfl (by show 2 * 0 + _ ≤ _; exact Nat.le_of_eq rfl) (hb hby at_34) (fun _ _ => ⟨rfl, e14, (by decide : 0 + 0 + 0 ≤ _), (by decide : 0 + 0 + 0 ≤ _)⟩)
      dsimp only [Pt.U, Pt.locs, Pt.cells, Pt.slots] at X15 l15 y15 z15 st15 hQ15
      subst l15 y15 z15
      obtain ⟨rfl, N15q, e15⟩ := hQ15
      have N15 := Fr.app N14 N15q
      refine own_st (t' := T15.setTop (mkF m 37 #[.val (.int p1), .val (.int p2), .val (.int (0 : Int32)), .val (.int kk), .val (.ref wBOOLEAN)] [(.ref wBOOLEAN), (.ref wBOOLEAN)])) st15 ?_
      refine own_st (t' := T15.setTop (mkF m 40 #[.val (.int p1), .val (.int p2), .val (.int (0 : Int32)), .val (.int kk), .val (.ref wBOOLEAN)] [])) (fun _ k => Jvm.RoadKit.acmp (g := (mkF m 37 #[.val (.int p1), .val (.int p2), .val (.int (0 : Int32)), .val (.int kk), .val (.ref wBOOLEAN)] [(.ref wBOOLEAN), (.ref wBOOLEAN)])) X15 hx rfl rfl rfl (pc0 := 37) (pc' := 40) (same := true) rfl (hb hby at_37) rfl (decide_eq_true rfl) (by decide) (by decide) k) ?_
      refine own_st (t' := T15.setTop (mkF m 41 #[.val (.int p1), .val (.int p2), .val (.int (0 : Int32)), .val (.int kk), .val (.ref wBOOLEAN)] [(.int (1 : Int32))])) (fun _ k => XS.iconst X15.here hx rfl (hb hby at_40) k) ?_
      refine own_st (t' := T15.setTop (mkF m 45 #[.val (.int p1), .val (.int p2), .val (.int (0 : Int32)), .val (.int kk), .val (.ref wBOOLEAN)] [(.int (1 : Int32))])) (fun _ k => XS.goto X15.here hx rfl (pc0 := 41) (pc' := 45) rfl (hb hby at_41) (by decide) (by decide) k) ?_
      have hv16 : (1 : Int32) = (1 : Int32) := rfl
      obtain ⟨fs, hr, hrun, hended, hW, hsame⟩ := X15.leave (v := some (.int (1 : Int32))) (fun h => by rw [Bd.returns] at h; cases h)
      exact ⟨_, _, retN X15 hx (t := .boolean) Bd.returns (by simp) (hb hby at_45) hr, hrun, hended, hP _ _ ⟨_, _, rfl, ⟨(congrArg (fun z => some (Value.int z)) hv16), N15⟩, ⟨_, rfl⟩, hW, hsame.mono (by decide) (by decide)⟩⟩
    refine own_st (t' := s₁.setTop (mkF m 26 #[.val (.int p1), .val (.int p2), .val (.int (0 : Int32)), .val (.int kk), .unset] [(.int kk)])) (fun _ k => XS.iloadN X0.here hx rfl (hb hby at_25) rfl k) ?_
    obtain ⟨_, _, ⟨T17, L17, k17, n17⟩, -, X17, ⟨Lc17, hQ17, l17, y17, z17⟩, st17⟩ := Jvm.LawKit.callS X0 hx (y := (⟨"com/example/hashbook/hashbook/proofs/ColumnType", "ofKind", "(I)Lcom/example/hashbook/hashbook/proofs/ColumnType;"⟩ : MethodName)) hown (mvT hZ (hw _ (List.mem_of_getElem? (i := 0) rfl))) (mvT hZ (hw _ (List.mem_of_getElem? (i := 1) rfl))) (mvT hZ (hw _ (List.mem_of_getElem? (i := 2) rfl))) (mvT hZ (hw _ (List.mem_of_getElem? (i := 3) rfl))) (by decide) (backOf (W := 0) (own_rm1 l Z a0 hw [] kk wALL kA wTEXT wCOLUMNS wINTEGER wDECIMAL wBOOLEAN .null h0 n0 Z0 S_ALL V F_TEXT F_COLUMNS F_INTEGER F_DECIMAL F_BOOLEAN (by rw [if_neg (Ne.symm hk1), if_neg (Ne.symm hk2), if_neg (Ne.symm hk3), if_neg (Ne.symm hk4), if_neg (Ne.symm hk5)])) hZ (hw _ (List.mem_of_getElem? (i := 3) rfl)) (hw _ (List.mem_of_getElem? (i := 2) rfl)) (by decide) (by decide)) (g := (mkF m 26 #[.val (.int p1), .val (.int p2), .val (.int (0 : Int32)), .val (.int kk), .unset] [(.int kk)])) rfl (by rw [hml]; rfl) (argsL := [(.int kk)]) (rest := []) (lenOf own_rm0_pd0 rfl) rfl (by show 2 * 0 + _ ≤ _; exact Nat.le_of_eq rfl) (hb hby at_26) (fun _ _ => ⟨rfl, e0, (by decide : 0 + 0 ≤ _), (by decide : 0 + 0 ≤ _)⟩)
    dsimp only [Pt.U, Pt.locs, Pt.cells, Pt.slots] at X17 l17 y17 z17 st17 hQ17
    subst l17 y17 z17
    obtain ⟨rfl, N17q, e17⟩ := hQ17
    have N17 := Fr.app N0 N17q
    refine own_st (t' := T17.setTop (mkF m 29 #[.val (.int p1), .val (.int p2), .val (.int (0 : Int32)), .val (.int kk), .unset] [.null])) st17 ?_
    refine own_st (t' := T17.setTop (mkF m 31 #[.val (.int p1), .val (.int p2), .val (.int (0 : Int32)), .val (.int kk), .val .null] [])) (fun _ k => XS.astore X17.here hx rfl (hb hby at_29) rfl rfl (l' := #[.val (.int p1), .val (.int p2), .val (.int (0 : Int32)), .val (.int kk), .val .null]) rfl k) ?_
    refine own_st (t' := T17.setTop (mkF m 33 #[.val (.int p1), .val (.int p2), .val (.int (0 : Int32)), .val (.int kk), .val .null] [.null])) (fun _ k => XS.aload X17.here hx rfl (hb hby at_31) rfl rfl k) ?_
    refine own_st (t' := T17.setTop (mkF m 34 #[.val (.int p1), .val (.int p2), .val (.int (0 : Int32)), .val (.int kk), .val .null] [(.int kk), .null])) (fun _ k => XS.iloadN X17.here hx rfl (hb hby at_33) rfl k) ?_
    obtain ⟨_, _, ⟨T18, L18, k18, n18⟩, -, X18, ⟨Lc18, hQ18, l18, y18, z18⟩, st18⟩ := Jvm.LawKit.callS X17 hx (y := (⟨"com/example/hashbook/hashbook/proofs/ColumnTypeOfKindPinLaw", "expected", "(I)Lcom/example/hashbook/hashbook/proofs/ColumnType;"⟩ : MethodName)) hown (mvT hZ (hw _ (List.mem_of_getElem? (i := 13) rfl))) (mvT hZ (hw _ (List.mem_of_getElem? (i := 14) rfl))) (mvT hZ (hw _ (List.mem_of_getElem? (i := 15) rfl))) (mvT hZ (hw _ (List.mem_of_getElem? (i := 16) rfl))) (by decide) (backOf (W := 1) (own_rm2 l Z a0 hw [] kk wTEXT wCOLUMNS wINTEGER wDECIMAL wBOOLEAN .null h0 n0 Z0 S_TEXT S_COLUMNS S_INTEGER S_DECIMAL S_BOOLEAN (by rw [if_neg hk1, if_neg hk2, if_neg hk3, if_neg hk4, if_neg hk5])) hZ (hw _ (List.mem_of_getElem? (i := 16) rfl)) (hw _ (List.mem_of_getElem? (i := 15) rfl)) (by decide) (by decide)) (g := (mkF m 34 #[.val (.int p1), .val (.int p2), .val (.int (0 : Int32)), .val (.int kk), .val .null] [(.int kk), .null])) rfl (by rw [hml]; rfl) (argsL := [(.int kk)]) (rest := [.null]) (lenOf own_rm0_pd0 rfl) rfl (by show 2 * 0 + _ ≤ _; exact Nat.le_of_eq rfl) (hb hby at_34) (fun _ _ => ⟨rfl, e17, (by decide : 0 + 0 + 0 ≤ _), (by decide : 0 + 0 + 0 ≤ _)⟩)
    dsimp only [Pt.U, Pt.locs, Pt.cells, Pt.slots] at X18 l18 y18 z18 st18 hQ18
    subst l18 y18 z18
    obtain ⟨rfl, N18q, e18⟩ := hQ18
    have N18 := Fr.app N17 N18q
    refine own_st (t' := T18.setTop (mkF m 37 #[.val (.int p1), .val (.int p2), .val (.int (0 : Int32)), .val (.int kk), .val .null] [.null, .null])) st18 ?_
    refine own_st (t' := T18.setTop (mkF m 40 #[.val (.int p1), .val (.int p2), .val (.int (0 : Int32)), .val (.int kk), .val .null] [])) (fun _ k => Jvm.RoadKit.acmp (g := (mkF m 37 #[.val (.int p1), .val (.int p2), .val (.int (0 : Int32)), .val (.int kk), .val .null] [.null, .null])) X18 hx rfl rfl rfl (pc0 := 37) (pc' := 40) (same := true) rfl (hb hby at_37) rfl (decide_eq_true rfl) (by decide) (by decide) k) ?_
    refine own_st (t' := T18.setTop (mkF m 41 #[.val (.int p1), .val (.int p2), .val (.int (0 : Int32)), .val (.int kk), .val .null] [(.int (1 : Int32))])) (fun _ k => XS.iconst X18.here hx rfl (hb hby at_40) k) ?_
    refine own_st (t' := T18.setTop (mkF m 45 #[.val (.int p1), .val (.int p2), .val (.int (0 : Int32)), .val (.int kk), .val .null] [(.int (1 : Int32))])) (fun _ k => XS.goto X18.here hx rfl (pc0 := 41) (pc' := 45) rfl (hb hby at_41) (by decide) (by decide) k) ?_
    have hv19 : (1 : Int32) = (1 : Int32) := rfl
    obtain ⟨fs, hr, hrun, hended, hW, hsame⟩ := X18.leave (v := some (.int (1 : Int32))) (fun h => by rw [Bd.returns] at h; cases h)
    exact ⟨_, _, retN X18 hx (t := .boolean) Bd.returns (by simp) (hb hby at_45) hr, hrun, hended, hP _ _ ⟨_, _, rfl, ⟨(congrArg (fun z => some (Value.int z)) hv19), N18⟩, ⟨_, rfl⟩, hW, hsame.mono (by decide) (by decide)⟩⟩
  · refine own_st (t' := s₁.setTop (mkF m 6 #[.val (.int p1), .val (.int p2), .unset, .unset, .unset] [])) (fun _ k => XS.ifNo X0.here hx rfl (hb hby at_3) rfl ((if0 _ _).trans (feq c3_1).1) k) ?_
    refine own_st (t' := s₁.setTop (mkF m 7 #[.val (.int p1), .val (.int p2), .unset, .unset, .unset] [(.int (1 : Int32))])) (fun _ k => XS.iconst X0.here hx rfl (hb hby at_6) k) ?_
    refine own_st (t' := s₁.setTop (mkF m 11 #[.val (.int p1), .val (.int p2), .unset, .unset, .unset] [(.int (1 : Int32))])) (fun _ k => XS.goto X0.here hx rfl (pc0 := 7) (pc' := 11) rfl (hb hby at_7) (by decide) (by decide) k) ?_
    refine own_st (t' := s₁.setTop (mkF m 12 #[.val (.int p1), .val (.int p2), .val (.int (1 : Int32)), .unset, .unset] [])) (fun _ k => XS.istoreN X0.here hx rfl (hb hby at_11) rfl (l' := #[.val (.int p1), .val (.int p2), .val (.int (1 : Int32)), .unset, .unset]) rfl k) ?_
    refine own_st (t' := s₁.setTop (mkF m 13 #[.val (.int p1), .val (.int p2), .val (.int (1 : Int32)), .unset, .unset] [(.int (1 : Int32))])) (fun _ k => XS.iloadN X0.here hx rfl (hb hby at_12) rfl k) ?_
    refine own_st (t' := s₁.setTop (mkF m 16 #[.val (.int p1), .val (.int p2), .val (.int (1 : Int32)), .unset, .unset] [])) (fun _ k => XS.ifNo X0.here hx rfl (hb hby at_13) rfl ((if0 _ _).trans (feq (by decide : ¬ ((1 : Int32) = (0 : Int32)))).1) k) ?_
    refine own_st (t' := s₁.setTop (mkF m 17 #[.val (.int p1), .val (.int p2), .val (.int (1 : Int32)), .unset, .unset] [(.int p1)])) (fun _ k => XS.iloadN X0.here hx rfl (hb hby at_16) rfl k) ?_
    refine own_st (t' := s₁.setTop (mkF m 24 #[.val (.int p1), .val (.int p2), .val (.int (1 : Int32)), .unset, .unset] [(.int p1)])) (fun _ k => XS.goto X0.here hx rfl (pc0 := 17) (pc' := 24) rfl (hb hby at_17) (by decide) (by decide) k) ?_
    refine own_st (t' := s₁.setTop (mkF m 25 #[.val (.int p1), .val (.int p2), .val (.int (1 : Int32)), .val (.int p1), .unset] [])) (fun _ k => XS.istoreN X0.here hx rfl (hb hby at_24) rfl (l' := #[.val (.int p1), .val (.int p2), .val (.int (1 : Int32)), .val (.int p1), .unset]) rfl k) ?_
    by_cases hk1 : p1 = (1 : Int32)
    · refine own_st (t' := s₁.setTop (mkF m 26 #[.val (.int p1), .val (.int p2), .val (.int (1 : Int32)), .val (.int p1), .unset] [(.int p1)])) (fun _ k => XS.iloadN X0.here hx rfl (hb hby at_25) rfl k) ?_
      obtain ⟨_, _, ⟨T20, L20, k20, n20⟩, -, X20, ⟨Lc20, hQ20, l20, y20, z20⟩, st20⟩ := Jvm.LawKit.callS X0 hx (y := (⟨"com/example/hashbook/hashbook/proofs/ColumnType", "ofKind", "(I)Lcom/example/hashbook/hashbook/proofs/ColumnType;"⟩ : MethodName)) hown (mvT hZ (hw _ (List.mem_of_getElem? (i := 0) rfl))) (mvT hZ (hw _ (List.mem_of_getElem? (i := 1) rfl))) (mvT hZ (hw _ (List.mem_of_getElem? (i := 2) rfl))) (mvT hZ (hw _ (List.mem_of_getElem? (i := 3) rfl))) (by decide) (backOf (W := 0) (own_rm1 l Z a0 hw [] p1 wALL kA wTEXT wCOLUMNS wINTEGER wDECIMAL wBOOLEAN (.ref wTEXT) h0 n0 Z0 S_ALL V F_TEXT F_COLUMNS F_INTEGER F_DECIMAL F_BOOLEAN (by rw [if_pos hk1.symm])) hZ (hw _ (List.mem_of_getElem? (i := 3) rfl)) (hw _ (List.mem_of_getElem? (i := 2) rfl)) (by decide) (by decide)) (g := (mkF m 26 #[.val (.int p1), .val (.int p2), .val (.int (1 : Int32)), .val (.int p1), .unset] [(.int p1)])) rfl (by rw [hml]; rfl) (argsL := [(.int p1)]) (rest := []) (lenOf own_rm0_pd0 rfl) rfl (by show 2 * 0 + _ ≤ _; exact Nat.le_of_eq rfl) (hb hby at_26) (fun _ _ => ⟨rfl, e0, (by decide : 0 + 0 ≤ _), (by decide : 0 + 0 ≤ _)⟩)
      dsimp only [Pt.U, Pt.locs, Pt.cells, Pt.slots] at X20 l20 y20 z20 st20 hQ20
      subst l20 y20 z20
      obtain ⟨rfl, N20q, e20⟩ := hQ20
      have N20 := Fr.app N0 N20q
      refine own_st (t' := T20.setTop (mkF m 29 #[.val (.int p1), .val (.int p2), .val (.int (1 : Int32)), .val (.int p1), .unset] [(.ref wTEXT)])) st20 ?_
      refine own_st (t' := T20.setTop (mkF m 31 #[.val (.int p1), .val (.int p2), .val (.int (1 : Int32)), .val (.int p1), .val (.ref wTEXT)] [])) (fun _ k => XS.astore X20.here hx rfl (hb hby at_29) rfl rfl (l' := #[.val (.int p1), .val (.int p2), .val (.int (1 : Int32)), .val (.int p1), .val (.ref wTEXT)]) rfl k) ?_
      refine own_st (t' := T20.setTop (mkF m 33 #[.val (.int p1), .val (.int p2), .val (.int (1 : Int32)), .val (.int p1), .val (.ref wTEXT)] [(.ref wTEXT)])) (fun _ k => XS.aload X20.here hx rfl (hb hby at_31) rfl rfl k) ?_
      refine own_st (t' := T20.setTop (mkF m 34 #[.val (.int p1), .val (.int p2), .val (.int (1 : Int32)), .val (.int p1), .val (.ref wTEXT)] [(.int p1), (.ref wTEXT)])) (fun _ k => XS.iloadN X20.here hx rfl (hb hby at_33) rfl k) ?_
      obtain ⟨_, _, ⟨T21, L21, k21, n21⟩, -, X21, ⟨Lc21, hQ21, l21, y21, z21⟩, st21⟩ := Jvm.LawKit.callS X20 hx (y := (⟨"com/example/hashbook/hashbook/proofs/ColumnTypeOfKindPinLaw", "expected", "(I)Lcom/example/hashbook/hashbook/proofs/ColumnType;"⟩ : MethodName)) hown (mvT hZ (hw _ (List.mem_of_getElem? (i := 13) rfl))) (mvT hZ (hw _ (List.mem_of_getElem? (i := 14) rfl))) (mvT hZ (hw _ (List.mem_of_getElem? (i := 15) rfl))) (mvT hZ (hw _ (List.mem_of_getElem? (i := 16) rfl))) (by decide) (backOf (W := 1) (own_rm2 l Z a0 hw [] p1 wTEXT wCOLUMNS wINTEGER wDECIMAL wBOOLEAN (.ref wTEXT) h0 n0 Z0 S_TEXT S_COLUMNS S_INTEGER S_DECIMAL S_BOOLEAN (by rw [if_pos hk1])) hZ (hw _ (List.mem_of_getElem? (i := 16) rfl)) (hw _ (List.mem_of_getElem? (i := 15) rfl)) (by decide) (by decide)) (g := (mkF m 34 #[.val (.int p1), .val (.int p2), .val (.int (1 : Int32)), .val (.int p1), .val (.ref wTEXT)] [(.int p1), (.ref wTEXT)])) rfl (by rw [hml]; rfl) (argsL := [(.int p1)]) (rest := [(.ref wTEXT)]) (lenOf own_rm0_pd0 rfl) rfl (by show 2 * 0 + _ ≤ _; exact Nat.le_of_eq rfl) (hb hby at_34) (fun _ _ => ⟨rfl, e20, (by decide : 0 + 0 + 0 ≤ _), (by decide : 0 + 0 + 0 ≤ _)⟩)
      dsimp only [Pt.U, Pt.locs, Pt.cells, Pt.slots] at X21 l21 y21 z21 st21 hQ21
      subst l21 y21 z21
      obtain ⟨rfl, N21q, e21⟩ := hQ21
      have N21 := Fr.app N20 N21q
      refine own_st (t' := T21.setTop (mkF m 37 #[.val (.int p1), .val (.int p2), .val (.int (1 : Int32)), .val (.int p1), .val (.ref wTEXT)] [(.ref wTEXT), (.ref wTEXT)])) st21 ?_
      refine own_st (t' := T21.setTop (mkF m 40 #[.val (.int p1), .val (.int p2), .val (.int (1 : Int32)), .val (.int p1), .val (.ref wTEXT)] [])) (fun _ k => Jvm.RoadKit.acmp (g := (mkF m 37 #[.val (.int p1), .val (.int p2), .val (.int (1 : Int32)), .val (.int p1), .val (.ref wTEXT)] [(.ref wTEXT), (.ref wTEXT)])) X21 hx rfl rfl rfl (pc0 := 37) (pc' := 40) (same := true) rfl (hb hby at_37) rfl (decide_eq_true rfl) (by decide) (by decide) k) ?_
      refine own_st (t' := T21.setTop (mkF m 41 #[.val (.int p1), .val (.int p2), .val (.int (1 : Int32)), .val (.int p1), .val (.ref wTEXT)] [(.int (1 : Int32))])) (fun _ k => XS.iconst X21.here hx rfl (hb hby at_40) k) ?_
      refine own_st (t' := T21.setTop (mkF m 45 #[.val (.int p1), .val (.int p2), .val (.int (1 : Int32)), .val (.int p1), .val (.ref wTEXT)] [(.int (1 : Int32))])) (fun _ k => XS.goto X21.here hx rfl (pc0 := 41) (pc' := 45) rfl (hb hby at_41) (by decide) (by decide) k) ?_
      have hv22 : (1 : Int32) = (1 : Int32) := rfl
      obtain ⟨fs, hr, hrun, hended, hW, hsame⟩ := X21.leave (v := some (.int (1 : Int32))) (fun h => by rw [Bd.returns] at h; cases h)
      exact ⟨_, _, retN X21 hx (t := .boolean) Bd.returns (by simp) (hb hby at_45) hr, hrun, hended, hP _ _ ⟨_, _, rfl, ⟨(congrArg (fun z => some (Value.int z)) hv22), N21⟩, ⟨_, rfl⟩, hW, hsame.mono (by decide) (by decide)⟩⟩
    by_cases hk2 : p1 = (2 : Int32)
    · refine own_st (t' := s₁.setTop (mkF m 26 #[.val (.int p1), .val (.int p2), .val (.int (1 : Int32)), .val (.int p1), .unset] [(.int p1)])) (fun _ k => XS.iloadN X0.here hx rfl (hb hby at_25) rfl k) ?_
      obtain ⟨_, _, ⟨T23, L23, k23, n23⟩, -, X23, ⟨Lc23, hQ23, l23, y23, z23⟩, st23⟩ := Jvm.LawKit.callS X0 hx (y := (⟨"com/example/hashbook/hashbook/proofs/ColumnType", "ofKind", "(I)Lcom/example/hashbook/hashbook/proofs/ColumnType;"⟩ : MethodName)) hown (mvT hZ (hw _ (List.mem_of_getElem? (i := 0) rfl))) (mvT hZ (hw _ (List.mem_of_getElem? (i := 1) rfl))) (mvT hZ (hw _ (List.mem_of_getElem? (i := 2) rfl))) (mvT hZ (hw _ (List.mem_of_getElem? (i := 3) rfl))) (by decide) (backOf (W := 0) (own_rm1 l Z a0 hw [] p1 wALL kA wTEXT wCOLUMNS wINTEGER wDECIMAL wBOOLEAN (.ref wCOLUMNS) h0 n0 Z0 S_ALL V F_TEXT F_COLUMNS F_INTEGER F_DECIMAL F_BOOLEAN (by rw [if_neg (Ne.symm hk1), if_pos hk2.symm])) hZ (hw _ (List.mem_of_getElem? (i := 3) rfl)) (hw _ (List.mem_of_getElem? (i := 2) rfl)) (by decide) (by decide)) (g := (mkF m 26 #[.val (.int p1), .val (.int p2), .val (.int (1 : Int32)), .val (.int p1), .unset] [(.int p1)])) rfl (by rw [hml]; rfl) (argsL := [(.int p1)]) (rest := []) (lenOf own_rm0_pd0 rfl) rfl (by show 2 * 0 + _ ≤ _; exact Nat.le_of_eq rfl) (hb hby at_26) (fun _ _ => ⟨rfl, e0, (by decide : 0 + 0 ≤ _), (by decide : 0 + 0 ≤ _)⟩)
      dsimp only [Pt.U, Pt.locs, Pt.cells, Pt.slots] at X23 l23 y23 z23 st23 hQ23
      subst l23 y23 z23
      obtain ⟨rfl, N23q, e23⟩ := hQ23
      have N23 := Fr.app N0 N23q
      refine own_st (t' := T23.setTop (mkF m 29 #[.val (.int p1), .val (.int p2), .val (.int (1 : Int32)), .val (.int p1), .unset] [(.ref wCOLUMNS)])) st23 ?_
      refine own_st (t' := T23.setTop (mkF m 31 #[.val (.int p1), .val (.int p2), .val (.int (1 : Int32)), .val (.int p1), .val (.ref wCOLUMNS)] [])) (fun _ k => XS.astore X23.here hx rfl (hb hby at_29) rfl rfl (l' := #[.val (.int p1), .val (.int p2), .val (.int (1 : Int32)), .val (.int p1), .val (.ref wCOLUMNS)]) rfl k) ?_
      refine own_st (t' := T23.setTop (mkF m 33 #[.val (.int p1), .val (.int p2), .val (.int (1 : Int32)), .val (.int p1), .val (.ref wCOLUMNS)] [(.ref wCOLUMNS)])) (fun _ k => XS.aload X23.here hx rfl (hb hby at_31) rfl rfl k) ?_
      refine own_st (t' := T23.setTop (mkF m 34 #[.val (.int p1), .val (.int p2), .val (.int (1 : Int32)), .val (.int p1), .val (.ref wCOLUMNS)] [(.int p1), (.ref wCOLUMNS)])) (fun _ k => XS.iloadN X23.here hx rfl (hb hby at_33) rfl k) ?_
      obtain ⟨_, _, ⟨T24, L24, k24, n24⟩, -, X24, ⟨Lc24, hQ24, l24, y24, z24⟩, st24⟩ := Jvm.LawKit.callS X23 hx (y := (⟨"com/example/hashbook/hashbook/proofs/ColumnTypeOfKindPinLaw", "expected", "(I)Lcom/example/hashbook/hashbook/proofs/ColumnType;"⟩ : MethodName)) hown (mvT hZ (hw _ (List.mem_of_getElem? (i := 13) rfl))) (mvT hZ (hw _ (List.mem_of_getElem? (i := 14) rfl))) (mvT hZ (hw _ (List.mem_of_getElem? (i := 15) rfl))) (mvT hZ (hw _ (List.mem_of_getElem? (i := 16) rfl))) (by decide) (backOf (W := 1) (own_rm2 l Z a0 hw [] p1 wTEXT wCOLUMNS wINTEGER wDECIMAL wBOOLEAN (.ref wCOLUMNS) h0 n0 Z0 S_TEXT S_COLUMNS S_INTEGER S_DECIMAL S_BOOLEAN (by rw [if_neg hk1, if_pos hk2])) hZ (hw _ (List.mem_of_getElem? (i := 16) rfl)) (hw _ (List.mem_of_getElem? (i := 15) rfl)) (by decide) (by decide)) (g := (mkF m 34 #[.val (.int p1), .val (.int p2), .val (.int (1 : Int32)), .val (.int p1), .val (.ref wCOLUMNS)] [(.int p1), (.ref wCOLUMNS)])) rfl (by rw [hml]; rfl) (argsL := [(.int p1)]) (rest := [(.ref wCOLUMNS)]) (lenOf own_rm0_pd0 rfl) rfl (by show 2 * 0 + _ ≤ _; exact Nat.le_of_eq rfl) (hb hby at_34) (fun _ _ => ⟨rfl, e23, (by decide : 0 + 0 + 0 ≤ _), (by decide : 0 + 0 + 0 ≤ _)⟩)
      dsimp only [Pt.U, Pt.locs, Pt.cells, Pt.slots] at X24 l24 y24 z24 st24 hQ24
      subst l24 y24 z24
      obtain ⟨rfl, N24q, e24⟩ := hQ24
      have N24 := Fr.app N23 N24q
      refine own_st (t' := T24.setTop (mkF m 37 #[.val (.int p1), .val (.int p2), .val (.int (1 : Int32)), .val (.int p1), .val (.ref wCOLUMNS)] [(.ref wCOLUMNS), (.ref wCOLUMNS)])) st24 ?_
      refine own_st (t' := T24.setTop (mkF m 40 #[.val (.int p1), .val (.int p2), .val (.int (1 : Int32)), .val (.int p1), .val (.ref wCOLUMNS)] [])) (fun _ k => Jvm.RoadKit.acmp (g := (mkF m 37 #[.val (.int p1), .val (.int p2), .val (.int (1 : Int32)), .val (.int p1), .val (.ref wCOLUMNS)] [(.ref wCOLUMNS), (.ref wCOLUMNS)])) X24 hx rfl rfl rfl (pc0 := 37) (pc' := 40) (same := true) rfl (hb hby at_37) rfl (decide_eq_true rfl) (by decide) (by decide) k) ?_
      refine own_st (t' := T24.setTop (mkF m 41 #[.val (.int p1), .val (.int p2), .val (.int (1 : Int32)), .val (.int p1), .val (.ref wCOLUMNS)] [(.int (1 : Int32))])) (fun _ k => XS.iconst X24.here hx rfl (hb hby at_40) k) ?_
      refine own_st (t' := T24.setTop (mkF m 45 #[.val (.int p1), .val (.int p2), .val (.int (1 : Int32)), .val (.int p1), .val (.ref wCOLUMNS)] [(.int (1 : Int32))])) (fun _ k => XS.goto X24.here hx rfl (pc0 := 41) (pc' := 45) rfl (hb hby at_41) (by decide) (by decide) k) ?_
      have hv25 : (1 : Int32) = (1 : Int32) := rfl
      obtain ⟨fs, hr, hrun, hended, hW, hsame⟩ := X24.leave (v := some (.int (1 : Int32))) (fun h => by rw [Bd.returns] at h; cases h)
      exact ⟨_, _, retN X24 hx (t := .boolean) Bd.returns (by simp) (hb hby at_45) hr, hrun, hended, hP _ _ ⟨_, _, rfl, ⟨(congrArg (fun z => some (Value.int z)) hv25), N24⟩, ⟨_, rfl⟩, hW, hsame.mono (by decide) (by decide)⟩⟩
    by_cases hk3 : p1 = (3 : Int32)
    · refine own_st (t' := s₁.setTop (mkF m 26 #[.val (.int p1), .val (.int p2), .val (.int (1 : Int32)), .val (.int p1), .unset] [(.int p1)])) (fun _ k => XS.iloadN X0.here hx rfl (hb hby at_25) rfl k) ?_
      obtain ⟨_, _, ⟨T26, L26, k26, n26⟩, -, X26, ⟨Lc26, hQ26, l26, y26, z26⟩, st26⟩ := Jvm.LawKit.callS X0 hx (y := (⟨"com/example/hashbook/hashbook/proofs/ColumnType", "ofKind", "(I)Lcom/example/hashbook/hashbook/proofs/ColumnType;"⟩ : MethodName)) hown (mvT hZ (hw _ (List.mem_of_getElem? (i := 0) rfl))) (mvT hZ (hw _ (List.mem_of_getElem? (i := 1) rfl))) (mvT hZ (hw _ (List.mem_of_getElem? (i := 2) rfl))) (mvT hZ (hw _ (List.mem_of_getElem? (i := 3) rfl))) (by decide) (backOf (W := 0) (own_rm1 l Z a0 hw [] p1 wALL kA wTEXT wCOLUMNS wINTEGER wDECIMAL wBOOLEAN (.ref wINTEGER) h0 n0 Z0 S_ALL V F_TEXT F_COLUMNS F_INTEGER F_DECIMAL F_BOOLEAN (by rw [if_neg (Ne.symm hk1), if_neg (Ne.symm hk2), if_pos hk3.symm])) hZ (hw _ (List.mem_of_getElem? (i := 3) rfl)) (hw _ (List.mem_of_getElem? (i := 2) rfl)) (by decide) (by decide)) (g := (mkF m 26 #[.val (.int p1), .val (.int p2), .val (.int (1 : Int32)), .val (.int p1), .unset] [(.int p1)])) rfl (by rw [hml]; rfl) (argsL := [(.int p1)]) (rest := []) (lenOf own_rm0_pd0 rfl) rfl (by show 2 * 0 + _ ≤ _; exact Nat.le_of_eq rfl) (hb hby at_26) (fun _ _ => ⟨rfl, e0, (by decide : 0 + 0 ≤ _), (by decide : 0 + 0 ≤ _)⟩)
      dsimp only [Pt.U, Pt.locs, Pt.cells, Pt.slots] at X26 l26 y26 z26 st26 hQ26
      subst l26 y26 z26
      obtain ⟨rfl, N26q, e26⟩ := hQ26
      have N26 := Fr.app N0 N26q
      refine own_st (t' := T26.setTop (mkF m 29 #[.val (.int p1), .val (.int p2), .val (.int (1 : Int32)), .val (.int p1), .unset] [(.ref wINTEGER)])) st26 ?_
      refine own_st (t' := T26.setTop (mkF m 31 #[.val (.int p1), .val (.int p2), .val (.int (1 : Int32)), .val (.int p1), .val (.ref wINTEGER)] [])) (fun _ k => XS.astore X26.here hx rfl (hb hby at_29) rfl rfl (l' := #[.val (.int p1), .val (.int p2), .val (.int (1 : Int32)), .val (.int p1), .val (.ref wINTEGER)]) rfl k) ?_
      refine own_st (t' := T26.setTop (mkF m 33 #[.val (.int p1), .val (.int p2), .val (.int (1 : Int32)), .val (.int p1), .val (.ref wINTEGER)] [(.ref wINTEGER)])) (fun _ k => XS.aload X26.here hx rfl (hb hby at_31) rfl rfl k) ?_
      refine own_st (t' := T26.setTop (mkF m 34 #[.val (.int p1), .val (.int p2), .val (.int (1 : Int32)), .val (.int p1), .val (.ref wINTEGER)] [(.int p1), (.ref wINTEGER)])) (fun _ k => XS.iloadN X26.here hx rfl (hb hby at_33) rfl k) ?_
      obtain ⟨_, _, ⟨T27, L27, k27, n27⟩, -, X27, ⟨Lc27, hQ27, l27, y27, z27⟩, st27⟩ := Jvm.LawKit.callS X26 hx (y := (⟨"com/example/hashbook/hashbook/proofs/ColumnTypeOfKindPinLaw", "expected", "(I)Lcom/example/hashbook/hashbook/proofs/ColumnType;"⟩ : MethodName)) hown (mvT hZ (hw _ (List.mem_of_getElem? (i := 13) rfl))) (mvT hZ (hw _ (List.mem_of_getElem? (i := 14) rfl))) (mvT hZ (hw _ (List.mem_of_getElem? (i := 15) rfl))) (mvT hZ (hw _ (List.mem_of_getElem? (i := 16) rfl))) (by decide) (backOf (W := 1) (own_rm2 l Z a0 hw [] p1 wTEXT wCOLUMNS wINTEGER wDECIMAL wBOOLEAN (.ref wINTEGER) h0 n0 Z0 S_TEXT S_COLUMNS S_INTEGER S_DECIMAL S_BOOLEAN (by rw [if_neg hk1, if_neg hk2, if_pos hk3])) hZ (hw _ (List.mem_of_getElem? (i := 16) rfl)) (hw _ (List.mem_of_getElem? (i := 15) rfl)) (by decide) (by decide)) (g := (mkF m 34 #[.val (.int p1), .val (.int p2), .val (.int (1 : Int32)), .val (.int p1), .val (.ref wINTEGER)] [(.int p1), (.ref wINTEGER)])) rfl (by rw [hml]; rfl) (argsL := [(.int p1)]) (rest := [(.ref wINTEGER)]) (lenOf own_rm0_pd0 rfl) rfl (by show 2 * 0 + _ ≤ _; exact Nat.le_of_eq rfl) (hb hby at_34) (fun _ _ => ⟨rfl, e26, (by decide : 0 + 0 + 0 ≤ _), (by decide : 0 + 0 + 0 ≤ _)⟩)
      dsimp only [Pt.U, Pt.locs, Pt.cells, Pt.slots] at X27 l27 y27 z27 st27 hQ27
      subst l27 y27 z27
      obtain ⟨rfl, N27q, e27⟩ := hQ27
      have N27 := Fr.app N26 N27q
      refine own_st (t' := T27.setTop (mkF m 37 #[.val (.int p1), .val (.int p2), .val (.int (1 : Int32)), .val (.int p1), .val (.ref wINTEGER)] [(.ref wINTEGER), (.ref wINTEGER)])) st27 ?_
      refine own_st (t' := T27.setTop (mkF m 40 #[.val (.int p1), .val (.int p2), .val (.int (1 : Int32)), .val (.int p1), .val (.ref wINTEGER)] [])) (fun _ k => Jvm.RoadKit.acmp (g := (mkF m 37 #[.val (.int p1), .val (.int p2), .val (.int (1 : Int32)), .val (.int p1), .val (.ref wINTEGER)] [(.ref wINTEGER), (.ref wINTEGER)])) X27 hx rfl rfl rfl (pc0 := 37) (pc' := 40) (same := true) rfl (hb hby at_37) rfl (decide_eq_true rfl) (by decide) (by decide) k) ?_
      refine own_st (t' := T27.setTop (mkF m 41 #[.val (.int p1), .val (.int p2), .val (.int (1 : Int32)), .val (.int p1), .val (.ref wINTEGER)] [(.int (1 : Int32))])) (fun _ k => XS.iconst X27.here hx rfl (hb hby at_40) k) ?_
      refine own_st (t' := T27.setTop (mkF m 45 #[.val (.int p1), .val (.int p2), .val (.int (1 : Int32)), .val (.int p1), .val (.ref wINTEGER)] [(.int (1 : Int32))])) (fun _ k => XS.goto X27.here hx rfl (pc0 := 41) (pc' := 45) rfl (hb hby at_41) (by decide) (by decide) k) ?_
      have hv28 : (1 : Int32) = (1 : Int32) := rfl
      obtain ⟨fs, hr, hrun, hended, hW, hsame⟩ := X27.leave (v := some (.int (1 : Int32))) (fun h => by rw [Bd.returns] at h; cases h)
      exact ⟨_, _, retN X27 hx (t := .boolean) Bd.returns (by simp) (hb hby at_45) hr, hrun, hended, hP _ _ ⟨_, _, rfl, ⟨(congrArg (fun z => some (Value.int z)) hv28), N27⟩, ⟨_, rfl⟩, hW, hsame.mono (by decide) (by decide)⟩⟩
    by_cases hk4 : p1 = (4 : Int32)
    · refine own_st (t' := s₁.setTop (mkF m 26 #[.val (.int p1), .val (.int p2), .val (.int (1 : Int32)), .val (.int p1), .unset] [(.int p1)])) (fun _ k => XS.iloadN X0.here hx rfl (hb hby at_25) rfl k) ?_
      obtain ⟨_, _, ⟨T29, L29, k29, n29⟩, -, X29, ⟨Lc29, hQ29, l29, y29, z29⟩, st29⟩ := Jvm.LawKit.callS X0 hx (y := (⟨"com/example/hashbook/hashbook/proofs/ColumnType", "ofKind", "(I)Lcom/example/hashbook/hashbook/proofs/ColumnType;"⟩ : MethodName)) hown (mvT hZ (hw _ (List.mem_of_getElem? (i := 0) rfl))) (mvT hZ (hw _ (List.mem_of_getElem? (i := 1) rfl))) (mvT hZ (hw _ (List.mem_of_getElem? (i := 2) rfl))) (mvT hZ (hw _ (List.mem_of_getElem? (i := 3) rfl))) (by decide) (backOf (W := 0) (own_rm1 l Z a0 hw [] p1 wALL kA wTEXT wCOLUMNS wINTEGER wDECIMAL wBOOLEAN (.ref wDECIMAL) h0 n0 Z0 S_ALL V F_TEXT F_COLUMNS F_INTEGER F_DECIMAL F_BOOLEAN (by rw [if_neg (Ne.symm hk1), if_neg (Ne.symm hk2), if_neg (Ne.symm hk3), if_pos hk4.symm])) hZ (hw _ (List.mem_of_getElem? (i := 3) rfl)) (hw _ (List.mem_of_getElem? (i := 2) rfl)) (by decide) (by decide)) (g := (mkF m 26 #[.val (.int p1), .val (.int p2), .val (.int (1 : Int32)), .val (.int p1), .unset] [(.int p1)])) rfl (by rw [hml]; rfl) (argsL := [(.int p1)]) (rest := []) (lenOf own_rm0_pd0 rfl) rfl (by show 2 * 0 + _ ≤ _; exact Nat.le_of_eq rfl) (hb hby at_26) (fun _ _ => ⟨rfl, e0, (by decide : 0 + 0 ≤ _), (by decide : 0 + 0 ≤ _)⟩)
      dsimp only [Pt.U, Pt.locs, Pt.cells, Pt.slots] at X29 l29 y29 z29 st29 hQ29
      subst l29 y29 z29
      obtain ⟨rfl, N29q, e29⟩ := hQ29
      have N29 := Fr.app N0 N29q
      refine own_st (t' := T29.setTop (mkF m 29 #[.val (.int p1), .val (.int p2), .val (.int (1 : Int32)), .val (.int p1), .unset] [(.ref wDECIMAL)])) st29 ?_
      refine own_st (t' := T29.setTop (mkF m 31 #[.val (.int p1), .val (.int p2), .val (.int (1 : Int32)), .val (.int p1), .val (.ref wDECIMAL)] [])) (fun _ k => XS.astore X29.here hx rfl (hb hby at_29) rfl rfl (l' := #[.val (.int p1), .val (.int p2), .val (.int (1 : Int32)), .val (.int p1), .val (.ref wDECIMAL)]) rfl k) ?_
      refine own_st (t' := T29.setTop (mkF m 33 #[.val (.int p1), .val (.int p2), .val (.int (1 : Int32)), .val (.int p1), .val (.ref wDECIMAL)] [(.ref wDECIMAL)])) (fun _ k => XS.aload X29.here hx rfl (hb hby at_31) rfl rfl k) ?_
      refine own_st (t' := T29.setTop (mkF m 34 #[.val (.int p1), .val (.int p2), .val (.int (1 : Int32)), .val (.int p1), .val (.ref wDECIMAL)] [(.int p1), (.ref wDECIMAL)])) (fun _ k => XS.iloadN X29.here hx rfl (hb hby at_33) rfl k) ?_
      obtain ⟨_, _, ⟨T30, L30, k30, n30⟩, -, X30, ⟨Lc30, hQ30, l30, y30, z30⟩, st30⟩ := Jvm.LawKit.callS X29 hx (y := (⟨"com/example/hashbook/hashbook/proofs/ColumnTypeOfKindPinLaw", "expected", "(I)Lcom/example/hashbook/hashbook/proofs/ColumnType;"⟩ : MethodName)) hown (mvT hZ (hw _ (List.mem_of_getElem? (i := 13) rfl))) (mvT hZ (hw _ (List.mem_of_getElem? (i := 14) rfl))) (mvT hZ (hw _ (List.mem_of_getElem? (i := 15) rfl))) (mvT hZ (hw _ (List.mem_of_getElem? (i := 16) rfl))) (by decide) (backOf (W := 1) (own_rm2 l Z a0 hw [] p1 wTEXT wCOLUMNS wINTEGER wDECIMAL wBOOLEAN (.ref wDECIMAL) h0 n0 Z0 S_TEXT S_COLUMNS S_INTEGER S_DECIMAL S_BOOLEAN (by rw [if_neg hk1, if_neg hk2, if_neg hk3, if_pos hk4])) hZ (hw _ (List.mem_of_getElem? (i := 16) rfl)) (hw _ (List.mem_of_getElem? (i := 15) rfl)) (by decide) (by decide)) (g := (mkF m 34 #[.val (.int p1), .val (.int p2), .val (.int (1 : Int32)), .val (.int p1), .val (.ref wDECIMAL)] [(.int p1), (.ref wDECIMAL)])) rfl (by rw [hml]; rfl) (argsL := [(.int p1)]) (rest := [(.ref wDECIMAL)]) (lenOf own_rm0_pd0 rfl) rfl (by show 2 * 0 + _ ≤ _; exact Nat.le_of_eq rfl) (hb hby at_34) (fun _ _ => ⟨rfl, e29, (by decide : 0 + 0 + 0 ≤ _), (by decide : 0 + 0 + 0 ≤ _)⟩)
      dsimp only [Pt.U, Pt.locs, Pt.cells, Pt.slots] at X30 l30 y30 z30 st30 hQ30
      subst l30 y30 z30
      obtain ⟨rfl, N30q, e30⟩ := hQ30
      have N30 := Fr.app N29 N30q
      refine own_st (t' := T30.setTop (mkF m 37 #[.val (.int p1), .val (.int p2), .val (.int (1 : Int32)), .val (.int p1), .val (.ref wDECIMAL)] [(.ref wDECIMAL), (.ref wDECIMAL)])) st30 ?_
      refine own_st (t' := T30.setTop (mkF m 40 #[.val (.int p1), .val (.int p2), .val (.int (1 : Int32)), .val (.int p1), .val (.ref wDECIMAL)] [])) (fun _ k => Jvm.RoadKit.acmp (g := (mkF m 37 #[.val (.int p1), .val (.int p2), .val (.int (1 : Int32)), .val (.int p1), .val (.ref wDECIMAL)] [(.ref wDECIMAL), (.ref wDECIMAL)])) X30 hx rfl rfl rfl (pc0 := 37) (pc' := 40) (same := true) rfl (hb hby at_37) rfl (decide_eq_true rfl) (by decide) (by decide) k) ?_
      refine own_st (t' := T30.setTop (mkF m 41 #[.val (.int p1), .val (.int p2), .val (.int (1 : Int32)), .val (.int p1), .val (.ref wDECIMAL)] [(.int (1 : Int32))])) (fun _ k => XS.iconst X30.here hx rfl (hb hby at_40) k) ?_
      refine own_st (t' := T30.setTop (mkF m 45 #[.val (.int p1), .val (.int p2), .val (.int (1 : Int32)), .val (.int p1), .val (.ref wDECIMAL)] [(.int (1 : Int32))])) (fun _ k => XS.goto X30.here hx rfl (pc0 := 41) (pc' := 45) rfl (hb hby at_41) (by decide) (by decide) k) ?_
      have hv31 : (1 : Int32) = (1 : Int32) := rfl
      obtain ⟨fs, hr, hrun, hended, hW, hsame⟩ := X30.leave (v := some (.int (1 : Int32))) (fun h => by rw [Bd.returns] at h; cases h)
      exact ⟨_, _, retN X30 hx (t := .boolean) Bd.returns (by simp) (hb hby at_45) hr, hrun, hended, hP _ _ ⟨_, _, rfl, ⟨(congrArg (fun z => some (Value.int z)) hv31), N30⟩, ⟨_, rfl⟩, hW, hsame.mono (by decide) (by decide)⟩⟩
    by_cases hk5 : p1 = (5 : Int32)
    · refine own_st (t' := s₁.setTop (mkF m 26 #[.val (.int p1), .val (.int p2), .val (.int (1 : Int32)), .val (.int p1), .unset] [(.int p1)])) (fun _ k => XS.iloadN X0.here hx rfl (hb hby at_25) rfl k) ?_
      obtain ⟨_, _, ⟨T32, L32, k32, n32⟩, -, X32, ⟨Lc32, hQ32, l32, y32, z32⟩, st32⟩ := Jvm.LawKit.callS X0 hx (y := (⟨"com/example/hashbook/hashbook/proofs/ColumnType", "ofKind", "(I)Lcom/example/hashbook/hashbook/proofs/ColumnType;"⟩ : MethodName)) hown (mvT hZ (hw _ (List.mem_of_getElem? (i := 0) rfl))) (mvT hZ (hw _ (List.mem_of_getElem? (i := 1) rfl))) (mvT hZ (hw _ (List.mem_of_getElem? (i := 2) rfl))) (mvT hZ (hw _ (List.mem_of_getElem? (i := 3) rfl))) (by decide) (backOf (W := 0) (own_rm1 l Z a0 hw [] p1 wALL kA wTEXT wCOLUMNS wINTEGER wDECIMAL wBOOLEAN (.ref wBOOLEAN) h0 n0 Z0 S_ALL V F_TEXT F_COLUMNS F_INTEGER F_DECIMAL F_BOOLEAN (by rw [if_neg (Ne.symm hk1), if_neg (Ne.symm hk2), if_neg (Ne.symm hk3), if_neg (Ne.symm hk4), if_pos hk5.symm])) hZ (hw _ (List.mem_of_getElem? (i := 3) rfl)) (hw _ (List.mem_of_getElem? (i := 2) rfl)) (by decide) (by decide)) (g := (mkF m 26 #[.val (.int p1), .val (.int p2), .val (.int (1 : Int32)), .val (.int p1), .unset] [(.int p1)])) rfl (by rw [hml]; rfl) (argsL := [(.int p1)]) (rest := []) (lenOf own_rm0_pd0 rfl) rfl (by show 2 * 0 + _ ≤ _; exact Nat.le_of_eq rfl) (hb hby at_26) (fun _ _ => ⟨rfl, e0, (by decide : 0 + 0 ≤ _), (by decide : 0 + 0 ≤ _)⟩)
      dsimp only [Pt.U, Pt.locs, Pt.cells, Pt.slots] at X32 l32 y32 z32 st32 hQ32
      subst l32 y32 z32
      obtain ⟨rfl, N32q, e32⟩ := hQ32
      have N32 := Fr.app N0 N32q
      refine own_st (t' := T32.setTop (mkF m 29 #[.val (.int p1), .val (.int p2), .val (.int (1 : Int32)), .val (.int p1), .unset] [(.ref wBOOLEAN)])) st32 ?_
      refine own_st (t' := T32.setTop (mkF m 31 #[.val (.int p1), .val (.int p2), .val (.int (1 : Int32)), .val (.int p1), .val (.ref wBOOLEAN)] [])) (fun _ k => XS.astore X32.here hx rfl (hb hby at_29) rfl rfl (l' := #[.val (.int p1), .val (.int p2), .val (.int (1 : Int32)), .val (.int p1), .val (.ref wBOOLEAN)]) rfl k) ?_
      refine own_st (t' := T32.setTop (mkF m 33 #[.val (.int p1), .val (.int p2), .val (.int (1 : Int32)), .val (.int p1), .val (.ref wBOOLEAN)] [(.ref wBOOLEAN)])) (fun _ k => XS.aload X32.here hx rfl (hb hby at_31) rfl rfl k) ?_
      refine own_st (t' := T32.setTop (mkF m 34 #[.val (.int p1), .val (.int p2), .val (.int (1 : Int32)), .val (.int p1), .val (.ref wBOOLEAN)] [(.int p1), (.ref wBOOLEAN)])) (fun _ k => XS.iloadN X32.here hx rfl (hb hby at_33) rfl k) ?_
      obtain ⟨_, _, ⟨T33, L33, k33, n33⟩, -, X33, ⟨Lc33, hQ33, l33, y33, z33⟩, st33⟩ := Jvm.LawKit.callS X32 hx (y := (⟨"com/example/hashbook/hashbook/proofs/ColumnTypeOfKindPinLaw", "expected", "(I)Lcom/example/hashbook/hashbook/proofs/ColumnType;"⟩ : MethodName)) hown (mvT hZ (hw _ (List.mem_of_getElem? (i := 13) rfl))) (mvT hZ (hw _ (List.mem_of_getElem? (i := 14) rfl))) (mvT hZ (hw _ (List.mem_of_getElem? (i := 15) rfl))) (mvT hZ (hw _ (List.mem_of_getElem? (i := 16) rfl))) (by decide) (backOf (W := 1) (own_rm2 l Z a0 hw [] p1 wTEXT wCOLUMNS wINTEGER wDECIMAL wBOOLEAN (.ref wBOOLEAN) h0 n0 Z0 S_TEXT S_COLUMNS S_INTEGER S_DECIMAL S_BOOLEAN (by rw [if_neg hk1, if_neg hk2, if_neg hk3, if_neg hk4, if_pos hk5])) hZ (hw _ (List.mem_of_getElem? (i := 16) rfl)) (hw _ (List.mem_of_getElem? (i := 15) rfl)) (by decide) (by decide)) (g := (mkF m 34 #[.val (.int p1), .val (.int p2), .val (.int (1 : Int32)), .val (.int p1), .val (.ref wBOOLEAN)] [(.int p1), (.ref wBOOLEAN)])) rfl (by rw [hml]; rfl) (argsL := [(.int p1)]) (rest := [(.ref wBOOLEAN)]) (lenOf own_rm0_pd0 rfl) rfl (by show 2 * 0 + _ ≤ _; exact Nat.le_of_eq rfl) (hb hby at_34) (fun _ _ => ⟨rfl, e32, (by decide : 0 + 0 + 0 ≤ _), (by decide : 0 + 0 + 0 ≤ _)⟩)
      dsimp only [Pt.U, Pt.locs, Pt.cells, Pt.slots] at X33 l33 y33 z33 st33 hQ33
      subst l33 y33 z33
      obtain ⟨rfl, N33q, e33⟩ := hQ33
      have N33 := Fr.app N32 N33q
      refine own_st (t' := T33.setTop (mkF m 37 #[.val (.int p1), .val (.int p2), .val (.int (1 : Int32)), .val (.int p1), .val (.ref wBOOLEAN)] [(.ref wBOOLEAN), (.ref wBOOLEAN)])) st33 ?_
      refine own_st (t' := T33.setTop (mkF m 40 #[.val (.int p1), .val (.int p2), .val (.int (1 : Int32)), .val (.int p1), .val (.ref wBOOLEAN)] [])) (fun _ k => Jvm.RoadKit.acmp (g := (mkF m 37 #[.val (.int p1), .val (.int p2), .val (.int (1 : Int32)), .val (.int p1), .val (.ref wBOOLEAN)] [(.ref wBOOLEAN), (.ref wBOOLEAN)])) X33 hx rfl rfl rfl (pc0 := 37) (pc' := 40) (same := true) rfl (hb hby at_37) rfl (decide_eq_true rfl) (by decide) (by decide) k) ?_
      refine own_st (t' := T33.setTop (mkF m 41 #[.val (.int p1), .val (.int p2), .val (.int (1 : Int32)), .val (.int p1), .val (.ref wBOOLEAN)] [(.int (1 : Int32))])) (fun _ k => XS.iconst X33.here hx rfl (hb hby at_40) k) ?_
      refine own_st (t' := T33.setTop (mkF m 45 #[.val (.int p1), .val (.int p2), .val (.int (1 : Int32)), .val (.int p1), .val (.ref wBOOLEAN)] [(.int (1 : Int32))])) (fun _ k => XS.goto X33.here hx rfl (pc0 := 41) (pc' := 45) rfl (hb hby at_41) (by decide) (by decide) k) ?_
      have hv34 : (1 : Int32) = (1 : Int32) := rfl
      obtain ⟨fs, hr, hrun, hended, hW, hsame⟩ := X33.leave (v := some (.int (1 : Int32))) (fun h => by rw [Bd.returns] at h; cases h)
      exact ⟨_, _, retN X33 hx (t := .boolean) Bd.returns (by simp) (hb hby at_45) hr, hrun, hended, hP _ _ ⟨_, _, rfl, ⟨(congrArg (fun z => some (Value.int z)) hv34), N33⟩, ⟨_, rfl⟩, hW, hsame.mono (by decide) (by decide)⟩⟩
    refine own_st (t' := s₁.setTop (mkF m 26 #[.val (.int p1), .val (.int p2), .val (.int (1 : Int32)), .val (.int p1), .unset] [(.int p1)])) (fun _ k => XS.iloadN X0.here hx rfl (hb hby at_25) rfl k) ?_
    obtain ⟨_, _, ⟨T35, L35, k35, n35⟩, -, X35, ⟨Lc35, hQ35, l35, y35, z35⟩, st35⟩ := Jvm.LawKit.callS X0 hx (y := (⟨"com/example/hashbook/hashbook/proofs/ColumnType", "ofKind", "(I)Lcom/example/hashbook/hashbook/proofs/ColumnType;"⟩ : MethodName)) hown (mvT hZ (hw _ (List.mem_of_getElem? (i := 0) rfl))) (mvT hZ (hw _ (List.mem_of_getElem? (i := 1) rfl))) (mvT hZ (hw _ (List.mem_of_getElem? (i := 2) rfl))) (mvT hZ (hw _ (List.mem_of_getElem? (i := 3) rfl))) (by decide) (backOf (W := 0) (own_rm1 l Z a0 hw [] p1 wALL kA wTEXT wCOLUMNS wINTEGER wDECIMAL wBOOLEAN .null h0 n0 Z0 S_ALL V F_TEXT F_COLUMNS F_INTEGER F_DECIMAL F_BOOLEAN (by rw [if_neg (Ne.symm hk1), if_neg (Ne.symm hk2), if_neg (Ne.symm hk3), if_neg (Ne.symm hk4), if_neg (Ne.symm hk5)])) hZ (hw _ (List.mem_of_getElem? (i := 3) rfl)) (hw _ (List.mem_of_getElem? (i := 2) rfl)) (by decide) (by decide)) (g := (mkF m 26 #[.val (.int p1), .val (.int p2), .val (.int (1 : Int32)), .val (.int p1), .unset] [(.int p1)])) rfl (by rw [hml]; rfl) (argsL := [(.int p1)]) (rest := []) (lenOf own_rm0_pd0 rfl) rfl (by show 2 * 0 + _ ≤ _; exact Nat.le_of_eq rfl) (hb hby at_26) (fun _ _ => ⟨rfl, e0, (by decide : 0 + 0 ≤ _), (by decide : 0 + 0 ≤ _)⟩)
    dsimp only [Pt.U, Pt.locs, Pt.cells, Pt.slots] at X35 l35 y35 z35 st35 hQ35
    subst l35 y35 z35
    obtain ⟨rfl, N35q, e35⟩ := hQ35
    have N35 := Fr.app N0 N35q
    refine own_st (t' := T35.setTop (mkF m 29 #[.val (.int p1), .val (.int p2), .val (.int (1 : Int32)), .val (.int p1), .unset] [.null])) st35 ?_
    refine own_st (t' := T35.setTop (mkF m 31 #[.val (.int p1), .val (.int p2), .val (.int (1 : Int32)), .val (.int p1), .val .null] [])) (fun _ k => XS.astore X35.here hx rfl (hb hby at_29) rfl rfl (l' := #[.val (.int p1), .val (.int p2), .val (.int (1 : Int32)), .val (.int p1), .val .null]) rfl k) ?_
    refine own_st (t' := T35.setTop (mkF m 33 #[.val (.int p1), .val (.int p2), .val (.int (1 : Int32)), .val (.int p1), .val .null] [.null])) (fun _ k => XS.aload X35.here hx rfl (hb hby at_31) rfl rfl k) ?_
    refine own_st (t' := T35.setTop (mkF m 34 #[.val (.int p1), .val (.int p2), .val (.int (1 : Int32)), .val (.int p1), .val .null] [(.int p1), .null])) (fun _ k => XS.iloadN X35.here hx rfl (hb hby at_33) rfl k) ?_
    obtain ⟨_, _, ⟨T36, L36, k36, n36⟩, -, X36, ⟨Lc36, hQ36, l36, y36, z36⟩, st36⟩ := Jvm.LawKit.callS X35 hx (y := (⟨"com/example/hashbook/hashbook/proofs/ColumnTypeOfKindPinLaw", "expected", "(I)Lcom/example/hashbook/hashbook/proofs/ColumnType;"⟩ : MethodName)) hown (mvT hZ (hw _ (List.mem_of_getElem? (i := 13) rfl))) (mvT hZ (hw _ (List.mem_of_getElem? (i := 14) rfl))) (mvT hZ (hw _ (List.mem_of_getElem? (i := 15) rfl))) (mvT hZ (hw _ (List.mem_of_getElem? (i := 16) rfl))) (by decide) (backOf (W := 1) (own_rm2 l Z a0 hw [] p1 wTEXT wCOLUMNS wINTEGER wDECIMAL wBOOLEAN .null h0 n0 Z0 S_TEXT S_COLUMNS S_INTEGER S_DECIMAL S_BOOLEAN (by rw [if_neg hk1, if_neg hk2, if_neg hk3, if_neg hk4, if_neg hk5])) hZ (hw _ (List.mem_of_getElem? (i := 16) rfl)) (hw _ (List.mem_of_getElem? (i := 15) rfl)) (by decide) (by decide)) (g := (mkF m 34 #[.val (.int p1), .val (.int p2), .val (.int (1 : Int32)), .val (.int p1), .val .null] [(.int p1), .null])) rfl (by rw [hml]; rfl) (argsL := [(.int p1)]) (rest := [.null]) (lenOf own_rm0_pd0 rfl) rfl (by show 2 * 0 + _ ≤ _; exact Nat.le_of_eq rfl) (hb hby at_34) (fun _ _ => ⟨rfl, e35, (by decide : 0 + 0 + 0 ≤ _), (by decide : 0 + 0 + 0 ≤ _)⟩)
    dsimp only [Pt.U, Pt.locs, Pt.cells, Pt.slots] at X36 l36 y36 z36 st36 hQ36
    subst l36 y36 z36
    obtain ⟨rfl, N36q, e36⟩ := hQ36
    have N36 := Fr.app N35 N36q
    refine own_st (t' := T36.setTop (mkF m 37 #[.val (.int p1), .val (.int p2), .val (.int (1 : Int32)), .val (.int p1), .val .null] [.null, .null])) st36 ?_
    refine own_st (t' := T36.setTop (mkF m 40 #[.val (.int p1), .val (.int p2), .val (.int (1 : Int32)), .val (.int p1), .val .null] [])) (fun _ k => Jvm.RoadKit.acmp (g := (mkF m 37 #[.val (.int p1), .val (.int p2), .val (.int (1 : Int32)), .val (.int p1), .val .null] [.null, .null])) X36 hx rfl rfl rfl (pc0 := 37) (pc' := 40) (same := true) rfl (hb hby at_37) rfl (decide_eq_true rfl) (by decide) (by decide) k) ?_
    refine own_st (t' := T36.setTop (mkF m 41 #[.val (.int p1), .val (.int p2), .val (.int (1 : Int32)), .val (.int p1), .val .null] [(.int (1 : Int32))])) (fun _ k => XS.iconst X36.here hx rfl (hb hby at_40) k) ?_
    refine own_st (t' := T36.setTop (mkF m 45 #[.val (.int p1), .val (.int p2), .val (.int (1 : Int32)), .val (.int p1), .val .null] [(.int (1 : Int32))])) (fun _ k => XS.goto X36.here hx rfl (pc0 := 41) (pc' := 45) rfl (hb hby at_41) (by decide) (by decide) k) ?_
    have hv37 : (1 : Int32) = (1 : Int32) := rfl
    obtain ⟨fs, hr, hrun, hended, hW, hsame⟩ := X36.leave (v := some (.int (1 : Int32))) (fun h => by rw [Bd.returns] at h; cases h)
    exact ⟨_, _, retN X36 hx (t := .boolean) Bd.returns (by simp) (hb hby at_45) hr, hrun, hended, hP _ _ ⟨_, _, rfl, ⟨(congrArg (fun z => some (Value.int z)) hv37), N36⟩, ⟨_, rfl⟩, hW, hsame.mono (by decide) (by decide)⟩⟩

set_option maxRecDepth 65536 in
set_option maxHeartbeats 40000000 in
theorem comes_1 {Post : Tables → Env → Array Value → State → Outcome → State → Prop} (hpost : ∀ tb e args s v u, (limb_1_1.after args s (.returned v) u = true ∧ limb_1_2.after args s (.returned v) u = true ∧ True) → FrameEnd s (.returned v) u (Jvm.fieldLocs frame_1_writes args s ++ Jvm.arrayLocs frame_1_arrays args s ++ Jvm.staticLocs frame_1_statics s) 0 0 → Post tb e args s (.returned v) u) :
    ArmFor flags0 classFile x code maxLocals ret World_1 tables_1 room_1 Calls_1 rest_1 Pre_1 Post := by
  intro l hfl _ _ p e ha hc hk s m args below hf hA hF happ hP
  obtain ⟨hcalls, hrest, hpre⟩ := hP
  obtain ⟨-, -, -, hnamed, -, -, -, hat⟩ := (Spec.applies_iff hf).mp happ
  obtain ⟨hg, hn⟩ := and_e (Cond.before_iff.mp (show (Jvm.Cond.and given_1 narrow_1).before args s = true from hpre))
  obtain ⟨hcnt, hg0⟩ := and_e hg
  obtain ⟨ga0, hg1⟩ := and_e hg0
  obtain ⟨w0, w1, rfl⟩ : ∃ w0 w1 : Value, args = #[w0, w1] := by
    have hs : args.size = 2 := by simpa [Cond.value, given_1] using hcnt
    obtain ⟨L⟩ := args
    match L, hs with
    | [w0, w1], _ => exact ⟨w0, w1, rfl⟩
  have hw := fun d (hd : d ∈ tables_1) => atoms_spec (ws := Jvm.Cond.code x code maxLocals ret :: tables_1) hat d (List.mem_cons_of_mem _ hd)
  have hfit : Fit s := fun {y c} hc i hi => by
    obtain ⟨ha, rfl⟩ := Array.getElem?_eq_some_iff.mp hc
    have q := List.all_eq_true.mp ((Array.all_eq_true_iff_forall_mem.mp hF) _ (Array.getElem_mem ha)) i (List.mem_range.mpr hi)
    simpa [Array.getElem?_eq_getElem hi] using q
  obtain ⟨i0, ei0⟩ := is_v ga0
  obtain rfl : w0 = (.int i0) := Option.some.inj ei0
  obtain ⟨i1, ei1⟩ := is_v hg1
  obtain rfl : w1 = (.int i1) := Option.some.inj ei1
  obtain ⟨k0, kr_0⟩ := and_e hn
  obtain ⟨k1, kr_1⟩ := and_e kr_0
  obtain ⟨k2, kr_2⟩ := and_e kr_1
  obtain ⟨k3, kr_3⟩ := and_e kr_2
  obtain ⟨k4, kr_4⟩ := and_e kr_3
  obtain ⟨k5, kr_5⟩ := and_e kr_4
  obtain ⟨k6, kr_6⟩ := and_e kr_5
  obtain ⟨k7, kr_7⟩ := and_e kr_6
  obtain ⟨k8, kr_8⟩ := and_e kr_7
  obtain ⟨k9, kr_9⟩ := and_e kr_8
  obtain ⟨k10, kr_10⟩ := and_e kr_9
  obtain ⟨k11, kr_11⟩ := and_e kr_10
  obtain ⟨k12, kr_12⟩ := and_e kr_11
  obtain ⟨k13, kr_13⟩ := and_e kr_12
  obtain ⟨k14, kr_14⟩ := and_e kr_13
  obtain ⟨k15, kr_15⟩ := and_e kr_14
  have k16 := kr_15
  obtain ⟨wA, eA⟩ := arr_v k0
  obtain ⟨cl, A⟩ := Arr.start eA k0
  have SA := Sta.start eA (Or.inr ⟨(hw _ (List.mem_of_getElem? (i := 2) rfl)), (hw _ (List.mem_of_getElem? (i := 5) rfl))⟩)
  have hl := own_len eA A k1
  obtain ⟨v0, e0, S0, E0⟩ := own_enum k2 (Or.inr ⟨(hw _ (List.mem_of_getElem? (i := 2) rfl)), (hw _ (List.mem_of_getElem? (i := 6) rfl))⟩)
  have el0 := own_elem eA A e0 k3 (by decide)
  have F0 := Fld.start (own_ord e0 k4)
  obtain ⟨v1, e1, S1, E1⟩ := own_enum k5 (Or.inr ⟨(hw _ (List.mem_of_getElem? (i := 2) rfl)), (hw _ (List.mem_of_getElem? (i := 9) rfl))⟩)
  have el1 := own_elem eA A e1 k6 (by decide)
  have F1 := Fld.start (own_ord e1 k7)
  obtain ⟨v2, e2, S2, E2⟩ := own_enum k8 (Or.inr ⟨(hw _ (List.mem_of_getElem? (i := 2) rfl)), (hw _ (List.mem_of_getElem? (i := 10) rfl))⟩)
  have el2 := own_elem eA A e2 k9 (by decide)
  have F2 := Fld.start (own_ord e2 k10)
  obtain ⟨v3, e3, S3, E3⟩ := own_enum k11 (Or.inr ⟨(hw _ (List.mem_of_getElem? (i := 2) rfl)), (hw _ (List.mem_of_getElem? (i := 11) rfl))⟩)
  have el3 := own_elem eA A e3 k12 (by decide)
  have F3 := Fld.start (own_ord e3 k13)
  obtain ⟨v4, e4, S4, E4⟩ := own_enum k14 (Or.inr ⟨(hw _ (List.mem_of_getElem? (i := 2) rfl)), (hw _ (List.mem_of_getElem? (i := 12) rfl))⟩)
  have el4 := own_elem eA A e4 k15 (by decide)
  have F4 := Fld.start (own_ord e4 k16)
  have VA : Arv s s.heap wA cl.cls (.object "com/example/hashbook/hashbook/proofs/ColumnType") (5 : Int32) [(.ref v0), (.ref v1), (.ref v2), (.ref v3), (.ref v4)] .null := Arv.start hfit A hl.1 hl.2 (by decide) rfl ⟨el0, el1, el2, el3, el4, trivial⟩
  obtain ⟨n, o, h1, h2, h3, _, L, rfl, ⟨rfl, N⟩, hq⟩ := own_rm0 l s _ hw tables_1 i0 i1 wA cl.cls v0 v1 v2 v3 v4 s.heap s.heap.size (Nat.le_refl _) SA VA F0 F1 F2 F3 F4 S0 S1 S2 S3 S4 p e ha hc hk s m _ below hf ((Spec.applies_iff_loose hf).mp happ).1 ⟨rfl, State.Warmed39.refl s, rfl⟩ trivial
  refine ⟨n, _, h1, h2, h3, hpost _ _ _ _ _ _ ⟨Cond.after_iff.mpr rfl, Cond.after_iff.mpr (eq_i res_at (Term.int_eval (1)) rfl), trivial⟩ ⟨hq.1, hq.2.1, (hq.2.2.sift fun y hy => Or.inr (N y hy)).mono (by decide) (by decide)⟩⟩
theorem main_1_1 : Claimed_1_1 := comes_1 fun _ _ _ _ _ _ h hF => ⟨h.1, hF⟩
theorem main_1_2 : Claimed_1_2 := comes_1 fun _ _ _ _ _ _ h hF => ⟨h.2.1, hF⟩
end Jvm.Pilot.@@N@@
namespace Jvm.Pilot.@@N@@
open Jvm Jvm.ClassFile Sem Op Lib Jvm.Free Jvm.Stand Jvm.Pilot.@@N@@.Jvm.D
/-! MADE BY PROGRAM (witnessworld.py) out of the Statement's table words and the real class files: 13 classes; the members and pool entries that the words name. The judged class is class 1, her method 2. -/
namespace start1
open Jvm.ClassFile
def u (s : String) : CpInfo := .utf8 (stringToUtf16 s)
/-- a pool by its gaps: so many unusable entries, then the entry; so many at the end -/
def gap : Nat → List CpInfo → List CpInfo
  | 0, r => r
  | n + 1, r => .unusable :: gap n r
def poolList (es : List (Nat × CpInfo)) (last : Nat) : List CpInfo := es.foldr (fun e r => gap e.1 (e.2 :: r)) (gap last [])
def pool (es : List (Nat × CpInfo)) (last : Nat) : Array CpInfo := ⟨poolList es last⟩
def fileOf (pool : Array CpInfo) (this : Nat) (attrs : Array Attribute := #[]) (ms : Array MethodInfo := #[]) (fl : Nat := 33) (sup : Nat := 0) (ifs : Array Nat := #[]) (fds : Array FieldInfo := #[]) : ClassFile where
  minorVersion := 0
  majorVersion := 65
  constantPool := pool
  accessFlags := fl
  thisClass := this
  superClass := sup
  interfaces := ifs
  fields := fds
  methods := ms
  attributes := attrs
def plain (name : String) (sup : Option ClassId) : Class where
  name := name
  kind := .ordinary
  loader := none
  accessFlags := 33
  super := sup
  interfaces := #[]
  cf := none
  fields := #[]
  methods := #[]
  instanceTypes := #[]
  staticTypes := #[]
  resolved := #[]
  callSites := []
  init := .initialized
  statics := none
  mirror := none

def pool0 : Array CpInfo := pool [(5, u "<init>"), (0, u "()V"), (1, .class_ 10), (1, u "java/lang/Object")] 113

def k0m0 : Method := { name := "<init>", desc := "()V", sig := { parameters := [], returnType := none }, accessFlags := 1, code := none }
/-- java/lang/Object -/
def k0 : Class := { plain "java/lang/Object" none with
  accessFlags := 33
  interfaces := #[]
  cf := some (fileOf pool0 8 #[] #[{ accessFlags := 1, nameIndex := 5, descriptorIndex := 6, attributes := #[] }] 33 0 #[] #[])
  fields := #[]
  methods := #[k0m0]
  instanceTypes := #[]
  staticTypes := #[]
  resolved := Array.replicate 124 none
  statics := none }

def pool1 : Array CpInfo := pool [(2, .class_ 4), (1, u "java/lang/Object"), (0, u "<init>"), (0, u "()V"), (0, .fieldref 8 9), (0, .class_ 10), (0, .nameAndType 11 12), (0, u "com/example/hashbook/hashbook/proofs/ColumnType"), (0, u "TEXT"), (0, u "Lcom/example/hashbook/hashbook/proofs/ColumnType;"), (0, .fieldref 8 14), (0, .nameAndType 15 12), (0, u "COLUMNS"), (0, .fieldref 8 17), (0, .nameAndType 18 12), (0, u "INTEGER"), (0, .fieldref 8 20), (0, .nameAndType 21 12), (0, u "DECIMAL"), (0, .fieldref 8 23), (0, .nameAndType 24 12), (0, u "BOOLEAN"), (0, .methodref 8 26), (0, .nameAndType 27 28), (0, u "ofKind"), (0, u "(I)Lcom/example/hashbook/hashbook/proofs/ColumnType;"), (0, .methodref 30 31), (0, .class_ 32), (0, .nameAndType 33 28), (0, u "com/example/hashbook/hashbook/proofs/ColumnTypeOfKindPinLaw"), (0, u "expected"), (3, u "law"), (0, u "(II)Z")] 2

def k1m0 : Method := { name := "<init>", desc := "()V", sig := { parameters := [], returnType := none }, accessFlags := 2, code := none }
def k1c1 : Code := { maxStack := 2, maxLocals := 1, code := method_2_code, exceptionTable := #[], attributes := #[] }
def k1m1 : Method := { name := "expected", desc := "(I)Lcom/example/hashbook/hashbook/proofs/ColumnType;", sig := { parameters := [.int], returnType := some (.object "com/example/hashbook/hashbook/proofs/ColumnType") }, accessFlags := 10, code := some k1c1 }
def k1c2 : Code := { maxStack := 2, maxLocals := 5, code := code, exceptionTable := #[], attributes := #[] }
def k1m2 : Method := { name := "law", desc := "(II)Z", sig := { parameters := [.int, .int], returnType := some .boolean }, accessFlags := 9, code := some k1c2 }
/-- com/example/hashbook/hashbook/proofs/ColumnTypeOfKindPinLaw -/
def k1 : Class := { plain "com/example/hashbook/hashbook/proofs/ColumnTypeOfKindPinLaw" (some 0) with
  accessFlags := 49
  interfaces := #[]
  cf := some (fileOf pool1 30 #[] #[{ accessFlags := 2, nameIndex := 5, descriptorIndex := 6, attributes := #[] }, { accessFlags := 10, nameIndex := 33, descriptorIndex := 28, attributes := #[] }, { accessFlags := 9, nameIndex := 37, descriptorIndex := 38, attributes := #[] }] 49 2 #[] #[])
  fields := #[]
  methods := #[k1m0, k1m1, k1m2]
  instanceTypes := #[]
  staticTypes := #[]
  resolved := Array.replicate 41 none
  statics := none }

def pool2 : Array CpInfo := pool [(1, .class_ 2), (0, u "java/lang/constant/Constable"), (0, .class_ 4), (0, u "java/lang/Object")] 6

/-- java/lang/constant/Constable -/
def k2 : Class := { plain "java/lang/constant/Constable" (some 0) with
  accessFlags := 1537
  interfaces := #[]
  cf := some (fileOf pool2 1 #[] #[] 1537 3 #[] #[])
  fields := #[]
  methods := #[]
  instanceTypes := #[]
  staticTypes := #[]
  resolved := Array.replicate 11 none
  statics := none }

def pool3 : Array CpInfo := pool [(1, .class_ 2), (0, u "java/lang/Comparable"), (0, .class_ 4), (0, u "java/lang/Object")] 7

/-- java/lang/Comparable -/
def k3 : Class := { plain "java/lang/Comparable" (some 0) with
  accessFlags := 1537
  interfaces := #[]
  cf := some (fileOf pool3 1 #[] #[] 1537 3 #[] #[])
  fields := #[]
  methods := #[]
  instanceTypes := #[]
  staticTypes := #[]
  resolved := Array.replicate 12 none
  statics := none }

def pool4 : Array CpInfo := pool [(1, .class_ 2), (0, u "java/io/Serializable"), (0, .class_ 4), (0, u "java/lang/Object")] 2

/-- java/io/Serializable -/
def k4 : Class := { plain "java/io/Serializable" (some 0) with
  accessFlags := 1537
  interfaces := #[]
  cf := some (fileOf pool4 1 #[] #[] 1537 3 #[] #[])
  fields := #[]
  methods := #[]
  instanceTypes := #[]
  staticTypes := #[]
  resolved := Array.replicate 7 none
  statics := none }

def pool5 : Array CpInfo := pool [(2, .class_ 4), (1, u "java/lang/Enum"), (0, u "name"), (0, u "Ljava/lang/String;"), (2, u "ordinal"), (0, u "I"), (1, .class_ 14), (1, u "java/lang/Object"), (4, u "hash"), (86, .class_ 108), (1, u "java/lang/Enum$EnumDesc"), (2, .class_ 112), (0, u "java/lang/constant/Constable"), (0, .class_ 114), (0, u "java/lang/Comparable"), (0, .class_ 116), (0, u "java/io/Serializable")] 87

/-- java/lang/Enum -/
def k5 : Class := { plain "java/lang/Enum" (some 0) with
  accessFlags := 1057
  interfaces := #[2, 3, 4]
  cf := some (fileOf pool5 2 #[.nestMembers #[106]] #[] 1057 12 #[111, 113, 115] #[{ accessFlags := 18, nameIndex := 5, descriptorIndex := 6, attributes := #[] }, { accessFlags := 18, nameIndex := 9, descriptorIndex := 10, attributes := #[] }, { accessFlags := 2, nameIndex := 19, descriptorIndex := 10, attributes := #[] }])
  fields := #[{ name := "name", type := (.object "java/lang/String"), accessFlags := 18, slot := 0, constantValue := 0 }, { name := "ordinal", type := .int, accessFlags := 18, slot := 1, constantValue := 0 }, { name := "hash", type := .int, accessFlags := 2, slot := 2, constantValue := 0 }]
  methods := #[]
  instanceTypes := #[(.object "java/lang/String"), .int, .int]
  staticTypes := #[]
  resolved := Array.replicate 204 none
  statics := none }

def pool6 : Array CpInfo := pool [(1, .class_ 2), (0, u "com/example/hashbook/hashbook/proofs/ColumnType"), (2, u "TEXT"), (0, u "Lcom/example/hashbook/hashbook/proofs/ColumnType;"), (2, u "COLUMNS"), (2, u "INTEGER"), (2, u "DECIMAL"), (2, u "BOOLEAN"), (2, u "$VALUES"), (0, u "[Lcom/example/hashbook/hashbook/proofs/ColumnType;"), (6, .class_ 31), (1, u "java/lang/Enum"), (8, u "label"), (0, u "Ljava/lang/String;"), (0, .fieldref 1 43), (0, .nameAndType 44 45), (0, u "kind"), (0, u "I"), (2, u "described"), (54, .fieldref 1 104), (0, .nameAndType 105 22), (0, u "ALL"), (55, u "ofKind"), (0, u "(I)Lcom/example/hashbook/hashbook/proofs/ColumnType;")] 24

def k6c0 : Code := { maxStack := 2, maxLocals := 5, code := prog_12_method_11_code, exceptionTable := #[], attributes := #[] }
def k6m0 : Method := { name := "ofKind", desc := "(I)Lcom/example/hashbook/hashbook/proofs/ColumnType;", sig := { parameters := [.int], returnType := some (.object "com/example/hashbook/hashbook/proofs/ColumnType") }, accessFlags := 9, code := some k6c0 }
/-- com/example/hashbook/hashbook/proofs/ColumnType -/
def k6 : Class := { plain "com/example/hashbook/hashbook/proofs/ColumnType" (some 5) with
  accessFlags := 16433
  interfaces := #[]
  cf := some (fileOf pool6 1 #[] #[{ accessFlags := 9, nameIndex := 161, descriptorIndex := 162, attributes := #[] }] 16433 29 #[] #[{ accessFlags := 16409, nameIndex := 5, descriptorIndex := 6, attributes := #[] }, { accessFlags := 16409, nameIndex := 9, descriptorIndex := 6, attributes := #[] }, { accessFlags := 16409, nameIndex := 12, descriptorIndex := 6, attributes := #[] }, { accessFlags := 16409, nameIndex := 15, descriptorIndex := 6, attributes := #[] }, { accessFlags := 16409, nameIndex := 18, descriptorIndex := 6, attributes := #[] }, { accessFlags := 26, nameIndex := 105, descriptorIndex := 22, attributes := #[] }, { accessFlags := 18, nameIndex := 40, descriptorIndex := 41, attributes := #[] }, { accessFlags := 18, nameIndex := 44, descriptorIndex := 45, attributes := #[] }, { accessFlags := 18, nameIndex := 48, descriptorIndex := 41, attributes := #[] }, { accessFlags := 4122, nameIndex := 21, descriptorIndex := 22, attributes := #[] }])
  fields := #[{ name := "TEXT", type := (.object "com/example/hashbook/hashbook/proofs/ColumnType"), accessFlags := 16409, slot := 0, constantValue := 0 }, { name := "COLUMNS", type := (.object "com/example/hashbook/hashbook/proofs/ColumnType"), accessFlags := 16409, slot := 1, constantValue := 0 }, { name := "INTEGER", type := (.object "com/example/hashbook/hashbook/proofs/ColumnType"), accessFlags := 16409, slot := 2, constantValue := 0 }, { name := "DECIMAL", type := (.object "com/example/hashbook/hashbook/proofs/ColumnType"), accessFlags := 16409, slot := 3, constantValue := 0 }, { name := "BOOLEAN", type := (.object "com/example/hashbook/hashbook/proofs/ColumnType"), accessFlags := 16409, slot := 4, constantValue := 0 }, { name := "ALL", type := (.array (.object "com/example/hashbook/hashbook/proofs/ColumnType")), accessFlags := 26, slot := 5, constantValue := 0 }, { name := "label", type := (.object "java/lang/String"), accessFlags := 18, slot := 3, constantValue := 0 }, { name := "kind", type := .int, accessFlags := 18, slot := 4, constantValue := 0 }, { name := "described", type := (.object "java/lang/String"), accessFlags := 18, slot := 5, constantValue := 0 }, { name := "$VALUES", type := (.array (.object "com/example/hashbook/hashbook/proofs/ColumnType")), accessFlags := 4122, slot := 6, constantValue := 0 }]
  methods := #[k6m0]
  instanceTypes := #[(.object "java/lang/String"), .int, .int, (.object "java/lang/String"), .int, (.object "java/lang/String")]
  staticTypes := #[(.object "com/example/hashbook/hashbook/proofs/ColumnType"), (.object "com/example/hashbook/hashbook/proofs/ColumnType"), (.object "com/example/hashbook/hashbook/proofs/ColumnType"), (.object "com/example/hashbook/hashbook/proofs/ColumnType"), (.object "com/example/hashbook/hashbook/proofs/ColumnType"), (.array (.object "com/example/hashbook/hashbook/proofs/ColumnType")), (.array (.object "com/example/hashbook/hashbook/proofs/ColumnType"))]
  resolved := Array.replicate 187 none
  statics := some 0 }

def pool7 : Array CpInfo := pool [(1, u "java/lang/Cloneable"), (0, .class_ 1), (0, u "java/lang/Object"), (0, .class_ 3)] 3

/-- java/lang/Cloneable -/
def k7 : Class := { plain "java/lang/Cloneable" (some 0) with
  accessFlags := 1537
  interfaces := #[]
  cf := some (fileOf pool7 2 #[] #[] 1537 4 #[] #[])
  fields := #[]
  methods := #[]
  instanceTypes := #[]
  staticTypes := #[]
  resolved := Array.replicate 8 none
  statics := none }

/-- the primitive byte -/
def k8 : Class := { plain "byte" none with kind := .primitive 'B', accessFlags := 0x411 }
/-- [B -/
def k9 : Class := { plain "[B" (some 0) with kind := .array 8 .byte, interfaces := #[7, 4], accessFlags := 1041 }

/-- the primitive int -/
def k10 : Class := { plain "int" none with kind := .primitive 'I', accessFlags := 0x411 }
/-- [I -/
def k11 : Class := { plain "[I" (some 0) with kind := .array 10 .int, interfaces := #[7, 4], accessFlags := 1041 }

/-- [Lcom/example/hashbook/hashbook/proofs/ColumnType; -/
def k12 : Class := { plain "[Lcom/example/hashbook/hashbook/proofs/ColumnType;" (some 0) with kind := .array 6 (.object "com/example/hashbook/hashbook/proofs/ColumnType"), interfaces := #[7, 4], accessFlags := 1041 }

def heap : Heap := #[{ cls := 6, slots := #[.ref 2, .ref 3, .ref 4, .ref 5, .ref 6, .ref 1, .null], vm := .statics 6 },
  { cls := 12, slots := #[.ref 2, .ref 3, .ref 4, .ref 5, .ref 6], vm := .none },
  { cls := 6, slots := #[.null, .int 0, .int 0, .null, .int 1, .null], vm := .none },
  { cls := 6, slots := #[.null, .int 1, .int 0, .null, .int 2, .null], vm := .none },
  { cls := 6, slots := #[.null, .int 2, .int 0, .null, .int 3, .null], vm := .none },
  { cls := 6, slots := #[.null, .int 3, .int 0, .null, .int 4, .null], vm := .none },
  { cls := 6, slots := #[.null, .int 4, .int 0, .null, .int 5, .null], vm := .none }]
def classes : Array Class := #[k0, k1, k2, k3, k4, k5, k6, k7, k8, k9, k10, k11, k12]
def interned : List (Array UInt16 × Addr) := []
def slotsUsed : Nat := 42
def theMethod : MethodId := ⟨1, 2⟩
def args0 : Array Value := #[.int 5, .int 3]
def aboutOver (below : List Frame) : State where
  vm := { classes := classes, interned := interned.toArray }
  heap := heap
  slotsUsed := slotsUsed
  threads := #[{ frames := .invoking theMethod args0 :: below }]
def below0 : List Frame := [.native { method := ⟨0, 0⟩, args := #[] }]
def about1 : State := aboutOver below0
def p0 : Program := .bare "" "" ""
def e0 : Env := launch0.env 0 0 0
theorem w_frames : about1.frames = Frame.invoking theMethod args0 :: below0 := rfl
set_option maxRecDepth 65536 in
theorem w_args : argsFit about1.vm theMethod args0 = true := by decide +kernel
set_option maxRecDepth 65536 in
theorem w_heap : heapFits about1 = true := by decide +kernel
set_option maxRecDepth 65536 in
theorem w_runnable : about1.curStatus? = some .runnable := by decide +kernel
set_option maxRecDepth 65536 in
theorem w_alone : about1.alone = true := by decide +kernel
set_option maxRecDepth 65536 in
theorem w_named : about1.methodNamed? x = some theMethod := by decide +kernel
set_option maxRecDepth 65536 in
theorem w_hears : about1.hears theMethod below0 = true := by decide +kernel
set_option maxRecDepth 65536 in
theorem w_ripe : about1.ripe theMethod args0 below0 = true := by decide +kernel
theorem w_running : about1.status = .running := rfl
set_option maxRecDepth 65536 in
theorem w_room : about1.hasRoom e0.platform room_1 = true :=
  launch0.hasRoom_least _ room_1 (by decide +kernel) (by decide +kernel) (by decide +kernel) (by decide +kernel) (by decide +kernel) (by decide +kernel)
theorem allAtoms_all (ts : List Jvm.Cond) (a : Array Jvm.Value) (st : Jvm.State) : (allAtoms ts).before a st = ts.all (fun c => c.before a st) := by
  induction ts with
  | nil => rfl
  | cons c t ih =>
    show (Jvm.Cond.and c (allAtoms t)).before a st = _
    rw [Jvm.Cond.before_and, ih, List.all_cons]
def words1 : List Jvm.Cond := Jvm.Cond.code x code maxLocals ret :: tables_1
/-- a 'code' word, met by the world's own term for the bytes: nothing is compared byte by byte -/
theorem code_word {y : MethodName} {bytes : ByteArray} {mx : Nat} {rt : Option FieldType} {a : Array Value} {s : State} {m : MethodId} {meth : Method} {c : Code} (h1 : s.methodNamed? y = some m) (h2 : s.vm.method? m = some meth) (h3 : meth.code = some c) (h4 : c.code = bytes)
    (h5 : (c.maxLocals == mx && c.exceptionTable.isEmpty && decide (c.maxStack ≤ mostOperands) && decide (meth.sig.returnType = rt) && !meth.locks && decide (parseMethodDescriptor y.desc = some meth.sig)) = true) : (Jvm.Cond.code y bytes mx rt).before a s = true := by
  simp only [Bool.and_eq_true, beq_iff_eq, Bool.not_eq_true', decide_eq_true_eq] at h5
  obtain ⟨⟨⟨⟨⟨g1, g2⟩, g3⟩, g4⟩, g5⟩, g6⟩ := h5
  simp [Cond.before, Cond.holds, Cond.value, h1, h2, h3, h4, g1, g2, g3, g4, g5, g6]
def isCode : Jvm.Cond → Bool
  | .code _ _ _ _ => true
  | _ => false
theorem all_split {L : List Jvm.Cond} {P : Jvm.Cond → Bool} (h1 : L.all (fun c => isCode c || P c) = true) (h2 : ∀ c ∈ L.filter isCode, P c = true) : L.all P = true := by
  refine List.all_eq_true.mpr fun c hc => ?_
  have h := List.all_eq_true.mp h1 c hc
  rcases Bool.eq_false_or_eq_true (isCode c) with hi | hi
  · exact h2 c (List.mem_filter.mpr ⟨hc, hi⟩)
  · simpa [hi] using h
set_option maxRecDepth 65536 in
theorem w_c0 : (Jvm.Cond.code x code maxLocals ret).before args0 about1 = true := code_word (m := ⟨1, 2⟩) (meth := k1m2) (c := k1c2) (by decide +kernel) rfl rfl rfl (by decide +kernel)
set_option maxRecDepth 65536 in
theorem w_c1 : (Jvm.Cond.code ({ cls := "com/example/hashbook/hashbook/proofs/ColumnType", name := "ofKind", desc := "(I)Lcom/example/hashbook/hashbook/proofs/ColumnType;" } : Jvm.MethodName) prog_12_method_11_code (5 : Nat) (Option.some (Jvm.ClassFile.FieldType.object "com/example/hashbook/hashbook/proofs/ColumnType"))).before args0 about1 = true := code_word (m := ⟨6, 0⟩) (meth := k6m0) (c := k6c0) (by decide +kernel) rfl rfl rfl (by decide +kernel)
set_option maxRecDepth 65536 in
theorem w_c2 : (Jvm.Cond.code ({ cls := "com/example/hashbook/hashbook/proofs/ColumnTypeOfKindPinLaw", name := "expected", desc := "(I)Lcom/example/hashbook/hashbook/proofs/ColumnType;" } : Jvm.MethodName) method_2_code (1 : Nat) (Option.some (Jvm.ClassFile.FieldType.object "com/example/hashbook/hashbook/proofs/ColumnType"))).before args0 about1 = true := code_word (m := ⟨1, 1⟩) (meth := k1m1) (c := k1c1) (by decide +kernel) rfl rfl rfl (by decide +kernel)
def codes1 : List Jvm.Cond := [Jvm.Cond.code x code maxLocals ret, Jvm.Cond.code ({ cls := "com/example/hashbook/hashbook/proofs/ColumnType", name := "ofKind", desc := "(I)Lcom/example/hashbook/hashbook/proofs/ColumnType;" } : Jvm.MethodName) prog_12_method_11_code (5 : Nat) (Option.some (Jvm.ClassFile.FieldType.object "com/example/hashbook/hashbook/proofs/ColumnType")), Jvm.Cond.code ({ cls := "com/example/hashbook/hashbook/proofs/ColumnTypeOfKindPinLaw", name := "expected", desc := "(I)Lcom/example/hashbook/hashbook/proofs/ColumnType;" } : Jvm.MethodName) method_2_code (1 : Nat) (Option.some (Jvm.ClassFile.FieldType.object "com/example/hashbook/hashbook/proofs/ColumnType"))]
set_option maxRecDepth 65536 in
theorem codes_eq : words1.filter isCode = codes1 := rfl
theorem w_codes : ∀ c ∈ words1.filter isCode, c.before args0 about1 = true := by
  rw [codes_eq]
  intro c hc
  simp only [codes1, List.mem_cons, List.not_mem_nil, or_false] at hc
  rcases hc with rfl | rfl | rfl
  · exact w_c0
  · exact w_c1
  · exact w_c2
set_option maxRecDepth 65536 in
theorem w_t1 : words1.all (fun c => isCode c || c.before args0 about1) = true := by decide +kernel
theorem w_tables : (allAtoms (Jvm.Cond.code x code maxLocals ret :: tables_1)).before args0 about1 = true := by
  rw [allAtoms_all]
  show words1.all (fun c => c.before args0 about1) = true
  refine all_split ?_ w_codes
  rw [w_t1]
set_option maxRecDepth 65536 in
theorem w_case : (Jvm.Cond.and given_1 narrow_1).before args0 about1 = true := by decide +kernel
theorem w_applies : (headSpec (Jvm.Cond.code x code maxLocals ret :: tables_1) room_1).applies x e0.platform about1 = true :=
  (Spec.applies_iff w_frames).mpr ⟨w_running, w_runnable, w_alone, w_named, w_hears, w_ripe, w_room, w_tables⟩
theorem atStart : AtStart classFile x code maxLocals ret World_1 tables_1 room_1 Calls_1 rest_1 Pre_1 launch0 p0 e0 about1 theMethod args0 below0 :=
  ⟨lists_1, trivial, launch0.admits_env _ _ _, launch0.least_env, fairChoices_fair.cas, fairChoices_fair.clock, w_frames, w_args, w_heap, w_applies, trivial, trivial, w_case⟩
end start1
theorem witness_1 : WitnessClaimed_1 := ⟨start1.p0, start1.e0, start1.about1, start1.theMethod, start1.args0, start1.below0, start1.atStart⟩
end Jvm.Pilot.@@N@@
