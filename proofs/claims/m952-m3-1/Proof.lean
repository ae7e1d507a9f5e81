import JvmDerived
import JvmDerived.Pilot.@@N@@Statement
import JvmDerived.Pilot.@@N@@Code
set_option linter.unusedVariables false
set_option linter.unusedSimpArgs false
namespace Jvm.RoadKit
open Sem ClassFile Op Lib Jvm.Stand Jvm.Free Jvm.LawKit
section New
variable {p : Program} {l : Launch} {e : Env} {R : Room} {s : State} {m : MethodId} {args : Array Value} {below : List Frame} {meth : Method} {c : Code} {T : State} {locs : List Loc} {cells slots : Nat}
theorem retI (X : Stand p l e R s m args below meth c T locs cells slots) (hx : p.tables.exec = Jvm.exec) {pc : Nat} {Ls : Array Slot} {z : Int32} {rest : List Value} (hret : meth.sig.returnType = some .int) (hd : decode c.code pc = .ok (.ireturn, 1)) {fs : List Frame}
    (hl : ∀ (f : JFrame) (acts : List Action), f.method = m → f.locked = none → f.entered = [] → (doReturn e (T.setTop f) acts (some (.int z))).1 = T.setFrames fs) : Steps p.tables e below (T.setTop (mkF m pc Ls (.int z :: rest))) (T.setFrames fs) := by
  have hm' : T.vm.method? m = some meth := X.method'
  have hn : narrow .int (.int z) = .int z := rfl
  show Steps p.tables e below (T.setTop { method := m, pc := pc, locals := Ls, stack := _ :: rest, locked := none }) _
  jvm_step X.here [X.here.top, hx, hd, hm', hret, hn]
  first | (intro acts; rw [hl _ acts rfl rfl rfl]) | rw [hl _ _ rfl rfl rfl]
  exact Steps.refl _
end New
end Jvm.RoadKit
namespace Jvm.Pilot.@@N@@
open Jvm Jvm.ClassFile Sem Op Lib Jvm.Free Jvm.Stand Jvm.LawKit Jvm.RoadKit Bundle Jvm.Pilot.@@N@@.Jvm.D
/-! the rest of a run, from the state t on: it comes to an end of which P holds -/
def own_At (p : Program) (e : Env) (below : List Frame) (P : Outcome → State → Prop) (t : State) : Prop := ∃ s₂ o, Steps p.tables e below t s₂ ∧ s₂.status = .running ∧ Ended s₂ below o ∧ P o s₂
theorem own_body {p : Program} {e : Env} {below : List Frame} {P : Outcome → State → Prop} {t : State} (h : ∀ P' : Outcome → State → Prop, (∀ o u, P o u → P' o u) → own_At p e below P' t) : own_At p e below P t := h P fun _ _ q => q
theorem own_st {p : Program} {e : Env} {below : List Frame} {P : Outcome → State → Prop} {t t' : State} (h : ∀ target, Steps p.tables e below t' target → Steps p.tables e below t target) (k : own_At p e below P t') : own_At p e below P t := by
  obtain ⟨s₂, o, h1, h2⟩ := k
  exact ⟨s₂, o, h _ h1, h2⟩
theorem own_tr {p : Program} {e : Env} {below : List Frame} {P : Outcome → State → Prop} {t t' : State} (h : Steps p.tables e below t t') (k : own_At p e below P t') : own_At p e below P t := by
  obtain ⟨s₂, o, h1, h2⟩ := k
  exact ⟨s₂, o, h.trans h1, h2⟩
def own_len (z : Int32) : Int32 := if z < (4 : Int32) then (88 : Int32) + (48 : Int32) else (88 : Int32) + (48 : Int32) + (40 : Int32)

theorem own_sta {s : State} {a : Array Value} {C n d : String} {z : Int32} (h : (Jvm.Cond.eq (Jvm.Term.static C n d) (Jvm.Term.int z)).value a s none s [] = some true) (hi : (Cond.initializedFor C n d).before a s = true ∨ ((Cond.initialized C).before a s = true ∧ (Cond.laysStatic C n d).before a s = true)) : Sta s s.heap C n d (.int z) := Sta.start (eqv_i rfl h) hi
theorem own_staL {s : State} {a : Array Value} {C n d : String} {z : Int64} (h : (Jvm.Cond.eq (Jvm.Term.static C n d) (Jvm.Term.long z)).value a s none s [] = some true) (hi : (Cond.initializedFor C n d).before a s = true ∨ ((Cond.initialized C).before a s = true ∧ (Cond.laysStatic C n d).before a s = true)) : Sta s s.heap C n d (.long z) := Sta.start (eqv_l rfl h) hi
theorem own_enum {s : State} {a : Array Value} {C n d K : String} (h : (Jvm.Cond.exactly (Jvm.Term.static C n d) K).value a s none s [] = some true) (hi : (Cond.initializedFor C n d).before a s = true ∨ ((Cond.initialized C).before a s = true ∧ (Cond.laysStatic C n d).before a s = true)) : ∃ r : Addr, (Jvm.Term.static C n d).eval a s none [] s = some (.ref r) ∧ Sta s s.heap C n d (.ref r) ∧ Exa s s.heap r K := by
  obtain ⟨r, c', cell, k, e1, -⟩ := Cond.exactly_spec (Cond.before_iff.mpr h)
  exact ⟨r, e1, Sta.start e1 hi, Exa.start e1 h⟩
theorem own_ord {s : State} {a : Array Value} {t : Jvm.Term} {C n d : String} {r : Addr} {z : Int32} (e : t.eval a s none [] s = some (.ref r)) (h : (Jvm.Cond.eq (Jvm.Term.field t C n d) (Jvm.Term.int z)).value a s none s [] = some true) : s.fieldOf? r C n d = some (.int z) := by
  have q := eqv_i (F := Jvm.Term.int z) rfl h
  simpa [Term.eval, e] using q
theorem own_ne {s : State} {r r' : Addr} {C n d : String} {z z' : Int32} (h : s.fieldOf? r C n d = some (.int z)) (h' : s.fieldOf? r' C n d = some (.int z')) (q : z ≠ z') : r ≠ r' := fun e => by
  subst e
  exact q (Value.int.inj (Option.some.inj (h.symm.trans h')))

theorem own_rm1_d0 : decode prog_155_method_2_code 0 = .ok (.bipush 88, 2) := by decide +kernel
theorem own_rm1_d2 : decode prog_155_method_2_code 2 = .ok (.getstatic 36, 3) := by decide +kernel
theorem own_rm1_d5 : decode prog_155_method_2_code 5 = .ok (.iadd, 1) := by decide +kernel
theorem own_rm1_d6 : decode prog_155_method_2_code 6 = .ok (.istore_n 1, 1) := by decide +kernel
theorem own_rm1_d7 : decode prog_155_method_2_code 7 = .ok (.iload_n 0, 1) := by decide +kernel
theorem own_rm1_d8 : decode prog_155_method_2_code 8 = .ok (.iconst 4, 1) := by decide +kernel
theorem own_rm1_d9 : decode prog_155_method_2_code 9 = .ok (.if_icmp .lt 11, 3) := by decide +kernel
theorem own_rm1_d12 : decode prog_155_method_2_code 12 = .ok (.iload_n 1, 1) := by decide +kernel
theorem own_rm1_d13 : decode prog_155_method_2_code 13 = .ok (.getstatic 40, 3) := by decide +kernel
theorem own_rm1_d16 : decode prog_155_method_2_code 16 = .ok (.iadd, 1) := by decide +kernel
theorem own_rm1_d17 : decode prog_155_method_2_code 17 = .ok (.goto 4, 3) := by decide +kernel
theorem own_rm1_d20 : decode prog_155_method_2_code 20 = .ok (.iload_n 1, 1) := by decide +kernel
theorem own_rm1_d21 : decode prog_155_method_2_code 21 = .ok (.ireturn, 1) := by decide +kernel
theorem own_rm1_pn : plainName "com/example/hashbook/hashbook/store/RowPages$Anchor" = true := by first | (simp [plainName, overriddenIn]; done) | decide +kernel
theorem own_rm1_ef (m : MethodId) (x0 : Int32) : entryFrame m #[(.int x0)] 2 = mkF m 0 #[.val (.int x0), .unset] [] := by first | (simp [entryFrame, mkF, argsToLocals, Value.category]; done) | rfl
def own_rm1_Q (Z : State) (p1 : Int32) (h0 : Heap) (n0 : Nat) (v : Option Value) (h : Heap) (L : List Loc) : Prop := v = some (.int (own_len p1)) ∧ Fr n0 L ∧ h = h0
set_option maxRecDepth 65536 in
set_option maxHeartbeats 40000000 in
theorem own_rm1 (l : Launch) (Z : State) (a0 : Array Value) (hw : ∀ d ∈ tables_1, d.before a0 Z = true) (ws : List Jvm.Cond) (p1 : Int32) (h0 : Heap) (n0 : Nat) (Z0 : n0 ≤ h0.size) (S1 : Sta Z h0 "com/example/hashbook/hashbook/store/RowPages$Anchor" "LINK_OFFSETS_BYTES" "I" (.int (48 : Int32))) (S2 : Sta Z h0 "com/example/hashbook/hashbook/store/RowPages$Anchor" "TABLE_LINK_OFFSETS_BYTES" "I" (.int (40 : Int32))) :
    MetFree l (⟨"com/example/hashbook/hashbook/store/RowPages$Anchor", "length", "(I)I"⟩ : MethodName) (head1 (Jvm.Cond.code (⟨"com/example/hashbook/hashbook/store/RowPages$Anchor", "length", "(I)I"⟩ : MethodName) prog_155_method_2_code 2 (some .int) :: ws) ({ frames := 0, cells := 0, slots := 0, locals := 0 } : Room)) (fun a U => a = #[(.int p1)] ∧ Z.Warmed39 U.vm ∧ U.heap = h0) (fun _ _ _ _ _ => True) (fun _ U o U' => ∃ v L, o = .returned v ∧ own_rm1_Q Z p1 h0 n0 v U'.heap L ∧ FrameEnd U o U' L ({ frames := 0, cells := 0, slots := 0, locals := 0 } : Room).cells ({ frames := 0, cells := 0, slots := 0, locals := 0 } : Room).slots) := by
  refine MetFree.of_bodySF (plainFor_of_name own_rm1_pn) hisR ?_
  intro p e s m args below meth c s₁ Bd hml0 hPre hK
  obtain ⟨rfl, hZ, hh⟩ := hPre
  have hx := Bd.exec
  have hby := Bd.bytes
  have hml : c.maxLocals = 2 := hml0
  have hown : s.vm.findClass "com/example/hashbook/hashbook/store/RowPages$Anchor" = some m.cls := findClass_of_methodNamed Bd.named
  have hnm := (name_of_methodNamed Bd.named Bd.method).1
  have X0 : Stand p l e ({ frames := 0, cells := 0, slots := 0, locals := 0 } : Room) s m #[(.int p1)] below meth c s₁ [] 0 0 := Stand.of_body Bd
  have e0 : s₁.heap = h0 := by rw [← hh, Bd.state]; rfl
  have N0 := Fr.nil n0
  refine own_body fun P hP => ?_
  refine own_st (t' := s₁.setTop (mkF m 0 #[.val (.int p1), .unset] [])) (fun _ k => castTop (own_rm1_ef m p1) k) ?_
  refine own_st (t' := s₁.setTop (mkF m 2 #[.val (.int p1), .unset] [(.int (88 : Int32))])) (fun _ k => XS.bipush X0.here hx rfl (hb hby own_rm1_d0) k) ?_
  obtain ⟨T1, X1, e1, st1⟩ := getS2 X0 hx hZ hown (host := "") (Or.inl (hw _ (List.mem_of_getElem? (i := 4) rfl))) Via.refl e0 S1 (g := (mkF m 2 #[.val (.int p1), .unset] [(.int (88 : Int32))])) rfl (hb hby own_rm1_d2)
  refine own_st (t' := T1.setTop (mkF m 5 #[.val (.int p1), .unset] [(.int (48 : Int32)), (.int (88 : Int32))])) st1 ?_
  refine own_st (t' := T1.setTop (mkF m 6 #[.val (.int p1), .unset] [(.int ((88 : Int32) + (48 : Int32)))])) (fun _ k => XS.iadd X1.here hx rfl (hb hby own_rm1_d5) rfl k) ?_
  refine own_st (t' := T1.setTop (mkF m 7 #[.val (.int p1), .val (.int ((88 : Int32) + (48 : Int32)))] [])) (fun _ k => XS.istoreN X1.here hx rfl (hb hby own_rm1_d6) rfl (l' := #[.val (.int p1), .val (.int ((88 : Int32) + (48 : Int32)))]) rfl k) ?_
  refine own_st (t' := T1.setTop (mkF m 8 #[.val (.int p1), .val (.int ((88 : Int32) + (48 : Int32)))] [(.int p1)])) (fun _ k => XS.iloadN X1.here hx rfl (hb hby own_rm1_d7) rfl k) ?_
  refine own_st (t' := T1.setTop (mkF m 9 #[.val (.int p1), .val (.int ((88 : Int32) + (48 : Int32)))] [(.int (4 : Int32)), (.int p1)])) (fun _ k => XS.iconst X1.here hx rfl (hb hby own_rm1_d8) k) ?_
  by_cases c9_2 : p1 < (4 : Int32)
  · refine own_st (t' := T1.setTop (mkF m 20 #[.val (.int p1), .val (.int ((88 : Int32) + (48 : Int32)))] [])) (fun _ k => XS.icmpYes X1.here hx rfl (pc0 := 9) (pc' := 20) rfl (hb hby own_rm1_d9) rfl (tlt c9_2).1 (by decide) (by decide) k) ?_
    refine own_st (t' := T1.setTop (mkF m 21 #[.val (.int p1), .val (.int ((88 : Int32) + (48 : Int32)))] [(.int ((88 : Int32) + (48 : Int32)))])) (fun _ k => XS.iloadN X1.here hx rfl (hb hby own_rm1_d20) rfl k) ?_
    have hv3 : ((88 : Int32) + (48 : Int32)) = own_len p1 := by simp [own_len, c9_2]
    obtain ⟨fs, hr, hrun, hended, hW, hsame⟩ := X1.leave (v := some (.int ((88 : Int32) + (48 : Int32)))) (fun h => by rw [Bd.returns] at h; cases h)
    exact ⟨_, _, retI X1 hx Bd.returns (hb hby own_rm1_d21) hr, hrun, hended, hP _ _ ⟨_, _, rfl, ⟨(congrArg (fun z => some (Value.int z)) hv3), N0, e1⟩, ⟨_, rfl⟩, hW, hsame.mono (by decide) (by decide)⟩⟩
  · refine own_st (t' := T1.setTop (mkF m 12 #[.val (.int p1), .val (.int ((88 : Int32) + (48 : Int32)))] [])) (fun _ k => XS.icmpNo X1.here hx rfl (hb hby own_rm1_d9) rfl (flt c9_2).1 k) ?_
    refine own_st (t' := T1.setTop (mkF m 13 #[.val (.int p1), .val (.int ((88 : Int32) + (48 : Int32)))] [(.int ((88 : Int32) + (48 : Int32)))])) (fun _ k => XS.iloadN X1.here hx rfl (hb hby own_rm1_d12) rfl k) ?_
    obtain ⟨T4, X4, e4, st4⟩ := getS2 X1 hx hZ hown (host := "") (Or.inl (hw _ (List.mem_of_getElem? (i := 6) rfl))) Via.refl e1 S2 (g := (mkF m 13 #[.val (.int p1), .val (.int ((88 : Int32) + (48 : Int32)))] [(.int ((88 : Int32) + (48 : Int32)))])) rfl (hb hby own_rm1_d13)
    refine own_st (t' := T4.setTop (mkF m 16 #[.val (.int p1), .val (.int ((88 : Int32) + (48 : Int32)))] [(.int (40 : Int32)), (.int ((88 : Int32) + (48 : Int32)))])) st4 ?_
    refine own_st (t' := T4.setTop (mkF m 17 #[.val (.int p1), .val (.int ((88 : Int32) + (48 : Int32)))] [(.int (((88 : Int32) + (48 : Int32)) + (40 : Int32)))])) (fun _ k => XS.iadd X4.here hx rfl (hb hby own_rm1_d16) rfl k) ?_
    refine own_st (t' := T4.setTop (mkF m 21 #[.val (.int p1), .val (.int ((88 : Int32) + (48 : Int32)))] [(.int (((88 : Int32) + (48 : Int32)) + (40 : Int32)))])) (fun _ k => XS.goto X4.here hx rfl (pc0 := 17) (pc' := 21) rfl (hb hby own_rm1_d17) (by decide) (by decide) k) ?_
    have hv5 : (((88 : Int32) + (48 : Int32)) + (40 : Int32)) = own_len p1 := by simp [own_len, c9_2]
    obtain ⟨fs, hr, hrun, hended, hW, hsame⟩ := X4.leave (v := some (.int (((88 : Int32) + (48 : Int32)) + (40 : Int32)))) (fun h => by rw [Bd.returns] at h; cases h)
    exact ⟨_, _, retI X4 hx Bd.returns (hb hby own_rm1_d21) hr, hrun, hended, hP _ _ ⟨_, _, rfl, ⟨(congrArg (fun z => some (Value.int z)) hv5), N0, e4⟩, ⟨_, rfl⟩, hW, hsame.mono (by decide) (by decide)⟩⟩

theorem own_rm2_d0 : decode method_2_code 0 = .ok (.bipush 88, 2) := by decide +kernel
theorem own_rm2_d2 : decode method_2_code 2 = .ok (.getstatic 7, 3) := by decide +kernel
theorem own_rm2_d5 : decode method_2_code 5 = .ok (.iadd, 1) := by decide +kernel
theorem own_rm2_d6 : decode method_2_code 6 = .ok (.istore_n 1, 1) := by decide +kernel
theorem own_rm2_d7 : decode method_2_code 7 = .ok (.iload_n 0, 1) := by decide +kernel
theorem own_rm2_d8 : decode method_2_code 8 = .ok (.iconst 4, 1) := by decide +kernel
theorem own_rm2_d9 : decode method_2_code 9 = .ok (.if_icmp .ge 5, 3) := by decide +kernel
theorem own_rm2_d12 : decode method_2_code 12 = .ok (.iload_n 1, 1) := by decide +kernel
theorem own_rm2_d13 : decode method_2_code 13 = .ok (.ireturn, 1) := by decide +kernel
theorem own_rm2_d14 : decode method_2_code 14 = .ok (.iload_n 1, 1) := by decide +kernel
theorem own_rm2_d15 : decode method_2_code 15 = .ok (.getstatic 13, 3) := by decide +kernel
theorem own_rm2_d18 : decode method_2_code 18 = .ok (.iadd, 1) := by decide +kernel
theorem own_rm2_d19 : decode method_2_code 19 = .ok (.ireturn, 1) := by decide +kernel
theorem own_rm2_pn : plainName "com/example/hashbook/hashbook/store/AnchorLengthPinLaw" = true := by first | (simp [plainName, overriddenIn]; done) | decide +kernel
theorem own_rm2_ef (m : MethodId) (x0 : Int32) : entryFrame m #[(.int x0)] 2 = mkF m 0 #[.val (.int x0), .unset] [] := by first | (simp [entryFrame, mkF, argsToLocals, Value.category]; done) | rfl
def own_rm2_Q (Z : State) (p1 : Int32) (h0 : Heap) (n0 : Nat) (v : Option Value) (h : Heap) (L : List Loc) : Prop := v = some (.int (own_len p1)) ∧ Fr n0 L ∧ h = h0
set_option maxRecDepth 65536 in
set_option maxHeartbeats 40000000 in
theorem own_rm2 (l : Launch) (Z : State) (a0 : Array Value) (hw : ∀ d ∈ tables_1, d.before a0 Z = true) (ws : List Jvm.Cond) (p1 : Int32) (h0 : Heap) (n0 : Nat) (Z0 : n0 ≤ h0.size) (S1 : Sta Z h0 "com/example/hashbook/hashbook/store/RowPages$Anchor" "LINK_OFFSETS_BYTES" "I" (.int (48 : Int32))) (S2 : Sta Z h0 "com/example/hashbook/hashbook/store/RowPages$Anchor" "TABLE_LINK_OFFSETS_BYTES" "I" (.int (40 : Int32))) :
    MetFree l (⟨"com/example/hashbook/hashbook/store/AnchorLengthPinLaw", "expected", "(I)I"⟩ : MethodName) (head1 (Jvm.Cond.code (⟨"com/example/hashbook/hashbook/store/AnchorLengthPinLaw", "expected", "(I)I"⟩ : MethodName) method_2_code 2 (some .int) :: ws) ({ frames := 0, cells := 0, slots := 0, locals := 0 } : Room)) (fun a U => a = #[(.int p1)] ∧ Z.Warmed39 U.vm ∧ U.heap = h0) (fun _ _ _ _ _ => True) (fun _ U o U' => ∃ v L, o = .returned v ∧ own_rm2_Q Z p1 h0 n0 v U'.heap L ∧ FrameEnd U o U' L ({ frames := 0, cells := 0, slots := 0, locals := 0 } : Room).cells ({ frames := 0, cells := 0, slots := 0, locals := 0 } : Room).slots) := by
  refine MetFree.of_bodySF (plainFor_of_name own_rm2_pn) hisR ?_
  intro p e s m args below meth c s₁ Bd hml0 hPre hK
  obtain ⟨rfl, hZ, hh⟩ := hPre
  have hx := Bd.exec
  have hby := Bd.bytes
  have hml : c.maxLocals = 2 := hml0
  have hown : s.vm.findClass "com/example/hashbook/hashbook/store/AnchorLengthPinLaw" = some m.cls := findClass_of_methodNamed Bd.named
  have hnm := (name_of_methodNamed Bd.named Bd.method).1
  have X0 : Stand p l e ({ frames := 0, cells := 0, slots := 0, locals := 0 } : Room) s m #[(.int p1)] below meth c s₁ [] 0 0 := Stand.of_body Bd
  have e0 : s₁.heap = h0 := by rw [← hh, Bd.state]; rfl
  have N0 := Fr.nil n0
  refine own_body fun P hP => ?_
  refine own_st (t' := s₁.setTop (mkF m 0 #[.val (.int p1), .unset] [])) (fun _ k => castTop (own_rm2_ef m p1) k) ?_
  refine own_st (t' := s₁.setTop (mkF m 2 #[.val (.int p1), .unset] [(.int (88 : Int32))])) (fun _ k => XS.bipush X0.here hx rfl (hb hby own_rm2_d0) k) ?_
  obtain ⟨T1, X1, e1, st1⟩ := getS2 X0 hx hZ hown (host := "") (Or.inl (hw _ (List.mem_of_getElem? (i := 12) rfl))) Via.refl e0 S1 (g := (mkF m 2 #[.val (.int p1), .unset] [(.int (88 : Int32))])) rfl (hb hby own_rm2_d2)
  refine own_st (t' := T1.setTop (mkF m 5 #[.val (.int p1), .unset] [(.int (48 : Int32)), (.int (88 : Int32))])) st1 ?_
  refine own_st (t' := T1.setTop (mkF m 6 #[.val (.int p1), .unset] [(.int ((88 : Int32) + (48 : Int32)))])) (fun _ k => XS.iadd X1.here hx rfl (hb hby own_rm2_d5) rfl k) ?_
  refine own_st (t' := T1.setTop (mkF m 7 #[.val (.int p1), .val (.int ((88 : Int32) + (48 : Int32)))] [])) (fun _ k => XS.istoreN X1.here hx rfl (hb hby own_rm2_d6) rfl (l' := #[.val (.int p1), .val (.int ((88 : Int32) + (48 : Int32)))]) rfl k) ?_
  refine own_st (t' := T1.setTop (mkF m 8 #[.val (.int p1), .val (.int ((88 : Int32) + (48 : Int32)))] [(.int p1)])) (fun _ k => XS.iloadN X1.here hx rfl (hb hby own_rm2_d7) rfl k) ?_
  refine own_st (t' := T1.setTop (mkF m 9 #[.val (.int p1), .val (.int ((88 : Int32) + (48 : Int32)))] [(.int (4 : Int32)), (.int p1)])) (fun _ k => XS.iconst X1.here hx rfl (hb hby own_rm2_d8) k) ?_
  by_cases c9_2 : p1 < (4 : Int32)
  · refine own_st (t' := T1.setTop (mkF m 12 #[.val (.int p1), .val (.int ((88 : Int32) + (48 : Int32)))] [])) (fun _ k => XS.icmpNo X1.here hx rfl (hb hby own_rm2_d9) rfl (tlt c9_2).2.1 k) ?_
    refine own_st (t' := T1.setTop (mkF m 13 #[.val (.int p1), .val (.int ((88 : Int32) + (48 : Int32)))] [(.int ((88 : Int32) + (48 : Int32)))])) (fun _ k => XS.iloadN X1.here hx rfl (hb hby own_rm2_d12) rfl k) ?_
    have hv3 : ((88 : Int32) + (48 : Int32)) = own_len p1 := by simp [own_len, c9_2]
    obtain ⟨fs, hr, hrun, hended, hW, hsame⟩ := X1.leave (v := some (.int ((88 : Int32) + (48 : Int32)))) (fun h => by rw [Bd.returns] at h; cases h)
    exact ⟨_, _, retI X1 hx Bd.returns (hb hby own_rm2_d13) hr, hrun, hended, hP _ _ ⟨_, _, rfl, ⟨(congrArg (fun z => some (Value.int z)) hv3), N0, e1⟩, ⟨_, rfl⟩, hW, hsame.mono (by decide) (by decide)⟩⟩
  · refine own_st (t' := T1.setTop (mkF m 14 #[.val (.int p1), .val (.int ((88 : Int32) + (48 : Int32)))] [])) (fun _ k => XS.icmpYes X1.here hx rfl (pc0 := 9) (pc' := 14) rfl (hb hby own_rm2_d9) rfl (flt c9_2).2.1 (by decide) (by decide) k) ?_
    refine own_st (t' := T1.setTop (mkF m 15 #[.val (.int p1), .val (.int ((88 : Int32) + (48 : Int32)))] [(.int ((88 : Int32) + (48 : Int32)))])) (fun _ k => XS.iloadN X1.here hx rfl (hb hby own_rm2_d14) rfl k) ?_
    obtain ⟨T4, X4, e4, st4⟩ := getS2 X1 hx hZ hown (host := "") (Or.inl (hw _ (List.mem_of_getElem? (i := 13) rfl))) Via.refl e1 S2 (g := (mkF m 15 #[.val (.int p1), .val (.int ((88 : Int32) + (48 : Int32)))] [(.int ((88 : Int32) + (48 : Int32)))])) rfl (hb hby own_rm2_d15)
    refine own_st (t' := T4.setTop (mkF m 18 #[.val (.int p1), .val (.int ((88 : Int32) + (48 : Int32)))] [(.int (40 : Int32)), (.int ((88 : Int32) + (48 : Int32)))])) st4 ?_
    refine own_st (t' := T4.setTop (mkF m 19 #[.val (.int p1), .val (.int ((88 : Int32) + (48 : Int32)))] [(.int (((88 : Int32) + (48 : Int32)) + (40 : Int32)))])) (fun _ k => XS.iadd X4.here hx rfl (hb hby own_rm2_d18) rfl k) ?_
    have hv5 : (((88 : Int32) + (48 : Int32)) + (40 : Int32)) = own_len p1 := by simp [own_len, c9_2]
    obtain ⟨fs, hr, hrun, hended, hW, hsame⟩ := X4.leave (v := some (.int (((88 : Int32) + (48 : Int32)) + (40 : Int32)))) (fun h => by rw [Bd.returns] at h; cases h)
    exact ⟨_, _, retI X4 hx Bd.returns (hb hby own_rm2_d19) hr, hrun, hended, hP _ _ ⟨_, _, rfl, ⟨(congrArg (fun z => some (Value.int z)) hv5), N0, e4⟩, ⟨_, rfl⟩, hW, hsame.mono (by decide) (by decide)⟩⟩

theorem own_rm0_pn : plainName "com/example/hashbook/hashbook/store/AnchorLengthPinLaw" = true := by first | (simp [plainName, overriddenIn]; done) | decide +kernel
theorem own_rm0_pd0 : parseMethodDescriptor "(I)I" = some ⟨[.int], some .int⟩ := by decide +kernel
theorem own_rm0_ef (m : MethodId) (x0 : Int32) (x1 : Int32) : entryFrame m #[(.int x0), (.int x1)] maxLocals = mkF m 0 #[.val (.int x0), .val (.int x1), .unset, .unset, .unset] [] := by first | (simp [entryFrame, mkF, argsToLocals, Value.category, maxLocals]; done) | rfl
def own_rm0_Q (Z : State) (p1 : Int32) (p2 : Int32) (h0 : Heap) (n0 : Nat) (v : Option Value) (h : Heap) (L : List Loc) : Prop := v = some (.int ((1 : Int32))) ∧ Fr n0 L
set_option maxRecDepth 65536 in
set_option maxHeartbeats 40000000 in
theorem own_rm0 (l : Launch) (Z : State) (a0 : Array Value) (hw : ∀ d ∈ tables_1, d.before a0 Z = true) (ws : List Jvm.Cond) (p1 : Int32) (p2 : Int32) (h0 : Heap) (n0 : Nat) (Z0 : n0 ≤ h0.size) (S1 : Sta Z h0 "com/example/hashbook/hashbook/store/RowPages$Anchor" "LINK_OFFSETS_BYTES" "I" (.int (48 : Int32))) (S2 : Sta Z h0 "com/example/hashbook/hashbook/store/RowPages$Anchor" "TABLE_LINK_OFFSETS_BYTES" "I" (.int (40 : Int32))) :
    MetFree l x (head1 (Jvm.Cond.code x code maxLocals ret :: ws) room_1) (fun a U => a = #[(.int p1), (.int p2)] ∧ Z.Warmed39 U.vm ∧ U.heap = h0) (fun _ _ _ _ _ => True) (fun _ U o U' => ∃ v L, o = .returned v ∧ own_rm0_Q Z p1 p2 h0 n0 v U'.heap L ∧ FrameEnd U o U' L room_1.cells room_1.slots) := by
  refine MetFree.of_bodySF (plainFor_of_name own_rm0_pn) hisR ?_
  intro p e s m args below meth c s₁ Bd hml0 hPre hK
  obtain ⟨rfl, hZ, hh⟩ := hPre
  have hx := Bd.exec
  have hby := Bd.bytes
  have hml : c.maxLocals = 5 := hml0
  have hown : s.vm.findClass "com/example/hashbook/hashbook/store/AnchorLengthPinLaw" = some m.cls := findClass_of_methodNamed Bd.named
  have hnm := (name_of_methodNamed Bd.named Bd.method).1
  have X0 : Stand p l e room_1 s m #[(.int p1), (.int p2)] below meth c s₁ [] 0 0 := Stand.of_body Bd
  have e0 : s₁.heap = h0 := by rw [← hh, Bd.state]; rfl
  have N0 := Fr.nil n0
  refine own_body fun P hP => ?_
  refine own_st (t' := s₁.setTop (mkF m 0 #[.val (.int p1), .val (.int p2), .unset, .unset, .unset] [])) (fun _ k => castTop (own_rm0_ef m p1 p2) k) ?_
  refine own_st (t' := s₁.setTop (mkF m 1 #[.val (.int p1), .val (.int p2), .unset, .unset, .unset] [(.int (2 : Int32))])) (fun _ k => XS.iconst X0.here hx rfl (hb hby at_0) k) ?_
  refine own_st (t' := s₁.setTop (mkF m 2 #[.val (.int p1), .val (.int p2), .unset, .unset, .unset] [(.int p2), (.int (2 : Int32))])) (fun _ k => XS.iloadN X0.here hx rfl (hb hby at_1) rfl k) ?_
  refine own_st (t' := s₁.setTop (mkF m 3 #[.val (.int p1), .val (.int p2), .unset, .unset, .unset] [(.int (3 : Int32)), (.int p2), (.int (2 : Int32))])) (fun _ k => XS.iconst X0.here hx rfl (hb hby at_2) k) ?_
  refine own_st (t' := s₁.setTop (mkF m 4 #[.val (.int p1), .val (.int p2), .unset, .unset, .unset] [(.int (p2 &&& (3 : Int32))), (.int (2 : Int32))])) (fun _ k => XS.iand X0.here hx rfl (hb hby at_3) rfl k) ?_
  refine own_st (t' := s₁.setTop (mkF m 5 #[.val (.int p1), .val (.int p2), .unset, .unset, .unset] [(.int ((2 : Int32) + (p2 &&& (3 : Int32))))])) (fun _ k => XS.iadd X0.here hx rfl (hb hby at_4) rfl k) ?_
  refine own_st (t' := s₁.setTop (mkF m 6 #[.val (.int p1), .val (.int p2), .val (.int ((2 : Int32) + (p2 &&& (3 : Int32)))), .unset, .unset] [])) (fun _ k => XS.istoreN X0.here hx rfl (hb hby at_5) rfl (l' := #[.val (.int p1), .val (.int p2), .val (.int ((2 : Int32) + (p2 &&& (3 : Int32)))), .unset, .unset]) rfl k) ?_
  refine own_st (t' := s₁.setTop (mkF m 7 #[.val (.int p1), .val (.int p2), .val (.int ((2 : Int32) + (p2 &&& (3 : Int32)))), .unset, .unset] [(.int p1)])) (fun _ k => XS.iloadN X0.here hx rfl (hb hby at_6) rfl k) ?_
  obtain ⟨_, _, ⟨T1, L1, k1, n1⟩, -, X1, ⟨Lc1, hQ1, l1, y1, z1⟩, st1⟩ := Jvm.LawKit.callS X0 hx (y := (⟨"com/example/hashbook/hashbook/store/RowPages$Anchor", "length", "(I)I"⟩ : MethodName)) hown (mvT hZ (hw _ (List.mem_of_getElem? (i := 0) rfl))) (mvT hZ (hw _ (List.mem_of_getElem? (i := 1) rfl))) (mvT hZ (hw _ (List.mem_of_getElem? (i := 2) rfl))) (mvT hZ (hw _ (List.mem_of_getElem? (i := 3) rfl))) (by decide) (backOf (W := 0) (own_rm1 l Z a0 hw [] p1  h0 n0 Z0 S1 S2) hZ (hw _ (List.mem_of_getElem? (i := 3) rfl)) (hw _ (List.mem_of_getElem? (i := 2) rfl)) (by decide) (by decide)) (g := (mkF m 7 #[.val (.int p1), .val (.int p2), .val (.int ((2 : Int32) + (p2 &&& (3 : Int32)))), .unset, .unset] [(.int p1)])) rfl (by rw [hml]; rfl) (argsL := [(.int p1)]) (rest := []) (lenOf own_rm0_pd0 rfl) rfl (by show 2 * 0 + _ ≤ _; exact Nat.le_of_eq rfl) (hb hby at_7) (fun _ _ => ⟨rfl, e0, (by decide : 0 + 0 ≤ _), (by decide : 0 + 0 ≤ _)⟩)
  dsimp only [Pt.U, Pt.locs, Pt.cells, Pt.slots] at X1 l1 y1 z1 st1 hQ1
  subst l1 y1 z1
  obtain ⟨rfl, N1q, e1⟩ := hQ1
  have N1 := Fr.app N0 N1q
  refine own_st (t' := T1.setTop (mkF m 10 #[.val (.int p1), .val (.int p2), .val (.int ((2 : Int32) + (p2 &&& (3 : Int32)))), .unset, .unset] [(.int (own_len p1))])) st1 ?_
  refine own_st (t' := T1.setTop (mkF m 11 #[.val (.int p1), .val (.int p2), .val (.int ((2 : Int32) + (p2 &&& (3 : Int32)))), .val (.int (own_len p1)), .unset] [])) (fun _ k => XS.istoreN X1.here hx rfl (hb hby at_10) rfl (l' := #[.val (.int p1), .val (.int p2), .val (.int ((2 : Int32) + (p2 &&& (3 : Int32)))), .val (.int (own_len p1)), .unset]) rfl k) ?_
  refine own_st (t' := T1.setTop (mkF m 12 #[.val (.int p1), .val (.int p2), .val (.int ((2 : Int32) + (p2 &&& (3 : Int32)))), .val (.int (own_len p1)), .unset] [(.int ((2 : Int32) + (p2 &&& (3 : Int32))))])) (fun _ k => XS.iloadN X1.here hx rfl (hb hby at_11) rfl k) ?_
  obtain ⟨_, _, ⟨T2, L2, k2, n2⟩, -, X2, ⟨Lc2, hQ2, l2, y2, z2⟩, st2⟩ := Jvm.LawKit.callS X1 hx (y := (⟨"com/example/hashbook/hashbook/store/RowPages$Anchor", "length", "(I)I"⟩ : MethodName)) hown (mvT hZ (hw _ (List.mem_of_getElem? (i := 0) rfl))) (mvT hZ (hw _ (List.mem_of_getElem? (i := 1) rfl))) (mvT hZ (hw _ (List.mem_of_getElem? (i := 2) rfl))) (mvT hZ (hw _ (List.mem_of_getElem? (i := 3) rfl))) (by decide) (backOf (W := 0) (own_rm1 l Z a0 hw [] ((2 : Int32) + (p2 &&& (3 : Int32)))  h0 n0 Z0 S1 S2) hZ (hw _ (List.mem_of_getElem? (i := 3) rfl)) (hw _ (List.mem_of_getElem? (i := 2) rfl)) (by decide) (by decide)) (g := (mkF m 12 #[.val (.int p1), .val (.int p2), .val (.int ((2 : Int32) + (p2 &&& (3 : Int32)))), .val (.int (own_len p1)), .unset] [(.int ((2 : Int32) + (p2 &&& (3 : Int32))))])) rfl (by rw [hml]; rfl) (argsL := [(.int ((2 : Int32) + (p2 &&& (3 : Int32))))]) (rest := []) (lenOf own_rm0_pd0 rfl) rfl (by show 2 * 0 + _ ≤ _; exact Nat.le_of_eq rfl) (hb hby at_12) (fun _ _ => ⟨rfl, e1, (by decide : 0 + 0 + 0 ≤ _), (by decide : 0 + 0 + 0 ≤ _)⟩)
  dsimp only [Pt.U, Pt.locs, Pt.cells, Pt.slots] at X2 l2 y2 z2 st2 hQ2
  subst l2 y2 z2
  obtain ⟨rfl, N2q, e2⟩ := hQ2
  have N2 := Fr.app N1 N2q
  refine own_st (t' := T2.setTop (mkF m 15 #[.val (.int p1), .val (.int p2), .val (.int ((2 : Int32) + (p2 &&& (3 : Int32)))), .val (.int (own_len p1)), .unset] [(.int (own_len ((2 : Int32) + (p2 &&& (3 : Int32)))))])) st2 ?_
  refine own_st (t' := T2.setTop (mkF m 17 #[.val (.int p1), .val (.int p2), .val (.int ((2 : Int32) + (p2 &&& (3 : Int32)))), .val (.int (own_len p1)), .val (.int (own_len ((2 : Int32) + (p2 &&& (3 : Int32)))))] [])) (fun _ k => XS.istore X2.here hx rfl (hb hby at_15) rfl (l' := #[.val (.int p1), .val (.int p2), .val (.int ((2 : Int32) + (p2 &&& (3 : Int32)))), .val (.int (own_len p1)), .val (.int (own_len ((2 : Int32) + (p2 &&& (3 : Int32)))))]) rfl k) ?_
  refine own_st (t' := T2.setTop (mkF m 18 #[.val (.int p1), .val (.int p2), .val (.int ((2 : Int32) + (p2 &&& (3 : Int32)))), .val (.int (own_len p1)), .val (.int (own_len ((2 : Int32) + (p2 &&& (3 : Int32)))))] [(.int (own_len p1))])) (fun _ k => XS.iloadN X2.here hx rfl (hb hby at_17) rfl k) ?_
  refine own_st (t' := T2.setTop (mkF m 19 #[.val (.int p1), .val (.int p2), .val (.int ((2 : Int32) + (p2 &&& (3 : Int32)))), .val (.int (own_len p1)), .val (.int (own_len ((2 : Int32) + (p2 &&& (3 : Int32)))))] [(.int p1), (.int (own_len p1))])) (fun _ k => XS.iloadN X2.here hx rfl (hb hby at_18) rfl k) ?_
  obtain ⟨_, _, ⟨T3, L3, k3, n3⟩, -, X3, ⟨Lc3, hQ3, l3, y3, z3⟩, st3⟩ := Jvm.LawKit.callS X2 hx (y := (⟨"com/example/hashbook/hashbook/store/AnchorLengthPinLaw", "expected", "(I)I"⟩ : MethodName)) hown (mvT hZ (hw _ (List.mem_of_getElem? (i := 8) rfl))) (mvT hZ (hw _ (List.mem_of_getElem? (i := 9) rfl))) (mvT hZ (hw _ (List.mem_of_getElem? (i := 10) rfl))) (mvT hZ (hw _ (List.mem_of_getElem? (i := 11) rfl))) (by decide) (backOf (W := 1) (own_rm2 l Z a0 hw [] p1  h0 n0 Z0 S1 S2) hZ (hw _ (List.mem_of_getElem? (i := 11) rfl)) (hw _ (List.mem_of_getElem? (i := 10) rfl)) (by decide) (by decide)) (g := (mkF m 19 #[.val (.int p1), .val (.int p2), .val (.int ((2 : Int32) + (p2 &&& (3 : Int32)))), .val (.int (own_len p1)), .val (.int (own_len ((2 : Int32) + (p2 &&& (3 : Int32)))))] [(.int p1), (.int (own_len p1))])) rfl (by rw [hml]; rfl) (argsL := [(.int p1)]) (rest := [(.int (own_len p1))]) (lenOf own_rm0_pd0 rfl) rfl (by show 2 * 0 + _ ≤ _; exact Nat.le_of_eq rfl) (hb hby at_19) (fun _ _ => ⟨rfl, e2, (by decide : 0 + 0 + 0 + 0 ≤ _), (by decide : 0 + 0 + 0 + 0 ≤ _)⟩)
  dsimp only [Pt.U, Pt.locs, Pt.cells, Pt.slots] at X3 l3 y3 z3 st3 hQ3
  subst l3 y3 z3
  obtain ⟨rfl, N3q, e3⟩ := hQ3
  have N3 := Fr.app N2 N3q
  refine own_st (t' := T3.setTop (mkF m 22 #[.val (.int p1), .val (.int p2), .val (.int ((2 : Int32) + (p2 &&& (3 : Int32)))), .val (.int (own_len p1)), .val (.int (own_len ((2 : Int32) + (p2 &&& (3 : Int32)))))] [(.int (own_len p1)), (.int (own_len p1))])) st3 ?_
  refine own_st (t' := T3.setTop (mkF m 25 #[.val (.int p1), .val (.int p2), .val (.int ((2 : Int32) + (p2 &&& (3 : Int32)))), .val (.int (own_len p1)), .val (.int (own_len ((2 : Int32) + (p2 &&& (3 : Int32)))))] [])) (fun _ k => XS.icmpNo X3.here hx rfl (hb hby at_22) rfl (teq (rfl : (own_len p1) = (own_len p1))).2 k) ?_
  refine own_st (t' := T3.setTop (mkF m 27 #[.val (.int p1), .val (.int p2), .val (.int ((2 : Int32) + (p2 &&& (3 : Int32)))), .val (.int (own_len p1)), .val (.int (own_len ((2 : Int32) + (p2 &&& (3 : Int32)))))] [(.int (own_len ((2 : Int32) + (p2 &&& (3 : Int32)))))])) (fun _ k => XS.iload X3.here hx rfl (hb hby at_25) rfl k) ?_
  refine own_st (t' := T3.setTop (mkF m 28 #[.val (.int p1), .val (.int p2), .val (.int ((2 : Int32) + (p2 &&& (3 : Int32)))), .val (.int (own_len p1)), .val (.int (own_len ((2 : Int32) + (p2 &&& (3 : Int32)))))] [(.int ((2 : Int32) + (p2 &&& (3 : Int32)))), (.int (own_len ((2 : Int32) + (p2 &&& (3 : Int32)))))])) (fun _ k => XS.iloadN X3.here hx rfl (hb hby at_27) rfl k) ?_
  obtain ⟨_, _, ⟨T4, L4, k4, n4⟩, -, X4, ⟨Lc4, hQ4, l4, y4, z4⟩, st4⟩ := Jvm.LawKit.callS X3 hx (y := (⟨"com/example/hashbook/hashbook/store/AnchorLengthPinLaw", "expected", "(I)I"⟩ : MethodName)) hown (mvT hZ (hw _ (List.mem_of_getElem? (i := 8) rfl))) (mvT hZ (hw _ (List.mem_of_getElem? (i := 9) rfl))) (mvT hZ (hw _ (List.mem_of_getElem? (i := 10) rfl))) (mvT hZ (hw _ (List.mem_of_getElem? (i := 11) rfl))) (by decide) (backOf (W := 1) (own_rm2 l Z a0 hw [] ((2 : Int32) + (p2 &&& (3 : Int32)))  h0 n0 Z0 S1 S2) hZ (hw _ (List.mem_of_getElem? (i := 11) rfl)) (hw _ (List.mem_of_getElem? (i := 10) rfl)) (by decide) (by decide)) (g := (mkF m 28 #[.val (.int p1), .val (.int p2), .val (.int ((2 : Int32) + (p2 &&& (3 : Int32)))), .val (.int (own_len p1)), .val (.int (own_len ((2 : Int32) + (p2 &&& (3 : Int32)))))] [(.int ((2 : Int32) + (p2 &&& (3 : Int32)))), (.int (own_len ((2 : Int32) + (p2 &&& (3 : Int32)))))])) rfl (by rw [hml]; rfl) (argsL := [(.int ((2 : Int32) + (p2 &&& (3 : Int32))))]) (rest := [(.int (own_len ((2 : Int32) + (p2 &&& (3 : Int32)))))]) (lenOf own_rm0_pd0 rfl) rfl (by show 2 * 0 + _ ≤ _; exact Nat.le_of_eq rfl) (hb hby at_28) (fun _ _ => ⟨rfl, e3, (by decide : 0 + 0 + 0 + 0 + 0 ≤ _), (by decide : 0 + 0 + 0 + 0 + 0 ≤ _)⟩)
  dsimp only [Pt.U, Pt.locs, Pt.cells, Pt.slots] at X4 l4 y4 z4 st4 hQ4
  subst l4 y4 z4
  obtain ⟨rfl, N4q, e4⟩ := hQ4
  have N4 := Fr.app N3 N4q
  refine own_st (t' := T4.setTop (mkF m 31 #[.val (.int p1), .val (.int p2), .val (.int ((2 : Int32) + (p2 &&& (3 : Int32)))), .val (.int (own_len p1)), .val (.int (own_len ((2 : Int32) + (p2 &&& (3 : Int32)))))] [(.int (own_len ((2 : Int32) + (p2 &&& (3 : Int32))))), (.int (own_len ((2 : Int32) + (p2 &&& (3 : Int32)))))])) st4 ?_
  refine own_st (t' := T4.setTop (mkF m 34 #[.val (.int p1), .val (.int p2), .val (.int ((2 : Int32) + (p2 &&& (3 : Int32)))), .val (.int (own_len p1)), .val (.int (own_len ((2 : Int32) + (p2 &&& (3 : Int32)))))] [])) (fun _ k => XS.icmpNo X4.here hx rfl (hb hby at_31) rfl (teq (rfl : (own_len ((2 : Int32) + (p2 &&& (3 : Int32)))) = (own_len ((2 : Int32) + (p2 &&& (3 : Int32)))))).2 k) ?_
  refine own_st (t' := T4.setTop (mkF m 35 #[.val (.int p1), .val (.int p2), .val (.int ((2 : Int32) + (p2 &&& (3 : Int32)))), .val (.int (own_len p1)), .val (.int (own_len ((2 : Int32) + (p2 &&& (3 : Int32)))))] [(.int (1 : Int32))])) (fun _ k => XS.iconst X4.here hx rfl (hb hby at_34) k) ?_
  refine own_st (t' := T4.setTop (mkF m 39 #[.val (.int p1), .val (.int p2), .val (.int ((2 : Int32) + (p2 &&& (3 : Int32)))), .val (.int (own_len p1)), .val (.int (own_len ((2 : Int32) + (p2 &&& (3 : Int32)))))] [(.int (1 : Int32))])) (fun _ k => XS.goto X4.here hx rfl (pc0 := 35) (pc' := 39) rfl (hb hby at_35) (by decide) (by decide) k) ?_
  have hv5 : (1 : Int32) = (1 : Int32) := rfl
  obtain ⟨fs, hr, hrun, hended, hW, hsame⟩ := X4.leave (v := some (.int (1 : Int32))) (fun h => by rw [Bd.returns] at h; cases h)
  exact ⟨_, _, retN X4 hx (t := .boolean) Bd.returns (by simp) (hb hby at_39) hr, hrun, hended, hP _ _ ⟨_, _, rfl, ⟨(congrArg (fun z => some (Value.int z)) hv5), N4⟩, ⟨_, rfl⟩, hW, hsame.mono (by decide) (by decide)⟩⟩

set_option maxRecDepth 65536 in
set_option maxHeartbeats 40000000 in
theorem comes_1 {Post : Tables → Env → Array Value → State → Outcome → State → Prop} (hpost : ∀ tb e args s v u, (limb_1_1.after args s (.returned v) u = true ∧ limb_1_2.after args s (.returned v) u = true ∧ True) → FrameEnd s (.returned v) u (Jvm.fieldLocs frame_1_writes args s ++ Jvm.arrayLocs frame_1_arrays args s ++ Jvm.staticLocs frame_1_statics s) 0 0 → Post tb e args s (.returned v) u) :
    ArmFor flags0 classFile x code maxLocals ret World_1 tables_1 room_1 Calls_1 rest_1 Pre_1 Post := by
  intro l hfl _ _ p e ha hc hk s m args below hf hA hF happ hP
  obtain ⟨hcalls, hrest, hpre⟩ := hP
  obtain ⟨-, -, -, hnamed, -, -, -, hat⟩ := (Spec.applies_iff hf).mp happ
  obtain ⟨hg, hn⟩ := and_e (Cond.before_iff.mp (show (Jvm.Cond.and given_1 narrow_1).before args s = true from hpre))
  obtain ⟨hcnt, hg0⟩ := and_e hg
  obtain ⟨ga0, hg1⟩ := and_e hg0
  obtain ⟨w0, w1, rfl⟩ : ∃ w0 w1 : Value, args = #[w0, w1] := by
    have hs : args.size = 2 := by simpa [Cond.value, given_1] using hcnt
    obtain ⟨L⟩ := args
    match L, hs with
    | [w0, w1], _ => exact ⟨w0, w1, rfl⟩
  have hw := fun d (hd : d ∈ tables_1) => atoms_spec (ws := Jvm.Cond.code x code maxLocals ret :: tables_1) hat d (List.mem_cons_of_mem _ hd)
  have hfit : Fit s := fun {y c} hc i hi => by
    obtain ⟨ha, rfl⟩ := Array.getElem?_eq_some_iff.mp hc
    have q := List.all_eq_true.mp ((Array.all_eq_true_iff_forall_mem.mp hF) _ (Array.getElem_mem ha)) i (List.mem_range.mpr hi)
    simpa [Array.getElem?_eq_getElem hi] using q
  obtain ⟨i0, ei0⟩ := is_v ga0
  obtain rfl : w0 = (.int i0) := Option.some.inj ei0
  obtain ⟨i1, ei1⟩ := is_v hg1
  obtain rfl : w1 = (.int i1) := Option.some.inj ei1
  obtain ⟨hn1, hn2⟩ := and_e (show (Jvm.Cond.and _ _).value _ s none s [] = some true from hn)
  have S1 := own_sta (s := s) hn1 (Or.inr ⟨hw _ (List.mem_of_getElem? (i := 2) rfl), hw _ (List.mem_of_getElem? (i := 5) rfl)⟩)
  have S2 := own_sta (s := s) hn2 (Or.inr ⟨hw _ (List.mem_of_getElem? (i := 2) rfl), hw _ (List.mem_of_getElem? (i := 7) rfl)⟩)
  obtain ⟨n, o, h1, h2, h3, _, L, rfl, ⟨rfl, N⟩, hq⟩ := own_rm0 l s _ hw tables_1 i0 i1  s.heap s.heap.size (Nat.le_refl _) S1 S2 p e ha hc hk s m _ below hf ((Spec.applies_iff_loose hf).mp happ).1 ⟨rfl, State.Warmed39.refl s, rfl⟩ trivial
  refine ⟨n, _, h1, h2, h3, hpost _ _ _ _ _ _ ⟨Cond.after_iff.mpr rfl, Cond.after_iff.mpr (eq_i res_at (Term.int_eval (1)) rfl), trivial⟩ ⟨hq.1, hq.2.1, (hq.2.2.sift fun y hy => Or.inr (N y hy)).mono (by decide) (by decide)⟩⟩
theorem main_1_1 : Claimed_1_1 := comes_1 fun _ _ _ _ _ _ h hF => ⟨h.1, hF⟩
theorem main_1_2 : Claimed_1_2 := comes_1 fun _ _ _ _ _ _ h hF => ⟨h.2.1, hF⟩
end Jvm.Pilot.@@N@@
namespace Jvm.Pilot.@@N@@
open Jvm Jvm.ClassFile Sem Op Lib Jvm.Free Jvm.Stand Jvm.Pilot.@@N@@.Jvm.D
/-! MADE BY PROGRAM (witnessworld.py) out of the Statement's table words and the real class files: 8 classes; the members and pool entries that the words name. The judged class is class 1, her method 2. -/
namespace start1
open Jvm.ClassFile
def u (s : String) : CpInfo := .utf8 (stringToUtf16 s)
/-- a pool by its gaps: so many unusable entries, then the entry; so many at the end -/
def gap : Nat → List CpInfo → List CpInfo
  | 0, r => r
  | n + 1, r => .unusable :: gap n r
def poolList (es : List (Nat × CpInfo)) (last : Nat) : List CpInfo := es.foldr (fun e r => gap e.1 (e.2 :: r)) (gap last [])
def pool (es : List (Nat × CpInfo)) (last : Nat) : Array CpInfo := ⟨poolList es last⟩
def fileOf (pool : Array CpInfo) (this : Nat) (attrs : Array Attribute := #[]) (ms : Array MethodInfo := #[]) (fl : Nat := 33) (sup : Nat := 0) (ifs : Array Nat := #[]) (fds : Array FieldInfo := #[]) : ClassFile where
  minorVersion := 0
  majorVersion := 65
  constantPool := pool
  accessFlags := fl
  thisClass := this
  superClass := sup
  interfaces := ifs
  fields := fds
  methods := ms
  attributes := attrs
def plain (name : String) (sup : Option ClassId) : Class where
  name := name
  kind := .ordinary
  loader := none
  accessFlags := 33
  super := sup
  interfaces := #[]
  cf := none
  fields := #[]
  methods := #[]
  instanceTypes := #[]
  staticTypes := #[]
  resolved := #[]
  callSites := []
  init := .initialized
  statics := none
  mirror := none

def pool0 : Array CpInfo := pool [(5, u "<init>"), (0, u "()V"), (1, .class_ 10), (1, u "java/lang/Object")] 113

def k0m0 : Method := { name := "<init>", desc := "()V", sig := { parameters := [], returnType := none }, accessFlags := 1, code := none }
/-- java/lang/Object -/
def k0 : Class := { plain "java/lang/Object" none with
  accessFlags := 33
  interfaces := #[]
  cf := some (fileOf pool0 8 #[] #[{ accessFlags := 1, nameIndex := 5, descriptorIndex := 6, attributes := #[] }] 33 0 #[] #[])
  fields := #[]
  methods := #[k0m0]
  instanceTypes := #[]
  staticTypes := #[]
  resolved := Array.replicate 124 none
  statics := none }

def pool1 : Array CpInfo := pool [(2, .class_ 4), (1, u "java/lang/Object"), (0, u "<init>"), (0, u "()V"), (0, .fieldref 8 9), (0, .class_ 10), (0, .nameAndType 11 12), (0, u "com/example/hashbook/hashbook/store/RowPages$Anchor"), (0, u "LINK_OFFSETS_BYTES"), (0, u "I"), (0, .fieldref 8 14), (0, .nameAndType 15 12), (0, u "TABLE_LINK_OFFSETS_BYTES"), (0, .methodref 8 17), (0, .nameAndType 18 19), (0, u "length"), (0, u "(I)I"), (0, .methodref 21 22), (0, .class_ 23), (0, .nameAndType 24 19), (0, u "com/example/hashbook/hashbook/store/AnchorLengthPinLaw"), (0, u "expected"), (3, u "law"), (0, u "(II)Z")] 6

def k1m0 : Method := { name := "<init>", desc := "()V", sig := { parameters := [], returnType := none }, accessFlags := 2, code := none }
def k1c1 : Code := { maxStack := 2, maxLocals := 2, code := method_2_code, exceptionTable := #[], attributes := #[] }
def k1m1 : Method := { name := "expected", desc := "(I)I", sig := { parameters := [.int], returnType := some .int }, accessFlags := 10, code := some k1c1 }
def k1c2 : Code := { maxStack := 3, maxLocals := 5, code := code, exceptionTable := #[], attributes := #[] }
def k1m2 : Method := { name := "law", desc := "(II)Z", sig := { parameters := [.int, .int], returnType := some .boolean }, accessFlags := 9, code := some k1c2 }
/-- com/example/hashbook/hashbook/store/AnchorLengthPinLaw -/
def k1 : Class := { plain "com/example/hashbook/hashbook/store/AnchorLengthPinLaw" (some 0) with
  accessFlags := 49
  interfaces := #[]
  cf := some (fileOf pool1 21 #[] #[{ accessFlags := 2, nameIndex := 5, descriptorIndex := 6, attributes := #[] }, { accessFlags := 10, nameIndex := 24, descriptorIndex := 19, attributes := #[] }, { accessFlags := 9, nameIndex := 28, descriptorIndex := 29, attributes := #[] }] 49 2 #[] #[])
  fields := #[]
  methods := #[k1m0, k1m1, k1m2]
  instanceTypes := #[]
  staticTypes := #[]
  resolved := Array.replicate 36 none
  statics := none }

def pool2 : Array CpInfo := pool [(2, .class_ 4), (1, u "java/lang/Object"), (0, u "<init>"), (0, u "()V"), (0, .class_ 8), (0, u "java/lang/Record")] 13

def k2m0 : Method := { name := "<init>", desc := "()V", sig := { parameters := [], returnType := none }, accessFlags := 4, code := none }
/-- java/lang/Record -/
def k2 : Class := { plain "java/lang/Record" (some 0) with
  accessFlags := 1057
  interfaces := #[]
  cf := some (fileOf pool2 7 #[] #[{ accessFlags := 4, nameIndex := 5, descriptorIndex := 6, attributes := #[] }] 1057 2 #[] #[])
  fields := #[]
  methods := #[k2m0]
  instanceTypes := #[]
  staticTypes := #[]
  resolved := Array.replicate 22 none
  statics := none }

def pool3 : Array CpInfo := pool [(1, .class_ 2), (0, u "com/example/hashbook/hashbook/store/RowPages"), (1, .class_ 6), (1, u "java/lang/Record"), (3, .class_ 12), (1, u "com/example/hashbook/hashbook/store/RowPages$Anchor"), (0, u "storeId"), (0, u "Ljava/lang/String;"), (2, u "asOf"), (0, u "J"), (2, u "leafHash"), (0, u "[B"), (2, u "logRoot"), (2, u "linkOffsets"), (2, u "tableLinkOffsets"), (4, .fieldref 10 37), (0, .nameAndType 38 39), (0, u "LINK_OFFSETS_BYTES"), (0, u "I"), (0, .fieldref 10 41), (0, .nameAndType 42 39), (0, u "TABLE_LINK_OFFSETS_BYTES"), (2, u "length"), (0, u "(I)I"), (44, u "NONE"), (0, u "Lcom/example/hashbook/hashbook/store/RowPages$Anchor;"), (32, u "STORE_ID_BYTES")] 46

def k3c0 : Code := { maxStack := 2, maxLocals := 2, code := prog_155_method_2_code, exceptionTable := #[], attributes := #[] }
def k3m0 : Method := { name := "length", desc := "(I)I", sig := { parameters := [.int], returnType := some .int }, accessFlags := 8, code := some k3c0 }
/-- com/example/hashbook/hashbook/store/RowPages$Anchor -/
def k3 : Class := { plain "com/example/hashbook/hashbook/store/RowPages$Anchor" (some 2) with
  accessFlags := 48
  interfaces := #[]
  cf := some (fileOf pool3 10 #[.nestHost 1] #[{ accessFlags := 8, nameIndex := 45, descriptorIndex := 46, attributes := #[] }] 48 4 #[] #[{ accessFlags := 18, nameIndex := 13, descriptorIndex := 14, attributes := #[] }, { accessFlags := 18, nameIndex := 17, descriptorIndex := 18, attributes := #[] }, { accessFlags := 18, nameIndex := 21, descriptorIndex := 22, attributes := #[] }, { accessFlags := 18, nameIndex := 25, descriptorIndex := 22, attributes := #[] }, { accessFlags := 18, nameIndex := 28, descriptorIndex := 22, attributes := #[] }, { accessFlags := 18, nameIndex := 31, descriptorIndex := 22, attributes := #[] }, { accessFlags := 24, nameIndex := 125, descriptorIndex := 39, attributes := #[] }, { accessFlags := 24, nameIndex := 38, descriptorIndex := 39, attributes := #[] }, { accessFlags := 24, nameIndex := 42, descriptorIndex := 39, attributes := #[] }, { accessFlags := 24, nameIndex := 91, descriptorIndex := 92, attributes := #[] }])
  fields := #[{ name := "storeId", type := (.object "java/lang/String"), accessFlags := 18, slot := 0, constantValue := 0 }, { name := "asOf", type := .long, accessFlags := 18, slot := 1, constantValue := 0 }, { name := "leafHash", type := (.array .byte), accessFlags := 18, slot := 2, constantValue := 0 }, { name := "logRoot", type := (.array .byte), accessFlags := 18, slot := 3, constantValue := 0 }, { name := "linkOffsets", type := (.array .byte), accessFlags := 18, slot := 4, constantValue := 0 }, { name := "tableLinkOffsets", type := (.array .byte), accessFlags := 18, slot := 5, constantValue := 0 }, { name := "STORE_ID_BYTES", type := .int, accessFlags := 24, slot := 0, constantValue := 0 }, { name := "LINK_OFFSETS_BYTES", type := .int, accessFlags := 24, slot := 1, constantValue := 0 }, { name := "TABLE_LINK_OFFSETS_BYTES", type := .int, accessFlags := 24, slot := 2, constantValue := 0 }, { name := "NONE", type := (.object "com/example/hashbook/hashbook/store/RowPages$Anchor"), accessFlags := 24, slot := 3, constantValue := 0 }]
  methods := #[k3m0]
  instanceTypes := #[(.object "java/lang/String"), .long, (.array .byte), (.array .byte), (.array .byte), (.array .byte)]
  staticTypes := #[.int, .int, .int, (.object "com/example/hashbook/hashbook/store/RowPages$Anchor")]
  resolved := Array.replicate 172 none
  statics := some 0 }

def pool4 : Array CpInfo := pool [(1, u "java/lang/Cloneable"), (0, .class_ 1), (0, u "java/lang/Object"), (0, .class_ 3)] 3

/-- java/lang/Cloneable -/
def k4 : Class := { plain "java/lang/Cloneable" (some 0) with
  accessFlags := 1537
  interfaces := #[]
  cf := some (fileOf pool4 2 #[] #[] 1537 4 #[] #[])
  fields := #[]
  methods := #[]
  instanceTypes := #[]
  staticTypes := #[]
  resolved := Array.replicate 8 none
  statics := none }

def pool5 : Array CpInfo := pool [(1, u "java/io/Serializable"), (0, .class_ 1), (0, u "java/lang/Object"), (0, .class_ 3)] 3

/-- java/io/Serializable -/
def k5 : Class := { plain "java/io/Serializable" (some 0) with
  accessFlags := 1537
  interfaces := #[]
  cf := some (fileOf pool5 2 #[] #[] 1537 4 #[] #[])
  fields := #[]
  methods := #[]
  instanceTypes := #[]
  staticTypes := #[]
  resolved := Array.replicate 8 none
  statics := none }

/-- the primitive byte -/
def k6 : Class := { plain "byte" none with kind := .primitive 'B', accessFlags := 0x411 }
/-- [B -/
def k7 : Class := { plain "[B" (some 0) with kind := .array 6 .byte, interfaces := #[4, 5], accessFlags := 1041 }

def heap : Heap := #[{ cls := 3, slots := #[.int 0, .int 48, .int 40, .null], vm := .statics 3 }]
def classes : Array Class := #[k0, k1, k2, k3, k4, k5, k6, k7]
def interned : List (Array UInt16 × Addr) := []
def slotsUsed : Nat := 4
def theMethod : MethodId := ⟨1, 2⟩
def args0 : Array Value := #[.int 5, .int 3]
def aboutOver (below : List Frame) : State where
  vm := { classes := classes, interned := interned.toArray }
  heap := heap
  slotsUsed := slotsUsed
  threads := #[{ frames := .invoking theMethod args0 :: below }]
def below0 : List Frame := [.native { method := ⟨0, 0⟩, args := #[] }]
def about1 : State := aboutOver below0
def p0 : Program := .bare "" "" ""
def e0 : Env := launch0.env 0 0 0
theorem w_frames : about1.frames = Frame.invoking theMethod args0 :: below0 := rfl
set_option maxRecDepth 65536 in
theorem w_args : argsFit about1.vm theMethod args0 = true := by decide +kernel
set_option maxRecDepth 65536 in
theorem w_heap : heapFits about1 = true := by decide +kernel
set_option maxRecDepth 65536 in
theorem w_runnable : about1.curStatus? = some .runnable := by decide +kernel
set_option maxRecDepth 65536 in
theorem w_alone : about1.alone = true := by decide +kernel
set_option maxRecDepth 65536 in
theorem w_named : about1.methodNamed? x = some theMethod := by decide +kernel
set_option maxRecDepth 65536 in
theorem w_hears : about1.hears theMethod below0 = true := by decide +kernel
set_option maxRecDepth 65536 in
theorem w_ripe : about1.ripe theMethod args0 below0 = true := by decide +kernel
theorem w_running : about1.status = .running := rfl
set_option maxRecDepth 65536 in
theorem w_room : about1.hasRoom e0.platform room_1 = true :=
  launch0.hasRoom_least _ room_1 (by decide +kernel) (by decide +kernel) (by decide +kernel) (by decide +kernel) (by decide +kernel) (by decide +kernel)
theorem allAtoms_all (ts : List Jvm.Cond) (a : Array Jvm.Value) (st : Jvm.State) : (allAtoms ts).before a st = ts.all (fun c => c.before a st) := by
  induction ts with
  | nil => rfl
  | cons c t ih =>
    show (Jvm.Cond.and c (allAtoms t)).before a st = _
    rw [Jvm.Cond.before_and, ih, List.all_cons]
def words1 : List Jvm.Cond := Jvm.Cond.code x code maxLocals ret :: tables_1
/-- a 'code' word, met by the world's own term for the bytes: nothing is compared byte by byte -/
theorem code_word {y : MethodName} {bytes : ByteArray} {mx : Nat} {rt : Option FieldType} {a : Array Value} {s : State} {m : MethodId} {meth : Method} {c : Code} (h1 : s.methodNamed? y = some m) (h2 : s.vm.method? m = some meth) (h3 : meth.code = some c) (h4 : c.code = bytes)
    (h5 : (c.maxLocals == mx && c.exceptionTable.isEmpty && decide (c.maxStack ≤ mostOperands) && decide (meth.sig.returnType = rt) && !meth.locks && decide (parseMethodDescriptor y.desc = some meth.sig)) = true) : (Jvm.Cond.code y bytes mx rt).before a s = true := by
  simp only [Bool.and_eq_true, beq_iff_eq, Bool.not_eq_true', decide_eq_true_eq] at h5
  obtain ⟨⟨⟨⟨⟨g1, g2⟩, g3⟩, g4⟩, g5⟩, g6⟩ := h5
  simp [Cond.before, Cond.holds, Cond.value, h1, h2, h3, h4, g1, g2, g3, g4, g5, g6]
def isCode : Jvm.Cond → Bool
  | .code _ _ _ _ => true
  | _ => false
theorem all_split {L : List Jvm.Cond} {P : Jvm.Cond → Bool} (h1 : L.all (fun c => isCode c || P c) = true) (h2 : ∀ c ∈ L.filter isCode, P c = true) : L.all P = true := by
  refine List.all_eq_true.mpr fun c hc => ?_
  have h := List.all_eq_true.mp h1 c hc
  rcases Bool.eq_false_or_eq_true (isCode c) with hi | hi
  · exact h2 c (List.mem_filter.mpr ⟨hc, hi⟩)
  · simpa [hi] using h
set_option maxRecDepth 65536 in
theorem w_c0 : (Jvm.Cond.code x code maxLocals ret).before args0 about1 = true := code_word (m := ⟨1, 2⟩) (meth := k1m2) (c := k1c2) (by decide +kernel) rfl rfl rfl (by decide +kernel)
set_option maxRecDepth 65536 in
theorem w_c1 : (Jvm.Cond.code ({ cls := "com/example/hashbook/hashbook/store/RowPages$Anchor", name := "length", desc := "(I)I" } : Jvm.MethodName) prog_155_method_2_code (2 : Nat) (Option.some Jvm.ClassFile.FieldType.int)).before args0 about1 = true := code_word (m := ⟨3, 0⟩) (meth := k3m0) (c := k3c0) (by decide +kernel) rfl rfl rfl (by decide +kernel)
set_option maxRecDepth 65536 in
theorem w_c2 : (Jvm.Cond.code ({ cls := "com/example/hashbook/hashbook/store/AnchorLengthPinLaw", name := "expected", desc := "(I)I" } : Jvm.MethodName) method_2_code (2 : Nat) (Option.some Jvm.ClassFile.FieldType.int)).before args0 about1 = true := code_word (m := ⟨1, 1⟩) (meth := k1m1) (c := k1c1) (by decide +kernel) rfl rfl rfl (by decide +kernel)
def codes1 : List Jvm.Cond := [Jvm.Cond.code x code maxLocals ret, Jvm.Cond.code ({ cls := "com/example/hashbook/hashbook/store/RowPages$Anchor", name := "length", desc := "(I)I" } : Jvm.MethodName) prog_155_method_2_code (2 : Nat) (Option.some Jvm.ClassFile.FieldType.int), Jvm.Cond.code ({ cls := "com/example/hashbook/hashbook/store/AnchorLengthPinLaw", name := "expected", desc := "(I)I" } : Jvm.MethodName) method_2_code (2 : Nat) (Option.some Jvm.ClassFile.FieldType.int)]
set_option maxRecDepth 65536 in
theorem codes_eq : words1.filter isCode = codes1 := rfl
theorem w_codes : ∀ c ∈ words1.filter isCode, c.before args0 about1 = true := by
  rw [codes_eq]
  intro c hc
  simp only [codes1, List.mem_cons, List.not_mem_nil, or_false] at hc
  rcases hc with rfl | rfl | rfl
  · exact w_c0
  · exact w_c1
  · exact w_c2
set_option maxRecDepth 65536 in
theorem w_t1 : words1.all (fun c => isCode c || c.before args0 about1) = true := by decide +kernel
theorem w_tables : (allAtoms (Jvm.Cond.code x code maxLocals ret :: tables_1)).before args0 about1 = true := by
  rw [allAtoms_all]
  show words1.all (fun c => c.before args0 about1) = true
  refine all_split ?_ w_codes
  rw [w_t1]
set_option maxRecDepth 65536 in
theorem w_case : (Jvm.Cond.and given_1 narrow_1).before args0 about1 = true := by decide +kernel
theorem w_applies : (headSpec (Jvm.Cond.code x code maxLocals ret :: tables_1) room_1).applies x e0.platform about1 = true :=
  (Spec.applies_iff w_frames).mpr ⟨w_running, w_runnable, w_alone, w_named, w_hears, w_ripe, w_room, w_tables⟩
theorem atStart : AtStart classFile x code maxLocals ret World_1 tables_1 room_1 Calls_1 rest_1 Pre_1 launch0 p0 e0 about1 theMethod args0 below0 :=
  ⟨lists_1, trivial, launch0.admits_env _ _ _, launch0.least_env, fairChoices_fair.cas, fairChoices_fair.clock, w_frames, w_args, w_heap, w_applies, trivial, trivial, w_case⟩
end start1
theorem witness_1 : WitnessClaimed_1 := ⟨start1.p0, start1.e0, start1.about1, start1.theMethod, start1.args0, start1.below0, start1.atStart⟩
end Jvm.Pilot.@@N@@
