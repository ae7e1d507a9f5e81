import JvmDerived
import JvmDerived.Pilot.@@N@@Statement
import JvmDerived.Pilot.@@N@@Code
set_option linter.unusedVariables false
set_option linter.unusedSimpArgs false
@@BLOCK:NumsL.lean.txt@@
namespace Jvm.RoadKit
open Sem ClassFile Op Lib Jvm.Stand Jvm.Free Jvm.LawKit
section New
variable {p : Program} {l : Launch} {e : Env} {R : Room} {s : State} {m : MethodId} {args : Array Value} {below : List Frame} {meth : Method} {c : Code} {T : State} {locs : List Loc} {cells slots : Nat}
theorem retI (X : Stand p l e R s m args below meth c T locs cells slots) (hx : p.tables.exec = Jvm.exec) {pc : Nat} {Ls : Array Slot} {z : Int32} {rest : List Value} (hret : meth.sig.returnType = some .int) (hd : decode c.code pc = .ok (.ireturn, 1)) {fs : List Frame}
    (hl : ∀ (f : JFrame) (acts : List Action), f.method = m → f.locked = none → f.entered = [] → (doReturn e (T.setTop f) acts (some (.int z))).1 = T.setFrames fs) : Steps p.tables e below (T.setTop (mkF m pc Ls (.int z :: rest))) (T.setFrames fs) := by
  have hm' : T.vm.method? m = some meth := X.method'
  have hn : narrow .int (.int z) = .int z := rfl
  show Steps p.tables e below (T.setTop { method := m, pc := pc, locals := Ls, stack := _ :: rest, locked := none }) _
  jvm_step X.here [X.here.top, hx, hd, hm', hret, hn]
  first | (intro acts; rw [hl _ acts rfl rfl rfl]) | rw [hl _ _ rfl rfl rfl]
  exact Steps.refl _
end New
end Jvm.RoadKit
namespace Jvm.Pilot.@@N@@
open Jvm Jvm.ClassFile Sem Op Lib Jvm.Free Jvm.Stand Jvm.LawKit Jvm.RoadKit Bundle Jvm.Pilot.@@N@@.Jvm.D
/-! the rest of a run, from the state t on: it comes to an end of which P holds -/
def own_At (p : Program) (e : Env) (below : List Frame) (P : Outcome → State → Prop) (t : State) : Prop := ∃ s₂ o, Steps p.tables e below t s₂ ∧ s₂.status = .running ∧ Ended s₂ below o ∧ P o s₂
theorem own_body {p : Program} {e : Env} {below : List Frame} {P : Outcome → State → Prop} {t : State} (h : ∀ P' : Outcome → State → Prop, (∀ o u, P o u → P' o u) → own_At p e below P' t) : own_At p e below P t := h P fun _ _ q => q
theorem own_st {p : Program} {e : Env} {below : List Frame} {P : Outcome → State → Prop} {t t' : State} (h : ∀ target, Steps p.tables e below t' target → Steps p.tables e below t target) (k : own_At p e below P t') : own_At p e below P t := by
  obtain ⟨s₂, o, h1, h2⟩ := k
  exact ⟨s₂, o, h _ h1, h2⟩
theorem own_tr {p : Program} {e : Env} {below : List Frame} {P : Outcome → State → Prop} {t t' : State} (h : Steps p.tables e below t t') (k : own_At p e below P t') : own_At p e below P t := by
  obtain ⟨s₂, o, h1, h2⟩ := k
  exact ⟨s₂, o, h.trans h1, h2⟩
theorem own_sta {s : State} {a : Array Value} {C n d : String} {z : Int32} (h : (Jvm.Cond.eq (Jvm.Term.static C n d) (Jvm.Term.int z)).value a s none s [] = some true) (hi : (Cond.initializedFor C n d).before a s = true ∨ ((Cond.initialized C).before a s = true ∧ (Cond.laysStatic C n d).before a s = true)) : Sta s s.heap C n d (.int z) := Sta.start (eqv_i rfl h) hi
theorem own_staL {s : State} {a : Array Value} {C n d : String} {z : Int64} (h : (Jvm.Cond.eq (Jvm.Term.static C n d) (Jvm.Term.long z)).value a s none s [] = some true) (hi : (Cond.initializedFor C n d).before a s = true ∨ ((Cond.initialized C).before a s = true ∧ (Cond.laysStatic C n d).before a s = true)) : Sta s s.heap C n d (.long z) := Sta.start (eqv_l rfl h) hi
theorem own_enum {s : State} {a : Array Value} {C n d K : String} (h : (Jvm.Cond.exactly (Jvm.Term.static C n d) K).value a s none s [] = some true) (hi : (Cond.initializedFor C n d).before a s = true ∨ ((Cond.initialized C).before a s = true ∧ (Cond.laysStatic C n d).before a s = true)) : ∃ r : Addr, (Jvm.Term.static C n d).eval a s none [] s = some (.ref r) ∧ Sta s s.heap C n d (.ref r) ∧ Exa s s.heap r K := by
  obtain ⟨r, c', cell, k, e1, -⟩ := Cond.exactly_spec (Cond.before_iff.mpr h)
  exact ⟨r, e1, Sta.start e1 hi, Exa.start e1 h⟩
theorem own_ord {s : State} {a : Array Value} {t : Jvm.Term} {C n d : String} {r : Addr} {z : Int32} (e : t.eval a s none [] s = some (.ref r)) (h : (Jvm.Cond.eq (Jvm.Term.field t C n d) (Jvm.Term.int z)).value a s none s [] = some true) : s.fieldOf? r C n d = some (.int z) := by
  have q := eqv_i (F := Jvm.Term.int z) rfl h
  simpa [Term.eval, e] using q
theorem own_ne {s : State} {r r' : Addr} {C n d : String} {z z' : Int32} (h : s.fieldOf? r C n d = some (.int z)) (h' : s.fieldOf? r' C n d = some (.int z')) (q : z ≠ z') : r ≠ r' := fun e => by
  subst e
  exact q (Value.int.inj (Option.some.inj (h.symm.trans h')))

theorem own_staK {Z : State} {h h' : Heap} {C n d B : String} {w : Value} {x : Addr} (F : Sta Z h C n d w) (K : Keep h h' [x]) (E : Exa Z h x B) : Sta Z h' C n d w := by
  obtain ⟨cf, i, k, f, st, cell, h1, h2, h3, h4, h5, h6, h7⟩ := F
  obtain ⟨cb, kb, g1, -, -, g4, -⟩ := E
  have ne : st ≠ x := fun q => by
    subst q
    cases h5.symm.trans g1
    rw [h6] at g4; cases g4
  exact ⟨cf, i, k, f, st, cell, h1, h2, h3, h4, K.2.1 _ _ h5 (by simpa using ne), h6, h7⟩
theorem own_nin {a x : Addr} (h : a ≠ x) : a ∉ [x] := by simpa using h

theorem own_tg (p g : Int32) : ¬ (((p + (1 : Int32)) + (g &&& (1073741823 : Int32))) = p) := by
  have e1 : (g &&& (1073741823 : Int32)).toInt = g.toInt % 2 ^ 30 := Jvm.Kit.i32_mask g 1073741823 (k := 30) (by decide) (by decide)
  generalize (g &&& (1073741823 : Int32)) = t at e1
  intro q
  rw [Int32.add_assoc] at q
  have q2 : (1 : Int32) + t = 0 := by
    have := congrArg (fun z => z - p) q
    simpa [Int32.add_comm p, Int32.add_sub_cancel, Int32.sub_self] using this
  have l1 : (1 : Int32).toInt = 1 := rfl
  have e2 : ((1 : Int32) + t).toInt = 1 + t.toInt := by rw [Jvm.Kit.i32_add (by omega) (by omega), l1]
  rw [q2] at e2
  have l0 : (0 : Int32).toInt = 0 := rfl
  omega
theorem own_kk (p : Int32) : 1 ≤ ((p &&& (1073741823 : Int32)) + (1 : Int32)).toInt ∧ ((p &&& (1073741823 : Int32)) + (1 : Int32)).toInt ≤ 1073741824 := by
  have e1 : (p &&& (1073741823 : Int32)).toInt = p.toInt % 2 ^ 30 := Jvm.Kit.i32_mask p 1073741823 (k := 30) (by decide) (by decide)
  have l1 : (1 : Int32).toInt = 1 := rfl
  rw [Jvm.Kit.i32_add (by omega) (by omega)]
  omega
theorem own_01 (a : Int32) : ¬ ((a + (0 : Int32)) = (a + (1 : Int32))) := fun q => by
  have h : (0 : Int32) = 1 := by
    have := congrArg (fun z => z - a) q
    simpa [Int32.add_comm a, Int32.add_sub_cancel] using this
  exact absurd h (by decide)
theorem own_2k {k : Int32} (h : 1 ≤ k.toInt ∧ k.toInt ≤ 1073741824) : ¬ (((2 : Int32) * k) = k) := fun q => by
  have l2 : (2 : Int32).toInt = 2 := rfl
  have e := congrArg Int32.toInt q
  rw [Int32.toInt_mul, l2, Int.bmod_def] at e
  omega

theorem own_rm1_d0 : decode jdk_30_method_1_code 0 = .ok (.aload_n 0, 1) := by decide +kernel
theorem own_rm1_d1 : decode jdk_30_method_1_code 1 = .ok (.invokespecial 1, 3) := by decide +kernel
theorem own_rm1_d4 : decode jdk_30_method_1_code 4 = .ok (.return_, 1) := by decide +kernel
theorem own_rm1_pn : plainName "java/lang/Record" = true := by first | (simp [plainName, overriddenIn]; done) | decide +kernel
theorem own_rm1_ef (m : MethodId) (x0 : Addr) : entryFrame m #[(.ref x0)] 1 = mkF m 0 #[.val (.ref x0)] [] := by first | (simp [entryFrame, mkF, argsToLocals, Value.category]; done) | rfl
def own_rm1_Q (Z : State) (a1 : Addr) (h0 : Heap) (n0 : Nat) (v : Option Value) (h : Heap) (L : List Loc) : Prop := v = none ∧ Fr n0 L ∧ h = h0
set_option maxRecDepth 65536 in
set_option maxHeartbeats 40000000 in
theorem own_rm1 (l : Launch) (Z : State) (a0 : Array Value) (hw : ∀ d ∈ tables_1, d.before a0 Z = true) (ws : List Jvm.Cond) (a1 : Addr) (h0 : Heap) (n0 : Nat) (Z0 : n0 ≤ h0.size) :
    MetFree l (⟨"java/lang/Record", "<init>", "()V"⟩ : MethodName) (head1 (Jvm.Cond.code (⟨"java/lang/Record", "<init>", "()V"⟩ : MethodName) jdk_30_method_1_code 1 none :: ws) ({ frames := 1, cells := 0, slots := 0, locals := 12 } : Room)) (fun a U => a = #[(.ref a1)] ∧ Z.Warmed39 U.vm ∧ U.heap = h0) (fun _ _ _ _ _ => True) (fun _ U o U' => ∃ v L, o = .returned v ∧ own_rm1_Q Z a1 h0 n0 v U'.heap L ∧ FrameEnd U o U' L ({ frames := 1, cells := 0, slots := 0, locals := 12 } : Room).cells ({ frames := 1, cells := 0, slots := 0, locals := 12 } : Room).slots) := by
  refine MetFree.of_bodySF (plainFor_of_name own_rm1_pn) hisR ?_
  intro p e s m args below meth c s₁ Bd hml0 hPre hK
  obtain ⟨rfl, hZ, hh⟩ := hPre
  have hx := Bd.exec
  have hby := Bd.bytes
  have hml : c.maxLocals = 1 := hml0
  have hown : s.vm.findClass "java/lang/Record" = some m.cls := findClass_of_methodNamed Bd.named
  have hnm := (name_of_methodNamed Bd.named Bd.method).1
  have X0 : Stand p l e ({ frames := 1, cells := 0, slots := 0, locals := 12 } : Room) s m #[(.ref a1)] below meth c s₁ [] 0 0 := Stand.of_body Bd
  have e0 : s₁.heap = h0 := by rw [← hh, Bd.state]; rfl
  have N0 := Fr.nil n0
  refine own_body fun P hP => ?_
  refine own_st (t' := s₁.setTop (mkF m 0 #[.val (.ref a1)] [])) (fun _ k => castTop (own_rm1_ef m a1) k) ?_
  refine own_st (t' := s₁.setTop (mkF m 1 #[.val (.ref a1)] [(.ref a1)])) (fun _ k => XS.aloadN X0.here hx rfl (hb hby own_rm1_d0) rfl rfl k) ?_
  obtain ⟨T1, X1, e1, st1⟩ := initO X0 hx hZ hown (hw _ (List.mem_of_getElem? (i := 23) rfl)) (hw _ (List.mem_of_getElem? (i := 24) rfl)) (hw _ (List.mem_of_getElem? (i := 25) rfl)) e0 (g := (mkF m 1 #[.val (.ref a1)] [(.ref a1)])) rfl (by rw [hml]; rfl) rfl (hb hby own_rm1_d1) (by decide) (W := 0) (by show 2 * 0 + _ ≤ _; exact Nat.le_of_eq rfl) (by decide)
  refine own_st (t' := T1.setTop (mkF m 4 #[.val (.ref a1)] [])) st1 ?_
  obtain ⟨fs, hr, hrun, hended, hW, hsame⟩ := X1.leave (v := none) (fun _ => rfl)
  exact ⟨_, _, X1.returnOut hx Bd.returns (hb hby own_rm1_d4) hr, hrun, hended, hP _ _ ⟨_, _, rfl, ⟨rfl, N0, e1⟩, ⟨_, rfl⟩, hW, hsame.mono (by decide) (by decide)⟩⟩

theorem own_rm2_d0 : decode jdk_37_method_2_code 0 = .ok (.aload_n 0, 1) := by decide +kernel
theorem own_rm2_d1 : decode jdk_37_method_2_code 1 = .ok (.getfield 7, 3) := by decide +kernel
theorem own_rm2_d4 : decode jdk_37_method_2_code 4 = .ok (.ireturn, 1) := by decide +kernel
theorem own_rm2_pn : plainName "java/lang/Enum" = true := by first | (simp [plainName, overriddenIn]; done) | decide +kernel
theorem own_rm2_ef (m : MethodId) (x0 : Addr) : entryFrame m #[(.ref x0)] 1 = mkF m 0 #[.val (.ref x0)] [] := by first | (simp [entryFrame, mkF, argsToLocals, Value.category]; done) | rfl
def own_rm2_Q (Z : State) (a1 : Addr) (w : Int32) (h0 : Heap) (n0 : Nat) (v : Option Value) (h : Heap) (L : List Loc) : Prop := v = some (.int (w)) ∧ Fr n0 L ∧ h = h0
set_option maxRecDepth 65536 in
set_option maxHeartbeats 40000000 in
theorem own_rm2 (l : Launch) (Z : State) (a0 : Array Value) (hw : ∀ d ∈ tables_1, d.before a0 Z = true) (ws : List Jvm.Cond) (a1 : Addr) (w : Int32) (h0 : Heap) (n0 : Nat) (Z0 : n0 ≤ h0.size) (F : Fld Z h0 a1 "java/lang/Enum" "ordinal" "I" (.int w)) :
    MetFree l (⟨"java/lang/Enum", "ordinal", "()I"⟩ : MethodName) (head1 (Jvm.Cond.code (⟨"java/lang/Enum", "ordinal", "()I"⟩ : MethodName) jdk_37_method_2_code 1 (some .int) :: ws) ({ frames := 0, cells := 0, slots := 0, locals := 0 } : Room)) (fun a U => a = #[(.ref a1)] ∧ Z.Warmed39 U.vm ∧ U.heap = h0) (fun _ _ _ _ _ => True) (fun _ U o U' => ∃ v L, o = .returned v ∧ own_rm2_Q Z a1 w h0 n0 v U'.heap L ∧ FrameEnd U o U' L ({ frames := 0, cells := 0, slots := 0, locals := 0 } : Room).cells ({ frames := 0, cells := 0, slots := 0, locals := 0 } : Room).slots) := by
  refine MetFree.of_bodySF (plainFor_of_name own_rm2_pn) hisR ?_
  intro p e s m args below meth c s₁ Bd hml0 hPre hK
  obtain ⟨rfl, hZ, hh⟩ := hPre
  have hx := Bd.exec
  have hby := Bd.bytes
  have hml : c.maxLocals = 1 := hml0
  have hown : s.vm.findClass "java/lang/Enum" = some m.cls := findClass_of_methodNamed Bd.named
  have hnm := (name_of_methodNamed Bd.named Bd.method).1
  have X0 : Stand p l e ({ frames := 0, cells := 0, slots := 0, locals := 0 } : Room) s m #[(.ref a1)] below meth c s₁ [] 0 0 := Stand.of_body Bd
  have e0 : s₁.heap = h0 := by rw [← hh, Bd.state]; rfl
  have N0 := Fr.nil n0
  refine own_body fun P hP => ?_
  refine own_st (t' := s₁.setTop (mkF m 0 #[.val (.ref a1)] [])) (fun _ k => castTop (own_rm2_ef m a1) k) ?_
  refine own_st (t' := s₁.setTop (mkF m 1 #[.val (.ref a1)] [(.ref a1)])) (fun _ k => XS.aloadN X0.here hx rfl (hb hby own_rm2_d0) rfl rfl k) ?_
  obtain ⟨T1, X1, e1, st1⟩ := getF X0 hx hZ hown (host := "") (Or.inl (hw _ (List.mem_of_getElem? (i := 51) rfl))) Via.refl e0 F (g := (mkF m 1 #[.val (.ref a1)] [(.ref a1)])) rfl rfl (hb hby own_rm2_d1)
  refine own_st (t' := T1.setTop (mkF m 4 #[.val (.ref a1)] [(.int w)])) st1 ?_
  have hv2 : w = w := rfl
  obtain ⟨fs, hr, hrun, hended, hW, hsame⟩ := X1.leave (v := some (.int w)) (fun h => by rw [Bd.returns] at h; cases h)
  exact ⟨_, _, retI X1 hx Bd.returns (hb hby own_rm2_d4) hr, hrun, hended, hP _ _ ⟨_, _, rfl, ⟨(congrArg (fun z => some (Value.int z)) hv2), N0, e1⟩, ⟨_, rfl⟩, hW, hsame.mono (by decide) (by decide)⟩⟩

theorem own_rm3_d0 : decode prog_15_method_6_code 0 = .ok (.aload_n 0, 1) := by decide +kernel
theorem own_rm3_d1 : decode prog_15_method_6_code 1 = .ok (.getfield 13, 3) := by decide +kernel
theorem own_rm3_d4 : decode prog_15_method_6_code 4 = .ok (.ireturn, 1) := by decide +kernel
theorem own_rm3_pn : plainName "com/example/lambdaloom/lambdaloom/Network$Link" = true := by first | (simp [plainName, overriddenIn]; done) | decide +kernel
theorem own_rm3_ef (m : MethodId) (x0 : Addr) : entryFrame m #[(.ref x0)] 1 = mkF m 0 #[.val (.ref x0)] [] := by first | (simp [entryFrame, mkF, argsToLocals, Value.category]; done) | rfl
def own_rm3_Q (Z : State) (a1 : Addr) (w : Int32) (h0 : Heap) (n0 : Nat) (v : Option Value) (h : Heap) (L : List Loc) : Prop := v = some (.int (w)) ∧ Fr n0 L ∧ h = h0
set_option maxRecDepth 65536 in
set_option maxHeartbeats 40000000 in
theorem own_rm3 (l : Launch) (Z : State) (a0 : Array Value) (hw : ∀ d ∈ tables_1, d.before a0 Z = true) (ws : List Jvm.Cond) (a1 : Addr) (w : Int32) (h0 : Heap) (n0 : Nat) (Z0 : n0 ≤ h0.size) (F : Fld Z h0 a1 "com/example/lambdaloom/lambdaloom/Network$Link" "source" "I" (.int w)) :
    MetFree l (⟨"com/example/lambdaloom/lambdaloom/Network$Link", "source", "()I"⟩ : MethodName) (head1 (Jvm.Cond.code (⟨"com/example/lambdaloom/lambdaloom/Network$Link", "source", "()I"⟩ : MethodName) prog_15_method_6_code 1 (some .int) :: ws) ({ frames := 0, cells := 0, slots := 0, locals := 0 } : Room)) (fun a U => a = #[(.ref a1)] ∧ Z.Warmed39 U.vm ∧ U.heap = h0) (fun _ _ _ _ _ => True) (fun _ U o U' => ∃ v L, o = .returned v ∧ own_rm3_Q Z a1 w h0 n0 v U'.heap L ∧ FrameEnd U o U' L ({ frames := 0, cells := 0, slots := 0, locals := 0 } : Room).cells ({ frames := 0, cells := 0, slots := 0, locals := 0 } : Room).slots) := by
  refine MetFree.of_bodySF (plainFor_of_name own_rm3_pn) hisR ?_
  intro p e s m args below meth c s₁ Bd hml0 hPre hK
  obtain ⟨rfl, hZ, hh⟩ := hPre
  have hx := Bd.exec
  have hby := Bd.bytes
  have hml : c.maxLocals = 1 := hml0
  have hown : s.vm.findClass "com/example/lambdaloom/lambdaloom/Network$Link" = some m.cls := findClass_of_methodNamed Bd.named
  have hnm := (name_of_methodNamed Bd.named Bd.method).1
  have X0 : Stand p l e ({ frames := 0, cells := 0, slots := 0, locals := 0 } : Room) s m #[(.ref a1)] below meth c s₁ [] 0 0 := Stand.of_body Bd
  have e0 : s₁.heap = h0 := by rw [← hh, Bd.state]; rfl
  have N0 := Fr.nil n0
  refine own_body fun P hP => ?_
  refine own_st (t' := s₁.setTop (mkF m 0 #[.val (.ref a1)] [])) (fun _ k => castTop (own_rm3_ef m a1) k) ?_
  refine own_st (t' := s₁.setTop (mkF m 1 #[.val (.ref a1)] [(.ref a1)])) (fun _ k => XS.aloadN X0.here hx rfl (hb hby own_rm3_d0) rfl rfl k) ?_
  obtain ⟨T1, X1, e1, st1⟩ := getF X0 hx hZ hown (host := "") (Or.inl (hw _ (List.mem_of_getElem? (i := 28) rfl))) Via.refl e0 F (g := (mkF m 1 #[.val (.ref a1)] [(.ref a1)])) rfl rfl (hb hby own_rm3_d1)
  refine own_st (t' := T1.setTop (mkF m 4 #[.val (.ref a1)] [(.int w)])) st1 ?_
  have hv2 : w = w := rfl
  obtain ⟨fs, hr, hrun, hended, hW, hsame⟩ := X1.leave (v := some (.int w)) (fun h => by rw [Bd.returns] at h; cases h)
  exact ⟨_, _, retI X1 hx Bd.returns (hb hby own_rm3_d4) hr, hrun, hended, hP _ _ ⟨_, _, rfl, ⟨(congrArg (fun z => some (Value.int z)) hv2), N0, e1⟩, ⟨_, rfl⟩, hW, hsame.mono (by decide) (by decide)⟩⟩

theorem own_rm4_d0 : decode prog_15_method_1_code 0 = .ok (.aload_n 0, 1) := by decide +kernel
theorem own_rm4_d1 : decode prog_15_method_1_code 1 = .ok (.invokespecial 1, 3) := by decide +kernel
theorem own_rm4_d4 : decode prog_15_method_1_code 4 = .ok (.aload_n 0, 1) := by decide +kernel
theorem own_rm4_d5 : decode prog_15_method_1_code 5 = .ok (.aload_n 1, 1) := by decide +kernel
theorem own_rm4_d6 : decode prog_15_method_1_code 6 = .ok (.putfield 7, 3) := by decide +kernel
theorem own_rm4_d9 : decode prog_15_method_1_code 9 = .ok (.aload_n 0, 1) := by decide +kernel
theorem own_rm4_d10 : decode prog_15_method_1_code 10 = .ok (.iload_n 2, 1) := by decide +kernel
theorem own_rm4_d11 : decode prog_15_method_1_code 11 = .ok (.putfield 13, 3) := by decide +kernel
theorem own_rm4_d14 : decode prog_15_method_1_code 14 = .ok (.aload_n 0, 1) := by decide +kernel
theorem own_rm4_d15 : decode prog_15_method_1_code 15 = .ok (.iload_n 3, 1) := by decide +kernel
theorem own_rm4_d16 : decode prog_15_method_1_code 16 = .ok (.putfield 17, 3) := by decide +kernel
theorem own_rm4_d19 : decode prog_15_method_1_code 19 = .ok (.return_, 1) := by decide +kernel
theorem own_rm4_pn : plainName "com/example/lambdaloom/lambdaloom/Network$Link" = true := by first | (simp [plainName, overriddenIn]; done) | decide +kernel
theorem own_rm4_pd0 : parseMethodDescriptor "()V" = some ⟨[], none⟩ := by decide +kernel
theorem own_rm4_ef (m : MethodId) (x0 : Addr) (x1 : Addr) (x2 : Int32) (x3 : Int32) : entryFrame m #[(.ref x0), (.ref x1), (.int x2), (.int x3)] 4 = mkF m 0 #[.val (.ref x0), .val (.ref x1), .val (.int x2), .val (.int x3)] [] := by first | (simp [entryFrame, mkF, argsToLocals, Value.category]; done) | rfl
def own_rm4_Q (Z : State) (a1 : Addr) (a2 : Addr) (p1 : Int32) (p2 : Int32) (h0 : Heap) (n0 : Nat) (v : Option Value) (h : Heap) (L : List Loc) : Prop := v = none ∧ Fr n0 L ∧ Keep h0 h [a1] ∧ Exa Z h a1 "com/example/lambdaloom/lambdaloom/Network$Link" ∧ Fld Z h a1 "com/example/lambdaloom/lambdaloom/Network$Link" "id" "Ljava/lang/String;" (.ref a2) ∧ Fld Z h a1 "com/example/lambdaloom/lambdaloom/Network$Link" "source" "I" (.int p1) ∧ Fld Z h a1 "com/example/lambdaloom/lambdaloom/Network$Link" "target" "I" (.int p2)
set_option maxRecDepth 65536 in
set_option maxHeartbeats 40000000 in
theorem own_rm4 (l : Launch) (Z : State) (a0 : Array Value) (hw : ∀ d ∈ tables_1, d.before a0 Z = true) (ws : List Jvm.Cond) (a1 : Addr) (a2 : Addr) (p1 : Int32) (p2 : Int32) (h0 : Heap) (n0 : Nat) (Z0 : n0 ≤ h0.size) (E_a1 : Exa Z h0 a1 "com/example/lambdaloom/lambdaloom/Network$Link") (F_id : Fld Z h0 a1 "com/example/lambdaloom/lambdaloom/Network$Link" "id" "Ljava/lang/String;" .null) (F_source : Fld Z h0 a1 "com/example/lambdaloom/lambdaloom/Network$Link" "source" "I" (.int (0 : Int32))) (F_target : Fld Z h0 a1 "com/example/lambdaloom/lambdaloom/Network$Link" "target" "I" (.int (0 : Int32))) (bg_a1 : n0 ≤ a1) :
    MetFree l (⟨"com/example/lambdaloom/lambdaloom/Network$Link", "<init>", "(Ljava/lang/String;II)V"⟩ : MethodName) (head1 (Jvm.Cond.code (⟨"com/example/lambdaloom/lambdaloom/Network$Link", "<init>", "(Ljava/lang/String;II)V"⟩ : MethodName) prog_15_method_1_code 4 none :: ws) ({ frames := 2, cells := 0, slots := 0, locals := 24 } : Room)) (fun a U => a = #[(.ref a1), (.ref a2), (.int p1), (.int p2)] ∧ Z.Warmed39 U.vm ∧ U.heap = h0) (fun _ _ _ _ _ => True) (fun _ U o U' => ∃ v L, o = .returned v ∧ own_rm4_Q Z a1 a2 p1 p2 h0 n0 v U'.heap L ∧ FrameEnd U o U' L ({ frames := 2, cells := 0, slots := 0, locals := 24 } : Room).cells ({ frames := 2, cells := 0, slots := 0, locals := 24 } : Room).slots) := by
  refine MetFree.of_bodySF (plainFor_of_name own_rm4_pn) hisR ?_
  intro p e s m args below meth c s₁ Bd hml0 hPre hK
  obtain ⟨rfl, hZ, hh⟩ := hPre
  have hx := Bd.exec
  have hby := Bd.bytes
  have hml : c.maxLocals = 4 := hml0
  have hown : s.vm.findClass "com/example/lambdaloom/lambdaloom/Network$Link" = some m.cls := findClass_of_methodNamed Bd.named
  have hnm := (name_of_methodNamed Bd.named Bd.method).1
  have X0 : Stand p l e ({ frames := 2, cells := 0, slots := 0, locals := 24 } : Room) s m #[(.ref a1), (.ref a2), (.int p1), (.int p2)] below meth c s₁ [] 0 0 := Stand.of_body Bd
  have e0 : s₁.heap = h0 := by rw [← hh, Bd.state]; rfl
  have N0 := Fr.nil n0
  refine own_body fun P hP => ?_
  refine own_st (t' := s₁.setTop (mkF m 0 #[.val (.ref a1), .val (.ref a2), .val (.int p1), .val (.int p2)] [])) (fun _ k => castTop (own_rm4_ef m a1 a2 p1 p2) k) ?_
  refine own_st (t' := s₁.setTop (mkF m 1 #[.val (.ref a1), .val (.ref a2), .val (.int p1), .val (.int p2)] [(.ref a1)])) (fun _ k => XS.aloadN X0.here hx rfl (hb hby own_rm4_d0) rfl rfl k) ?_
  obtain ⟨_, _, ⟨T1, L1, k1, n1⟩, -, X1, ⟨Lc1, hQ1, l1, y1, z1⟩, st1⟩ := X0.specialBack hx (y := (⟨"java/lang/Record", "<init>", "()V"⟩ : MethodName)) rfl hown (mvT hZ (hw _ (List.mem_of_getElem? (i := 18) rfl))) (mvT hZ (hw _ (List.mem_of_getElem? (i := 19) rfl))) (mvT hZ (hw _ (List.mem_of_getElem? (i := 22) rfl))) (by decide) (backOf (W := 0) (own_rm1 l Z a0 hw [] a1 h0 n0 Z0) hZ (hw _ (List.mem_of_getElem? (i := 22) rfl)) (hw _ (List.mem_of_getElem? (i := 21) rfl)) (by decide) (by decide)) (g := (mkF m 1 #[.val (.ref a1), .val (.ref a2), .val (.int p1), .val (.int p2)] [(.ref a1)])) rfl (by rw [hml]; rfl) (Steps.refl _) (a := a1) (argsL := []) (rest := []) (lenOf own_rm4_pd0 rfl) rfl (by show 2 * 0 + _ ≤ _; exact Nat.le_of_eq rfl) (hb hby own_rm4_d1) (fun _ _ => ⟨rfl, e0, (by decide : 0 + 0 ≤ _), (by decide : 0 + 0 ≤ _)⟩)
  dsimp only [Pt.U, Pt.locs, Pt.cells, Pt.slots] at X1 l1 y1 z1 st1 hQ1
  subst l1 y1 z1
  obtain ⟨rfl, N1q, e1⟩ := hQ1
  have N1 := Fr.app N0 N1q
  refine own_tr (t' := T1.setTop (mkF m 4 #[.val (.ref a1), .val (.ref a2), .val (.int p1), .val (.int p2)] [])) st1 ?_
  refine own_st (t' := T1.setTop (mkF m 5 #[.val (.ref a1), .val (.ref a2), .val (.int p1), .val (.int p2)] [(.ref a1)])) (fun _ k => XS.aloadN X1.here hx rfl (hb hby own_rm4_d4) rfl rfl k) ?_
  refine own_st (t' := T1.setTop (mkF m 6 #[.val (.ref a1), .val (.ref a2), .val (.int p1), .val (.int p2)] [(.ref a2), (.ref a1)])) (fun _ k => XS.aloadN X1.here hx rfl (hb hby own_rm4_d5) rfl rfl k) ?_
  obtain ⟨T2, h2, X2, e2, W2, st2⟩ := putF X1 hx hZ hown (host := "") (Or.inl (hw _ (List.mem_of_getElem? (i := 26) rfl))) Via.refl e1 F_id E_a1 (Or.inr ⟨(hw _ (List.mem_of_getElem? (i := 27) rfl)), rfl, hnm⟩) (hw _ (List.mem_of_getElem? (i := 5) rfl)) (ty := (.object "java/lang/String")) (by decide) rfl rfl (g := (mkF m 6 #[.val (.ref a1), .val (.ref a2), .val (.int p1), .val (.int p2)] [(.ref a2), (.ref a1)])) rfl rfl (hb hby own_rm4_d6)
  have Fw2 := F_id.same W2
  have f2_Exa_a1 := E_a1.wr W2
  have f2_Fld_a1_source := F_source.other W2 (Or.inr (slot_ne (Or.inr (hw _ (List.mem_of_getElem? (i := 29) rfl))) (Or.inr (hw _ (List.mem_of_getElem? (i := 27) rfl))) (by decide) (t := .int) (t' := (.object "java/lang/String")) (by decide) (by decide)))
  have f2_Fld_a1_target := F_target.other W2 (Or.inr (slot_ne (Or.inr (hw _ (List.mem_of_getElem? (i := 31) rfl))) (Or.inr (hw _ (List.mem_of_getElem? (i := 27) rfl))) (by decide) (t := .int) (t' := (.object "java/lang/String")) (by decide) (by decide)))
  have N2 := Fr.snoc X2 N1 bg_a1
  have Z2 : n0 ≤ h2.size := Nat.le_trans Z0 (Keep.of_wr W2).1
  have K2 := (Keep.refl h0 [a1]).wr W2 (Or.inl (List.mem_of_getElem? (i := 0) rfl))
  refine own_st (t' := T2.setTop (mkF m 9 #[.val (.ref a1), .val (.ref a2), .val (.int p1), .val (.int p2)] [])) st2 ?_
  refine own_st (t' := T2.setTop (mkF m 10 #[.val (.ref a1), .val (.ref a2), .val (.int p1), .val (.int p2)] [(.ref a1)])) (fun _ k => XS.aloadN X2.here hx rfl (hb hby own_rm4_d9) rfl rfl k) ?_
  refine own_st (t' := T2.setTop (mkF m 11 #[.val (.ref a1), .val (.ref a2), .val (.int p1), .val (.int p2)] [(.int p1), (.ref a1)])) (fun _ k => XS.iloadN X2.here hx rfl (hb hby own_rm4_d10) rfl k) ?_
  obtain ⟨T3, h3, X3, e3, W3, st3⟩ := putF X2 hx hZ hown (host := "") (Or.inl (hw _ (List.mem_of_getElem? (i := 28) rfl))) Via.refl e2 f2_Fld_a1_source f2_Exa_a1 (Or.inr ⟨(hw _ (List.mem_of_getElem? (i := 29) rfl)), rfl, hnm⟩) (hw _ (List.mem_of_getElem? (i := 5) rfl)) (ty := .int) (by decide) rfl rfl (g := (mkF m 11 #[.val (.ref a1), .val (.ref a2), .val (.int p1), .val (.int p2)] [(.int p1), (.ref a1)])) rfl rfl (hb hby own_rm4_d11)
  have Fw3 := f2_Fld_a1_source.same W3
  have f3_Exa_a1 := f2_Exa_a1.wr W3
  have f3_Fld_a1_id := Fw2.other W3 (Or.inr (slot_ne (Or.inr (hw _ (List.mem_of_getElem? (i := 27) rfl))) (Or.inr (hw _ (List.mem_of_getElem? (i := 29) rfl))) (by decide) (t := (.object "java/lang/String")) (t' := .int) (by decide) (by decide)))
  have f3_Fld_a1_target := f2_Fld_a1_target.other W3 (Or.inr (slot_ne (Or.inr (hw _ (List.mem_of_getElem? (i := 31) rfl))) (Or.inr (hw _ (List.mem_of_getElem? (i := 29) rfl))) (by decide) (t := .int) (t' := .int) (by decide) (by decide)))
  have N3 := Fr.snoc X3 N2 bg_a1
  have Z3 : n0 ≤ h3.size := Nat.le_trans Z2 (Keep.of_wr W3).1
  have K3 := K2.wr W3 (Or.inl (List.mem_of_getElem? (i := 0) rfl))
  refine own_st (t' := T3.setTop (mkF m 14 #[.val (.ref a1), .val (.ref a2), .val (.int p1), .val (.int p2)] [])) st3 ?_
  refine own_st (t' := T3.setTop (mkF m 15 #[.val (.ref a1), .val (.ref a2), .val (.int p1), .val (.int p2)] [(.ref a1)])) (fun _ k => XS.aloadN X3.here hx rfl (hb hby own_rm4_d14) rfl rfl k) ?_
  refine own_st (t' := T3.setTop (mkF m 16 #[.val (.ref a1), .val (.ref a2), .val (.int p1), .val (.int p2)] [(.int p2), (.ref a1)])) (fun _ k => XS.iloadN X3.here hx rfl (hb hby own_rm4_d15) rfl k) ?_
  obtain ⟨T4, h4, X4, e4, W4, st4⟩ := putF X3 hx hZ hown (host := "") (Or.inl (hw _ (List.mem_of_getElem? (i := 30) rfl))) Via.refl e3 f3_Fld_a1_target f3_Exa_a1 (Or.inr ⟨(hw _ (List.mem_of_getElem? (i := 31) rfl)), rfl, hnm⟩) (hw _ (List.mem_of_getElem? (i := 5) rfl)) (ty := .int) (by decide) rfl rfl (g := (mkF m 16 #[.val (.ref a1), .val (.ref a2), .val (.int p1), .val (.int p2)] [(.int p2), (.ref a1)])) rfl rfl (hb hby own_rm4_d16)
  have Fw4 := f3_Fld_a1_target.same W4
  have f4_Exa_a1 := f3_Exa_a1.wr W4
  have f4_Fld_a1_id := f3_Fld_a1_id.other W4 (Or.inr (slot_ne (Or.inr (hw _ (List.mem_of_getElem? (i := 27) rfl))) (Or.inr (hw _ (List.mem_of_getElem? (i := 31) rfl))) (by decide) (t := (.object "java/lang/String")) (t' := .int) (by decide) (by decide)))
  have f4_Fld_a1_source := Fw3.other W4 (Or.inr (slot_ne (Or.inr (hw _ (List.mem_of_getElem? (i := 29) rfl))) (Or.inr (hw _ (List.mem_of_getElem? (i := 31) rfl))) (by decide) (t := .int) (t' := .int) (by decide) (by decide)))
  have N4 := Fr.snoc X4 N3 bg_a1
  have Z4 : n0 ≤ h4.size := Nat.le_trans Z3 (Keep.of_wr W4).1
  have K4 := K3.wr W4 (Or.inl (List.mem_of_getElem? (i := 0) rfl))
  refine own_st (t' := T4.setTop (mkF m 19 #[.val (.ref a1), .val (.ref a2), .val (.int p1), .val (.int p2)] [])) st4 ?_
  obtain ⟨fs, hr, hrun, hended, hW, hsame⟩ := X4.leave (v := none) (fun _ => rfl)
  exact ⟨_, _, X4.returnOut hx Bd.returns (hb hby own_rm4_d19) hr, hrun, hended, hP _ _ ⟨_, _, rfl, ⟨rfl, N4, (by show Keep h0 T4.heap [a1] ∧ Exa Z T4.heap a1 "com/example/lambdaloom/lambdaloom/Network$Link" ∧ Fld Z T4.heap a1 "com/example/lambdaloom/lambdaloom/Network$Link" "id" "Ljava/lang/String;" (.ref a2) ∧ Fld Z T4.heap a1 "com/example/lambdaloom/lambdaloom/Network$Link" "source" "I" (.int p1) ∧ Fld Z T4.heap a1 "com/example/lambdaloom/lambdaloom/Network$Link" "target" "I" (.int p2); rw [e4]; exact ⟨K4, f4_Exa_a1, f4_Fld_a1_id, f4_Fld_a1_source, Fw4⟩)⟩, ⟨_, rfl⟩, hW, hsame.mono (by decide) (by decide)⟩⟩

theorem own_rm5_d0 : decode prog_3_method_5_code 0 = .ok (.aload_n 0, 1) := by decide +kernel
theorem own_rm5_d1 : decode prog_3_method_5_code 1 = .ok (.getstatic 7, 3) := by decide +kernel
theorem own_rm5_d4 : decode prog_3_method_5_code 4 = .ok (.if_acmp .ne 7, 3) := by decide +kernel
theorem own_rm5_d7 : decode prog_3_method_5_code 7 = .ok (.iconst 1, 1) := by decide +kernel
theorem own_rm5_d8 : decode prog_3_method_5_code 8 = .ok (.goto 4, 3) := by decide +kernel
theorem own_rm5_d11 : decode prog_3_method_5_code 11 = .ok (.iconst 0, 1) := by decide +kernel
theorem own_rm5_d12 : decode prog_3_method_5_code 12 = .ok (.ireturn, 1) := by decide +kernel
theorem own_rm5_pn : plainName "com/example/lambdaloom/lambdaloom/ChannelModel" = true := by first | (simp [plainName, overriddenIn]; done) | decide +kernel
theorem own_rm5_ef (m : MethodId) (x0 : Addr) : entryFrame m #[(.ref x0)] 1 = mkF m 0 #[.val (.ref x0)] [] := by first | (simp [entryFrame, mkF, argsToLocals, Value.category]; done) | rfl
def own_rm5_Q (Z : State) (a1 : Addr) (wUNDIRECTED : Addr) (w : Int32) (h0 : Heap) (n0 : Nat) (v : Option Value) (h : Heap) (L : List Loc) : Prop := v = some (.int (w)) ∧ Fr n0 L ∧ h = h0
set_option maxRecDepth 65536 in
set_option maxHeartbeats 40000000 in
theorem own_rm5 (l : Launch) (Z : State) (a0 : Array Value) (hw : ∀ d ∈ tables_1, d.before a0 Z = true) (ws : List Jvm.Cond) (a1 : Addr) (wUNDIRECTED : Addr) (w : Int32) (h0 : Heap) (n0 : Nat) (Z0 : n0 ≤ h0.size) (S_UNDIRECTED : Sta Z h0 "com/example/lambdaloom/lambdaloom/ChannelModel" "UNDIRECTED" "Lcom/example/lambdaloom/lambdaloom/ChannelModel;" (.ref wUNDIRECTED)) (hv : w = if a1 = wUNDIRECTED then (1 : Int32) else (0 : Int32)) :
    MetFree l (⟨"com/example/lambdaloom/lambdaloom/ChannelModel", "sameFibresBothWays", "()Z"⟩ : MethodName) (head1 (Jvm.Cond.code (⟨"com/example/lambdaloom/lambdaloom/ChannelModel", "sameFibresBothWays", "()Z"⟩ : MethodName) prog_3_method_5_code 1 (some .boolean) :: ws) ({ frames := 0, cells := 0, slots := 0, locals := 0 } : Room)) (fun a U => a = #[(.ref a1)] ∧ Z.Warmed39 U.vm ∧ U.heap = h0) (fun _ _ _ _ _ => True) (fun _ U o U' => ∃ v L, o = .returned v ∧ own_rm5_Q Z a1 wUNDIRECTED w h0 n0 v U'.heap L ∧ FrameEnd U o U' L ({ frames := 0, cells := 0, slots := 0, locals := 0 } : Room).cells ({ frames := 0, cells := 0, slots := 0, locals := 0 } : Room).slots) := by
  refine MetFree.of_bodySF (plainFor_of_name own_rm5_pn) hisR ?_
  intro p e s m args below meth c s₁ Bd hml0 hPre hK
  obtain ⟨rfl, hZ, hh⟩ := hPre
  have hx := Bd.exec
  have hby := Bd.bytes
  have hml : c.maxLocals = 1 := hml0
  have hown : s.vm.findClass "com/example/lambdaloom/lambdaloom/ChannelModel" = some m.cls := findClass_of_methodNamed Bd.named
  have hnm := (name_of_methodNamed Bd.named Bd.method).1
  have X0 : Stand p l e ({ frames := 0, cells := 0, slots := 0, locals := 0 } : Room) s m #[(.ref a1)] below meth c s₁ [] 0 0 := Stand.of_body Bd
  have e0 : s₁.heap = h0 := by rw [← hh, Bd.state]; rfl
  have N0 := Fr.nil n0
  refine own_body fun P hP => ?_
  refine own_st (t' := s₁.setTop (mkF m 0 #[.val (.ref a1)] [])) (fun _ k => castTop (own_rm5_ef m a1) k) ?_
  refine own_st (t' := s₁.setTop (mkF m 1 #[.val (.ref a1)] [(.ref a1)])) (fun _ k => XS.aloadN X0.here hx rfl (hb hby own_rm5_d0) rfl rfl k) ?_
  obtain ⟨T1, X1, e1, st1⟩ := getS2 X0 hx hZ hown (host := "") (Or.inl (hw _ (List.mem_of_getElem? (i := 37) rfl))) Via.refl e0 S_UNDIRECTED (g := (mkF m 1 #[.val (.ref a1)] [(.ref a1)])) rfl (hb hby own_rm5_d1)
  refine own_st (t' := T1.setTop (mkF m 4 #[.val (.ref a1)] [(.ref wUNDIRECTED), (.ref a1)])) st1 ?_
  by_cases c4_2 : a1 = wUNDIRECTED
  · refine own_st (t' := T1.setTop (mkF m 7 #[.val (.ref a1)] [])) (fun _ k => Jvm.RoadKit.acmp (g := (mkF m 4 #[.val (.ref a1)] [(.ref wUNDIRECTED), (.ref a1)])) X1 hx rfl rfl rfl (pc0 := 4) (pc' := 7) (same := true) rfl (hb hby own_rm5_d4) rfl (decide_eq_true (congrArg Value.ref c4_2)) (by decide) (by decide) k) ?_
    refine own_st (t' := T1.setTop (mkF m 8 #[.val (.ref a1)] [(.int (1 : Int32))])) (fun _ k => XS.iconst X1.here hx rfl (hb hby own_rm5_d7) k) ?_
    refine own_st (t' := T1.setTop (mkF m 12 #[.val (.ref a1)] [(.int (1 : Int32))])) (fun _ k => XS.goto X1.here hx rfl (pc0 := 8) (pc' := 12) rfl (hb hby own_rm5_d8) (by decide) (by decide) k) ?_
    have hv3 : (1 : Int32) = w := by rw [hv, if_pos c4_2]
    obtain ⟨fs, hr, hrun, hended, hW, hsame⟩ := X1.leave (v := some (.int (1 : Int32))) (fun h => by rw [Bd.returns] at h; cases h)
    exact ⟨_, _, retN X1 hx (t := .boolean) Bd.returns (by simp) (hb hby own_rm5_d12) hr, hrun, hended, hP _ _ ⟨_, _, rfl, ⟨(congrArg (fun z => some (Value.int z)) hv3), N0, e1⟩, ⟨_, rfl⟩, hW, hsame.mono (by decide) (by decide)⟩⟩
  · refine own_st (t' := T1.setTop (mkF m 11 #[.val (.ref a1)] [])) (fun _ k => Jvm.RoadKit.acmp (g := (mkF m 4 #[.val (.ref a1)] [(.ref wUNDIRECTED), (.ref a1)])) X1 hx rfl rfl rfl (pc0 := 4) (pc' := 11) (same := false) rfl (hb hby own_rm5_d4) rfl (decide_eq_false fun q => c4_2 (Value.ref.inj q)) (by decide) (by decide) k) ?_
    refine own_st (t' := T1.setTop (mkF m 12 #[.val (.ref a1)] [(.int (0 : Int32))])) (fun _ k => XS.iconst X1.here hx rfl (hb hby own_rm5_d11) k) ?_
    have hv4 : (0 : Int32) = w := by rw [hv, if_neg c4_2]
    obtain ⟨fs, hr, hrun, hended, hW, hsame⟩ := X1.leave (v := some (.int (0 : Int32))) (fun h => by rw [Bd.returns] at h; cases h)
    exact ⟨_, _, retN X1 hx (t := .boolean) Bd.returns (by simp) (hb hby own_rm5_d12) hr, hrun, hended, hP _ _ ⟨_, _, rfl, ⟨(congrArg (fun z => some (Value.int z)) hv4), N0, e1⟩, ⟨_, rfl⟩, hW, hsame.mono (by decide) (by decide)⟩⟩

theorem own_rm6_d0 : decode prog_3_method_7_code 0 = .ok (.aload_n 0, 1) := by decide +kernel
theorem own_rm6_d1 : decode prog_3_method_7_code 1 = .ok (.invokevirtual 35, 3) := by decide +kernel
theorem own_rm6_d4 : decode prog_3_method_7_code 4 = .ok (.lookupswitch 28 #[(0, 38), (1, 58)], 28) := by decide +kernel
theorem own_rm6_d42 : decode prog_3_method_7_code 42 = .ok (.iconst 2, 1) := by decide +kernel
theorem own_rm6_d43 : decode prog_3_method_7_code 43 = .ok (.iload_n 2, 1) := by decide +kernel
theorem own_rm6_d44 : decode prog_3_method_7_code 44 = .ok (.imul, 1) := by decide +kernel
theorem own_rm6_d45 : decode prog_3_method_7_code 45 = .ok (.iload_n 3, 1) := by decide +kernel
theorem own_rm6_d46 : decode prog_3_method_7_code 46 = .ok (.aload_n 1, 1) := by decide +kernel
theorem own_rm6_d47 : decode prog_3_method_7_code 47 = .ok (.invokevirtual 44, 3) := by decide +kernel
theorem own_rm6_d50 : decode prog_3_method_7_code 50 = .ok (.if_icmp .ne 7, 3) := by decide +kernel
theorem own_rm6_d53 : decode prog_3_method_7_code 53 = .ok (.iconst 0, 1) := by decide +kernel
theorem own_rm6_d54 : decode prog_3_method_7_code 54 = .ok (.goto 4, 3) := by decide +kernel
theorem own_rm6_d57 : decode prog_3_method_7_code 57 = .ok (.iconst 1, 1) := by decide +kernel
theorem own_rm6_d58 : decode prog_3_method_7_code 58 = .ok (.iadd, 1) := by decide +kernel
theorem own_rm6_d59 : decode prog_3_method_7_code 59 = .ok (.goto 4, 3) := by decide +kernel
theorem own_rm6_d63 : decode prog_3_method_7_code 63 = .ok (.ireturn, 1) := by decide +kernel
theorem own_rm6_pn : plainName "com/example/lambdaloom/lambdaloom/ChannelModel" = true := by first | (simp [plainName, overriddenIn]; done) | decide +kernel
theorem own_rm6_pd0 : parseMethodDescriptor "()I" = some ⟨[], some .int⟩ := by decide +kernel
theorem own_rm6_ef (m : MethodId) (x0 : Addr) (x1 : Addr) (x2 : Int32) (x3 : Int32) : entryFrame m #[(.ref x0), (.ref x1), (.int x2), (.int x3)] 4 = mkF m 0 #[.val (.ref x0), .val (.ref x1), .val (.int x2), .val (.int x3)] [] := by first | (simp [entryFrame, mkF, argsToLocals, Value.category]; done) | rfl
def own_rm6_Q (Z : State) (a1 : Addr) (a2 : Addr) (p1 : Int32) (p2 : Int32) (sr : Int32) (w : Int32) (h0 : Heap) (n0 : Nat) (v : Option Value) (h : Heap) (L : List Loc) : Prop := v = some (.int (w)) ∧ Fr n0 L ∧ h = h0
set_option maxRecDepth 65536 in
set_option maxHeartbeats 40000000 in
theorem own_rm6 (l : Launch) (Z : State) (a0 : Array Value) (hw : ∀ d ∈ tables_1, d.before a0 Z = true) (ws : List Jvm.Cond) (a1 : Addr) (a2 : Addr) (p1 : Int32) (p2 : Int32) (sr : Int32) (w : Int32) (h0 : Heap) (n0 : Nat) (Z0 : n0 ≤ h0.size) (E_a1 : Exa Z h0 a1 "com/example/lambdaloom/lambdaloom/ChannelModel") (F_o : Fld Z h0 a1 "java/lang/Enum" "ordinal" "I" (.int (0 : Int32))) (E_a2 : Exa Z h0 a2 "com/example/lambdaloom/lambdaloom/Network$Link") (F_s : Fld Z h0 a2 "com/example/lambdaloom/lambdaloom/Network$Link" "source" "I" (.int sr)) (hv : w = ((2 : Int32) * p1) + (if p2 = sr then (0 : Int32) else (1 : Int32))) :
    MetFree l (⟨"com/example/lambdaloom/lambdaloom/ChannelModel", "fibre", "(Lcom/example/lambdaloom/lambdaloom/Network$Link;II)I"⟩ : MethodName) (head1 (Jvm.Cond.code (⟨"com/example/lambdaloom/lambdaloom/ChannelModel", "fibre", "(Lcom/example/lambdaloom/lambdaloom/Network$Link;II)I"⟩ : MethodName) prog_3_method_7_code 4 (some .int) :: ws) ({ frames := 1, cells := 0, slots := 0, locals := 14 } : Room)) (fun a U => a = #[(.ref a1), (.ref a2), (.int p1), (.int p2)] ∧ Z.Warmed39 U.vm ∧ U.heap = h0) (fun _ _ _ _ _ => True) (fun _ U o U' => ∃ v L, o = .returned v ∧ own_rm6_Q Z a1 a2 p1 p2 sr w h0 n0 v U'.heap L ∧ FrameEnd U o U' L ({ frames := 1, cells := 0, slots := 0, locals := 14 } : Room).cells ({ frames := 1, cells := 0, slots := 0, locals := 14 } : Room).slots) := by
  refine MetFree.of_bodySF (plainFor_of_name own_rm6_pn) hisR ?_
  intro p e s m args below meth c s₁ Bd hml0 hPre hK
  obtain ⟨rfl, hZ, hh⟩ := hPre
  have hx := Bd.exec
  have hby := Bd.bytes
  have hml : c.maxLocals = 4 := hml0
  have hown : s.vm.findClass "com/example/lambdaloom/lambdaloom/ChannelModel" = some m.cls := findClass_of_methodNamed Bd.named
  have hnm := (name_of_methodNamed Bd.named Bd.method).1
  have X0 : Stand p l e ({ frames := 1, cells := 0, slots := 0, locals := 14 } : Room) s m #[(.ref a1), (.ref a2), (.int p1), (.int p2)] below meth c s₁ [] 0 0 := Stand.of_body Bd
  have e0 : s₁.heap = h0 := by rw [← hh, Bd.state]; rfl
  have N0 := Fr.nil n0
  refine own_body fun P hP => ?_
  refine own_st (t' := s₁.setTop (mkF m 0 #[.val (.ref a1), .val (.ref a2), .val (.int p1), .val (.int p2)] [])) (fun _ k => castTop (own_rm6_ef m a1 a2 p1 p2) k) ?_
  refine own_st (t' := s₁.setTop (mkF m 1 #[.val (.ref a1), .val (.ref a2), .val (.int p1), .val (.int p2)] [(.ref a1)])) (fun _ k => XS.aloadN X0.here hx rfl (hb hby own_rm6_d0) rfl rfl k) ?_
  obtain ⟨cq1, kq1, q1a, q1b, q1c⟩ := isOf hZ e0 E_a1
  obtain ⟨_, _, ⟨T1, L1, k1, n1⟩, -, X1, ⟨Lc1, hQ1, l1, y1, z1⟩, st1⟩ := X0.virtualBackUp hx (owner := "java/lang/Enum") (x := (⟨"com/example/lambdaloom/lambdaloom/ChannelModel", "ordinal", "()I"⟩ : MethodName)) (y := (⟨"java/lang/Enum", "ordinal", "()I"⟩ : MethodName)) hown (mvT hZ (hw _ (List.mem_of_getElem? (i := 44) rfl))) (mvT hZ (hw _ (List.mem_of_getElem? (i := 45) rfl))) (mvT hZ (hw _ (List.mem_of_getElem? (i := 46) rfl))) (by decide) (mvT hZ (hw _ (List.mem_of_getElem? (i := 48) rfl))) (mvT hZ (hw _ (List.mem_of_getElem? (i := 47) rfl))) (backOf (W := 0) (own_rm2 l Z a0 hw [] a1 (0 : Int32) h0 n0 Z0 F_o) hZ (hw _ (List.mem_of_getElem? (i := 50) rfl)) (hw _ (List.mem_of_getElem? (i := 49) rfl)) (by decide) (by decide)) q1a q1c (g := (mkF m 1 #[.val (.ref a1), .val (.ref a2), .val (.int p1), .val (.int p2)] [(.ref a1)])) rfl (by rw [hml]; rfl) (Steps.refl _) (argsL := []) (rest := []) (lenOf own_rm6_pd0 rfl) rfl (by show 2 * 0 + _ ≤ _; exact Nat.le_of_eq rfl) (hb hby own_rm6_d1) (fun _ _ => ⟨rfl, e0, (by decide : 0 + 0 ≤ _), (by decide : 0 + 0 ≤ _)⟩)
  dsimp only [Pt.U, Pt.locs, Pt.cells, Pt.slots] at X1 l1 y1 z1 st1 hQ1
  subst l1 y1 z1
  obtain ⟨rfl, N1q, e1⟩ := hQ1
  have N1 := Fr.app N0 N1q
  refine own_tr (t' := T1.setTop (mkF m 4 #[.val (.ref a1), .val (.ref a2), .val (.int p1), .val (.int p2)] [(.int (0 : Int32))])) st1 ?_
  refine own_st (t' := T1.setTop (mkF m 42 #[.val (.ref a1), .val (.ref a2), .val (.int p1), .val (.int p2)] [])) (fun _ k => X1.lookupswitchHit hx (g := (mkF m 4 #[.val (.ref a1), .val (.ref a2), .val (.int p1), .val (.int p2)] [(.int (0 : Int32))])) rfl (k := (0 : Int32)) rfl (hb hby own_rm6_d4) (by decide) (a := 0) (off := 38) (by decide) (by show (0 : Int) ≤ ((4 : Nat) : Int) + 38; decide) _ k) ?_
  refine own_st (t' := T1.setTop (mkF m 43 #[.val (.ref a1), .val (.ref a2), .val (.int p1), .val (.int p2)] [(.int (2 : Int32))])) (fun _ k => XS.iconst X1.here hx rfl (hb hby own_rm6_d42) k) ?_
  refine own_st (t' := T1.setTop (mkF m 44 #[.val (.ref a1), .val (.ref a2), .val (.int p1), .val (.int p2)] [(.int p1), (.int (2 : Int32))])) (fun _ k => XS.iloadN X1.here hx rfl (hb hby own_rm6_d43) rfl k) ?_
  refine own_st (t' := T1.setTop (mkF m 45 #[.val (.ref a1), .val (.ref a2), .val (.int p1), .val (.int p2)] [(.int ((2 : Int32) * p1))])) (fun _ k => XS.imul X1.here hx rfl (hb hby own_rm6_d44) rfl k) ?_
  refine own_st (t' := T1.setTop (mkF m 46 #[.val (.ref a1), .val (.ref a2), .val (.int p1), .val (.int p2)] [(.int p2), (.int ((2 : Int32) * p1))])) (fun _ k => XS.iloadN X1.here hx rfl (hb hby own_rm6_d45) rfl k) ?_
  refine own_st (t' := T1.setTop (mkF m 47 #[.val (.ref a1), .val (.ref a2), .val (.int p1), .val (.int p2)] [(.ref a2), (.int p2), (.int ((2 : Int32) * p1))])) (fun _ k => XS.aloadN X1.here hx rfl (hb hby own_rm6_d46) rfl rfl k) ?_
  obtain ⟨cq2, kq2, q2a, q2b, q2c⟩ := isOf hZ e1 E_a2
  obtain ⟨_, _, ⟨T2, L2, k2, n2⟩, -, X2, ⟨Lc2, hQ2, l2, y2, z2⟩, st2⟩ := X1.virtualBack hx (y := (⟨"com/example/lambdaloom/lambdaloom/Network$Link", "source", "()I"⟩ : MethodName)) (z := (⟨"com/example/lambdaloom/lambdaloom/Network$Link", "source", "()I"⟩ : MethodName)) hown (mvT hZ (hw _ (List.mem_of_getElem? (i := 53) rfl))) (mvT hZ (hw _ (List.mem_of_getElem? (i := 54) rfl))) (notFace_of_selects (args := #[]) (mvT hZ (hw _ (List.mem_of_getElem? (i := 56) rfl)))) (mvT hZ (hw _ (List.mem_of_getElem? (i := 56) rfl))) (mvT hZ (hw _ (List.mem_of_getElem? (i := 55) rfl))) (by decide) (backOf (W := 2) (own_rm3 l Z a0 hw [] a2 sr h0 n0 Z0 F_s) hZ (hw _ (List.mem_of_getElem? (i := 57) rfl)) (hw _ (List.mem_of_getElem? (i := 6) rfl)) (by decide) (by decide)) q2a q2c (g := (mkF m 47 #[.val (.ref a1), .val (.ref a2), .val (.int p1), .val (.int p2)] [(.ref a2), (.int p2), (.int ((2 : Int32) * p1))])) rfl (by rw [hml]; rfl) (Steps.refl _) (argsL := []) (rest := [(.int p2), (.int ((2 : Int32) * p1))]) (lenOf own_rm6_pd0 rfl) rfl (by show 2 * 0 + _ ≤ _; exact Nat.le_of_eq rfl) (hb hby own_rm6_d47) (fun _ _ => ⟨rfl, e1, (by decide : 0 + 0 + 0 ≤ _), (by decide : 0 + 0 + 0 ≤ _)⟩)
  dsimp only [Pt.U, Pt.locs, Pt.cells, Pt.slots] at X2 l2 y2 z2 st2 hQ2
  subst l2 y2 z2
  obtain ⟨rfl, N2q, e2⟩ := hQ2
  have N2 := Fr.app N1 N2q
  refine own_tr (t' := T2.setTop (mkF m 50 #[.val (.ref a1), .val (.ref a2), .val (.int p1), .val (.int p2)] [(.int sr), (.int p2), (.int ((2 : Int32) * p1))])) st2 ?_
  by_cases c50_3 : p2 = sr
  · refine own_st (t' := T2.setTop (mkF m 53 #[.val (.ref a1), .val (.ref a2), .val (.int p1), .val (.int p2)] [(.int ((2 : Int32) * p1))])) (fun _ k => XS.icmpNo X2.here hx rfl (hb hby own_rm6_d50) rfl (teq c50_3).2 k) ?_
    refine own_st (t' := T2.setTop (mkF m 54 #[.val (.ref a1), .val (.ref a2), .val (.int p1), .val (.int p2)] [(.int (0 : Int32)), (.int ((2 : Int32) * p1))])) (fun _ k => XS.iconst X2.here hx rfl (hb hby own_rm6_d53) k) ?_
    refine own_st (t' := T2.setTop (mkF m 58 #[.val (.ref a1), .val (.ref a2), .val (.int p1), .val (.int p2)] [(.int (0 : Int32)), (.int ((2 : Int32) * p1))])) (fun _ k => XS.goto X2.here hx rfl (pc0 := 54) (pc' := 58) rfl (hb hby own_rm6_d54) (by decide) (by decide) k) ?_
    refine own_st (t' := T2.setTop (mkF m 59 #[.val (.ref a1), .val (.ref a2), .val (.int p1), .val (.int p2)] [(.int (((2 : Int32) * p1) + (0 : Int32)))])) (fun _ k => XS.iadd X2.here hx rfl (hb hby own_rm6_d58) rfl k) ?_
    refine own_st (t' := T2.setTop (mkF m 63 #[.val (.ref a1), .val (.ref a2), .val (.int p1), .val (.int p2)] [(.int (((2 : Int32) * p1) + (0 : Int32)))])) (fun _ k => XS.goto X2.here hx rfl (pc0 := 59) (pc' := 63) rfl (hb hby own_rm6_d59) (by decide) (by decide) k) ?_
    have hv4 : (((2 : Int32) * p1) + (0 : Int32)) = w := by rw [hv, if_pos c50_3]
    obtain ⟨fs, hr, hrun, hended, hW, hsame⟩ := X2.leave (v := some (.int (((2 : Int32) * p1) + (0 : Int32)))) (fun h => by rw [Bd.returns] at h; cases h)
    exact ⟨_, _, retI X2 hx Bd.returns (hb hby own_rm6_d63) hr, hrun, hended, hP _ _ ⟨_, _, rfl, ⟨(congrArg (fun z => some (Value.int z)) hv4), N2, e2⟩, ⟨_, rfl⟩, hW, hsame.mono (by decide) (by decide)⟩⟩
  · refine own_st (t' := T2.setTop (mkF m 57 #[.val (.ref a1), .val (.ref a2), .val (.int p1), .val (.int p2)] [(.int ((2 : Int32) * p1))])) (fun _ k => XS.icmpYes X2.here hx rfl (pc0 := 50) (pc' := 57) rfl (hb hby own_rm6_d50) rfl (feq c50_3).2 (by decide) (by decide) k) ?_
    refine own_st (t' := T2.setTop (mkF m 58 #[.val (.ref a1), .val (.ref a2), .val (.int p1), .val (.int p2)] [(.int (1 : Int32)), (.int ((2 : Int32) * p1))])) (fun _ k => XS.iconst X2.here hx rfl (hb hby own_rm6_d57) k) ?_
    refine own_st (t' := T2.setTop (mkF m 59 #[.val (.ref a1), .val (.ref a2), .val (.int p1), .val (.int p2)] [(.int (((2 : Int32) * p1) + (1 : Int32)))])) (fun _ k => XS.iadd X2.here hx rfl (hb hby own_rm6_d58) rfl k) ?_
    refine own_st (t' := T2.setTop (mkF m 63 #[.val (.ref a1), .val (.ref a2), .val (.int p1), .val (.int p2)] [(.int (((2 : Int32) * p1) + (1 : Int32)))])) (fun _ k => XS.goto X2.here hx rfl (pc0 := 59) (pc' := 63) rfl (hb hby own_rm6_d59) (by decide) (by decide) k) ?_
    have hv5 : (((2 : Int32) * p1) + (1 : Int32)) = w := by rw [hv, if_neg c50_3]
    obtain ⟨fs, hr, hrun, hended, hW, hsame⟩ := X2.leave (v := some (.int (((2 : Int32) * p1) + (1 : Int32)))) (fun h => by rw [Bd.returns] at h; cases h)
    exact ⟨_, _, retI X2 hx Bd.returns (hb hby own_rm6_d63) hr, hrun, hended, hP _ _ ⟨_, _, rfl, ⟨(congrArg (fun z => some (Value.int z)) hv5), N2, e2⟩, ⟨_, rfl⟩, hW, hsame.mono (by decide) (by decide)⟩⟩

theorem own_rm7_d0 : decode prog_3_method_7_code 0 = .ok (.aload_n 0, 1) := by decide +kernel
theorem own_rm7_d1 : decode prog_3_method_7_code 1 = .ok (.invokevirtual 35, 3) := by decide +kernel
theorem own_rm7_d4 : decode prog_3_method_7_code 4 = .ok (.lookupswitch 28 #[(0, 38), (1, 58)], 28) := by decide +kernel
theorem own_rm7_d62 : decode prog_3_method_7_code 62 = .ok (.iload_n 2, 1) := by decide +kernel
theorem own_rm7_d63 : decode prog_3_method_7_code 63 = .ok (.ireturn, 1) := by decide +kernel
theorem own_rm7_pn : plainName "com/example/lambdaloom/lambdaloom/ChannelModel" = true := by first | (simp [plainName, overriddenIn]; done) | decide +kernel
theorem own_rm7_pd0 : parseMethodDescriptor "()I" = some ⟨[], some .int⟩ := by decide +kernel
theorem own_rm7_ef (m : MethodId) (x0 : Addr) (x1 : Addr) (x2 : Int32) (x3 : Int32) : entryFrame m #[(.ref x0), (.ref x1), (.int x2), (.int x3)] 4 = mkF m 0 #[.val (.ref x0), .val (.ref x1), .val (.int x2), .val (.int x3)] [] := by first | (simp [entryFrame, mkF, argsToLocals, Value.category]; done) | rfl
def own_rm7_Q (Z : State) (a1 : Addr) (a2 : Addr) (p1 : Int32) (p2 : Int32) (h0 : Heap) (n0 : Nat) (v : Option Value) (h : Heap) (L : List Loc) : Prop := v = some (.int (p1)) ∧ Fr n0 L ∧ h = h0
set_option maxRecDepth 65536 in
set_option maxHeartbeats 40000000 in
theorem own_rm7 (l : Launch) (Z : State) (a0 : Array Value) (hw : ∀ d ∈ tables_1, d.before a0 Z = true) (ws : List Jvm.Cond) (a1 : Addr) (a2 : Addr) (p1 : Int32) (p2 : Int32) (h0 : Heap) (n0 : Nat) (Z0 : n0 ≤ h0.size) (E_a1 : Exa Z h0 a1 "com/example/lambdaloom/lambdaloom/ChannelModel") (F_o : Fld Z h0 a1 "java/lang/Enum" "ordinal" "I" (.int (1 : Int32))) :
    MetFree l (⟨"com/example/lambdaloom/lambdaloom/ChannelModel", "fibre", "(Lcom/example/lambdaloom/lambdaloom/Network$Link;II)I"⟩ : MethodName) (head1 (Jvm.Cond.code (⟨"com/example/lambdaloom/lambdaloom/ChannelModel", "fibre", "(Lcom/example/lambdaloom/lambdaloom/Network$Link;II)I"⟩ : MethodName) prog_3_method_7_code 4 (some .int) :: ws) ({ frames := 1, cells := 0, slots := 0, locals := 12 } : Room)) (fun a U => a = #[(.ref a1), (.ref a2), (.int p1), (.int p2)] ∧ Z.Warmed39 U.vm ∧ U.heap = h0) (fun _ _ _ _ _ => True) (fun _ U o U' => ∃ v L, o = .returned v ∧ own_rm7_Q Z a1 a2 p1 p2 h0 n0 v U'.heap L ∧ FrameEnd U o U' L ({ frames := 1, cells := 0, slots := 0, locals := 12 } : Room).cells ({ frames := 1, cells := 0, slots := 0, locals := 12 } : Room).slots) := by
  refine MetFree.of_bodySF (plainFor_of_name own_rm7_pn) hisR ?_
  intro p e s m args below meth c s₁ Bd hml0 hPre hK
  obtain ⟨rfl, hZ, hh⟩ := hPre
  have hx := Bd.exec
  have hby := Bd.bytes
  have hml : c.maxLocals = 4 := hml0
  have hown : s.vm.findClass "com/example/lambdaloom/lambdaloom/ChannelModel" = some m.cls := findClass_of_methodNamed Bd.named
  have hnm := (name_of_methodNamed Bd.named Bd.method).1
  have X0 : Stand p l e ({ frames := 1, cells := 0, slots := 0, locals := 12 } : Room) s m #[(.ref a1), (.ref a2), (.int p1), (.int p2)] below meth c s₁ [] 0 0 := Stand.of_body Bd
  have e0 : s₁.heap = h0 := by rw [← hh, Bd.state]; rfl
  have N0 := Fr.nil n0
  refine own_body fun P hP => ?_
  refine own_st (t' := s₁.setTop (mkF m 0 #[.val (.ref a1), .val (.ref a2), .val (.int p1), .val (.int p2)] [])) (fun _ k => castTop (own_rm7_ef m a1 a2 p1 p2) k) ?_
  refine own_st (t' := s₁.setTop (mkF m 1 #[.val (.ref a1), .val (.ref a2), .val (.int p1), .val (.int p2)] [(.ref a1)])) (fun _ k => XS.aloadN X0.here hx rfl (hb hby own_rm7_d0) rfl rfl k) ?_
  obtain ⟨cq1, kq1, q1a, q1b, q1c⟩ := isOf hZ e0 E_a1
  obtain ⟨_, _, ⟨T1, L1, k1, n1⟩, -, X1, ⟨Lc1, hQ1, l1, y1, z1⟩, st1⟩ := X0.virtualBackUp hx (owner := "java/lang/Enum") (x := (⟨"com/example/lambdaloom/lambdaloom/ChannelModel", "ordinal", "()I"⟩ : MethodName)) (y := (⟨"java/lang/Enum", "ordinal", "()I"⟩ : MethodName)) hown (mvT hZ (hw _ (List.mem_of_getElem? (i := 44) rfl))) (mvT hZ (hw _ (List.mem_of_getElem? (i := 45) rfl))) (mvT hZ (hw _ (List.mem_of_getElem? (i := 46) rfl))) (by decide) (mvT hZ (hw _ (List.mem_of_getElem? (i := 48) rfl))) (mvT hZ (hw _ (List.mem_of_getElem? (i := 47) rfl))) (backOf (W := 0) (own_rm2 l Z a0 hw [] a1 (1 : Int32) h0 n0 Z0 F_o) hZ (hw _ (List.mem_of_getElem? (i := 50) rfl)) (hw _ (List.mem_of_getElem? (i := 49) rfl)) (by decide) (by decide)) q1a q1c (g := (mkF m 1 #[.val (.ref a1), .val (.ref a2), .val (.int p1), .val (.int p2)] [(.ref a1)])) rfl (by rw [hml]; rfl) (Steps.refl _) (argsL := []) (rest := []) (lenOf own_rm7_pd0 rfl) rfl (by show 2 * 0 + _ ≤ _; exact Nat.le_of_eq rfl) (hb hby own_rm7_d1) (fun _ _ => ⟨rfl, e0, (by decide : 0 + 0 ≤ _), (by decide : 0 + 0 ≤ _)⟩)
  dsimp only [Pt.U, Pt.locs, Pt.cells, Pt.slots] at X1 l1 y1 z1 st1 hQ1
  subst l1 y1 z1
  obtain ⟨rfl, N1q, e1⟩ := hQ1
  have N1 := Fr.app N0 N1q
  refine own_tr (t' := T1.setTop (mkF m 4 #[.val (.ref a1), .val (.ref a2), .val (.int p1), .val (.int p2)] [(.int (1 : Int32))])) st1 ?_
  refine own_st (t' := T1.setTop (mkF m 62 #[.val (.ref a1), .val (.ref a2), .val (.int p1), .val (.int p2)] [])) (fun _ k => X1.lookupswitchHit hx (g := (mkF m 4 #[.val (.ref a1), .val (.ref a2), .val (.int p1), .val (.int p2)] [(.int (1 : Int32))])) rfl (k := (1 : Int32)) rfl (hb hby own_rm7_d4) (by decide) (a := 1) (off := 58) (by decide) (by show (0 : Int) ≤ ((4 : Nat) : Int) + 58; decide) _ k) ?_
  refine own_st (t' := T1.setTop (mkF m 63 #[.val (.ref a1), .val (.ref a2), .val (.int p1), .val (.int p2)] [(.int p1)])) (fun _ k => XS.iloadN X1.here hx rfl (hb hby own_rm7_d62) rfl k) ?_
  have hv2 : p1 = p1 := rfl
  obtain ⟨fs, hr, hrun, hended, hW, hsame⟩ := X1.leave (v := some (.int p1)) (fun h => by rw [Bd.returns] at h; cases h)
  exact ⟨_, _, retI X1 hx Bd.returns (hb hby own_rm7_d63) hr, hrun, hended, hP _ _ ⟨_, _, rfl, ⟨(congrArg (fun z => some (Value.int z)) hv2), N1, e1⟩, ⟨_, rfl⟩, hW, hsame.mono (by decide) (by decide)⟩⟩

theorem own_rm8_d0 : decode prog_3_method_6_code 0 = .ok (.aload_n 0, 1) := by decide +kernel
theorem own_rm8_d1 : decode prog_3_method_6_code 1 = .ok (.invokevirtual 35, 3) := by decide +kernel
theorem own_rm8_d4 : decode prog_3_method_6_code 4 = .ok (.lookupswitch 28 #[(0, 38), (1, 44)], 28) := by decide +kernel
theorem own_rm8_d42 : decode prog_3_method_6_code 42 = .ok (.iconst 2, 1) := by decide +kernel
theorem own_rm8_d43 : decode prog_3_method_6_code 43 = .ok (.iload_n 1, 1) := by decide +kernel
theorem own_rm8_d44 : decode prog_3_method_6_code 44 = .ok (.imul, 1) := by decide +kernel
theorem own_rm8_d45 : decode prog_3_method_6_code 45 = .ok (.goto 4, 3) := by decide +kernel
theorem own_rm8_d49 : decode prog_3_method_6_code 49 = .ok (.ireturn, 1) := by decide +kernel
theorem own_rm8_pn : plainName "com/example/lambdaloom/lambdaloom/ChannelModel" = true := by first | (simp [plainName, overriddenIn]; done) | decide +kernel
theorem own_rm8_pd0 : parseMethodDescriptor "()I" = some ⟨[], some .int⟩ := by decide +kernel
theorem own_rm8_ef (m : MethodId) (x0 : Addr) (x1 : Int32) : entryFrame m #[(.ref x0), (.int x1)] 2 = mkF m 0 #[.val (.ref x0), .val (.int x1)] [] := by first | (simp [entryFrame, mkF, argsToLocals, Value.category]; done) | rfl
def own_rm8_Q (Z : State) (a1 : Addr) (p1 : Int32) (h0 : Heap) (n0 : Nat) (v : Option Value) (h : Heap) (L : List Loc) : Prop := v = some (.int (((2 : Int32) * p1))) ∧ Fr n0 L ∧ h = h0
set_option maxRecDepth 65536 in
set_option maxHeartbeats 40000000 in
theorem own_rm8 (l : Launch) (Z : State) (a0 : Array Value) (hw : ∀ d ∈ tables_1, d.before a0 Z = true) (ws : List Jvm.Cond) (a1 : Addr) (p1 : Int32) (h0 : Heap) (n0 : Nat) (Z0 : n0 ≤ h0.size) (E_a1 : Exa Z h0 a1 "com/example/lambdaloom/lambdaloom/ChannelModel") (F_o : Fld Z h0 a1 "java/lang/Enum" "ordinal" "I" (.int (0 : Int32))) :
    MetFree l (⟨"com/example/lambdaloom/lambdaloom/ChannelModel", "fibreCount", "(I)I"⟩ : MethodName) (head1 (Jvm.Cond.code (⟨"com/example/lambdaloom/lambdaloom/ChannelModel", "fibreCount", "(I)I"⟩ : MethodName) prog_3_method_6_code 2 (some .int) :: ws) ({ frames := 1, cells := 0, slots := 0, locals := 12 } : Room)) (fun a U => a = #[(.ref a1), (.int p1)] ∧ Z.Warmed39 U.vm ∧ U.heap = h0) (fun _ _ _ _ _ => True) (fun _ U o U' => ∃ v L, o = .returned v ∧ own_rm8_Q Z a1 p1 h0 n0 v U'.heap L ∧ FrameEnd U o U' L ({ frames := 1, cells := 0, slots := 0, locals := 12 } : Room).cells ({ frames := 1, cells := 0, slots := 0, locals := 12 } : Room).slots) := by
  refine MetFree.of_bodySF (plainFor_of_name own_rm8_pn) hisR ?_
  intro p e s m args below meth c s₁ Bd hml0 hPre hK
  obtain ⟨rfl, hZ, hh⟩ := hPre
  have hx := Bd.exec
  have hby := Bd.bytes
  have hml : c.maxLocals = 2 := hml0
  have hown : s.vm.findClass "com/example/lambdaloom/lambdaloom/ChannelModel" = some m.cls := findClass_of_methodNamed Bd.named
  have hnm := (name_of_methodNamed Bd.named Bd.method).1
  have X0 : Stand p l e ({ frames := 1, cells := 0, slots := 0, locals := 12 } : Room) s m #[(.ref a1), (.int p1)] below meth c s₁ [] 0 0 := Stand.of_body Bd
  have e0 : s₁.heap = h0 := by rw [← hh, Bd.state]; rfl
  have N0 := Fr.nil n0
  refine own_body fun P hP => ?_
  refine own_st (t' := s₁.setTop (mkF m 0 #[.val (.ref a1), .val (.int p1)] [])) (fun _ k => castTop (own_rm8_ef m a1 p1) k) ?_
  refine own_st (t' := s₁.setTop (mkF m 1 #[.val (.ref a1), .val (.int p1)] [(.ref a1)])) (fun _ k => XS.aloadN X0.here hx rfl (hb hby own_rm8_d0) rfl rfl k) ?_
  obtain ⟨cq1, kq1, q1a, q1b, q1c⟩ := isOf hZ e0 E_a1
  obtain ⟨_, _, ⟨T1, L1, k1, n1⟩, -, X1, ⟨Lc1, hQ1, l1, y1, z1⟩, st1⟩ := X0.virtualBackUp hx (owner := "java/lang/Enum") (x := (⟨"com/example/lambdaloom/lambdaloom/ChannelModel", "ordinal", "()I"⟩ : MethodName)) (y := (⟨"java/lang/Enum", "ordinal", "()I"⟩ : MethodName)) hown (mvT hZ (hw _ (List.mem_of_getElem? (i := 44) rfl))) (mvT hZ (hw _ (List.mem_of_getElem? (i := 45) rfl))) (mvT hZ (hw _ (List.mem_of_getElem? (i := 46) rfl))) (by decide) (mvT hZ (hw _ (List.mem_of_getElem? (i := 48) rfl))) (mvT hZ (hw _ (List.mem_of_getElem? (i := 47) rfl))) (backOf (W := 0) (own_rm2 l Z a0 hw [] a1 (0 : Int32) h0 n0 Z0 F_o) hZ (hw _ (List.mem_of_getElem? (i := 50) rfl)) (hw _ (List.mem_of_getElem? (i := 49) rfl)) (by decide) (by decide)) q1a q1c (g := (mkF m 1 #[.val (.ref a1), .val (.int p1)] [(.ref a1)])) rfl (by rw [hml]; rfl) (Steps.refl _) (argsL := []) (rest := []) (lenOf own_rm8_pd0 rfl) rfl (by show 2 * 0 + _ ≤ _; exact Nat.le_of_eq rfl) (hb hby own_rm8_d1) (fun _ _ => ⟨rfl, e0, (by decide : 0 + 0 ≤ _), (by decide : 0 + 0 ≤ _)⟩)
  dsimp only [Pt.U, Pt.locs, Pt.cells, Pt.slots] at X1 l1 y1 z1 st1 hQ1
  subst l1 y1 z1
  obtain ⟨rfl, N1q, e1⟩ := hQ1
  have N1 := Fr.app N0 N1q
  refine own_tr (t' := T1.setTop (mkF m 4 #[.val (.ref a1), .val (.int p1)] [(.int (0 : Int32))])) st1 ?_
  refine own_st (t' := T1.setTop (mkF m 42 #[.val (.ref a1), .val (.int p1)] [])) (fun _ k => X1.lookupswitchHit hx (g := (mkF m 4 #[.val (.ref a1), .val (.int p1)] [(.int (0 : Int32))])) rfl (k := (0 : Int32)) rfl (hb hby own_rm8_d4) (by decide) (a := 0) (off := 38) (by decide) (by show (0 : Int) ≤ ((4 : Nat) : Int) + 38; decide) _ k) ?_
  refine own_st (t' := T1.setTop (mkF m 43 #[.val (.ref a1), .val (.int p1)] [(.int (2 : Int32))])) (fun _ k => XS.iconst X1.here hx rfl (hb hby own_rm8_d42) k) ?_
  refine own_st (t' := T1.setTop (mkF m 44 #[.val (.ref a1), .val (.int p1)] [(.int p1), (.int (2 : Int32))])) (fun _ k => XS.iloadN X1.here hx rfl (hb hby own_rm8_d43) rfl k) ?_
  refine own_st (t' := T1.setTop (mkF m 45 #[.val (.ref a1), .val (.int p1)] [(.int ((2 : Int32) * p1))])) (fun _ k => XS.imul X1.here hx rfl (hb hby own_rm8_d44) rfl k) ?_
  refine own_st (t' := T1.setTop (mkF m 49 #[.val (.ref a1), .val (.int p1)] [(.int ((2 : Int32) * p1))])) (fun _ k => XS.goto X1.here hx rfl (pc0 := 45) (pc' := 49) rfl (hb hby own_rm8_d45) (by decide) (by decide) k) ?_
  have hv2 : ((2 : Int32) * p1) = ((2 : Int32) * p1) := rfl
  obtain ⟨fs, hr, hrun, hended, hW, hsame⟩ := X1.leave (v := some (.int ((2 : Int32) * p1))) (fun h => by rw [Bd.returns] at h; cases h)
  exact ⟨_, _, retI X1 hx Bd.returns (hb hby own_rm8_d49) hr, hrun, hended, hP _ _ ⟨_, _, rfl, ⟨(congrArg (fun z => some (Value.int z)) hv2), N1, e1⟩, ⟨_, rfl⟩, hW, hsame.mono (by decide) (by decide)⟩⟩

theorem own_rm9_d0 : decode prog_3_method_6_code 0 = .ok (.aload_n 0, 1) := by decide +kernel
theorem own_rm9_d1 : decode prog_3_method_6_code 1 = .ok (.invokevirtual 35, 3) := by decide +kernel
theorem own_rm9_d4 : decode prog_3_method_6_code 4 = .ok (.lookupswitch 28 #[(0, 38), (1, 44)], 28) := by decide +kernel
theorem own_rm9_d48 : decode prog_3_method_6_code 48 = .ok (.iload_n 1, 1) := by decide +kernel
theorem own_rm9_d49 : decode prog_3_method_6_code 49 = .ok (.ireturn, 1) := by decide +kernel
theorem own_rm9_pn : plainName "com/example/lambdaloom/lambdaloom/ChannelModel" = true := by first | (simp [plainName, overriddenIn]; done) | decide +kernel
theorem own_rm9_pd0 : parseMethodDescriptor "()I" = some ⟨[], some .int⟩ := by decide +kernel
theorem own_rm9_ef (m : MethodId) (x0 : Addr) (x1 : Int32) : entryFrame m #[(.ref x0), (.int x1)] 2 = mkF m 0 #[.val (.ref x0), .val (.int x1)] [] := by first | (simp [entryFrame, mkF, argsToLocals, Value.category]; done) | rfl
def own_rm9_Q (Z : State) (a1 : Addr) (p1 : Int32) (h0 : Heap) (n0 : Nat) (v : Option Value) (h : Heap) (L : List Loc) : Prop := v = some (.int (p1)) ∧ Fr n0 L ∧ h = h0
set_option maxRecDepth 65536 in
set_option maxHeartbeats 40000000 in
theorem own_rm9 (l : Launch) (Z : State) (a0 : Array Value) (hw : ∀ d ∈ tables_1, d.before a0 Z = true) (ws : List Jvm.Cond) (a1 : Addr) (p1 : Int32) (h0 : Heap) (n0 : Nat) (Z0 : n0 ≤ h0.size) (E_a1 : Exa Z h0 a1 "com/example/lambdaloom/lambdaloom/ChannelModel") (F_o : Fld Z h0 a1 "java/lang/Enum" "ordinal" "I" (.int (1 : Int32))) :
    MetFree l (⟨"com/example/lambdaloom/lambdaloom/ChannelModel", "fibreCount", "(I)I"⟩ : MethodName) (head1 (Jvm.Cond.code (⟨"com/example/lambdaloom/lambdaloom/ChannelModel", "fibreCount", "(I)I"⟩ : MethodName) prog_3_method_6_code 2 (some .int) :: ws) ({ frames := 1, cells := 0, slots := 0, locals := 12 } : Room)) (fun a U => a = #[(.ref a1), (.int p1)] ∧ Z.Warmed39 U.vm ∧ U.heap = h0) (fun _ _ _ _ _ => True) (fun _ U o U' => ∃ v L, o = .returned v ∧ own_rm9_Q Z a1 p1 h0 n0 v U'.heap L ∧ FrameEnd U o U' L ({ frames := 1, cells := 0, slots := 0, locals := 12 } : Room).cells ({ frames := 1, cells := 0, slots := 0, locals := 12 } : Room).slots) := by
  refine MetFree.of_bodySF (plainFor_of_name own_rm9_pn) hisR ?_
  intro p e s m args below meth c s₁ Bd hml0 hPre hK
  obtain ⟨rfl, hZ, hh⟩ := hPre
  have hx := Bd.exec
  have hby := Bd.bytes
  have hml : c.maxLocals = 2 := hml0
  have hown : s.vm.findClass "com/example/lambdaloom/lambdaloom/ChannelModel" = some m.cls := findClass_of_methodNamed Bd.named
  have hnm := (name_of_methodNamed Bd.named Bd.method).1
  have X0 : Stand p l e ({ frames := 1, cells := 0, slots := 0, locals := 12 } : Room) s m #[(.ref a1), (.int p1)] below meth c s₁ [] 0 0 := Stand.of_body Bd
  have e0 : s₁.heap = h0 := by rw [← hh, Bd.state]; rfl
  have N0 := Fr.nil n0
  refine own_body fun P hP => ?_
  refine own_st (t' := s₁.setTop (mkF m 0 #[.val (.ref a1), .val (.int p1)] [])) (fun _ k => castTop (own_rm9_ef m a1 p1) k) ?_
  refine own_st (t' := s₁.setTop (mkF m 1 #[.val (.ref a1), .val (.int p1)] [(.ref a1)])) (fun _ k => XS.aloadN X0.here hx rfl (hb hby own_rm9_d0) rfl rfl k) ?_
  obtain ⟨cq1, kq1, q1a, q1b, q1c⟩ := isOf hZ e0 E_a1
  obtain ⟨_, _, ⟨T1, L1, k1, n1⟩, -, X1, ⟨Lc1, hQ1, l1, y1, z1⟩, st1⟩ := X0.virtualBackUp hx (owner := "java/lang/Enum") (x := (⟨"com/example/lambdaloom/lambdaloom/ChannelModel", "ordinal", "()I"⟩ : MethodName)) (y := (⟨"java/lang/Enum", "ordinal", "()I"⟩ : MethodName)) hown (mvT hZ (hw _ (List.mem_of_getElem? (i := 44) rfl))) (mvT hZ (hw _ (List.mem_of_getElem? (i := 45) rfl))) (mvT hZ (hw _ (List.mem_of_getElem? (i := 46) rfl))) (by decide) (mvT hZ (hw _ (List.mem_of_getElem? (i := 48) rfl))) (mvT hZ (hw _ (List.mem_of_getElem? (i := 47) rfl))) (backOf (W := 0) (own_rm2 l Z a0 hw [] a1 (1 : Int32) h0 n0 Z0 F_o) hZ (hw _ (List.mem_of_getElem? (i := 50) rfl)) (hw _ (List.mem_of_getElem? (i := 49) rfl)) (by decide) (by decide)) q1a q1c (g := (mkF m 1 #[.val (.ref a1), .val (.int p1)] [(.ref a1)])) rfl (by rw [hml]; rfl) (Steps.refl _) (argsL := []) (rest := []) (lenOf own_rm9_pd0 rfl) rfl (by show 2 * 0 + _ ≤ _; exact Nat.le_of_eq rfl) (hb hby own_rm9_d1) (fun _ _ => ⟨rfl, e0, (by decide : 0 + 0 ≤ _), (by decide : 0 + 0 ≤ _)⟩)
  dsimp only [Pt.U, Pt.locs, Pt.cells, Pt.slots] at X1 l1 y1 z1 st1 hQ1
  subst l1 y1 z1
  obtain ⟨rfl, N1q, e1⟩ := hQ1
  have N1 := Fr.app N0 N1q
  refine own_tr (t' := T1.setTop (mkF m 4 #[.val (.ref a1), .val (.int p1)] [(.int (1 : Int32))])) st1 ?_
  refine own_st (t' := T1.setTop (mkF m 48 #[.val (.ref a1), .val (.int p1)] [])) (fun _ k => X1.lookupswitchHit hx (g := (mkF m 4 #[.val (.ref a1), .val (.int p1)] [(.int (1 : Int32))])) rfl (k := (1 : Int32)) rfl (hb hby own_rm9_d4) (by decide) (a := 1) (off := 44) (by decide) (by show (0 : Int) ≤ ((4 : Nat) : Int) + 44; decide) _ k) ?_
  refine own_st (t' := T1.setTop (mkF m 49 #[.val (.ref a1), .val (.int p1)] [(.int p1)])) (fun _ k => XS.iloadN X1.here hx rfl (hb hby own_rm9_d48) rfl k) ?_
  have hv2 : p1 = p1 := rfl
  obtain ⟨fs, hr, hrun, hended, hW, hsame⟩ := X1.leave (v := some (.int p1)) (fun h => by rw [Bd.returns] at h; cases h)
  exact ⟨_, _, retI X1 hx Bd.returns (hb hby own_rm9_d49) hr, hrun, hended, hP _ _ ⟨_, _, rfl, ⟨(congrArg (fun z => some (Value.int z)) hv2), N1, e1⟩, ⟨_, rfl⟩, hW, hsame.mono (by decide) (by decide)⟩⟩

theorem own_rm0_pn : plainName "com/example/lambdaloom/lambdaloom/ChannelModelSameFibresBothWaysPinLaw" = true := by first | (simp [plainName, overriddenIn]; done) | decide +kernel
theorem own_rm0_pd0 : parseMethodDescriptor "(Ljava/lang/String;II)V" = some ⟨[(.object "java/lang/String"), .int, .int], none⟩ := by decide +kernel
theorem own_rm0_pd1 : parseMethodDescriptor "()Z" = some ⟨[], some .boolean⟩ := by decide +kernel
theorem own_rm0_pd2 : parseMethodDescriptor "(Lcom/example/lambdaloom/lambdaloom/Network$Link;II)I" = some ⟨[(.object "com/example/lambdaloom/lambdaloom/Network$Link"), .int, .int], some .int⟩ := by decide +kernel
theorem own_rm0_pd3 : parseMethodDescriptor "(I)I" = some ⟨[.int], some .int⟩ := by decide +kernel
theorem own_rm0_ef (m : MethodId) (x0 : Int32) (x1 : Int32) (x2 : Int32) (x3 : Int32) (x4 : Int32) : entryFrame m #[(.int x0), (.int x1), (.int x2), (.int x3), (.int x4)] maxLocals = mkF m 0 #[.val (.int x0), .val (.int x1), .val (.int x2), .val (.int x3), .val (.int x4), .unset, .unset, .unset, .unset, .unset, .unset, .unset] [] := by first | (simp [entryFrame, mkF, argsToLocals, Value.category, maxLocals]; done) | rfl
def own_rm0_Q (Z : State) (p1 : Int32) (p2 : Int32) (p3 : Int32) (p4 : Int32) (p5 : Int32) (wDIRECTED : Addr) (wUNDIRECTED : Addr) (h0 : Heap) (n0 : Nat) (v : Option Value) (h : Heap) (L : List Loc) : Prop := v = some (.int ((1 : Int32))) ∧ Fr n0 L
set_option maxRecDepth 65536 in
set_option maxHeartbeats 40000000 in
theorem own_rm0 (l : Launch) (Z : State) (a0 : Array Value) (hw : ∀ d ∈ tables_1, d.before a0 Z = true) (ws : List Jvm.Cond) (p1 : Int32) (p2 : Int32) (p3 : Int32) (p4 : Int32) (p5 : Int32) (wDIRECTED : Addr) (wUNDIRECTED : Addr) (h0 : Heap) (n0 : Nat) (Z0 : n0 ≤ h0.size) (S_DIRECTED : Sta Z h0 "com/example/lambdaloom/lambdaloom/ChannelModel" "DIRECTED" "Lcom/example/lambdaloom/lambdaloom/ChannelModel;" (.ref wDIRECTED)) (S_UNDIRECTED : Sta Z h0 "com/example/lambdaloom/lambdaloom/ChannelModel" "UNDIRECTED" "Lcom/example/lambdaloom/lambdaloom/ChannelModel;" (.ref wUNDIRECTED)) (E_DIRECTED : Exa Z h0 wDIRECTED "com/example/lambdaloom/lambdaloom/ChannelModel") (E_UNDIRECTED : Exa Z h0 wUNDIRECTED "com/example/lambdaloom/lambdaloom/ChannelModel") (O_DIRECTED : Fld Z h0 wDIRECTED "java/lang/Enum" "ordinal" "I" (.int (0 : Int32))) (O_UNDIRECTED : Fld Z h0 wUNDIRECTED "java/lang/Enum" "ordinal" "I" (.int (1 : Int32))) (hne : ¬ wDIRECTED = wUNDIRECTED) :
    MetFree l x (head1 (Jvm.Cond.code x code maxLocals ret :: ws) room_1) (fun a U => a = #[(.int p1), (.int p2), (.int p3), (.int p4), (.int p5)] ∧ Z.Warmed39 U.vm ∧ U.heap = h0) (fun _ _ _ _ _ => True) (fun _ U o U' => ∃ v L, o = .returned v ∧ own_rm0_Q Z p1 p2 p3 p4 p5 wDIRECTED wUNDIRECTED h0 n0 v U'.heap L ∧ ReturnedEndW U o U' L room_1.cells room_1.slots) := by
  refine MetFree.of_bodySF (plainFor_of_name own_rm0_pn) hisR ?_
  intro p e s m args below meth c s₁ Bd hml0 hPre hK
  obtain ⟨rfl, hZ, hh⟩ := hPre
  have hx := Bd.exec
  have hby := Bd.bytes
  have hml : c.maxLocals = 12 := hml0
  have hown : s.vm.findClass "com/example/lambdaloom/lambdaloom/ChannelModelSameFibresBothWaysPinLaw" = some m.cls := findClass_of_methodNamed Bd.named
  have hnm := (name_of_methodNamed Bd.named Bd.method).1
  have X0 : Stand p l e room_1 s m #[(.int p1), (.int p2), (.int p3), (.int p4), (.int p5)] below meth c s₁ [] 0 0 := Stand.of_body Bd
  have e0 : s₁.heap = h0 := by rw [← hh, Bd.state]; rfl
  have N0 := Fr.nil n0
  have hSi : s.Since s.vm h0.size := State.WarmedH.since (State.WarmedH.refl s) _
  have hki : h0.size ≤ h0.size := Nat.le_refl _
  have wS : ∀ d ∈ Bundle.stringAtoms, d.before a0 Z = true := by
    intro d hd
    simp only [Bundle.stringAtoms, List.mem_cons, List.not_mem_nil, or_false] at hd
    rcases hd with rfl | rfl | rfl | rfl | rfl | rfl | rfl
    · exact (hw _ (List.mem_of_getElem? (i := 8) rfl))
    · exact (hw _ (List.mem_of_getElem? (i := 9) rfl))
    · exact (hw _ (List.mem_of_getElem? (i := 10) rfl))
    · exact (hw _ (List.mem_of_getElem? (i := 11) rfl))
    · exact (hw _ (List.mem_of_getElem? (i := 12) rfl))
    · exact (hw _ (List.mem_of_getElem? (i := 13) rfl))
    · exact (hw _ (List.mem_of_getElem? (i := 14) rfl))
  refine own_body fun P hP => ?_
  refine own_st (t' := s₁.setTop (mkF m 0 #[.val (.int p1), .val (.int p2), .val (.int p3), .val (.int p4), .val (.int p5), .unset, .unset, .unset, .unset, .unset, .unset, .unset] [])) (fun _ k => castTop (own_rm0_ef m p1 p2 p3 p4 p5) k) ?_
  refine own_st (t' := s₁.setTop (mkF m 1 #[.val (.int p1), .val (.int p2), .val (.int p3), .val (.int p4), .val (.int p5), .unset, .unset, .unset, .unset, .unset, .unset, .unset] [(.int p1)])) (fun _ k => XS.iloadN X0.here hx rfl (hb hby at_0) rfl k) ?_
  refine own_st (t' := s₁.setTop (mkF m 2 #[.val (.int p1), .val (.int p2), .val (.int p3), .val (.int p4), .val (.int p5), .unset, .unset, .unset, .unset, .unset, .unset, .unset] [(.int (1 : Int32)), (.int p1)])) (fun _ k => XS.iconst X0.here hx rfl (hb hby at_1) k) ?_
  refine own_st (t' := s₁.setTop (mkF m 3 #[.val (.int p1), .val (.int p2), .val (.int p3), .val (.int p4), .val (.int p5), .unset, .unset, .unset, .unset, .unset, .unset, .unset] [(.int (p1 &&& (1 : Int32)))])) (fun _ k => XS.iand X0.here hx rfl (hb hby at_2) rfl k) ?_
  by_cases c3_1 : (p1 &&& (1 : Int32)) = (0 : Int32)
  · refine own_st (t' := s₁.setTop (mkF m 6 #[.val (.int p1), .val (.int p2), .val (.int p3), .val (.int p4), .val (.int p5), .unset, .unset, .unset, .unset, .unset, .unset, .unset] [])) (fun _ k => XS.ifNo X0.here hx rfl (hb hby at_3) rfl ((if0 _ _).trans (teq c3_1).2) k) ?_
    obtain ⟨T2, X2, e2, st2⟩ := getS2 X0 hx hZ hown (host := "") (Or.inl (hw _ (List.mem_of_getElem? (i := 0) rfl))) Via.refl e0 S_DIRECTED (g := (mkF m 6 #[.val (.int p1), .val (.int p2), .val (.int p3), .val (.int p4), .val (.int p5), .unset, .unset, .unset, .unset, .unset, .unset, .unset] [])) rfl (hb hby at_6)
    refine own_st (t' := T2.setTop (mkF m 9 #[.val (.int p1), .val (.int p2), .val (.int p3), .val (.int p4), .val (.int p5), .unset, .unset, .unset, .unset, .unset, .unset, .unset] [(.ref wDIRECTED)])) st2 ?_
    refine own_st (t' := T2.setTop (mkF m 15 #[.val (.int p1), .val (.int p2), .val (.int p3), .val (.int p4), .val (.int p5), .unset, .unset, .unset, .unset, .unset, .unset, .unset] [(.ref wDIRECTED)])) (fun _ k => XS.goto X2.here hx rfl (pc0 := 9) (pc' := 15) rfl (hb hby at_9) (by decide) (by decide) k) ?_
    refine own_st (t' := T2.setTop (mkF m 17 #[.val (.int p1), .val (.int p2), .val (.int p3), .val (.int p4), .val (.int p5), .val (.ref wDIRECTED), .unset, .unset, .unset, .unset, .unset, .unset] [])) (fun _ k => XS.astore X2.here hx rfl (hb hby at_15) rfl rfl (l' := #[.val (.int p1), .val (.int p2), .val (.int p3), .val (.int p4), .val (.int p5), .val (.ref wDIRECTED), .unset, .unset, .unset, .unset, .unset, .unset]) rfl k) ?_
    refine own_st (t' := T2.setTop (mkF m 18 #[.val (.int p1), .val (.int p2), .val (.int p3), .val (.int p4), .val (.int p5), .val (.ref wDIRECTED), .unset, .unset, .unset, .unset, .unset, .unset] [(.int p2)])) (fun _ k => XS.iloadN X2.here hx rfl (hb hby at_17) rfl k) ?_
    refine own_st (t' := T2.setTop (mkF m 19 #[.val (.int p1), .val (.int p2), .val (.int p3), .val (.int p4), .val (.int p5), .val (.ref wDIRECTED), .unset, .unset, .unset, .unset, .unset, .unset] [(.int (1 : Int32)), (.int p2)])) (fun _ k => XS.iconst X2.here hx rfl (hb hby at_18) k) ?_
    refine own_st (t' := T2.setTop (mkF m 20 #[.val (.int p1), .val (.int p2), .val (.int p3), .val (.int p4), .val (.int p5), .val (.ref wDIRECTED), .unset, .unset, .unset, .unset, .unset, .unset] [(.int (p2 + (1 : Int32)))])) (fun _ k => XS.iadd X2.here hx rfl (hb hby at_19) rfl k) ?_
    refine own_st (t' := T2.setTop (mkF m 21 #[.val (.int p1), .val (.int p2), .val (.int p3), .val (.int p4), .val (.int p5), .val (.ref wDIRECTED), .unset, .unset, .unset, .unset, .unset, .unset] [(.int p3), (.int (p2 + (1 : Int32)))])) (fun _ k => XS.iloadN X2.here hx rfl (hb hby at_20) rfl k) ?_
    refine own_st (t' := T2.setTop (mkF m 23 #[.val (.int p1), .val (.int p2), .val (.int p3), .val (.int p4), .val (.int p5), .val (.ref wDIRECTED), .unset, .unset, .unset, .unset, .unset, .unset] [(.int (1073741823 : Int32)), (.int p3), (.int (p2 + (1 : Int32)))])) (fun _ k => X2.ldcInt hx hown (mvT hZ (hw _ (List.mem_of_getElem? (i := 3) rfl))) (g := (mkF m 21 #[.val (.int p1), .val (.int p2), .val (.int p3), .val (.int p4), .val (.int p5), .val (.ref wDIRECTED), .unset, .unset, .unset, .unset, .unset, .unset] [(.int p3), (.int (p2 + (1 : Int32)))])) rfl (hb hby at_21) _ k) ?_
    refine own_st (t' := T2.setTop (mkF m 24 #[.val (.int p1), .val (.int p2), .val (.int p3), .val (.int p4), .val (.int p5), .val (.ref wDIRECTED), .unset, .unset, .unset, .unset, .unset, .unset] [(.int (p3 &&& (1073741823 : Int32))), (.int (p2 + (1 : Int32)))])) (fun _ k => XS.iand X2.here hx rfl (hb hby at_23) rfl k) ?_
    refine own_st (t' := T2.setTop (mkF m 25 #[.val (.int p1), .val (.int p2), .val (.int p3), .val (.int p4), .val (.int p5), .val (.ref wDIRECTED), .unset, .unset, .unset, .unset, .unset, .unset] [(.int ((p2 + (1 : Int32)) + (p3 &&& (1073741823 : Int32))))])) (fun _ k => XS.iadd X2.here hx rfl (hb hby at_24) rfl k) ?_
    refine own_st (t' := T2.setTop (mkF m 27 #[.val (.int p1), .val (.int p2), .val (.int p3), .val (.int p4), .val (.int p5), .val (.ref wDIRECTED), .val (.int ((p2 + (1 : Int32)) + (p3 &&& (1073741823 : Int32)))), .unset, .unset, .unset, .unset, .unset] [])) (fun _ k => XS.istore X2.here hx rfl (hb hby at_25) rfl (l' := #[.val (.int p1), .val (.int p2), .val (.int p3), .val (.int p4), .val (.int p5), .val (.ref wDIRECTED), .val (.int ((p2 + (1 : Int32)) + (p3 &&& (1073741823 : Int32)))), .unset, .unset, .unset, .unset, .unset]) rfl k) ?_
    have htg := own_tg p2 p3
    generalize ((p2 + (1 : Int32)) + (p3 &&& (1073741823 : Int32))) = tg at htg ⊢
    obtain ⟨T3, h3, X3, e3, E3, A3, D3, -, st3⟩ := newO X2 hx hZ hown (hw _ (List.mem_of_getElem? (i := 4) rfl)) (hw _ (List.mem_of_getElem? (i := 5) rfl)) (hw _ (List.mem_of_getElem? (i := 6) rfl)) e2 (g := (mkF m 27 #[.val (.int p1), .val (.int p2), .val (.int p3), .val (.int p4), .val (.int p5), .val (.ref wDIRECTED), .val (.int tg), .unset, .unset, .unset, .unset, .unset] [])) rfl (hb hby at_27) (by decide) (by decide)
    obtain ⟨b3, g3⟩ : ∃ z, z = h0.size := ⟨_, rfl⟩
    rw [← g3] at A3 D3 st3
    have ne3_wDIRECTED : wDIRECTED ≠ b3 := Nat.ne_of_lt (Nat.lt_of_lt_of_le E_DIRECTED.lt (Nat.le_of_eq g3.symm))
    have ne3_wUNDIRECTED : wUNDIRECTED ≠ b3 := Nat.ne_of_lt (Nat.lt_of_lt_of_le E_UNDIRECTED.lt (Nat.le_of_eq g3.symm))
    have f3_Sta_com_example_lambdaloom_lambdaloom_ChannelModel_DIRECTED := S_DIRECTED.ext E3
    have f3_Sta_com_example_lambdaloom_lambdaloom_ChannelModel_UNDIRECTED := S_UNDIRECTED.ext E3
    have f3_Exa_wDIRECTED := E_DIRECTED.ext E3
    have f3_Exa_wUNDIRECTED := E_UNDIRECTED.ext E3
    have f3_Fld_wDIRECTED_ordinal := O_DIRECTED.ext E3
    have f3_Fld_wUNDIRECTED_ordinal := O_UNDIRECTED.ext E3
    have bg_b3 : n0 ≤ b3 := Nat.le_trans Z0 (Nat.le_of_eq g3.symm)
    have Z3 : n0 ≤ h3.size := Nat.le_trans Z0 E3.1
    have hki : _ ≤ h3.size := Nat.le_trans hki E3.1
    have F3_id : Fld Z h3 b3 "com/example/lambdaloom/lambdaloom/Network$Link" "id" "Ljava/lang/String;" .null := D3 (Or.inr (hw _ (List.mem_of_getElem? (i := 27) rfl))) (ty := (.object "java/lang/String")) (by decide)
    have F3_source : Fld Z h3 b3 "com/example/lambdaloom/lambdaloom/Network$Link" "source" "I" (.int (0 : Int32)) := D3 (Or.inr (hw _ (List.mem_of_getElem? (i := 29) rfl))) (ty := .int) (by decide)
    have F3_target : Fld Z h3 b3 "com/example/lambdaloom/lambdaloom/Network$Link" "target" "I" (.int (0 : Int32)) := D3 (Or.inr (hw _ (List.mem_of_getElem? (i := 31) rfl))) (ty := .int) (by decide)
    refine own_st (t' := T3.setTop (mkF m 30 #[.val (.int p1), .val (.int p2), .val (.int p3), .val (.int p4), .val (.int p5), .val (.ref wDIRECTED), .val (.int tg), .unset, .unset, .unset, .unset, .unset] [(.ref b3)])) st3 ?_
    refine own_st (t' := T3.setTop (mkF m 31 #[.val (.int p1), .val (.int p2), .val (.int p3), .val (.int p4), .val (.int p5), .val (.ref wDIRECTED), .val (.int tg), .unset, .unset, .unset, .unset, .unset] [(.ref b3), (.ref b3)])) (fun _ k => XS.dup X3.here hx rfl (hb hby at_30) rfl rfl k) ?_
    obtain ⟨c4, T4, h4, kn4, X4, e4, E4, hSi, hki, hZ, hown, st4⟩ := ldcS (s := s) (vm0 := s.vm) X3 hx hZ hown (hw _ (List.mem_of_getElem? (i := 7) rfl)) wS e3 hSi hki (g := (mkF m 31 #[.val (.int p1), .val (.int p2), .val (.int p3), .val (.int p4), .val (.int p5), .val (.ref wDIRECTED), .val (.int tg), .unset, .unset, .unset, .unset, .unset] [(.ref b3), (.ref b3)])) rfl (hb hby at_31) (n := 4) (by decide) (by decide) (by decide) (by decide)
    have f4_Sta_com_example_lambdaloom_lambdaloom_ChannelModel_DIRECTED := f3_Sta_com_example_lambdaloom_lambdaloom_ChannelModel_DIRECTED.ext E4
    have f4_Sta_com_example_lambdaloom_lambdaloom_ChannelModel_UNDIRECTED := f3_Sta_com_example_lambdaloom_lambdaloom_ChannelModel_UNDIRECTED.ext E4
    have f4_Exa_wDIRECTED := f3_Exa_wDIRECTED.ext E4
    have f4_Exa_wUNDIRECTED := f3_Exa_wUNDIRECTED.ext E4
    have f4_Fld_wDIRECTED_ordinal := f3_Fld_wDIRECTED_ordinal.ext E4
    have f4_Fld_wUNDIRECTED_ordinal := f3_Fld_wUNDIRECTED_ordinal.ext E4
    have f4_Exa_b3 := A3.ext E4
    have f4_Fld_b3_id := F3_id.ext E4
    have f4_Fld_b3_source := F3_source.ext E4
    have f4_Fld_b3_target := F3_target.ext E4
    have Z4 : n0 ≤ h4.size := Nat.le_trans Z3 E4.1
    refine own_st (t' := T4.setTop (mkF m 33 #[.val (.int p1), .val (.int p2), .val (.int p3), .val (.int p4), .val (.int p5), .val (.ref wDIRECTED), .val (.int tg), .unset, .unset, .unset, .unset, .unset] [(.ref c4), (.ref b3), (.ref b3)])) st4 ?_
    refine own_st (t' := T4.setTop (mkF m 34 #[.val (.int p1), .val (.int p2), .val (.int p3), .val (.int p4), .val (.int p5), .val (.ref wDIRECTED), .val (.int tg), .unset, .unset, .unset, .unset, .unset] [(.int p2), (.ref c4), (.ref b3), (.ref b3)])) (fun _ k => XS.iloadN X4.here hx rfl (hb hby at_33) rfl k) ?_
    refine own_st (t' := T4.setTop (mkF m 36 #[.val (.int p1), .val (.int p2), .val (.int p3), .val (.int p4), .val (.int p5), .val (.ref wDIRECTED), .val (.int tg), .unset, .unset, .unset, .unset, .unset] [(.int tg), (.int p2), (.ref c4), (.ref b3), (.ref b3)])) (fun _ k => XS.iload X4.here hx rfl (hb hby at_34) rfl k) ?_
    obtain ⟨_, _, ⟨T5, L5, k5, n5⟩, -, X5, ⟨Lc5, hQ5, l5, y5, z5⟩, st5⟩ := X4.specialBack hx (y := (⟨"com/example/lambdaloom/lambdaloom/Network$Link", "<init>", "(Ljava/lang/String;II)V"⟩ : MethodName)) rfl hown (mvT hZ (hw _ (List.mem_of_getElem? (i := 15) rfl))) (mvT hZ (hw _ (List.mem_of_getElem? (i := 16) rfl))) (mvT hZ (hw _ (List.mem_of_getElem? (i := 17) rfl))) (by decide) (backOf (W := 1) (own_rm4 l Z a0 hw [] b3 c4 p2 tg h4 n0 Z4 f4_Exa_b3 f4_Fld_b3_id f4_Fld_b3_source f4_Fld_b3_target bg_b3 ) hZ (hw _ (List.mem_of_getElem? (i := 17) rfl)) (hw _ (List.mem_of_getElem? (i := 6) rfl)) (by decide) (by decide)) (g := (mkF m 36 #[.val (.int p1), .val (.int p2), .val (.int p3), .val (.int p4), .val (.int p5), .val (.ref wDIRECTED), .val (.int tg), .unset, .unset, .unset, .unset, .unset] [(.int tg), (.int p2), (.ref c4), (.ref b3), (.ref b3)])) rfl (by rw [hml]; rfl) (Steps.refl _) (a := b3) (argsL := [(.ref c4), (.int p2), (.int tg)]) (rest := [(.ref b3)]) (lenOf own_rm0_pd0 rfl) rfl (by show 2 * 0 + _ ≤ _; exact Nat.le_of_eq rfl) (hb hby at_36) (fun _ _ => ⟨rfl, e4, (by decide : 0 + 1 + 2 + 0 ≤ _), (by decide : 0 + 3 + (4 + 4) + 0 ≤ _)⟩)
    dsimp only [Pt.U, Pt.locs, Pt.cells, Pt.slots] at X5 l5 y5 z5 st5 hQ5
    subst l5 y5 z5
    obtain ⟨rfl, N5q, K5q, g5e, g5f0, g5f1, g5f2⟩ := hQ5
    have N5 := Fr.app N0 N5q
    have f5_Sta_com_example_lambdaloom_lambdaloom_ChannelModel_DIRECTED := own_staK f4_Sta_com_example_lambdaloom_lambdaloom_ChannelModel_DIRECTED K5q f4_Exa_b3
    have f5_Sta_com_example_lambdaloom_lambdaloom_ChannelModel_UNDIRECTED := own_staK f4_Sta_com_example_lambdaloom_lambdaloom_ChannelModel_UNDIRECTED K5q f4_Exa_b3
    have f5_Exa_wDIRECTED := f4_Exa_wDIRECTED.keep K5q
    have f5_Exa_wUNDIRECTED := f4_Exa_wUNDIRECTED.keep K5q
    have f5_Fld_wDIRECTED_ordinal := f4_Fld_wDIRECTED_ordinal.keep K5q (own_nin ne3_wDIRECTED)
    have f5_Fld_wUNDIRECTED_ordinal := f4_Fld_wUNDIRECTED_ordinal.keep K5q (own_nin ne3_wUNDIRECTED)
    have f5_Exa_b3 := f4_Exa_b3.keep K5q
    have Z5 : n0 ≤ T5.heap.size := Nat.le_trans Z4 K5q.1
    have hki : _ ≤ T5.heap.size := Nat.le_trans hki K5q.1
    refine own_tr (t' := T5.setTop (mkF m 39 #[.val (.int p1), .val (.int p2), .val (.int p3), .val (.int p4), .val (.int p5), .val (.ref wDIRECTED), .val (.int tg), .unset, .unset, .unset, .unset, .unset] [(.ref b3)])) st5 ?_
    refine own_st (t' := T5.setTop (mkF m 41 #[.val (.int p1), .val (.int p2), .val (.int p3), .val (.int p4), .val (.int p5), .val (.ref wDIRECTED), .val (.int tg), .val (.ref b3), .unset, .unset, .unset, .unset] [])) (fun _ k => XS.astore X5.here hx rfl (hb hby at_39) rfl rfl (l' := #[.val (.int p1), .val (.int p2), .val (.int p3), .val (.int p4), .val (.int p5), .val (.ref wDIRECTED), .val (.int tg), .val (.ref b3), .unset, .unset, .unset, .unset]) rfl k) ?_
    refine own_st (t' := T5.setTop (mkF m 43 #[.val (.int p1), .val (.int p2), .val (.int p3), .val (.int p4), .val (.int p5), .val (.ref wDIRECTED), .val (.int tg), .val (.ref b3), .unset, .unset, .unset, .unset] [(.int p5)])) (fun _ k => XS.iload X5.here hx rfl (hb hby at_41) rfl k) ?_
    refine own_st (t' := T5.setTop (mkF m 45 #[.val (.int p1), .val (.int p2), .val (.int p3), .val (.int p4), .val (.int p5), .val (.ref wDIRECTED), .val (.int tg), .val (.ref b3), .unset, .unset, .unset, .unset] [(.int (1073741823 : Int32)), (.int p5)])) (fun _ k => X5.ldcInt hx hown (mvT hZ (hw _ (List.mem_of_getElem? (i := 3) rfl))) (g := (mkF m 43 #[.val (.int p1), .val (.int p2), .val (.int p3), .val (.int p4), .val (.int p5), .val (.ref wDIRECTED), .val (.int tg), .val (.ref b3), .unset, .unset, .unset, .unset] [(.int p5)])) rfl (hb hby at_43) _ k) ?_
    refine own_st (t' := T5.setTop (mkF m 46 #[.val (.int p1), .val (.int p2), .val (.int p3), .val (.int p4), .val (.int p5), .val (.ref wDIRECTED), .val (.int tg), .val (.ref b3), .unset, .unset, .unset, .unset] [(.int (p5 &&& (1073741823 : Int32)))])) (fun _ k => XS.iand X5.here hx rfl (hb hby at_45) rfl k) ?_
    refine own_st (t' := T5.setTop (mkF m 47 #[.val (.int p1), .val (.int p2), .val (.int p3), .val (.int p4), .val (.int p5), .val (.ref wDIRECTED), .val (.int tg), .val (.ref b3), .unset, .unset, .unset, .unset] [(.int (1 : Int32)), (.int (p5 &&& (1073741823 : Int32)))])) (fun _ k => XS.iconst X5.here hx rfl (hb hby at_46) k) ?_
    refine own_st (t' := T5.setTop (mkF m 48 #[.val (.int p1), .val (.int p2), .val (.int p3), .val (.int p4), .val (.int p5), .val (.ref wDIRECTED), .val (.int tg), .val (.ref b3), .unset, .unset, .unset, .unset] [(.int ((p5 &&& (1073741823 : Int32)) + (1 : Int32)))])) (fun _ k => XS.iadd X5.here hx rfl (hb hby at_47) rfl k) ?_
    refine own_st (t' := T5.setTop (mkF m 50 #[.val (.int p1), .val (.int p2), .val (.int p3), .val (.int p4), .val (.int p5), .val (.ref wDIRECTED), .val (.int tg), .val (.ref b3), .val (.int ((p5 &&& (1073741823 : Int32)) + (1 : Int32))), .unset, .unset, .unset] [])) (fun _ k => XS.istore X5.here hx rfl (hb hby at_48) rfl (l' := #[.val (.int p1), .val (.int p2), .val (.int p3), .val (.int p4), .val (.int p5), .val (.ref wDIRECTED), .val (.int tg), .val (.ref b3), .val (.int ((p5 &&& (1073741823 : Int32)) + (1 : Int32))), .unset, .unset, .unset]) rfl k) ?_
    have hkk := own_kk p5
    generalize ((p5 &&& (1073741823 : Int32)) + (1 : Int32)) = kk at hkk ⊢
    refine own_st (t' := T5.setTop (mkF m 52 #[.val (.int p1), .val (.int p2), .val (.int p3), .val (.int p4), .val (.int p5), .val (.ref wDIRECTED), .val (.int tg), .val (.ref b3), .val (.int kk), .unset, .unset, .unset] [(.ref wDIRECTED)])) (fun _ k => XS.aload X5.here hx rfl (hb hby at_50) rfl rfl k) ?_
    obtain ⟨cq6, kq6, q6a, q6b, q6c⟩ := isOf hZ rfl f5_Exa_wDIRECTED
    obtain ⟨_, _, ⟨T6, L6, k6, n6⟩, -, X6, ⟨Lc6, hQ6, l6, y6, z6⟩, st6⟩ := X5.virtualBack hx (y := (⟨"com/example/lambdaloom/lambdaloom/ChannelModel", "sameFibresBothWays", "()Z"⟩ : MethodName)) (z := (⟨"com/example/lambdaloom/lambdaloom/ChannelModel", "sameFibresBothWays", "()Z"⟩ : MethodName)) hown (mvT hZ (hw _ (List.mem_of_getElem? (i := 32) rfl))) (mvT hZ (hw _ (List.mem_of_getElem? (i := 33) rfl))) (notFace_of_selects (args := #[]) (mvT hZ (hw _ (List.mem_of_getElem? (i := 35) rfl)))) (mvT hZ (hw _ (List.mem_of_getElem? (i := 35) rfl))) (mvT hZ (hw _ (List.mem_of_getElem? (i := 34) rfl))) (by decide) (backOf (W := 0) (own_rm5 l Z a0 hw [] wDIRECTED wUNDIRECTED (0 : Int32) T5.heap n0 Z5 f5_Sta_com_example_lambdaloom_lambdaloom_ChannelModel_UNDIRECTED ((if_neg hne).symm)) hZ (hw _ (List.mem_of_getElem? (i := 36) rfl)) (hw _ (List.mem_of_getElem? (i := 1) rfl)) (by decide) (by decide)) q6a q6c (g := (mkF m 52 #[.val (.int p1), .val (.int p2), .val (.int p3), .val (.int p4), .val (.int p5), .val (.ref wDIRECTED), .val (.int tg), .val (.ref b3), .val (.int kk), .unset, .unset, .unset] [(.ref wDIRECTED)])) rfl (by rw [hml]; rfl) (Steps.refl _) (argsL := []) (rest := []) (lenOf own_rm0_pd1 rfl) rfl (by show 2 * 0 + _ ≤ _; exact Nat.le_of_eq rfl) (hb hby at_52) (fun _ _ => ⟨rfl, rfl, (by decide : 0 + 1 + 2 + 0 + 0 ≤ _), (by decide : 0 + 3 + (4 + 4) + 0 + 0 ≤ _)⟩)
    dsimp only [Pt.U, Pt.locs, Pt.cells, Pt.slots] at X6 l6 y6 z6 st6 hQ6
    subst l6 y6 z6
    obtain ⟨rfl, N6q, e6⟩ := hQ6
    have N6 := Fr.app N5 N6q
    refine own_tr (t' := T6.setTop (mkF m 55 #[.val (.int p1), .val (.int p2), .val (.int p3), .val (.int p4), .val (.int p5), .val (.ref wDIRECTED), .val (.int tg), .val (.ref b3), .val (.int kk), .unset, .unset, .unset] [(.int (0 : Int32))])) st6 ?_
    refine own_st (t' := T6.setTop (mkF m 57 #[.val (.int p1), .val (.int p2), .val (.int p3), .val (.int p4), .val (.int p5), .val (.ref wDIRECTED), .val (.int tg), .val (.ref b3), .val (.int kk), .val (.int (0 : Int32)), .unset, .unset] [])) (fun _ k => XS.istore X6.here hx rfl (hb hby at_55) rfl (l' := #[.val (.int p1), .val (.int p2), .val (.int p3), .val (.int p4), .val (.int p5), .val (.ref wDIRECTED), .val (.int tg), .val (.ref b3), .val (.int kk), .val (.int (0 : Int32)), .unset, .unset]) rfl k) ?_
    refine own_st (t' := T6.setTop (mkF m 59 #[.val (.int p1), .val (.int p2), .val (.int p3), .val (.int p4), .val (.int p5), .val (.ref wDIRECTED), .val (.int tg), .val (.ref b3), .val (.int kk), .val (.int (0 : Int32)), .unset, .unset] [(.ref wDIRECTED)])) (fun _ k => XS.aload X6.here hx rfl (hb hby at_57) rfl rfl k) ?_
    refine own_st (t' := T6.setTop (mkF m 61 #[.val (.int p1), .val (.int p2), .val (.int p3), .val (.int p4), .val (.int p5), .val (.ref wDIRECTED), .val (.int tg), .val (.ref b3), .val (.int kk), .val (.int (0 : Int32)), .unset, .unset] [(.ref b3), (.ref wDIRECTED)])) (fun _ k => XS.aload X6.here hx rfl (hb hby at_59) rfl rfl k) ?_
    refine own_st (t' := T6.setTop (mkF m 62 #[.val (.int p1), .val (.int p2), .val (.int p3), .val (.int p4), .val (.int p5), .val (.ref wDIRECTED), .val (.int tg), .val (.ref b3), .val (.int kk), .val (.int (0 : Int32)), .unset, .unset] [(.int p4), (.ref b3), (.ref wDIRECTED)])) (fun _ k => XS.iloadN X6.here hx rfl (hb hby at_61) rfl k) ?_
    refine own_st (t' := T6.setTop (mkF m 63 #[.val (.int p1), .val (.int p2), .val (.int p3), .val (.int p4), .val (.int p5), .val (.ref wDIRECTED), .val (.int tg), .val (.ref b3), .val (.int kk), .val (.int (0 : Int32)), .unset, .unset] [(.int p2), (.int p4), (.ref b3), (.ref wDIRECTED)])) (fun _ k => XS.iloadN X6.here hx rfl (hb hby at_62) rfl k) ?_
    obtain ⟨cq7, kq7, q7a, q7b, q7c⟩ := isOf hZ e6 f5_Exa_wDIRECTED
    obtain ⟨_, _, ⟨T7, L7, k7, n7⟩, -, X7, ⟨Lc7, hQ7, l7, y7, z7⟩, st7⟩ := X6.virtualBack hx (y := (⟨"com/example/lambdaloom/lambdaloom/ChannelModel", "fibre", "(Lcom/example/lambdaloom/lambdaloom/Network$Link;II)I"⟩ : MethodName)) (z := (⟨"com/example/lambdaloom/lambdaloom/ChannelModel", "fibre", "(Lcom/example/lambdaloom/lambdaloom/Network$Link;II)I"⟩ : MethodName)) hown (mvT hZ (hw _ (List.mem_of_getElem? (i := 39) rfl))) (mvT hZ (hw _ (List.mem_of_getElem? (i := 40) rfl))) (notFace_of_selects (args := #[]) (mvT hZ (hw _ (List.mem_of_getElem? (i := 42) rfl)))) (mvT hZ (hw _ (List.mem_of_getElem? (i := 42) rfl))) (mvT hZ (hw _ (List.mem_of_getElem? (i := 41) rfl))) (by decide) (backOf (W := 0) (own_rm6 l Z a0 hw [] wDIRECTED b3 p4 p2 p2 (((2 : Int32) * p4) + (0 : Int32)) T5.heap n0 Z5 f5_Exa_wDIRECTED f5_Fld_wDIRECTED_ordinal g5e g5f1 (by rw [if_pos rfl])) hZ (hw _ (List.mem_of_getElem? (i := 43) rfl)) (hw _ (List.mem_of_getElem? (i := 1) rfl)) (by decide) (by decide)) q7a q7c (g := (mkF m 63 #[.val (.int p1), .val (.int p2), .val (.int p3), .val (.int p4), .val (.int p5), .val (.ref wDIRECTED), .val (.int tg), .val (.ref b3), .val (.int kk), .val (.int (0 : Int32)), .unset, .unset] [(.int p2), (.int p4), (.ref b3), (.ref wDIRECTED)])) rfl (by rw [hml]; rfl) (Steps.refl _) (argsL := [(.ref b3), (.int p4), (.int p2)]) (rest := []) (lenOf own_rm0_pd2 rfl) rfl (by show 2 * 0 + _ ≤ _; exact Nat.le_of_eq rfl) (hb hby at_63) (fun _ _ => ⟨rfl, e6, (by decide : 0 + 1 + 2 + 0 + 0 + 0 ≤ _), (by decide : 0 + 3 + (4 + 4) + 0 + 0 + 0 ≤ _)⟩)
    dsimp only [Pt.U, Pt.locs, Pt.cells, Pt.slots] at X7 l7 y7 z7 st7 hQ7
    subst l7 y7 z7
    obtain ⟨rfl, N7q, e7⟩ := hQ7
    have N7 := Fr.app N6 N7q
    refine own_tr (t' := T7.setTop (mkF m 66 #[.val (.int p1), .val (.int p2), .val (.int p3), .val (.int p4), .val (.int p5), .val (.ref wDIRECTED), .val (.int tg), .val (.ref b3), .val (.int kk), .val (.int (0 : Int32)), .unset, .unset] [(.int (((2 : Int32) * p4) + (0 : Int32)))])) st7 ?_
    refine own_st (t' := T7.setTop (mkF m 68 #[.val (.int p1), .val (.int p2), .val (.int p3), .val (.int p4), .val (.int p5), .val (.ref wDIRECTED), .val (.int tg), .val (.ref b3), .val (.int kk), .val (.int (0 : Int32)), .unset, .unset] [(.ref wDIRECTED), (.int (((2 : Int32) * p4) + (0 : Int32)))])) (fun _ k => XS.aload X7.here hx rfl (hb hby at_66) rfl rfl k) ?_
    refine own_st (t' := T7.setTop (mkF m 70 #[.val (.int p1), .val (.int p2), .val (.int p3), .val (.int p4), .val (.int p5), .val (.ref wDIRECTED), .val (.int tg), .val (.ref b3), .val (.int kk), .val (.int (0 : Int32)), .unset, .unset] [(.ref b3), (.ref wDIRECTED), (.int (((2 : Int32) * p4) + (0 : Int32)))])) (fun _ k => XS.aload X7.here hx rfl (hb hby at_68) rfl rfl k) ?_
    refine own_st (t' := T7.setTop (mkF m 71 #[.val (.int p1), .val (.int p2), .val (.int p3), .val (.int p4), .val (.int p5), .val (.ref wDIRECTED), .val (.int tg), .val (.ref b3), .val (.int kk), .val (.int (0 : Int32)), .unset, .unset] [(.int p4), (.ref b3), (.ref wDIRECTED), (.int (((2 : Int32) * p4) + (0 : Int32)))])) (fun _ k => XS.iloadN X7.here hx rfl (hb hby at_70) rfl k) ?_
    refine own_st (t' := T7.setTop (mkF m 73 #[.val (.int p1), .val (.int p2), .val (.int p3), .val (.int p4), .val (.int p5), .val (.ref wDIRECTED), .val (.int tg), .val (.ref b3), .val (.int kk), .val (.int (0 : Int32)), .unset, .unset] [(.int tg), (.int p4), (.ref b3), (.ref wDIRECTED), (.int (((2 : Int32) * p4) + (0 : Int32)))])) (fun _ k => XS.iload X7.here hx rfl (hb hby at_71) rfl k) ?_
    obtain ⟨cq8, kq8, q8a, q8b, q8c⟩ := isOf hZ e7 f5_Exa_wDIRECTED
    obtain ⟨_, _, ⟨T8, L8, k8, n8⟩, -, X8, ⟨Lc8, hQ8, l8, y8, z8⟩, st8⟩ := X7.virtualBack hx (y := (⟨"com/example/lambdaloom/lambdaloom/ChannelModel", "fibre", "(Lcom/example/lambdaloom/lambdaloom/Network$Link;II)I"⟩ : MethodName)) (z := (⟨"com/example/lambdaloom/lambdaloom/ChannelModel", "fibre", "(Lcom/example/lambdaloom/lambdaloom/Network$Link;II)I"⟩ : MethodName)) hown (mvT hZ (hw _ (List.mem_of_getElem? (i := 39) rfl))) (mvT hZ (hw _ (List.mem_of_getElem? (i := 40) rfl))) (notFace_of_selects (args := #[]) (mvT hZ (hw _ (List.mem_of_getElem? (i := 42) rfl)))) (mvT hZ (hw _ (List.mem_of_getElem? (i := 42) rfl))) (mvT hZ (hw _ (List.mem_of_getElem? (i := 41) rfl))) (by decide) (backOf (W := 1) (own_rm6 l Z a0 hw [] wDIRECTED b3 p4 tg p2 (((2 : Int32) * p4) + (1 : Int32)) T5.heap n0 Z5 f5_Exa_wDIRECTED f5_Fld_wDIRECTED_ordinal g5e g5f1 (by rw [if_neg htg])) hZ (hw _ (List.mem_of_getElem? (i := 43) rfl)) (hw _ (List.mem_of_getElem? (i := 1) rfl)) (by decide) (by decide)) q8a q8c (g := (mkF m 73 #[.val (.int p1), .val (.int p2), .val (.int p3), .val (.int p4), .val (.int p5), .val (.ref wDIRECTED), .val (.int tg), .val (.ref b3), .val (.int kk), .val (.int (0 : Int32)), .unset, .unset] [(.int tg), (.int p4), (.ref b3), (.ref wDIRECTED), (.int (((2 : Int32) * p4) + (0 : Int32)))])) rfl (by rw [hml]; rfl) (Steps.refl _) (argsL := [(.ref b3), (.int p4), (.int tg)]) (rest := [(.int (((2 : Int32) * p4) + (0 : Int32)))]) (lenOf own_rm0_pd2 rfl) rfl (by show 2 * 0 + _ ≤ _; exact Nat.le_of_eq rfl) (hb hby at_73) (fun _ _ => ⟨rfl, e7, (by decide : 0 + 1 + 2 + 0 + 0 + 0 + 0 ≤ _), (by decide : 0 + 3 + (4 + 4) + 0 + 0 + 0 + 0 ≤ _)⟩)
    dsimp only [Pt.U, Pt.locs, Pt.cells, Pt.slots] at X8 l8 y8 z8 st8 hQ8
    subst l8 y8 z8
    obtain ⟨rfl, N8q, e8⟩ := hQ8
    have N8 := Fr.app N7 N8q
    refine own_tr (t' := T8.setTop (mkF m 76 #[.val (.int p1), .val (.int p2), .val (.int p3), .val (.int p4), .val (.int p5), .val (.ref wDIRECTED), .val (.int tg), .val (.ref b3), .val (.int kk), .val (.int (0 : Int32)), .unset, .unset] [(.int (((2 : Int32) * p4) + (1 : Int32))), (.int (((2 : Int32) * p4) + (0 : Int32)))])) st8 ?_
    refine own_st (t' := T8.setTop (mkF m 83 #[.val (.int p1), .val (.int p2), .val (.int p3), .val (.int p4), .val (.int p5), .val (.ref wDIRECTED), .val (.int tg), .val (.ref b3), .val (.int kk), .val (.int (0 : Int32)), .unset, .unset] [])) (fun _ k => XS.icmpYes X8.here hx rfl (pc0 := 76) (pc' := 83) rfl (hb hby at_76) rfl (feq (own_01 _)).2 (by decide) (by decide) k) ?_
    refine own_st (t' := T8.setTop (mkF m 84 #[.val (.int p1), .val (.int p2), .val (.int p3), .val (.int p4), .val (.int p5), .val (.ref wDIRECTED), .val (.int tg), .val (.ref b3), .val (.int kk), .val (.int (0 : Int32)), .unset, .unset] [(.int (0 : Int32))])) (fun _ k => XS.iconst X8.here hx rfl (hb hby at_83) k) ?_
    refine own_st (t' := T8.setTop (mkF m 86 #[.val (.int p1), .val (.int p2), .val (.int p3), .val (.int p4), .val (.int p5), .val (.ref wDIRECTED), .val (.int tg), .val (.ref b3), .val (.int kk), .val (.int (0 : Int32)), .val (.int (0 : Int32)), .unset] [])) (fun _ k => XS.istore X8.here hx rfl (hb hby at_84) rfl (l' := #[.val (.int p1), .val (.int p2), .val (.int p3), .val (.int p4), .val (.int p5), .val (.ref wDIRECTED), .val (.int tg), .val (.ref b3), .val (.int kk), .val (.int (0 : Int32)), .val (.int (0 : Int32)), .unset]) rfl k) ?_
    refine own_st (t' := T8.setTop (mkF m 88 #[.val (.int p1), .val (.int p2), .val (.int p3), .val (.int p4), .val (.int p5), .val (.ref wDIRECTED), .val (.int tg), .val (.ref b3), .val (.int kk), .val (.int (0 : Int32)), .val (.int (0 : Int32)), .unset] [(.ref wDIRECTED)])) (fun _ k => XS.aload X8.here hx rfl (hb hby at_86) rfl rfl k) ?_
    refine own_st (t' := T8.setTop (mkF m 90 #[.val (.int p1), .val (.int p2), .val (.int p3), .val (.int p4), .val (.int p5), .val (.ref wDIRECTED), .val (.int tg), .val (.ref b3), .val (.int kk), .val (.int (0 : Int32)), .val (.int (0 : Int32)), .unset] [(.int kk), (.ref wDIRECTED)])) (fun _ k => XS.iload X8.here hx rfl (hb hby at_88) rfl k) ?_
    obtain ⟨cq9, kq9, q9a, q9b, q9c⟩ := isOf hZ e8 f5_Exa_wDIRECTED
    obtain ⟨_, _, ⟨T9, L9, k9, n9⟩, -, X9, ⟨Lc9, hQ9, l9, y9, z9⟩, st9⟩ := X8.virtualBack hx (y := (⟨"com/example/lambdaloom/lambdaloom/ChannelModel", "fibreCount", "(I)I"⟩ : MethodName)) (z := (⟨"com/example/lambdaloom/lambdaloom/ChannelModel", "fibreCount", "(I)I"⟩ : MethodName)) hown (mvT hZ (hw _ (List.mem_of_getElem? (i := 58) rfl))) (mvT hZ (hw _ (List.mem_of_getElem? (i := 59) rfl))) (notFace_of_selects (args := #[]) (mvT hZ (hw _ (List.mem_of_getElem? (i := 61) rfl)))) (mvT hZ (hw _ (List.mem_of_getElem? (i := 61) rfl))) (mvT hZ (hw _ (List.mem_of_getElem? (i := 60) rfl))) (by decide) (backOf (W := 0) (own_rm8 l Z a0 hw [] wDIRECTED kk T5.heap n0 Z5 f5_Exa_wDIRECTED f5_Fld_wDIRECTED_ordinal) hZ (hw _ (List.mem_of_getElem? (i := 62) rfl)) (hw _ (List.mem_of_getElem? (i := 1) rfl)) (by decide) (by decide)) q9a q9c (g := (mkF m 90 #[.val (.int p1), .val (.int p2), .val (.int p3), .val (.int p4), .val (.int p5), .val (.ref wDIRECTED), .val (.int tg), .val (.ref b3), .val (.int kk), .val (.int (0 : Int32)), .val (.int (0 : Int32)), .unset] [(.int kk), (.ref wDIRECTED)])) rfl (by rw [hml]; rfl) (Steps.refl _) (argsL := [(.int kk)]) (rest := []) (lenOf own_rm0_pd3 rfl) rfl (by show 2 * 0 + _ ≤ _; exact Nat.le_of_eq rfl) (hb hby at_90) (fun _ _ => ⟨rfl, e8, (by decide : 0 + 1 + 2 + 0 + 0 + 0 + 0 + 0 ≤ _), (by decide : 0 + 3 + (4 + 4) + 0 + 0 + 0 + 0 + 0 ≤ _)⟩)
    dsimp only [Pt.U, Pt.locs, Pt.cells, Pt.slots] at X9 l9 y9 z9 st9 hQ9
    subst l9 y9 z9
    obtain ⟨rfl, N9q, e9⟩ := hQ9
    have N9 := Fr.app N8 N9q
    refine own_tr (t' := T9.setTop (mkF m 93 #[.val (.int p1), .val (.int p2), .val (.int p3), .val (.int p4), .val (.int p5), .val (.ref wDIRECTED), .val (.int tg), .val (.ref b3), .val (.int kk), .val (.int (0 : Int32)), .val (.int (0 : Int32)), .unset] [(.int ((2 : Int32) * kk))])) st9 ?_
    refine own_st (t' := T9.setTop (mkF m 95 #[.val (.int p1), .val (.int p2), .val (.int p3), .val (.int p4), .val (.int p5), .val (.ref wDIRECTED), .val (.int tg), .val (.ref b3), .val (.int kk), .val (.int (0 : Int32)), .val (.int (0 : Int32)), .unset] [(.int kk), (.int ((2 : Int32) * kk))])) (fun _ k => XS.iload X9.here hx rfl (hb hby at_93) rfl k) ?_
    refine own_st (t' := T9.setTop (mkF m 102 #[.val (.int p1), .val (.int p2), .val (.int p3), .val (.int p4), .val (.int p5), .val (.ref wDIRECTED), .val (.int tg), .val (.ref b3), .val (.int kk), .val (.int (0 : Int32)), .val (.int (0 : Int32)), .unset] [])) (fun _ k => XS.icmpYes X9.here hx rfl (pc0 := 95) (pc' := 102) rfl (hb hby at_95) rfl (feq (own_2k hkk)).2 (by decide) (by decide) k) ?_
    refine own_st (t' := T9.setTop (mkF m 103 #[.val (.int p1), .val (.int p2), .val (.int p3), .val (.int p4), .val (.int p5), .val (.ref wDIRECTED), .val (.int tg), .val (.ref b3), .val (.int kk), .val (.int (0 : Int32)), .val (.int (0 : Int32)), .unset] [(.int (0 : Int32))])) (fun _ k => XS.iconst X9.here hx rfl (hb hby at_102) k) ?_
    refine own_st (t' := T9.setTop (mkF m 105 #[.val (.int p1), .val (.int p2), .val (.int p3), .val (.int p4), .val (.int p5), .val (.ref wDIRECTED), .val (.int tg), .val (.ref b3), .val (.int kk), .val (.int (0 : Int32)), .val (.int (0 : Int32)), .val (.int (0 : Int32))] [])) (fun _ k => XS.istore X9.here hx rfl (hb hby at_103) rfl (l' := #[.val (.int p1), .val (.int p2), .val (.int p3), .val (.int p4), .val (.int p5), .val (.ref wDIRECTED), .val (.int tg), .val (.ref b3), .val (.int kk), .val (.int (0 : Int32)), .val (.int (0 : Int32)), .val (.int (0 : Int32))]) rfl k) ?_
    refine own_st (t' := T9.setTop (mkF m 107 #[.val (.int p1), .val (.int p2), .val (.int p3), .val (.int p4), .val (.int p5), .val (.ref wDIRECTED), .val (.int tg), .val (.ref b3), .val (.int kk), .val (.int (0 : Int32)), .val (.int (0 : Int32)), .val (.int (0 : Int32))] [(.int (0 : Int32))])) (fun _ k => XS.iload X9.here hx rfl (hb hby at_105) rfl k) ?_
    refine own_st (t' := T9.setTop (mkF m 109 #[.val (.int p1), .val (.int p2), .val (.int p3), .val (.int p4), .val (.int p5), .val (.ref wDIRECTED), .val (.int tg), .val (.ref b3), .val (.int kk), .val (.int (0 : Int32)), .val (.int (0 : Int32)), .val (.int (0 : Int32))] [(.int (0 : Int32)), (.int (0 : Int32))])) (fun _ k => XS.iload X9.here hx rfl (hb hby at_107) rfl k) ?_
    refine own_st (t' := T9.setTop (mkF m 112 #[.val (.int p1), .val (.int p2), .val (.int p3), .val (.int p4), .val (.int p5), .val (.ref wDIRECTED), .val (.int tg), .val (.ref b3), .val (.int kk), .val (.int (0 : Int32)), .val (.int (0 : Int32)), .val (.int (0 : Int32))] [])) (fun _ k => XS.icmpNo X9.here hx rfl (hb hby at_109) rfl (teq (rfl : (0 : Int32) = (0 : Int32))).2 k) ?_
    refine own_st (t' := T9.setTop (mkF m 114 #[.val (.int p1), .val (.int p2), .val (.int p3), .val (.int p4), .val (.int p5), .val (.ref wDIRECTED), .val (.int tg), .val (.ref b3), .val (.int kk), .val (.int (0 : Int32)), .val (.int (0 : Int32)), .val (.int (0 : Int32))] [(.int (0 : Int32))])) (fun _ k => XS.iload X9.here hx rfl (hb hby at_112) rfl k) ?_
    refine own_st (t' := T9.setTop (mkF m 116 #[.val (.int p1), .val (.int p2), .val (.int p3), .val (.int p4), .val (.int p5), .val (.ref wDIRECTED), .val (.int tg), .val (.ref b3), .val (.int kk), .val (.int (0 : Int32)), .val (.int (0 : Int32)), .val (.int (0 : Int32))] [(.int (0 : Int32)), (.int (0 : Int32))])) (fun _ k => XS.iload X9.here hx rfl (hb hby at_114) rfl k) ?_
    refine own_st (t' := T9.setTop (mkF m 119 #[.val (.int p1), .val (.int p2), .val (.int p3), .val (.int p4), .val (.int p5), .val (.ref wDIRECTED), .val (.int tg), .val (.ref b3), .val (.int kk), .val (.int (0 : Int32)), .val (.int (0 : Int32)), .val (.int (0 : Int32))] [])) (fun _ k => XS.icmpNo X9.here hx rfl (hb hby at_116) rfl (teq (rfl : (0 : Int32) = (0 : Int32))).2 k) ?_
    refine own_st (t' := T9.setTop (mkF m 120 #[.val (.int p1), .val (.int p2), .val (.int p3), .val (.int p4), .val (.int p5), .val (.ref wDIRECTED), .val (.int tg), .val (.ref b3), .val (.int kk), .val (.int (0 : Int32)), .val (.int (0 : Int32)), .val (.int (0 : Int32))] [(.int (1 : Int32))])) (fun _ k => XS.iconst X9.here hx rfl (hb hby at_119) k) ?_
    refine own_st (t' := T9.setTop (mkF m 124 #[.val (.int p1), .val (.int p2), .val (.int p3), .val (.int p4), .val (.int p5), .val (.ref wDIRECTED), .val (.int tg), .val (.ref b3), .val (.int kk), .val (.int (0 : Int32)), .val (.int (0 : Int32)), .val (.int (0 : Int32))] [(.int (1 : Int32))])) (fun _ k => XS.goto X9.here hx rfl (pc0 := 120) (pc' := 124) rfl (hb hby at_120) (by decide) (by decide) k) ?_
    have hv10 : (1 : Int32) = (1 : Int32) := rfl
    obtain ⟨fs, hr, hrun, hended, hEnd⟩ := Stand.leaveW (s := s) (vm₁ := T4.vm) X9 hSi (by rw [e9]; exact hki) (v := some (.int (1 : Int32))) (fun h => by rw [Bd.returns] at h; cases h)
    exact ⟨_, _, retN X9 hx (t := .boolean) Bd.returns (by simp) (hb hby at_124) hr, hrun, hended, hP _ _ ⟨_, _, rfl, ⟨(congrArg (fun z => some (Value.int z)) hv10), N9⟩, ⟨_, rfl⟩, hEnd.2.1, hEnd.2.2.1, hEnd.2.2.2.mono (by decide) (by decide)⟩⟩
  · refine own_st (t' := s₁.setTop (mkF m 12 #[.val (.int p1), .val (.int p2), .val (.int p3), .val (.int p4), .val (.int p5), .unset, .unset, .unset, .unset, .unset, .unset, .unset] [])) (fun _ k => XS.ifYes X0.here hx rfl (pc0 := 3) (pc' := 12) rfl (hb hby at_3) rfl ((if0 _ _).trans (feq c3_1).2) (by decide) (by decide) k) ?_
    obtain ⟨T11, X11, e11, st11⟩ := getS2 X0 hx hZ hown (host := "") (Or.inl (hw _ (List.mem_of_getElem? (i := 63) rfl))) Via.refl e0 S_UNDIRECTED (g := (mkF m 12 #[.val (.int p1), .val (.int p2), .val (.int p3), .val (.int p4), .val (.int p5), .unset, .unset, .unset, .unset, .unset, .unset, .unset] [])) rfl (hb hby at_12)
    refine own_st (t' := T11.setTop (mkF m 15 #[.val (.int p1), .val (.int p2), .val (.int p3), .val (.int p4), .val (.int p5), .unset, .unset, .unset, .unset, .unset, .unset, .unset] [(.ref wUNDIRECTED)])) st11 ?_
    refine own_st (t' := T11.setTop (mkF m 17 #[.val (.int p1), .val (.int p2), .val (.int p3), .val (.int p4), .val (.int p5), .val (.ref wUNDIRECTED), .unset, .unset, .unset, .unset, .unset, .unset] [])) (fun _ k => XS.astore X11.here hx rfl (hb hby at_15) rfl rfl (l' := #[.val (.int p1), .val (.int p2), .val (.int p3), .val (.int p4), .val (.int p5), .val (.ref wUNDIRECTED), .unset, .unset, .unset, .unset, .unset, .unset]) rfl k) ?_
    refine own_st (t' := T11.setTop (mkF m 18 #[.val (.int p1), .val (.int p2), .val (.int p3), .val (.int p4), .val (.int p5), .val (.ref wUNDIRECTED), .unset, .unset, .unset, .unset, .unset, .unset] [(.int p2)])) (fun _ k => XS.iloadN X11.here hx rfl (hb hby at_17) rfl k) ?_
    refine own_st (t' := T11.setTop (mkF m 19 #[.val (.int p1), .val (.int p2), .val (.int p3), .val (.int p4), .val (.int p5), .val (.ref wUNDIRECTED), .unset, .unset, .unset, .unset, .unset, .unset] [(.int (1 : Int32)), (.int p2)])) (fun _ k => XS.iconst X11.here hx rfl (hb hby at_18) k) ?_
    refine own_st (t' := T11.setTop (mkF m 20 #[.val (.int p1), .val (.int p2), .val (.int p3), .val (.int p4), .val (.int p5), .val (.ref wUNDIRECTED), .unset, .unset, .unset, .unset, .unset, .unset] [(.int (p2 + (1 : Int32)))])) (fun _ k => XS.iadd X11.here hx rfl (hb hby at_19) rfl k) ?_
    refine own_st (t' := T11.setTop (mkF m 21 #[.val (.int p1), .val (.int p2), .val (.int p3), .val (.int p4), .val (.int p5), .val (.ref wUNDIRECTED), .unset, .unset, .unset, .unset, .unset, .unset] [(.int p3), (.int (p2 + (1 : Int32)))])) (fun _ k => XS.iloadN X11.here hx rfl (hb hby at_20) rfl k) ?_
    refine own_st (t' := T11.setTop (mkF m 23 #[.val (.int p1), .val (.int p2), .val (.int p3), .val (.int p4), .val (.int p5), .val (.ref wUNDIRECTED), .unset, .unset, .unset, .unset, .unset, .unset] [(.int (1073741823 : Int32)), (.int p3), (.int (p2 + (1 : Int32)))])) (fun _ k => X11.ldcInt hx hown (mvT hZ (hw _ (List.mem_of_getElem? (i := 3) rfl))) (g := (mkF m 21 #[.val (.int p1), .val (.int p2), .val (.int p3), .val (.int p4), .val (.int p5), .val (.ref wUNDIRECTED), .unset, .unset, .unset, .unset, .unset, .unset] [(.int p3), (.int (p2 + (1 : Int32)))])) rfl (hb hby at_21) _ k) ?_
    refine own_st (t' := T11.setTop (mkF m 24 #[.val (.int p1), .val (.int p2), .val (.int p3), .val (.int p4), .val (.int p5), .val (.ref wUNDIRECTED), .unset, .unset, .unset, .unset, .unset, .unset] [(.int (p3 &&& (1073741823 : Int32))), (.int (p2 + (1 : Int32)))])) (fun _ k => XS.iand X11.here hx rfl (hb hby at_23) rfl k) ?_
    refine own_st (t' := T11.setTop (mkF m 25 #[.val (.int p1), .val (.int p2), .val (.int p3), .val (.int p4), .val (.int p5), .val (.ref wUNDIRECTED), .unset, .unset, .unset, .unset, .unset, .unset] [(.int ((p2 + (1 : Int32)) + (p3 &&& (1073741823 : Int32))))])) (fun _ k => XS.iadd X11.here hx rfl (hb hby at_24) rfl k) ?_
    refine own_st (t' := T11.setTop (mkF m 27 #[.val (.int p1), .val (.int p2), .val (.int p3), .val (.int p4), .val (.int p5), .val (.ref wUNDIRECTED), .val (.int ((p2 + (1 : Int32)) + (p3 &&& (1073741823 : Int32)))), .unset, .unset, .unset, .unset, .unset] [])) (fun _ k => XS.istore X11.here hx rfl (hb hby at_25) rfl (l' := #[.val (.int p1), .val (.int p2), .val (.int p3), .val (.int p4), .val (.int p5), .val (.ref wUNDIRECTED), .val (.int ((p2 + (1 : Int32)) + (p3 &&& (1073741823 : Int32)))), .unset, .unset, .unset, .unset, .unset]) rfl k) ?_
    have htg := own_tg p2 p3
    generalize ((p2 + (1 : Int32)) + (p3 &&& (1073741823 : Int32))) = tg at htg ⊢
    obtain ⟨T12, h12, X12, e12, E12, A12, D12, -, st12⟩ := newO X11 hx hZ hown (hw _ (List.mem_of_getElem? (i := 4) rfl)) (hw _ (List.mem_of_getElem? (i := 5) rfl)) (hw _ (List.mem_of_getElem? (i := 6) rfl)) e11 (g := (mkF m 27 #[.val (.int p1), .val (.int p2), .val (.int p3), .val (.int p4), .val (.int p5), .val (.ref wUNDIRECTED), .val (.int tg), .unset, .unset, .unset, .unset, .unset] [])) rfl (hb hby at_27) (by decide) (by decide)
    obtain ⟨b12, g12⟩ : ∃ z, z = h0.size := ⟨_, rfl⟩
    rw [← g12] at A12 D12 st12
    have ne12_wDIRECTED : wDIRECTED ≠ b12 := Nat.ne_of_lt (Nat.lt_of_lt_of_le E_DIRECTED.lt (Nat.le_of_eq g12.symm))
    have ne12_wUNDIRECTED : wUNDIRECTED ≠ b12 := Nat.ne_of_lt (Nat.lt_of_lt_of_le E_UNDIRECTED.lt (Nat.le_of_eq g12.symm))
    have f12_Sta_com_example_lambdaloom_lambdaloom_ChannelModel_DIRECTED := S_DIRECTED.ext E12
    have f12_Sta_com_example_lambdaloom_lambdaloom_ChannelModel_UNDIRECTED := S_UNDIRECTED.ext E12
    have f12_Exa_wDIRECTED := E_DIRECTED.ext E12
    have f12_Exa_wUNDIRECTED := E_UNDIRECTED.ext E12
    have f12_Fld_wDIRECTED_ordinal := O_DIRECTED.ext E12
    have f12_Fld_wUNDIRECTED_ordinal := O_UNDIRECTED.ext E12
    have bg_b12 : n0 ≤ b12 := Nat.le_trans Z0 (Nat.le_of_eq g12.symm)
    have Z12 : n0 ≤ h12.size := Nat.le_trans Z0 E12.1
    have hki : _ ≤ h12.size := Nat.le_trans hki E12.1
    have F12_id : Fld Z h12 b12 "com/example/lambdaloom/lambdaloom/Network$Link" "id" "Ljava/lang/String;" .null := D12 (Or.inr (hw _ (List.mem_of_getElem? (i := 27) rfl))) (ty := (.object "java/lang/String")) (by decide)
    have F12_source : Fld Z h12 b12 "com/example/lambdaloom/lambdaloom/Network$Link" "source" "I" (.int (0 : Int32)) := D12 (Or.inr (hw _ (List.mem_of_getElem? (i := 29) rfl))) (ty := .int) (by decide)
    have F12_target : Fld Z h12 b12 "com/example/lambdaloom/lambdaloom/Network$Link" "target" "I" (.int (0 : Int32)) := D12 (Or.inr (hw _ (List.mem_of_getElem? (i := 31) rfl))) (ty := .int) (by decide)
    refine own_st (t' := T12.setTop (mkF m 30 #[.val (.int p1), .val (.int p2), .val (.int p3), .val (.int p4), .val (.int p5), .val (.ref wUNDIRECTED), .val (.int tg), .unset, .unset, .unset, .unset, .unset] [(.ref b12)])) st12 ?_
    refine own_st (t' := T12.setTop (mkF m 31 #[.val (.int p1), .val (.int p2), .val (.int p3), .val (.int p4), .val (.int p5), .val (.ref wUNDIRECTED), .val (.int tg), .unset, .unset, .unset, .unset, .unset] [(.ref b12), (.ref b12)])) (fun _ k => XS.dup X12.here hx rfl (hb hby at_30) rfl rfl k) ?_
    obtain ⟨c13, T13, h13, kn13, X13, e13, E13, hSi, hki, hZ, hown, st13⟩ := ldcS (s := s) (vm0 := s.vm) X12 hx hZ hown (hw _ (List.mem_of_getElem? (i := 7) rfl)) wS e12 hSi hki (g := (mkF m 31 #[.val (.int p1), .val (.int p2), .val (.int p3), .val (.int p4), .val (.int p5), .val (.ref wUNDIRECTED), .val (.int tg), .unset, .unset, .unset, .unset, .unset] [(.ref b12), (.ref b12)])) rfl (hb hby at_31) (n := 4) (by decide) (by decide) (by decide) (by decide)
    have f13_Sta_com_example_lambdaloom_lambdaloom_ChannelModel_DIRECTED := f12_Sta_com_example_lambdaloom_lambdaloom_ChannelModel_DIRECTED.ext E13
    have f13_Sta_com_example_lambdaloom_lambdaloom_ChannelModel_UNDIRECTED := f12_Sta_com_example_lambdaloom_lambdaloom_ChannelModel_UNDIRECTED.ext E13
    have f13_Exa_wDIRECTED := f12_Exa_wDIRECTED.ext E13
    have f13_Exa_wUNDIRECTED := f12_Exa_wUNDIRECTED.ext E13
    have f13_Fld_wDIRECTED_ordinal := f12_Fld_wDIRECTED_ordinal.ext E13
    have f13_Fld_wUNDIRECTED_ordinal := f12_Fld_wUNDIRECTED_ordinal.ext E13
    have f13_Exa_b12 := A12.ext E13
    have f13_Fld_b12_id := F12_id.ext E13
    have f13_Fld_b12_source := F12_source.ext E13
    have f13_Fld_b12_target := F12_target.ext E13
    have Z13 : n0 ≤ h13.size := Nat.le_trans Z12 E13.1
    refine own_st (t' := T13.setTop (mkF m 33 #[.val (.int p1), .val (.int p2), .val (.int p3), .val (.int p4), .val (.int p5), .val (.ref wUNDIRECTED), .val (.int tg), .unset, .unset, .unset, .unset, .unset] [(.ref c13), (.ref b12), (.ref b12)])) st13 ?_
    refine own_st (t' := T13.setTop (mkF m 34 #[.val (.int p1), .val (.int p2), .val (.int p3), .val (.int p4), .val (.int p5), .val (.ref wUNDIRECTED), .val (.int tg), .unset, .unset, .unset, .unset, .unset] [(.int p2), (.ref c13), (.ref b12), (.ref b12)])) (fun _ k => XS.iloadN X13.here hx rfl (hb hby at_33) rfl k) ?_
    refine own_st (t' := T13.setTop (mkF m 36 #[.val (.int p1), .val (.int p2), .val (.int p3), .val (.int p4), .val (.int p5), .val (.ref wUNDIRECTED), .val (.int tg), .unset, .unset, .unset, .unset, .unset] [(.int tg), (.int p2), (.ref c13), (.ref b12), (.ref b12)])) (fun _ k => XS.iload X13.here hx rfl (hb hby at_34) rfl k) ?_
    obtain ⟨_, _, ⟨T14, L14, k14, n14⟩, -, X14, ⟨Lc14, hQ14, l14, y14, z14⟩, st14⟩ := X13.specialBack hx (y := (⟨"com/example/lambdaloom/lambdaloom/Network$Link", "<init>", "(Ljava/lang/String;II)V"⟩ : MethodName)) rfl hown (mvT hZ (hw _ (List.mem_of_getElem? (i := 15) rfl))) (mvT hZ (hw _ (List.mem_of_getElem? (i := 16) rfl))) (mvT hZ (hw _ (List.mem_of_getElem? (i := 17) rfl))) (by decide) (backOf (W := 1) (own_rm4 l Z a0 hw [] b12 c13 p2 tg h13 n0 Z13 f13_Exa_b12 f13_Fld_b12_id f13_Fld_b12_source f13_Fld_b12_target bg_b12 ) hZ (hw _ (List.mem_of_getElem? (i := 17) rfl)) (hw _ (List.mem_of_getElem? (i := 6) rfl)) (by decide) (by decide)) (g := (mkF m 36 #[.val (.int p1), .val (.int p2), .val (.int p3), .val (.int p4), .val (.int p5), .val (.ref wUNDIRECTED), .val (.int tg), .unset, .unset, .unset, .unset, .unset] [(.int tg), (.int p2), (.ref c13), (.ref b12), (.ref b12)])) rfl (by rw [hml]; rfl) (Steps.refl _) (a := b12) (argsL := [(.ref c13), (.int p2), (.int tg)]) (rest := [(.ref b12)]) (lenOf own_rm0_pd0 rfl) rfl (by show 2 * 0 + _ ≤ _; exact Nat.le_of_eq rfl) (hb hby at_36) (fun _ _ => ⟨rfl, e13, (by decide : 0 + 1 + 2 + 0 ≤ _), (by decide : 0 + 3 + (4 + 4) + 0 ≤ _)⟩)
    dsimp only [Pt.U, Pt.locs, Pt.cells, Pt.slots] at X14 l14 y14 z14 st14 hQ14
    subst l14 y14 z14
    obtain ⟨rfl, N14q, K14q, g14e, g14f0, g14f1, g14f2⟩ := hQ14
    have N14 := Fr.app N0 N14q
    have f14_Sta_com_example_lambdaloom_lambdaloom_ChannelModel_DIRECTED := own_staK f13_Sta_com_example_lambdaloom_lambdaloom_ChannelModel_DIRECTED K14q f13_Exa_b12
    have f14_Sta_com_example_lambdaloom_lambdaloom_ChannelModel_UNDIRECTED := own_staK f13_Sta_com_example_lambdaloom_lambdaloom_ChannelModel_UNDIRECTED K14q f13_Exa_b12
    have f14_Exa_wDIRECTED := f13_Exa_wDIRECTED.keep K14q
    have f14_Exa_wUNDIRECTED := f13_Exa_wUNDIRECTED.keep K14q
    have f14_Fld_wDIRECTED_ordinal := f13_Fld_wDIRECTED_ordinal.keep K14q (own_nin ne12_wDIRECTED)
    have f14_Fld_wUNDIRECTED_ordinal := f13_Fld_wUNDIRECTED_ordinal.keep K14q (own_nin ne12_wUNDIRECTED)
    have f14_Exa_b12 := f13_Exa_b12.keep K14q
    have Z14 : n0 ≤ T14.heap.size := Nat.le_trans Z13 K14q.1
    have hki : _ ≤ T14.heap.size := Nat.le_trans hki K14q.1
    refine own_tr (t' := T14.setTop (mkF m 39 #[.val (.int p1), .val (.int p2), .val (.int p3), .val (.int p4), .val (.int p5), .val (.ref wUNDIRECTED), .val (.int tg), .unset, .unset, .unset, .unset, .unset] [(.ref b12)])) st14 ?_
    refine own_st (t' := T14.setTop (mkF m 41 #[.val (.int p1), .val (.int p2), .val (.int p3), .val (.int p4), .val (.int p5), .val (.ref wUNDIRECTED), .val (.int tg), .val (.ref b12), .unset, .unset, .unset, .unset] [])) (fun _ k => XS.astore X14.here hx rfl (hb hby at_39) rfl rfl (l' := #[.val (.int p1), .val (.int p2), .val (.int p3), .val (.int p4), .val (.int p5), .val (.ref wUNDIRECTED), .val (.int tg), .val (.ref b12), .unset, .unset, .unset, .unset]) rfl k) ?_
    refine own_st (t' := T14.setTop (mkF m 43 #[.val (.int p1), .val (.int p2), .val (.int p3), .val (.int p4), .val (.int p5), .val (.ref wUNDIRECTED), .val (.int tg), .val (.ref b12), .unset, .unset, .unset, .unset] [(.int p5)])) (fun _ k => XS.iload X14.here hx rfl (hb hby at_41) rfl k) ?_
    refine own_st (t' := T14.setTop (mkF m 45 #[.val (.int p1), .val (.int p2), .val (.int p3), .val (.int p4), .val (.int p5), .val (.ref wUNDIRECTED), .val (.int tg), .val (.ref b12), .unset, .unset, .unset, .unset] [(.int (1073741823 : Int32)), (.int p5)])) (fun _ k => X14.ldcInt hx hown (mvT hZ (hw _ (List.mem_of_getElem? (i := 3) rfl))) (g := (mkF m 43 #[.val (.int p1), .val (.int p2), .val (.int p3), .val (.int p4), .val (.int p5), .val (.ref wUNDIRECTED), .val (.int tg), .val (.ref b12), .unset, .unset, .unset, .unset] [(.int p5)])) rfl (hb hby at_43) _ k) ?_
    refine own_st (t' := T14.setTop (mkF m 46 #[.val (.int p1), .val (.int p2), .val (.int p3), .val (.int p4), .val (.int p5), .val (.ref wUNDIRECTED), .val (.int tg), .val (.ref b12), .unset, .unset, .unset, .unset] [(.int (p5 &&& (1073741823 : Int32)))])) (fun _ k => XS.iand X14.here hx rfl (hb hby at_45) rfl k) ?_
    refine own_st (t' := T14.setTop (mkF m 47 #[.val (.int p1), .val (.int p2), .val (.int p3), .val (.int p4), .val (.int p5), .val (.ref wUNDIRECTED), .val (.int tg), .val (.ref b12), .unset, .unset, .unset, .unset] [(.int (1 : Int32)), (.int (p5 &&& (1073741823 : Int32)))])) (fun _ k => XS.iconst X14.here hx rfl (hb hby at_46) k) ?_
    refine own_st (t' := T14.setTop (mkF m 48 #[.val (.int p1), .val (.int p2), .val (.int p3), .val (.int p4), .val (.int p5), .val (.ref wUNDIRECTED), .val (.int tg), .val (.ref b12), .unset, .unset, .unset, .unset] [(.int ((p5 &&& (1073741823 : Int32)) + (1 : Int32)))])) (fun _ k => XS.iadd X14.here hx rfl (hb hby at_47) rfl k) ?_
    refine own_st (t' := T14.setTop (mkF m 50 #[.val (.int p1), .val (.int p2), .val (.int p3), .val (.int p4), .val (.int p5), .val (.ref wUNDIRECTED), .val (.int tg), .val (.ref b12), .val (.int ((p5 &&& (1073741823 : Int32)) + (1 : Int32))), .unset, .unset, .unset] [])) (fun _ k => XS.istore X14.here hx rfl (hb hby at_48) rfl (l' := #[.val (.int p1), .val (.int p2), .val (.int p3), .val (.int p4), .val (.int p5), .val (.ref wUNDIRECTED), .val (.int tg), .val (.ref b12), .val (.int ((p5 &&& (1073741823 : Int32)) + (1 : Int32))), .unset, .unset, .unset]) rfl k) ?_
    have hkk := own_kk p5
    generalize ((p5 &&& (1073741823 : Int32)) + (1 : Int32)) = kk at hkk ⊢
    refine own_st (t' := T14.setTop (mkF m 52 #[.val (.int p1), .val (.int p2), .val (.int p3), .val (.int p4), .val (.int p5), .val (.ref wUNDIRECTED), .val (.int tg), .val (.ref b12), .val (.int kk), .unset, .unset, .unset] [(.ref wUNDIRECTED)])) (fun _ k => XS.aload X14.here hx rfl (hb hby at_50) rfl rfl k) ?_
    obtain ⟨cq15, kq15, q15a, q15b, q15c⟩ := isOf hZ rfl f14_Exa_wUNDIRECTED
    obtain ⟨_, _, ⟨T15, L15, k15, n15⟩, -, X15, ⟨Lc15, hQ15, l15, y15, z15⟩, st15⟩ := X14.virtualBack hx (y := (⟨"com/example/lambdaloom/lambdaloom/ChannelModel", "sameFibresBothWays", "()Z"⟩ : MethodName)) (z := (⟨"com/example/lambdaloom/lambdaloom/ChannelModel", "sameFibresBothWays", "()Z"⟩ : MethodName)) hown (mvT hZ (hw _ (List.mem_of_getElem? (i := 32) rfl))) (mvT hZ (hw _ (List.mem_of_getElem? (i := 33) rfl))) (notFace_of_selects (args := #[]) (mvT hZ (hw _ (List.mem_of_getElem? (i := 35) rfl)))) (mvT hZ (hw _ (List.mem_of_getElem? (i := 35) rfl))) (mvT hZ (hw _ (List.mem_of_getElem? (i := 34) rfl))) (by decide) (backOf (W := 0) (own_rm5 l Z a0 hw [] wUNDIRECTED wUNDIRECTED (1 : Int32) T14.heap n0 Z14 f14_Sta_com_example_lambdaloom_lambdaloom_ChannelModel_UNDIRECTED ((if_pos rfl).symm)) hZ (hw _ (List.mem_of_getElem? (i := 36) rfl)) (hw _ (List.mem_of_getElem? (i := 1) rfl)) (by decide) (by decide)) q15a q15c (g := (mkF m 52 #[.val (.int p1), .val (.int p2), .val (.int p3), .val (.int p4), .val (.int p5), .val (.ref wUNDIRECTED), .val (.int tg), .val (.ref b12), .val (.int kk), .unset, .unset, .unset] [(.ref wUNDIRECTED)])) rfl (by rw [hml]; rfl) (Steps.refl _) (argsL := []) (rest := []) (lenOf own_rm0_pd1 rfl) rfl (by show 2 * 0 + _ ≤ _; exact Nat.le_of_eq rfl) (hb hby at_52) (fun _ _ => ⟨rfl, rfl, (by decide : 0 + 1 + 2 + 0 + 0 ≤ _), (by decide : 0 + 3 + (4 + 4) + 0 + 0 ≤ _)⟩)
    dsimp only [Pt.U, Pt.locs, Pt.cells, Pt.slots] at X15 l15 y15 z15 st15 hQ15
    subst l15 y15 z15
    obtain ⟨rfl, N15q, e15⟩ := hQ15
    have N15 := Fr.app N14 N15q
    refine own_tr (t' := T15.setTop (mkF m 55 #[.val (.int p1), .val (.int p2), .val (.int p3), .val (.int p4), .val (.int p5), .val (.ref wUNDIRECTED), .val (.int tg), .val (.ref b12), .val (.int kk), .unset, .unset, .unset] [(.int (1 : Int32))])) st15 ?_
    refine own_st (t' := T15.setTop (mkF m 57 #[.val (.int p1), .val (.int p2), .val (.int p3), .val (.int p4), .val (.int p5), .val (.ref wUNDIRECTED), .val (.int tg), .val (.ref b12), .val (.int kk), .val (.int (1 : Int32)), .unset, .unset] [])) (fun _ k => XS.istore X15.here hx rfl (hb hby at_55) rfl (l' := #[.val (.int p1), .val (.int p2), .val (.int p3), .val (.int p4), .val (.int p5), .val (.ref wUNDIRECTED), .val (.int tg), .val (.ref b12), .val (.int kk), .val (.int (1 : Int32)), .unset, .unset]) rfl k) ?_
    refine own_st (t' := T15.setTop (mkF m 59 #[.val (.int p1), .val (.int p2), .val (.int p3), .val (.int p4), .val (.int p5), .val (.ref wUNDIRECTED), .val (.int tg), .val (.ref b12), .val (.int kk), .val (.int (1 : Int32)), .unset, .unset] [(.ref wUNDIRECTED)])) (fun _ k => XS.aload X15.here hx rfl (hb hby at_57) rfl rfl k) ?_
    refine own_st (t' := T15.setTop (mkF m 61 #[.val (.int p1), .val (.int p2), .val (.int p3), .val (.int p4), .val (.int p5), .val (.ref wUNDIRECTED), .val (.int tg), .val (.ref b12), .val (.int kk), .val (.int (1 : Int32)), .unset, .unset] [(.ref b12), (.ref wUNDIRECTED)])) (fun _ k => XS.aload X15.here hx rfl (hb hby at_59) rfl rfl k) ?_
    refine own_st (t' := T15.setTop (mkF m 62 #[.val (.int p1), .val (.int p2), .val (.int p3), .val (.int p4), .val (.int p5), .val (.ref wUNDIRECTED), .val (.int tg), .val (.ref b12), .val (.int kk), .val (.int (1 : Int32)), .unset, .unset] [(.int p4), (.ref b12), (.ref wUNDIRECTED)])) (fun _ k => XS.iloadN X15.here hx rfl (hb hby at_61) rfl k) ?_
    refine own_st (t' := T15.setTop (mkF m 63 #[.val (.int p1), .val (.int p2), .val (.int p3), .val (.int p4), .val (.int p5), .val (.ref wUNDIRECTED), .val (.int tg), .val (.ref b12), .val (.int kk), .val (.int (1 : Int32)), .unset, .unset] [(.int p2), (.int p4), (.ref b12), (.ref wUNDIRECTED)])) (fun _ k => XS.iloadN X15.here hx rfl (hb hby at_62) rfl k) ?_
    obtain ⟨cq16, kq16, q16a, q16b, q16c⟩ := isOf hZ e15 f14_Exa_wUNDIRECTED
    obtain ⟨_, _, ⟨T16, L16, k16, n16⟩, -, X16, ⟨Lc16, hQ16, l16, y16, z16⟩, st16⟩ := X15.virtualBack hx (y := (⟨"com/example/lambdaloom/lambdaloom/ChannelModel", "fibre", "(Lcom/example/lambdaloom/lambdaloom/Network$Link;II)I"⟩ : MethodName)) (z := (⟨"com/example/lambdaloom/lambdaloom/ChannelModel", "fibre", "(Lcom/example/lambdaloom/lambdaloom/Network$Link;II)I"⟩ : MethodName)) hown (mvT hZ (hw _ (List.mem_of_getElem? (i := 39) rfl))) (mvT hZ (hw _ (List.mem_of_getElem? (i := 40) rfl))) (notFace_of_selects (args := #[]) (mvT hZ (hw _ (List.mem_of_getElem? (i := 42) rfl)))) (mvT hZ (hw _ (List.mem_of_getElem? (i := 42) rfl))) (mvT hZ (hw _ (List.mem_of_getElem? (i := 41) rfl))) (by decide) (backOf (W := 0) (own_rm7 l Z a0 hw [] wUNDIRECTED b12 p4 p2 T14.heap n0 Z14 f14_Exa_wUNDIRECTED f14_Fld_wUNDIRECTED_ordinal) hZ (hw _ (List.mem_of_getElem? (i := 43) rfl)) (hw _ (List.mem_of_getElem? (i := 1) rfl)) (by decide) (by decide)) q16a q16c (g := (mkF m 63 #[.val (.int p1), .val (.int p2), .val (.int p3), .val (.int p4), .val (.int p5), .val (.ref wUNDIRECTED), .val (.int tg), .val (.ref b12), .val (.int kk), .val (.int (1 : Int32)), .unset, .unset] [(.int p2), (.int p4), (.ref b12), (.ref wUNDIRECTED)])) rfl (by rw [hml]; rfl) (Steps.refl _) (argsL := [(.ref b12), (.int p4), (.int p2)]) (rest := []) (lenOf own_rm0_pd2 rfl) rfl (by show 2 * 0 + _ ≤ _; exact Nat.le_of_eq rfl) (hb hby at_63) (fun _ _ => ⟨rfl, e15, (by decide : 0 + 1 + 2 + 0 + 0 + 0 ≤ _), (by decide : 0 + 3 + (4 + 4) + 0 + 0 + 0 ≤ _)⟩)
    dsimp only [Pt.U, Pt.locs, Pt.cells, Pt.slots] at X16 l16 y16 z16 st16 hQ16
    subst l16 y16 z16
    obtain ⟨rfl, N16q, e16⟩ := hQ16
    have N16 := Fr.app N15 N16q
    refine own_tr (t' := T16.setTop (mkF m 66 #[.val (.int p1), .val (.int p2), .val (.int p3), .val (.int p4), .val (.int p5), .val (.ref wUNDIRECTED), .val (.int tg), .val (.ref b12), .val (.int kk), .val (.int (1 : Int32)), .unset, .unset] [(.int p4)])) st16 ?_
    refine own_st (t' := T16.setTop (mkF m 68 #[.val (.int p1), .val (.int p2), .val (.int p3), .val (.int p4), .val (.int p5), .val (.ref wUNDIRECTED), .val (.int tg), .val (.ref b12), .val (.int kk), .val (.int (1 : Int32)), .unset, .unset] [(.ref wUNDIRECTED), (.int p4)])) (fun _ k => XS.aload X16.here hx rfl (hb hby at_66) rfl rfl k) ?_
    refine own_st (t' := T16.setTop (mkF m 70 #[.val (.int p1), .val (.int p2), .val (.int p3), .val (.int p4), .val (.int p5), .val (.ref wUNDIRECTED), .val (.int tg), .val (.ref b12), .val (.int kk), .val (.int (1 : Int32)), .unset, .unset] [(.ref b12), (.ref wUNDIRECTED), (.int p4)])) (fun _ k => XS.aload X16.here hx rfl (hb hby at_68) rfl rfl k) ?_
    refine own_st (t' := T16.setTop (mkF m 71 #[.val (.int p1), .val (.int p2), .val (.int p3), .val (.int p4), .val (.int p5), .val (.ref wUNDIRECTED), .val (.int tg), .val (.ref b12), .val (.int kk), .val (.int (1 : Int32)), .unset, .unset] [(.int p4), (.ref b12), (.ref wUNDIRECTED), (.int p4)])) (fun _ k => XS.iloadN X16.here hx rfl (hb hby at_70) rfl k) ?_
    refine own_st (t' := T16.setTop (mkF m 73 #[.val (.int p1), .val (.int p2), .val (.int p3), .val (.int p4), .val (.int p5), .val (.ref wUNDIRECTED), .val (.int tg), .val (.ref b12), .val (.int kk), .val (.int (1 : Int32)), .unset, .unset] [(.int tg), (.int p4), (.ref b12), (.ref wUNDIRECTED), (.int p4)])) (fun _ k => XS.iload X16.here hx rfl (hb hby at_71) rfl k) ?_
    obtain ⟨cq17, kq17, q17a, q17b, q17c⟩ := isOf hZ e16 f14_Exa_wUNDIRECTED
    obtain ⟨_, _, ⟨T17, L17, k17, n17⟩, -, X17, ⟨Lc17, hQ17, l17, y17, z17⟩, st17⟩ := X16.virtualBack hx (y := (⟨"com/example/lambdaloom/lambdaloom/ChannelModel", "fibre", "(Lcom/example/lambdaloom/lambdaloom/Network$Link;II)I"⟩ : MethodName)) (z := (⟨"com/example/lambdaloom/lambdaloom/ChannelModel", "fibre", "(Lcom/example/lambdaloom/lambdaloom/Network$Link;II)I"⟩ : MethodName)) hown (mvT hZ (hw _ (List.mem_of_getElem? (i := 39) rfl))) (mvT hZ (hw _ (List.mem_of_getElem? (i := 40) rfl))) (notFace_of_selects (args := #[]) (mvT hZ (hw _ (List.mem_of_getElem? (i := 42) rfl)))) (mvT hZ (hw _ (List.mem_of_getElem? (i := 42) rfl))) (mvT hZ (hw _ (List.mem_of_getElem? (i := 41) rfl))) (by decide) (backOf (W := 1) (own_rm7 l Z a0 hw [] wUNDIRECTED b12 p4 tg T14.heap n0 Z14 f14_Exa_wUNDIRECTED f14_Fld_wUNDIRECTED_ordinal) hZ (hw _ (List.mem_of_getElem? (i := 43) rfl)) (hw _ (List.mem_of_getElem? (i := 1) rfl)) (by decide) (by decide)) q17a q17c (g := (mkF m 73 #[.val (.int p1), .val (.int p2), .val (.int p3), .val (.int p4), .val (.int p5), .val (.ref wUNDIRECTED), .val (.int tg), .val (.ref b12), .val (.int kk), .val (.int (1 : Int32)), .unset, .unset] [(.int tg), (.int p4), (.ref b12), (.ref wUNDIRECTED), (.int p4)])) rfl (by rw [hml]; rfl) (Steps.refl _) (argsL := [(.ref b12), (.int p4), (.int tg)]) (rest := [(.int p4)]) (lenOf own_rm0_pd2 rfl) rfl (by show 2 * 0 + _ ≤ _; exact Nat.le_of_eq rfl) (hb hby at_73) (fun _ _ => ⟨rfl, e16, (by decide : 0 + 1 + 2 + 0 + 0 + 0 + 0 ≤ _), (by decide : 0 + 3 + (4 + 4) + 0 + 0 + 0 + 0 ≤ _)⟩)
    dsimp only [Pt.U, Pt.locs, Pt.cells, Pt.slots] at X17 l17 y17 z17 st17 hQ17
    subst l17 y17 z17
    obtain ⟨rfl, N17q, e17⟩ := hQ17
    have N17 := Fr.app N16 N17q
    refine own_tr (t' := T17.setTop (mkF m 76 #[.val (.int p1), .val (.int p2), .val (.int p3), .val (.int p4), .val (.int p5), .val (.ref wUNDIRECTED), .val (.int tg), .val (.ref b12), .val (.int kk), .val (.int (1 : Int32)), .unset, .unset] [(.int p4), (.int p4)])) st17 ?_
    refine own_st (t' := T17.setTop (mkF m 79 #[.val (.int p1), .val (.int p2), .val (.int p3), .val (.int p4), .val (.int p5), .val (.ref wUNDIRECTED), .val (.int tg), .val (.ref b12), .val (.int kk), .val (.int (1 : Int32)), .unset, .unset] [])) (fun _ k => XS.icmpNo X17.here hx rfl (hb hby at_76) rfl (teq (rfl : p4 = p4)).2 k) ?_
    refine own_st (t' := T17.setTop (mkF m 80 #[.val (.int p1), .val (.int p2), .val (.int p3), .val (.int p4), .val (.int p5), .val (.ref wUNDIRECTED), .val (.int tg), .val (.ref b12), .val (.int kk), .val (.int (1 : Int32)), .unset, .unset] [(.int (1 : Int32))])) (fun _ k => XS.iconst X17.here hx rfl (hb hby at_79) k) ?_
    refine own_st (t' := T17.setTop (mkF m 84 #[.val (.int p1), .val (.int p2), .val (.int p3), .val (.int p4), .val (.int p5), .val (.ref wUNDIRECTED), .val (.int tg), .val (.ref b12), .val (.int kk), .val (.int (1 : Int32)), .unset, .unset] [(.int (1 : Int32))])) (fun _ k => XS.goto X17.here hx rfl (pc0 := 80) (pc' := 84) rfl (hb hby at_80) (by decide) (by decide) k) ?_
    refine own_st (t' := T17.setTop (mkF m 86 #[.val (.int p1), .val (.int p2), .val (.int p3), .val (.int p4), .val (.int p5), .val (.ref wUNDIRECTED), .val (.int tg), .val (.ref b12), .val (.int kk), .val (.int (1 : Int32)), .val (.int (1 : Int32)), .unset] [])) (fun _ k => XS.istore X17.here hx rfl (hb hby at_84) rfl (l' := #[.val (.int p1), .val (.int p2), .val (.int p3), .val (.int p4), .val (.int p5), .val (.ref wUNDIRECTED), .val (.int tg), .val (.ref b12), .val (.int kk), .val (.int (1 : Int32)), .val (.int (1 : Int32)), .unset]) rfl k) ?_
    refine own_st (t' := T17.setTop (mkF m 88 #[.val (.int p1), .val (.int p2), .val (.int p3), .val (.int p4), .val (.int p5), .val (.ref wUNDIRECTED), .val (.int tg), .val (.ref b12), .val (.int kk), .val (.int (1 : Int32)), .val (.int (1 : Int32)), .unset] [(.ref wUNDIRECTED)])) (fun _ k => XS.aload X17.here hx rfl (hb hby at_86) rfl rfl k) ?_
    refine own_st (t' := T17.setTop (mkF m 90 #[.val (.int p1), .val (.int p2), .val (.int p3), .val (.int p4), .val (.int p5), .val (.ref wUNDIRECTED), .val (.int tg), .val (.ref b12), .val (.int kk), .val (.int (1 : Int32)), .val (.int (1 : Int32)), .unset] [(.int kk), (.ref wUNDIRECTED)])) (fun _ k => XS.iload X17.here hx rfl (hb hby at_88) rfl k) ?_
    obtain ⟨cq18, kq18, q18a, q18b, q18c⟩ := isOf hZ e17 f14_Exa_wUNDIRECTED
    obtain ⟨_, _, ⟨T18, L18, k18, n18⟩, -, X18, ⟨Lc18, hQ18, l18, y18, z18⟩, st18⟩ := X17.virtualBack hx (y := (⟨"com/example/lambdaloom/lambdaloom/ChannelModel", "fibreCount", "(I)I"⟩ : MethodName)) (z := (⟨"com/example/lambdaloom/lambdaloom/ChannelModel", "fibreCount", "(I)I"⟩ : MethodName)) hown (mvT hZ (hw _ (List.mem_of_getElem? (i := 58) rfl))) (mvT hZ (hw _ (List.mem_of_getElem? (i := 59) rfl))) (notFace_of_selects (args := #[]) (mvT hZ (hw _ (List.mem_of_getElem? (i := 61) rfl)))) (mvT hZ (hw _ (List.mem_of_getElem? (i := 61) rfl))) (mvT hZ (hw _ (List.mem_of_getElem? (i := 60) rfl))) (by decide) (backOf (W := 0) (own_rm9 l Z a0 hw [] wUNDIRECTED kk T14.heap n0 Z14 f14_Exa_wUNDIRECTED f14_Fld_wUNDIRECTED_ordinal) hZ (hw _ (List.mem_of_getElem? (i := 62) rfl)) (hw _ (List.mem_of_getElem? (i := 1) rfl)) (by decide) (by decide)) q18a q18c (g := (mkF m 90 #[.val (.int p1), .val (.int p2), .val (.int p3), .val (.int p4), .val (.int p5), .val (.ref wUNDIRECTED), .val (.int tg), .val (.ref b12), .val (.int kk), .val (.int (1 : Int32)), .val (.int (1 : Int32)), .unset] [(.int kk), (.ref wUNDIRECTED)])) rfl (by rw [hml]; rfl) (Steps.refl _) (argsL := [(.int kk)]) (rest := []) (lenOf own_rm0_pd3 rfl) rfl (by show 2 * 0 + _ ≤ _; exact Nat.le_of_eq rfl) (hb hby at_90) (fun _ _ => ⟨rfl, e17, (by decide : 0 + 1 + 2 + 0 + 0 + 0 + 0 + 0 ≤ _), (by decide : 0 + 3 + (4 + 4) + 0 + 0 + 0 + 0 + 0 ≤ _)⟩)
    dsimp only [Pt.U, Pt.locs, Pt.cells, Pt.slots] at X18 l18 y18 z18 st18 hQ18
    subst l18 y18 z18
    obtain ⟨rfl, N18q, e18⟩ := hQ18
    have N18 := Fr.app N17 N18q
    refine own_tr (t' := T18.setTop (mkF m 93 #[.val (.int p1), .val (.int p2), .val (.int p3), .val (.int p4), .val (.int p5), .val (.ref wUNDIRECTED), .val (.int tg), .val (.ref b12), .val (.int kk), .val (.int (1 : Int32)), .val (.int (1 : Int32)), .unset] [(.int kk)])) st18 ?_
    refine own_st (t' := T18.setTop (mkF m 95 #[.val (.int p1), .val (.int p2), .val (.int p3), .val (.int p4), .val (.int p5), .val (.ref wUNDIRECTED), .val (.int tg), .val (.ref b12), .val (.int kk), .val (.int (1 : Int32)), .val (.int (1 : Int32)), .unset] [(.int kk), (.int kk)])) (fun _ k => XS.iload X18.here hx rfl (hb hby at_93) rfl k) ?_
    refine own_st (t' := T18.setTop (mkF m 98 #[.val (.int p1), .val (.int p2), .val (.int p3), .val (.int p4), .val (.int p5), .val (.ref wUNDIRECTED), .val (.int tg), .val (.ref b12), .val (.int kk), .val (.int (1 : Int32)), .val (.int (1 : Int32)), .unset] [])) (fun _ k => XS.icmpNo X18.here hx rfl (hb hby at_95) rfl (teq (rfl : kk = kk)).2 k) ?_
    refine own_st (t' := T18.setTop (mkF m 99 #[.val (.int p1), .val (.int p2), .val (.int p3), .val (.int p4), .val (.int p5), .val (.ref wUNDIRECTED), .val (.int tg), .val (.ref b12), .val (.int kk), .val (.int (1 : Int32)), .val (.int (1 : Int32)), .unset] [(.int (1 : Int32))])) (fun _ k => XS.iconst X18.here hx rfl (hb hby at_98) k) ?_
    refine own_st (t' := T18.setTop (mkF m 103 #[.val (.int p1), .val (.int p2), .val (.int p3), .val (.int p4), .val (.int p5), .val (.ref wUNDIRECTED), .val (.int tg), .val (.ref b12), .val (.int kk), .val (.int (1 : Int32)), .val (.int (1 : Int32)), .unset] [(.int (1 : Int32))])) (fun _ k => XS.goto X18.here hx rfl (pc0 := 99) (pc' := 103) rfl (hb hby at_99) (by decide) (by decide) k) ?_
    refine own_st (t' := T18.setTop (mkF m 105 #[.val (.int p1), .val (.int p2), .val (.int p3), .val (.int p4), .val (.int p5), .val (.ref wUNDIRECTED), .val (.int tg), .val (.ref b12), .val (.int kk), .val (.int (1 : Int32)), .val (.int (1 : Int32)), .val (.int (1 : Int32))] [])) (fun _ k => XS.istore X18.here hx rfl (hb hby at_103) rfl (l' := #[.val (.int p1), .val (.int p2), .val (.int p3), .val (.int p4), .val (.int p5), .val (.ref wUNDIRECTED), .val (.int tg), .val (.ref b12), .val (.int kk), .val (.int (1 : Int32)), .val (.int (1 : Int32)), .val (.int (1 : Int32))]) rfl k) ?_
    refine own_st (t' := T18.setTop (mkF m 107 #[.val (.int p1), .val (.int p2), .val (.int p3), .val (.int p4), .val (.int p5), .val (.ref wUNDIRECTED), .val (.int tg), .val (.ref b12), .val (.int kk), .val (.int (1 : Int32)), .val (.int (1 : Int32)), .val (.int (1 : Int32))] [(.int (1 : Int32))])) (fun _ k => XS.iload X18.here hx rfl (hb hby at_105) rfl k) ?_
    refine own_st (t' := T18.setTop (mkF m 109 #[.val (.int p1), .val (.int p2), .val (.int p3), .val (.int p4), .val (.int p5), .val (.ref wUNDIRECTED), .val (.int tg), .val (.ref b12), .val (.int kk), .val (.int (1 : Int32)), .val (.int (1 : Int32)), .val (.int (1 : Int32))] [(.int (1 : Int32)), (.int (1 : Int32))])) (fun _ k => XS.iload X18.here hx rfl (hb hby at_107) rfl k) ?_
    refine own_st (t' := T18.setTop (mkF m 112 #[.val (.int p1), .val (.int p2), .val (.int p3), .val (.int p4), .val (.int p5), .val (.ref wUNDIRECTED), .val (.int tg), .val (.ref b12), .val (.int kk), .val (.int (1 : Int32)), .val (.int (1 : Int32)), .val (.int (1 : Int32))] [])) (fun _ k => XS.icmpNo X18.here hx rfl (hb hby at_109) rfl (teq (rfl : (1 : Int32) = (1 : Int32))).2 k) ?_
    refine own_st (t' := T18.setTop (mkF m 114 #[.val (.int p1), .val (.int p2), .val (.int p3), .val (.int p4), .val (.int p5), .val (.ref wUNDIRECTED), .val (.int tg), .val (.ref b12), .val (.int kk), .val (.int (1 : Int32)), .val (.int (1 : Int32)), .val (.int (1 : Int32))] [(.int (1 : Int32))])) (fun _ k => XS.iload X18.here hx rfl (hb hby at_112) rfl k) ?_
    refine own_st (t' := T18.setTop (mkF m 116 #[.val (.int p1), .val (.int p2), .val (.int p3), .val (.int p4), .val (.int p5), .val (.ref wUNDIRECTED), .val (.int tg), .val (.ref b12), .val (.int kk), .val (.int (1 : Int32)), .val (.int (1 : Int32)), .val (.int (1 : Int32))] [(.int (1 : Int32)), (.int (1 : Int32))])) (fun _ k => XS.iload X18.here hx rfl (hb hby at_114) rfl k) ?_
    refine own_st (t' := T18.setTop (mkF m 119 #[.val (.int p1), .val (.int p2), .val (.int p3), .val (.int p4), .val (.int p5), .val (.ref wUNDIRECTED), .val (.int tg), .val (.ref b12), .val (.int kk), .val (.int (1 : Int32)), .val (.int (1 : Int32)), .val (.int (1 : Int32))] [])) (fun _ k => XS.icmpNo X18.here hx rfl (hb hby at_116) rfl (teq (rfl : (1 : Int32) = (1 : Int32))).2 k) ?_
    refine own_st (t' := T18.setTop (mkF m 120 #[.val (.int p1), .val (.int p2), .val (.int p3), .val (.int p4), .val (.int p5), .val (.ref wUNDIRECTED), .val (.int tg), .val (.ref b12), .val (.int kk), .val (.int (1 : Int32)), .val (.int (1 : Int32)), .val (.int (1 : Int32))] [(.int (1 : Int32))])) (fun _ k => XS.iconst X18.here hx rfl (hb hby at_119) k) ?_
    refine own_st (t' := T18.setTop (mkF m 124 #[.val (.int p1), .val (.int p2), .val (.int p3), .val (.int p4), .val (.int p5), .val (.ref wUNDIRECTED), .val (.int tg), .val (.ref b12), .val (.int kk), .val (.int (1 : Int32)), .val (.int (1 : Int32)), .val (.int (1 : Int32))] [(.int (1 : Int32))])) (fun _ k => XS.goto X18.here hx rfl (pc0 := 120) (pc' := 124) rfl (hb hby at_120) (by decide) (by decide) k) ?_
    have hv19 : (1 : Int32) = (1 : Int32) := rfl
    obtain ⟨fs, hr, hrun, hended, hEnd⟩ := Stand.leaveW (s := s) (vm₁ := T13.vm) X18 hSi (by rw [e18]; exact hki) (v := some (.int (1 : Int32))) (fun h => by rw [Bd.returns] at h; cases h)
    exact ⟨_, _, retN X18 hx (t := .boolean) Bd.returns (by simp) (hb hby at_124) hr, hrun, hended, hP _ _ ⟨_, _, rfl, ⟨(congrArg (fun z => some (Value.int z)) hv19), N18⟩, ⟨_, rfl⟩, hEnd.2.1, hEnd.2.2.1, hEnd.2.2.2.mono (by decide) (by decide)⟩⟩

set_option maxRecDepth 65536 in
set_option maxHeartbeats 40000000 in
theorem comes_1 {Post : Tables → Env → Array Value → State → Outcome → State → Prop} (hpost : ∀ tb e args s v u, (limb_1_1.after args s (.returned v) u = true ∧ limb_1_2.after args s (.returned v) u = true ∧ True) → ReturnedEndW s (.returned v) u (Jvm.fieldLocs frame_1_writes args s ++ Jvm.arrayLocs frame_1_arrays args s ++ Jvm.staticLocs frame_1_statics s) 16 1152 → Post tb e args s (.returned v) u) :
    ArmFor flags0 classFile x code maxLocals ret World_1 tables_1 room_1 Calls_1 rest_1 Pre_1 Post := by
  intro l hfl _ _ p e ha hc hk s m args below hf hA hF happ hP
  obtain ⟨hcalls, hrest, hpre⟩ := hP
  obtain ⟨-, -, -, hnamed, -, -, -, hat⟩ := (Spec.applies_iff hf).mp happ
  obtain ⟨hg, hn⟩ := and_e (Cond.before_iff.mp (show (Jvm.Cond.and given_1 narrow_1).before args s = true from hpre))
  obtain ⟨hcnt, hg0⟩ := and_e hg
  obtain ⟨ga0, hg1⟩ := and_e hg0
  obtain ⟨ga1, hg2⟩ := and_e hg1
  obtain ⟨ga2, hg3⟩ := and_e hg2
  obtain ⟨ga3, hg4⟩ := and_e hg3
  obtain ⟨w0, w1, w2, w3, w4, rfl⟩ : ∃ w0 w1 w2 w3 w4 : Value, args = #[w0, w1, w2, w3, w4] := by
    have hs : args.size = 5 := by simpa [Cond.value, given_1] using hcnt
    obtain ⟨L⟩ := args
    match L, hs with
    | [w0, w1, w2, w3, w4], _ => exact ⟨w0, w1, w2, w3, w4, rfl⟩
  have hw := fun d (hd : d ∈ tables_1) => atoms_spec (ws := Jvm.Cond.code x code maxLocals ret :: tables_1) hat d (List.mem_cons_of_mem _ hd)
  have hfit : Fit s := fun {y c} hc i hi => by
    obtain ⟨ha, rfl⟩ := Array.getElem?_eq_some_iff.mp hc
    have q := List.all_eq_true.mp ((Array.all_eq_true_iff_forall_mem.mp hF) _ (Array.getElem_mem ha)) i (List.mem_range.mpr hi)
    simpa [Array.getElem?_eq_getElem hi] using q
  obtain ⟨i0, ei0⟩ := is_v ga0
  obtain rfl : w0 = (.int i0) := Option.some.inj ei0
  obtain ⟨i1, ei1⟩ := is_v ga1
  obtain rfl : w1 = (.int i1) := Option.some.inj ei1
  obtain ⟨i2, ei2⟩ := is_v ga2
  obtain rfl : w2 = (.int i2) := Option.some.inj ei2
  obtain ⟨i3, ei3⟩ := is_v ga3
  obtain rfl : w3 = (.int i3) := Option.some.inj ei3
  obtain ⟨i4, ei4⟩ := is_v hg4
  obtain rfl : w4 = (.int i4) := Option.some.inj ei4
  obtain ⟨k0, kr_0⟩ := and_e hn
  obtain ⟨k1, kr_1⟩ := and_e kr_0
  obtain ⟨k2, kr_2⟩ := and_e kr_1
  have k3 := kr_2
  obtain ⟨wD, eD, SD, ED⟩ := own_enum k0 (Or.inr ⟨(hw _ (List.mem_of_getElem? (i := 1) rfl)), (hw _ (List.mem_of_getElem? (i := 2) rfl))⟩)
  obtain ⟨wU, eU, SU, EU⟩ := own_enum k1 (Or.inr ⟨(hw _ (List.mem_of_getElem? (i := 1) rfl)), (hw _ (List.mem_of_getElem? (i := 38) rfl))⟩)
  have hne := own_ne (own_ord eD k2) (own_ord eU k3) (by decide)
  have OD := Fld.start (own_ord eD k2)
  have OU := Fld.start (own_ord eU k3)
  obtain ⟨n, o, h1, h2, h3, _, L, rfl, ⟨rfl, N⟩, hq⟩ := own_rm0 l s _ hw tables_1 i0 i1 i2 i3 i4 wD wU s.heap s.heap.size (Nat.le_refl _) SD SU ED EU OD OU hne p e ha hc hk s m _ below hf ((Spec.applies_iff_loose hf).mp happ).1 ⟨rfl, State.Warmed39.refl s, rfl⟩ trivial
  refine ⟨n, _, h1, h2, h3, hpost _ _ _ _ _ _ ⟨Cond.after_iff.mpr rfl, Cond.after_iff.mpr (eq_i res_at (Term.int_eval (1)) rfl), trivial⟩ ⟨hq.1, hq.2.1, hq.2.2.1, (hq.2.2.2.sift fun y hy => Or.inr (N y hy)).mono (by decide) (by decide)⟩⟩
theorem main_1_1 : Claimed_1_1 := comes_1 fun _ _ _ _ _ _ h hF => ⟨h.1, hF⟩
theorem main_1_2 : Claimed_1_2 := comes_1 fun _ _ _ _ _ _ h hF => ⟨h.2.1, hF⟩
end Jvm.Pilot.@@N@@
namespace Jvm.Pilot.@@N@@
open Jvm Jvm.ClassFile Sem Op Lib Jvm.Free Jvm.Stand Jvm.Pilot.@@N@@.Jvm.D
/-! MADE BY PROGRAM (witnessworld.py) out of the Statement's table words and the real class files: 17 classes; the members and pool entries that the words name. The judged class is class 1, her method 1. -/
namespace start1
open Jvm.ClassFile
def u (s : String) : CpInfo := .utf8 (stringToUtf16 s)
/-- a pool by its gaps: so many unusable entries, then the entry; so many at the end -/
def gap : Nat → List CpInfo → List CpInfo
  | 0, r => r
  | n + 1, r => .unusable :: gap n r
def poolList (es : List (Nat × CpInfo)) (last : Nat) : List CpInfo := es.foldr (fun e r => gap e.1 (e.2 :: r)) (gap last [])
def pool (es : List (Nat × CpInfo)) (last : Nat) : Array CpInfo := ⟨poolList es last⟩
def fileOf (pool : Array CpInfo) (this : Nat) (attrs : Array Attribute := #[]) (ms : Array MethodInfo := #[]) (fl : Nat := 33) (sup : Nat := 0) (ifs : Array Nat := #[]) (fds : Array FieldInfo := #[]) : ClassFile where
  minorVersion := 0
  majorVersion := 65
  constantPool := pool
  accessFlags := fl
  thisClass := this
  superClass := sup
  interfaces := ifs
  fields := fds
  methods := ms
  attributes := attrs
def plain (name : String) (sup : Option ClassId) : Class where
  name := name
  kind := .ordinary
  loader := none
  accessFlags := 33
  super := sup
  interfaces := #[]
  cf := none
  fields := #[]
  methods := #[]
  instanceTypes := #[]
  staticTypes := #[]
  resolved := #[]
  callSites := []
  init := .initialized
  statics := none
  mirror := none

def pool0 : Array CpInfo := pool [(5, u "<init>"), (0, u "()V"), (1, .class_ 10), (1, u "java/lang/Object")] 113

def k0c0 : Code := { maxStack := 0, maxLocals := 1, code := object_method_1_code, exceptionTable := #[], attributes := #[] }
def k0m0 : Method := { name := "<init>", desc := "()V", sig := { parameters := [], returnType := none }, accessFlags := 1, code := some k0c0 }
/-- java/lang/Object -/
def k0 : Class := { plain "java/lang/Object" none with
  accessFlags := 33
  interfaces := #[]
  cf := some (fileOf pool0 8 #[] #[{ accessFlags := 1, nameIndex := 5, descriptorIndex := 6, attributes := #[] }] 33 0 #[] #[])
  fields := #[]
  methods := #[k0m0]
  instanceTypes := #[]
  staticTypes := #[]
  resolved := Array.replicate 124 none
  statics := none }

def pool1 : Array CpInfo := pool [(2, .class_ 4), (1, u "java/lang/Object"), (0, u "<init>"), (0, u "()V"), (0, .fieldref 8 9), (0, .class_ 10), (0, .nameAndType 11 12), (0, u "com/example/lambdaloom/lambdaloom/ChannelModel"), (0, u "DIRECTED"), (0, u "Lcom/example/lambdaloom/lambdaloom/ChannelModel;"), (0, .fieldref 8 14), (0, .nameAndType 15 12), (0, u "UNDIRECTED"), (0, .integer 1073741823), (0, .class_ 18), (0, u "com/example/lambdaloom/lambdaloom/Network$Link"), (0, .string 20), (0, u "l"), (0, .methodref 17 22), (0, .nameAndType 5 23), (0, u "(Ljava/lang/String;II)V"), (0, .methodref 8 25), (0, .nameAndType 26 27), (0, u "sameFibresBothWays"), (0, u "()Z"), (0, .methodref 8 29), (0, .nameAndType 30 31), (0, u "fibre"), (0, u "(Lcom/example/lambdaloom/lambdaloom/Network$Link;II)I"), (0, .methodref 8 33), (0, .nameAndType 34 35), (0, u "fibreCount"), (0, u "(I)I"), (0, .class_ 37), (0, u "com/example/lambdaloom/lambdaloom/ChannelModelSameFibresBothWaysPinLaw"), (2, u "law"), (0, u "(IIIII)Z")] 7

def k1m0 : Method := { name := "<init>", desc := "()V", sig := { parameters := [], returnType := none }, accessFlags := 1, code := none }
def k1c1 : Code := { maxStack := 5, maxLocals := 12, code := code, exceptionTable := #[], attributes := #[] }
def k1m1 : Method := { name := "law", desc := "(IIIII)Z", sig := { parameters := [.int, .int, .int, .int, .int], returnType := some .boolean }, accessFlags := 9, code := some k1c1 }
/-- com/example/lambdaloom/lambdaloom/ChannelModelSameFibresBothWaysPinLaw -/
def k1 : Class := { plain "com/example/lambdaloom/lambdaloom/ChannelModelSameFibresBothWaysPinLaw" (some 0) with
  accessFlags := 49
  interfaces := #[]
  cf := some (fileOf pool1 36 #[] #[{ accessFlags := 1, nameIndex := 5, descriptorIndex := 6, attributes := #[] }, { accessFlags := 9, nameIndex := 40, descriptorIndex := 41, attributes := #[] }] 49 2 #[] #[])
  fields := #[]
  methods := #[k1m0, k1m1]
  instanceTypes := #[]
  staticTypes := #[]
  resolved := Array.replicate 49 none
  statics := none }

def pool2 : Array CpInfo := pool [(1, .class_ 2), (0, u "java/lang/constant/Constable"), (0, .class_ 4), (0, u "java/lang/Object")] 6

/-- java/lang/constant/Constable -/
def k2 : Class := { plain "java/lang/constant/Constable" (some 0) with
  accessFlags := 1537
  interfaces := #[]
  cf := some (fileOf pool2 1 #[] #[] 1537 3 #[] #[])
  fields := #[]
  methods := #[]
  instanceTypes := #[]
  staticTypes := #[]
  resolved := Array.replicate 11 none
  statics := none }

def pool3 : Array CpInfo := pool [(1, .class_ 2), (0, u "java/lang/Comparable"), (0, .class_ 4), (0, u "java/lang/Object")] 7

/-- java/lang/Comparable -/
def k3 : Class := { plain "java/lang/Comparable" (some 0) with
  accessFlags := 1537
  interfaces := #[]
  cf := some (fileOf pool3 1 #[] #[] 1537 3 #[] #[])
  fields := #[]
  methods := #[]
  instanceTypes := #[]
  staticTypes := #[]
  resolved := Array.replicate 12 none
  statics := none }

def pool4 : Array CpInfo := pool [(1, .class_ 2), (0, u "java/io/Serializable"), (0, .class_ 4), (0, u "java/lang/Object")] 2

/-- java/io/Serializable -/
def k4 : Class := { plain "java/io/Serializable" (some 0) with
  accessFlags := 1537
  interfaces := #[]
  cf := some (fileOf pool4 1 #[] #[] 1537 3 #[] #[])
  fields := #[]
  methods := #[]
  instanceTypes := #[]
  staticTypes := #[]
  resolved := Array.replicate 7 none
  statics := none }

def pool5 : Array CpInfo := pool [(2, .class_ 4), (1, u "java/lang/Enum"), (0, u "name"), (0, u "Ljava/lang/String;"), (0, .fieldref 2 8), (0, .nameAndType 9 10), (0, u "ordinal"), (0, u "I"), (1, .class_ 14), (1, u "java/lang/Object"), (4, u "hash"), (86, .class_ 108), (1, u "java/lang/Enum$EnumDesc"), (2, .class_ 112), (0, u "java/lang/constant/Constable"), (0, .class_ 114), (0, u "java/lang/Comparable"), (0, .class_ 116), (0, u "java/io/Serializable"), (9, u "()I")] 77

def k5c0 : Code := { maxStack := 1, maxLocals := 1, code := jdk_37_method_2_code, exceptionTable := #[], attributes := #[] }
def k5m0 : Method := { name := "ordinal", desc := "()I", sig := { parameters := [], returnType := some .int }, accessFlags := 17, code := some k5c0 }
/-- java/lang/Enum -/
def k5 : Class := { plain "java/lang/Enum" (some 0) with
  accessFlags := 1057
  interfaces := #[2, 3, 4]
  cf := some (fileOf pool5 2 #[.nestMembers #[106]] #[{ accessFlags := 17, nameIndex := 9, descriptorIndex := 126, attributes := #[] }] 1057 12 #[111, 113, 115] #[{ accessFlags := 18, nameIndex := 5, descriptorIndex := 6, attributes := #[] }, { accessFlags := 18, nameIndex := 9, descriptorIndex := 10, attributes := #[] }, { accessFlags := 2, nameIndex := 19, descriptorIndex := 10, attributes := #[] }])
  fields := #[{ name := "name", type := (.object "java/lang/String"), accessFlags := 18, slot := 0, constantValue := 0 }, { name := "ordinal", type := .int, accessFlags := 18, slot := 1, constantValue := 0 }, { name := "hash", type := .int, accessFlags := 2, slot := 2, constantValue := 0 }]
  methods := #[k5m0]
  instanceTypes := #[(.object "java/lang/String"), .int, .int]
  staticTypes := #[]
  resolved := Array.replicate 204 none
  statics := none }

def pool6 : Array CpInfo := pool [(1, .class_ 2), (0, u "com/example/lambdaloom/lambdaloom/ChannelModel"), (2, u "DIRECTED"), (0, u "Lcom/example/lambdaloom/lambdaloom/ChannelModel;"), (0, .fieldref 1 8), (0, .nameAndType 9 6), (0, u "UNDIRECTED"), (2, u "$VALUES"), (0, u "[Lcom/example/lambdaloom/lambdaloom/ChannelModel;"), (6, .class_ 22), (1, u "java/lang/Enum"), (12, .methodref 1 36), (0, .nameAndType 37 38), (0, u "ordinal"), (0, u "()I"), (5, .methodref 45 46), (0, .class_ 47), (0, .nameAndType 48 38), (0, u "com/example/lambdaloom/lambdaloom/Network$Link"), (0, u "source"), (27, u "fibre"), (0, u "(Lcom/example/lambdaloom/lambdaloom/Network$Link;II)I"), (15, u "sameFibresBothWays"), (0, u "()Z"), (1, u "fibreCount"), (0, u "(I)I")] 11

def k6c0 : Code := { maxStack := 2, maxLocals := 1, code := prog_3_method_5_code, exceptionTable := #[], attributes := #[] }
def k6m0 : Method := { name := "sameFibresBothWays", desc := "()Z", sig := { parameters := [], returnType := some .boolean }, accessFlags := 0, code := some k6c0 }
def k6c1 : Code := { maxStack := 4, maxLocals := 2, code := prog_3_method_6_code, exceptionTable := #[], attributes := #[] }
def k6m1 : Method := { name := "fibreCount", desc := "(I)I", sig := { parameters := [.int], returnType := some .int }, accessFlags := 0, code := some k6c1 }
def k6c2 : Code := { maxStack := 4, maxLocals := 4, code := prog_3_method_7_code, exceptionTable := #[], attributes := #[] }
def k6m2 : Method := { name := "fibre", desc := "(Lcom/example/lambdaloom/lambdaloom/Network$Link;II)I", sig := { parameters := [(.object "com/example/lambdaloom/lambdaloom/Network$Link"), .int, .int], returnType := some .int }, accessFlags := 0, code := some k6c2 }
/-- com/example/lambdaloom/lambdaloom/ChannelModel -/
def k6 : Class := { plain "com/example/lambdaloom/lambdaloom/ChannelModel" (some 5) with
  accessFlags := 16432
  interfaces := #[]
  cf := some (fileOf pool6 1 #[] #[{ accessFlags := 0, nameIndex := 93, descriptorIndex := 94, attributes := #[] }, { accessFlags := 0, nameIndex := 96, descriptorIndex := 97, attributes := #[] }, { accessFlags := 0, nameIndex := 76, descriptorIndex := 77, attributes := #[] }] 16432 20 #[] #[{ accessFlags := 16409, nameIndex := 5, descriptorIndex := 6, attributes := #[] }, { accessFlags := 16409, nameIndex := 9, descriptorIndex := 6, attributes := #[] }, { accessFlags := 4122, nameIndex := 12, descriptorIndex := 13, attributes := #[] }])
  fields := #[{ name := "DIRECTED", type := (.object "com/example/lambdaloom/lambdaloom/ChannelModel"), accessFlags := 16409, slot := 0, constantValue := 0 }, { name := "UNDIRECTED", type := (.object "com/example/lambdaloom/lambdaloom/ChannelModel"), accessFlags := 16409, slot := 1, constantValue := 0 }, { name := "$VALUES", type := (.array (.object "com/example/lambdaloom/lambdaloom/ChannelModel")), accessFlags := 4122, slot := 2, constantValue := 0 }]
  methods := #[k6m0, k6m1, k6m2]
  instanceTypes := #[(.object "java/lang/String"), .int, .int]
  staticTypes := #[(.object "com/example/lambdaloom/lambdaloom/ChannelModel"), (.object "com/example/lambdaloom/lambdaloom/ChannelModel"), (.array (.object "com/example/lambdaloom/lambdaloom/ChannelModel"))]
  resolved := Array.replicate 109 none
  statics := some 0 }

def pool7 : Array CpInfo := pool [(1, .methodref 2 3), (0, .class_ 4), (0, .nameAndType 5 6), (0, u "java/lang/Object"), (0, u "<init>"), (0, u "()V"), (0, .class_ 8), (0, u "java/lang/Record")] 13

def k7c0 : Code := { maxStack := 1, maxLocals := 1, code := jdk_30_method_1_code, exceptionTable := #[], attributes := #[] }
def k7m0 : Method := { name := "<init>", desc := "()V", sig := { parameters := [], returnType := none }, accessFlags := 4, code := some k7c0 }
/-- java/lang/Record -/
def k7 : Class := { plain "java/lang/Record" (some 0) with
  accessFlags := 1057
  interfaces := #[]
  cf := some (fileOf pool7 7 #[] #[{ accessFlags := 4, nameIndex := 5, descriptorIndex := 6, attributes := #[] }] 1057 2 #[] #[])
  fields := #[]
  methods := #[k7m0]
  instanceTypes := #[]
  staticTypes := #[]
  resolved := Array.replicate 22 none
  statics := none }

def pool8 : Array CpInfo := pool [(1, .methodref 2 3), (0, .class_ 4), (0, .nameAndType 5 6), (0, u "java/lang/Record"), (0, u "<init>"), (0, u "()V"), (0, .fieldref 8 9), (0, .class_ 10), (0, .nameAndType 11 12), (0, u "com/example/lambdaloom/lambdaloom/Network$Link"), (0, u "id"), (0, u "Ljava/lang/String;"), (0, .fieldref 8 14), (0, .nameAndType 15 16), (0, u "source"), (0, u "I"), (0, .fieldref 8 18), (0, .nameAndType 19 16), (0, u "target"), (12, u "(Ljava/lang/String;II)V"), (4, u "()I"), (4, .class_ 43), (0, u "com/example/lambdaloom/lambdaloom/Network")] 21

def k8c0 : Code := { maxStack := 2, maxLocals := 4, code := prog_15_method_1_code, exceptionTable := #[], attributes := #[] }
def k8m0 : Method := { name := "<init>", desc := "(Ljava/lang/String;II)V", sig := { parameters := [(.object "java/lang/String"), .int, .int], returnType := none }, accessFlags := 0, code := some k8c0 }
def k8c1 : Code := { maxStack := 1, maxLocals := 1, code := prog_15_method_6_code, exceptionTable := #[], attributes := #[] }
def k8m1 : Method := { name := "source", desc := "()I", sig := { parameters := [], returnType := some .int }, accessFlags := 1, code := some k8c1 }
/-- com/example/lambdaloom/lambdaloom/Network$Link -/
def k8 : Class := { plain "com/example/lambdaloom/lambdaloom/Network$Link" (some 7) with
  accessFlags := 48
  interfaces := #[]
  cf := some (fileOf pool8 8 #[.nestHost 42] #[{ accessFlags := 0, nameIndex := 5, descriptorIndex := 32, attributes := #[] }, { accessFlags := 1, nameIndex := 15, descriptorIndex := 37, attributes := #[] }] 48 2 #[] #[{ accessFlags := 18, nameIndex := 11, descriptorIndex := 12, attributes := #[] }, { accessFlags := 18, nameIndex := 15, descriptorIndex := 16, attributes := #[] }, { accessFlags := 18, nameIndex := 19, descriptorIndex := 16, attributes := #[] }])
  fields := #[{ name := "id", type := (.object "java/lang/String"), accessFlags := 18, slot := 0, constantValue := 0 }, { name := "source", type := .int, accessFlags := 18, slot := 1, constantValue := 0 }, { name := "target", type := .int, accessFlags := 18, slot := 2, constantValue := 0 }]
  methods := #[k8m0, k8m1]
  instanceTypes := #[(.object "java/lang/String"), .int, .int]
  staticTypes := #[]
  resolved := Array.replicate 65 none
  statics := none }

def pool9 : Array CpInfo := pool [(2, .class_ 4), (1, u "java/lang/CharSequence"), (42, .class_ 48), (0, u "java/lang/CharSequence$1CodePointIterator"), (10, .class_ 60), (0, u "java/lang/CharSequence$1CharIterator"), (5, .class_ 67), (0, u "java/lang/Object")] 63

/-- java/lang/CharSequence -/
def k9 : Class := { plain "java/lang/CharSequence" (some 0) with
  accessFlags := 1537
  interfaces := #[]
  cf := some (fileOf pool9 2 #[.nestMembers #[47, 59]] #[] 1537 66 #[] #[])
  fields := #[]
  methods := #[]
  instanceTypes := #[]
  staticTypes := #[]
  resolved := Array.replicate 131 none
  statics := none }

def pool10 : Array CpInfo := pool [(1, .class_ 2), (0, u "java/lang/constant/ConstantDesc"), (0, .class_ 4), (0, u "java/lang/Object")] 32

/-- java/lang/constant/ConstantDesc -/
def k10 : Class := { plain "java/lang/constant/ConstantDesc" (some 0) with
  accessFlags := 1537
  interfaces := #[]
  cf := some (fileOf pool10 1 #[] #[] 1537 3 #[] #[])
  fields := #[]
  methods := #[]
  instanceTypes := #[]
  staticTypes := #[]
  resolved := Array.replicate 37 none
  statics := none }

def pool11 : Array CpInfo := pool [(2, .class_ 4), (1, u "java/lang/Object"), (0, u "<init>"), (0, u "()V"), (3, .class_ 12), (1, u "java/lang/String"), (0, u "value"), (0, u "[B"), (2, u "coder"), (0, u "B"), (2, u "hash"), (0, u "I"), (2, u "hashIsZero"), (0, u "Z"), (13, u "COMPACT_STRINGS"), (534, .class_ 576), (0, u "java/lang/CharSequence"), (22, u "CASE_INSENSITIVE_ORDER"), (0, u "Ljava/util/Comparator;"), (500, u "serialPersistentFields"), (0, u "[Ljava/io/ObjectStreamField;"), (0, .class_ 1104), (0, u "java/lang/String$CaseInsensitiveComparator"), (1, .class_ 1107), (0, u "java/io/Serializable"), (0, .class_ 1109), (0, u "java/lang/Comparable"), (0, .class_ 1111), (0, u "java/lang/constant/Constable"), (0, .class_ 1113), (0, u "java/lang/constant/ConstantDesc"), (2, u "serialVersionUID"), (0, u "J"), (3, u "REPL"), (0, u "C"), (2, u "LATIN1"), (1, u "UTF16")] 323

def k11m0 : Method := { name := "<init>", desc := "()V", sig := { parameters := [], returnType := none }, accessFlags := 1, code := none }
/-- java/lang/String -/
def k11 : Class := { plain "java/lang/String" (some 0) with
  accessFlags := 49
  interfaces := #[4, 3, 9, 2, 10]
  cf := some (fileOf pool11 10 #[.nestMembers #[1103]] #[{ accessFlags := 1, nameIndex := 5, descriptorIndex := 6, attributes := #[] }] 49 2 #[1106, 1108, 575, 1110, 1112] #[{ accessFlags := 18, nameIndex := 13, descriptorIndex := 14, attributes := #[] }, { accessFlags := 18, nameIndex := 17, descriptorIndex := 18, attributes := #[] }, { accessFlags := 2, nameIndex := 21, descriptorIndex := 22, attributes := #[] }, { accessFlags := 2, nameIndex := 25, descriptorIndex := 26, attributes := #[] }, { accessFlags := 26, nameIndex := 1116, descriptorIndex := 1117, attributes := #[] }, { accessFlags := 24, nameIndex := 40, descriptorIndex := 26, attributes := #[] }, { accessFlags := 26, nameIndex := 1101, descriptorIndex := 1102, attributes := #[] }, { accessFlags := 26, nameIndex := 1121, descriptorIndex := 1122, attributes := #[] }, { accessFlags := 25, nameIndex := 599, descriptorIndex := 600, attributes := #[] }, { accessFlags := 24, nameIndex := 1125, descriptorIndex := 18, attributes := #[] }, { accessFlags := 24, nameIndex := 1127, descriptorIndex := 18, attributes := #[] }])
  fields := #[{ name := "value", type := (.array .byte), accessFlags := 18, slot := 0, constantValue := 0 }, { name := "coder", type := .byte, accessFlags := 18, slot := 1, constantValue := 0 }, { name := "hash", type := .int, accessFlags := 2, slot := 2, constantValue := 0 }, { name := "hashIsZero", type := .boolean, accessFlags := 2, slot := 3, constantValue := 0 }, { name := "serialVersionUID", type := .long, accessFlags := 26, slot := 0, constantValue := 0 }, { name := "COMPACT_STRINGS", type := .boolean, accessFlags := 24, slot := 1, constantValue := 0 }, { name := "serialPersistentFields", type := (.array (.object "java/io/ObjectStreamField")), accessFlags := 26, slot := 2, constantValue := 0 }, { name := "REPL", type := .char, accessFlags := 26, slot := 3, constantValue := 0 }, { name := "CASE_INSENSITIVE_ORDER", type := (.object "java/util/Comparator"), accessFlags := 25, slot := 4, constantValue := 0 }, { name := "LATIN1", type := .byte, accessFlags := 24, slot := 5, constantValue := 0 }, { name := "UTF16", type := .byte, accessFlags := 24, slot := 6, constantValue := 0 }]
  methods := #[k11m0]
  instanceTypes := #[(.array .byte), .byte, .int, .boolean]
  staticTypes := #[.long, .boolean, (.array (.object "java/io/ObjectStreamField")), .char, (.object "java/util/Comparator"), .byte, .byte]
  resolved := Array.replicate 1451 none
  statics := none }

def pool12 : Array CpInfo := pool [(1, u "java/lang/Cloneable"), (0, .class_ 1), (0, u "java/lang/Object"), (0, .class_ 3)] 3

/-- java/lang/Cloneable -/
def k12 : Class := { plain "java/lang/Cloneable" (some 0) with
  accessFlags := 1537
  interfaces := #[]
  cf := some (fileOf pool12 2 #[] #[] 1537 4 #[] #[])
  fields := #[]
  methods := #[]
  instanceTypes := #[]
  staticTypes := #[]
  resolved := Array.replicate 8 none
  statics := none }

/-- the primitive byte -/
def k13 : Class := { plain "byte" none with kind := .primitive 'B', accessFlags := 0x411 }
/-- [B -/
def k14 : Class := { plain "[B" (some 0) with kind := .array 13 .byte, interfaces := #[12, 4], accessFlags := 1041 }

/-- the primitive int -/
def k15 : Class := { plain "int" none with kind := .primitive 'I', accessFlags := 0x411 }
/-- [I -/
def k16 : Class := { plain "[I" (some 0) with kind := .array 15 .int, interfaces := #[12, 4], accessFlags := 1041 }

def heap : Heap := #[{ cls := 6, slots := #[.ref 1, .ref 2, .null], vm := .statics 6 },
  { cls := 6, slots := #[.null, .int 0, .int 0], vm := .none },
  { cls := 6, slots := #[.null, .int 1, .int 0], vm := .none }]
def classes : Array Class := #[k0, k1, k2, k3, k4, k5, k6, k7, k8, k9, k10, k11, k12, k13, k14, k15, k16]
def interned : List (Array UInt16 × Addr) := []
def slotsUsed : Nat := 9
def theMethod : MethodId := ⟨1, 1⟩
def args0 : Array Value := #[.int 5, .int 5, .int 5, .int 5, .int 5]
def aboutOver (below : List Frame) : State where
  vm := { classes := classes, interned := interned.toArray }
  heap := heap
  slotsUsed := slotsUsed
  threads := #[{ frames := .invoking theMethod args0 :: below }]
def below0 : List Frame := [.native { method := ⟨0, 0⟩, args := #[] }]
def about1 : State := aboutOver below0
def p0 : Program := .bare "" "" ""
def e0 : Env := launch0.env 0 0 0
theorem w_frames : about1.frames = Frame.invoking theMethod args0 :: below0 := rfl
set_option maxRecDepth 65536 in
theorem w_args : argsFit about1.vm theMethod args0 = true := by decide +kernel
set_option maxRecDepth 65536 in
theorem w_heap : heapFits about1 = true := by decide +kernel
set_option maxRecDepth 65536 in
theorem w_runnable : about1.curStatus? = some .runnable := by decide +kernel
set_option maxRecDepth 65536 in
theorem w_alone : about1.alone = true := by decide +kernel
set_option maxRecDepth 65536 in
theorem w_named : about1.methodNamed? x = some theMethod := by decide +kernel
set_option maxRecDepth 65536 in
theorem w_hears : about1.hears theMethod below0 = true := by decide +kernel
set_option maxRecDepth 65536 in
theorem w_ripe : about1.ripe theMethod args0 below0 = true := by decide +kernel
theorem w_running : about1.status = .running := rfl
set_option maxRecDepth 65536 in
theorem w_room : about1.hasRoom e0.platform room_1 = true :=
  launch0.hasRoom_least _ room_1 (by decide +kernel) (by decide +kernel) (by decide +kernel) (by decide +kernel) (by decide +kernel) (by decide +kernel)
theorem allAtoms_all (ts : List Jvm.Cond) (a : Array Jvm.Value) (st : Jvm.State) : (allAtoms ts).before a st = ts.all (fun c => c.before a st) := by
  induction ts with
  | nil => rfl
  | cons c t ih =>
    show (Jvm.Cond.and c (allAtoms t)).before a st = _
    rw [Jvm.Cond.before_and, ih, List.all_cons]
def words1 : List Jvm.Cond := Jvm.Cond.code x code maxLocals ret :: tables_1
/-- a 'code' word, met by the world's own term for the bytes: nothing is compared byte by byte -/
theorem code_word {y : MethodName} {bytes : ByteArray} {mx : Nat} {rt : Option FieldType} {a : Array Value} {s : State} {m : MethodId} {meth : Method} {c : Code} (h1 : s.methodNamed? y = some m) (h2 : s.vm.method? m = some meth) (h3 : meth.code = some c) (h4 : c.code = bytes)
    (h5 : (c.maxLocals == mx && c.exceptionTable.isEmpty && decide (c.maxStack ≤ mostOperands) && decide (meth.sig.returnType = rt) && !meth.locks && decide (parseMethodDescriptor y.desc = some meth.sig)) = true) : (Jvm.Cond.code y bytes mx rt).before a s = true := by
  simp only [Bool.and_eq_true, beq_iff_eq, Bool.not_eq_true', decide_eq_true_eq] at h5
  obtain ⟨⟨⟨⟨⟨g1, g2⟩, g3⟩, g4⟩, g5⟩, g6⟩ := h5
  simp [Cond.before, Cond.holds, Cond.value, h1, h2, h3, h4, g1, g2, g3, g4, g5, g6]
def isCode : Jvm.Cond → Bool
  | .code _ _ _ _ => true
  | _ => false
theorem all_split {L : List Jvm.Cond} {P : Jvm.Cond → Bool} (h1 : L.all (fun c => isCode c || P c) = true) (h2 : ∀ c ∈ L.filter isCode, P c = true) : L.all P = true := by
  refine List.all_eq_true.mpr fun c hc => ?_
  have h := List.all_eq_true.mp h1 c hc
  rcases Bool.eq_false_or_eq_true (isCode c) with hi | hi
  · exact h2 c (List.mem_filter.mpr ⟨hc, hi⟩)
  · simpa [hi] using h
set_option maxRecDepth 65536 in
theorem w_c0 : (Jvm.Cond.code x code maxLocals ret).before args0 about1 = true := code_word (m := ⟨1, 1⟩) (meth := k1m1) (c := k1c1) (by decide +kernel) rfl rfl rfl (by decide +kernel)
set_option maxRecDepth 65536 in
theorem w_c1 : (Jvm.Cond.code ({ cls := "com/example/lambdaloom/lambdaloom/Network$Link", name := "<init>", desc := "(Ljava/lang/String;II)V" } : Jvm.MethodName) prog_15_method_1_code (4 : Nat) (Option.none : Option Jvm.ClassFile.FieldType)).before args0 about1 = true := code_word (m := ⟨8, 0⟩) (meth := k8m0) (c := k8c0) (by decide +kernel) rfl rfl rfl (by decide +kernel)
set_option maxRecDepth 65536 in
theorem w_c2 : (Jvm.Cond.code ({ cls := "java/lang/Record", name := "<init>", desc := "()V" } : Jvm.MethodName) jdk_30_method_1_code (1 : Nat) (Option.none : Option Jvm.ClassFile.FieldType)).before args0 about1 = true := code_word (m := ⟨7, 0⟩) (meth := k7m0) (c := k7c0) (by decide +kernel) rfl rfl rfl (by decide +kernel)
set_option maxRecDepth 65536 in
theorem w_c3 : (Jvm.Cond.code ({ cls := "java/lang/Object", name := "<init>", desc := "()V" } : Jvm.MethodName) object_method_1_code (1 : Nat) (Option.none : Option Jvm.ClassFile.FieldType)).before args0 about1 = true := code_word (m := ⟨0, 0⟩) (meth := k0m0) (c := k0c0) (by decide +kernel) rfl rfl rfl (by decide +kernel)
set_option maxRecDepth 65536 in
theorem w_c4 : (Jvm.Cond.code ({ cls := "com/example/lambdaloom/lambdaloom/ChannelModel", name := "sameFibresBothWays", desc := "()Z" } : Jvm.MethodName) prog_3_method_5_code (1 : Nat) (Option.some Jvm.ClassFile.FieldType.boolean)).before args0 about1 = true := code_word (m := ⟨6, 0⟩) (meth := k6m0) (c := k6c0) (by decide +kernel) rfl rfl rfl (by decide +kernel)
set_option maxRecDepth 65536 in
theorem w_c5 : (Jvm.Cond.code ({ cls := "com/example/lambdaloom/lambdaloom/ChannelModel", name := "fibre", desc := "(Lcom/example/lambdaloom/lambdaloom/Network$Link;II)I" } : Jvm.MethodName) prog_3_method_7_code (4 : Nat) (Option.some Jvm.ClassFile.FieldType.int)).before args0 about1 = true := code_word (m := ⟨6, 2⟩) (meth := k6m2) (c := k6c2) (by decide +kernel) rfl rfl rfl (by decide +kernel)
set_option maxRecDepth 65536 in
theorem w_c6 : (Jvm.Cond.code ({ cls := "java/lang/Enum", name := "ordinal", desc := "()I" } : Jvm.MethodName) jdk_37_method_2_code (1 : Nat) (Option.some Jvm.ClassFile.FieldType.int)).before args0 about1 = true := code_word (m := ⟨5, 0⟩) (meth := k5m0) (c := k5c0) (by decide +kernel) rfl rfl rfl (by decide +kernel)
set_option maxRecDepth 65536 in
theorem w_c7 : (Jvm.Cond.code ({ cls := "com/example/lambdaloom/lambdaloom/Network$Link", name := "source", desc := "()I" } : Jvm.MethodName) prog_15_method_6_code (1 : Nat) (Option.some Jvm.ClassFile.FieldType.int)).before args0 about1 = true := code_word (m := ⟨8, 1⟩) (meth := k8m1) (c := k8c1) (by decide +kernel) rfl rfl rfl (by decide +kernel)
set_option maxRecDepth 65536 in
theorem w_c8 : (Jvm.Cond.code ({ cls := "com/example/lambdaloom/lambdaloom/ChannelModel", name := "fibreCount", desc := "(I)I" } : Jvm.MethodName) prog_3_method_6_code (2 : Nat) (Option.some Jvm.ClassFile.FieldType.int)).before args0 about1 = true := code_word (m := ⟨6, 1⟩) (meth := k6m1) (c := k6c1) (by decide +kernel) rfl rfl rfl (by decide +kernel)
def codes1 : List Jvm.Cond := [Jvm.Cond.code x code maxLocals ret, Jvm.Cond.code ({ cls := "com/example/lambdaloom/lambdaloom/Network$Link", name := "<init>", desc := "(Ljava/lang/String;II)V" } : Jvm.MethodName) prog_15_method_1_code (4 : Nat) (Option.none : Option Jvm.ClassFile.FieldType), Jvm.Cond.code ({ cls := "java/lang/Record", name := "<init>", desc := "()V" } : Jvm.MethodName) jdk_30_method_1_code (1 : Nat) (Option.none : Option Jvm.ClassFile.FieldType), Jvm.Cond.code ({ cls := "java/lang/Object", name := "<init>", desc := "()V" } : Jvm.MethodName) object_method_1_code (1 : Nat) (Option.none : Option Jvm.ClassFile.FieldType), Jvm.Cond.code ({ cls := "com/example/lambdaloom/lambdaloom/ChannelModel", name := "sameFibresBothWays", desc := "()Z" } : Jvm.MethodName) prog_3_method_5_code (1 : Nat) (Option.some Jvm.ClassFile.FieldType.boolean), Jvm.Cond.code ({ cls := "com/example/lambdaloom/lambdaloom/ChannelModel", name := "fibre", desc := "(Lcom/example/lambdaloom/lambdaloom/Network$Link;II)I" } : Jvm.MethodName) prog_3_method_7_code (4 : Nat) (Option.some Jvm.ClassFile.FieldType.int), Jvm.Cond.code ({ cls := "java/lang/Enum", name := "ordinal", desc := "()I" } : Jvm.MethodName) jdk_37_method_2_code (1 : Nat) (Option.some Jvm.ClassFile.FieldType.int), Jvm.Cond.code ({ cls := "com/example/lambdaloom/lambdaloom/Network$Link", name := "source", desc := "()I" } : Jvm.MethodName) prog_15_method_6_code (1 : Nat) (Option.some Jvm.ClassFile.FieldType.int), Jvm.Cond.code ({ cls := "com/example/lambdaloom/lambdaloom/ChannelModel", name := "fibreCount", desc := "(I)I" } : Jvm.MethodName) prog_3_method_6_code (2 : Nat) (Option.some Jvm.ClassFile.FieldType.int)]
set_option maxRecDepth 65536 in
theorem codes_eq : words1.filter isCode = codes1 := rfl
theorem w_codes : ∀ c ∈ words1.filter isCode, c.before args0 about1 = true := by
  rw [codes_eq]
  intro c hc
  simp only [codes1, List.mem_cons, List.not_mem_nil, or_false] at hc
  rcases hc with rfl | rfl | rfl | rfl | rfl | rfl | rfl | rfl | rfl
  · exact w_c0
  · exact w_c1
  · exact w_c2
  · exact w_c3
  · exact w_c4
  · exact w_c5
  · exact w_c6
  · exact w_c7
  · exact w_c8
set_option maxRecDepth 65536 in
theorem w_t1 : (words1.take 24).all (fun c => isCode c || c.before args0 about1) = true := by decide +kernel
set_option maxRecDepth 65536 in
theorem w_t2 : ((words1.drop 24).take 24).all (fun c => isCode c || c.before args0 about1) = true := by decide +kernel
set_option maxRecDepth 65536 in
theorem w_t3 : ((words1.drop 24).drop 24).all (fun c => isCode c || c.before args0 about1) = true := by decide +kernel
theorem w_tables : (allAtoms (Jvm.Cond.code x code maxLocals ret :: tables_1)).before args0 about1 = true := by
  rw [allAtoms_all]
  show words1.all (fun c => c.before args0 about1) = true
  refine all_split ?_ w_codes
  rw [← List.take_append_drop 24 words1, List.all_append, w_t1, ← List.take_append_drop 24 (words1.drop 24), List.all_append, w_t2, w_t3]
  rfl
set_option maxRecDepth 65536 in
theorem w_case : (Jvm.Cond.and given_1 narrow_1).before args0 about1 = true := by decide +kernel
theorem w_applies : (headSpec (Jvm.Cond.code x code maxLocals ret :: tables_1) room_1).applies x e0.platform about1 = true :=
  (Spec.applies_iff w_frames).mpr ⟨w_running, w_runnable, w_alone, w_named, w_hears, w_ripe, w_room, w_tables⟩
theorem atStart : AtStart classFile x code maxLocals ret World_1 tables_1 room_1 Calls_1 rest_1 Pre_1 launch0 p0 e0 about1 theMethod args0 below0 :=
  ⟨lists_1, trivial, launch0.admits_env _ _ _, launch0.least_env, fairChoices_fair.cas, fairChoices_fair.clock, w_frames, w_args, w_heap, w_applies, trivial, trivial, w_case⟩
end start1
theorem witness_1 : WitnessClaimed_1 := ⟨start1.p0, start1.e0, start1.about1, start1.theMethod, start1.args0, start1.below0, start1.atStart⟩
end Jvm.Pilot.@@N@@
