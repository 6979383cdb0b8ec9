import JvmDerived
import JvmDerived.Pilot.@@N@@Statement
import JvmDerived.Pilot.@@N@@Code
set_option linter.unusedVariables false
set_option linter.unusedSimpArgs false
@@BLOCK:NumsL.lean.txt@@
namespace Jvm.Pilot.@@N@@
open Jvm Jvm.ClassFile Sem Op Lib Jvm.Free Jvm.Stand Jvm.LawKit Jvm.RoadKit Bundle Jvm.Pilot.@@N@@.Jvm.D
/-- from here the run comes to a state of which P holds -/
def own_Go (tb : Tables) (e : Env) (below : List Frame) (P : State → Prop) (T : State) (g : JFrame) : Prop := ∃ t, Steps tb e below (T.setTop g) t ∧ P t
theorem own_st {tb : Tables} {e : Env} {below : List Frame} {P : State → Prop} {T T' : State} {g g' : JFrame} (h : ∀ t, Steps tb e below (T'.setTop g') t → Steps tb e below (T.setTop g) t) (k : own_Go tb e below P T' g') : own_Go tb e below P T g := by
  obtain ⟨t, a, b⟩ := k; exact ⟨t, h t a, b⟩
/-- what the end of a body must be -/
def own_P (s : State) (below : List Frame) (Q : Option Value → Heap → List Loc → Prop) (C S : Nat) (t : State) : Prop := t.status = .running ∧ ∃ o, Ended t below o ∧ ∃ v L, o = .returned v ∧ Q v t.heap L ∧ FrameEnd s o t L C S
/-- .. of a body that may have interned -/
def own_PW (s : State) (below : List Frame) (Q : Option Value → Heap → List Loc → Prop) (C S : Nat) (t : State) : Prop := t.status = .running ∧ ∃ o, Ended t below o ∧ ∃ v L, o = .returned v ∧ Q v t.heap L ∧ ReturnedEndW s o t L C S
section own
variable {p : Program} {l : Launch} {e : Env} {R : Room} {s : State} {m : MethodId} {args : Array Value} {below : List Frame} {meth : Method} {c : Code} {T : State} {locs : List Loc} {cells slots : Nat} {Qo : Option Value → Heap → List Loc → Prop} {C' S' : Nat}
theorem own_out (X : Stand p l e R s m args below meth c T locs cells slots) {v : Option Value} {g : JFrame} (hv : meth.sig.returnType = none → v = none) (hlocks : meth.locks = false)
    (hst : ∀ fs, (∀ (f : JFrame) (acts : List Action), f.method = m → f.locked = none → f.entered = [] → (doReturn e (T.setTop f) acts v).1 = T.setFrames fs) → Steps p.tables e below (T.setTop g) (T.setFrames fs))
    (hc : cells ≤ C') (hs : slots ≤ S') (hq : Qo v T.heap locs) : own_Go p.tables e below (own_P s below Qo C' S') T g := by
  obtain ⟨fs, hr, hrun, hended, hW, hsame⟩ := X.leave (v := v) hv hlocks
  exact ⟨_, hst fs hr, hrun, _, hended, _, _, rfl, hq, ⟨_, rfl⟩, hW, hsame.mono hc hs⟩
theorem own_outW {vm0 : Vm} (X : Stand p l e R (s.setVm vm0) m args below meth c T locs cells slots) {k0 : Nat} (hS : s.Since vm0 k0) (hk : k0 ≤ T.heap.size) {v : Option Value} {g : JFrame} (hv : meth.sig.returnType = none → v = none) (hlocks : meth.locks = false)
    (hst : ∀ fs, (∀ (f : JFrame) (acts : List Action), f.method = m → f.locked = none → f.entered = [] → (doReturn e (T.setTop f) acts v).1 = T.setFrames fs) → Steps p.tables e below (T.setTop g) (T.setFrames fs))
    (hc : cells ≤ C') (hs : slots ≤ S') (hq : Qo v T.heap locs) : own_Go p.tables e below (own_PW s below Qo C' S') T g := by
  obtain ⟨fs, hr, hrun, hended, hW⟩ := X.leaveW hS hk (v := v) hv hlocks
  exact ⟨_, hst fs hr, hrun, _, hended, _, _, rfl, hq, hW.1, hW.2.1, hW.2.2.1, hW.2.2.2.mono hc hs⟩
theorem own_retI (X : Stand p l e R s m args below meth c T locs cells slots) (hx : p.tables.exec = Jvm.exec) {pc : Nat} {Ls : Array Slot} {z : Int32} {rest : List Value} (hret : meth.sig.returnType = some .int) (hd : decode c.code pc = .ok (.ireturn, 1)) (fs : List Frame)
    (hl : ∀ (f : JFrame) (acts : List Action), f.method = m → f.locked = none → f.entered = [] → (doReturn e (T.setTop f) acts (some (.int z))).1 = T.setFrames fs) : Steps p.tables e below (T.setTop (mkF m pc Ls (.int z :: rest))) (T.setFrames fs) :=
  retOut X hx hret rfl (Or.inl ⟨rfl, Or.inl rfl, _, rfl⟩) hd hl
theorem own_retZ (X : Stand p l e R s m args below meth c T locs cells slots) (hx : p.tables.exec = Jvm.exec) {pc : Nat} {Ls : Array Slot} {z : Int32} {rest : List Value} (hret : meth.sig.returnType = some .boolean) (hd : decode c.code pc = .ok (.ireturn, 1)) (hb : z = 0 ∨ z = 1) (fs : List Frame)
    (hl : ∀ (f : JFrame) (acts : List Action), f.method = m → f.locked = none → f.entered = [] → (doReturn e (T.setTop f) acts (some (.int z))).1 = T.setFrames fs) : Steps p.tables e below (T.setTop (mkF m pc Ls (.int z :: rest))) (T.setFrames fs) := by
  have e1 : nar .boolean z = z := by rcases hb with rfl | rfl <;> decide
  exact retN X hx hret (Or.inl rfl) hd (by rw [e1]; exact hl)
theorem own_retJ (X : Stand p l e R s m args below meth c T locs cells slots) (hx : p.tables.exec = Jvm.exec) {pc : Nat} {Ls : Array Slot} {z : Int64} {rest : List Value} (hret : meth.sig.returnType = some .long) (hd : decode c.code pc = .ok (.lreturn, 1)) (fs : List Frame)
    (hl : ∀ (f : JFrame) (acts : List Action), f.method = m → f.locked = none → f.entered = [] → (doReturn e (T.setTop f) acts (some (.long z))).1 = T.setFrames fs) : Steps p.tables e below (T.setTop (mkF m pc Ls (.long z :: rest))) (T.setFrames fs) :=
  retOut X hx hret rfl (Or.inr (Or.inl ⟨rfl, rfl, _, rfl⟩)) hd hl
theorem own_retR (X : Stand p l e R s m args below meth c T locs cells slots) (hx : p.tables.exec = Jvm.exec) {pc : Nat} {Ls : Array Slot} {w : Value} {t : FieldType} {rest : List Value} (hret : meth.sig.returnType = some t) (ht : t.isReference = true) (hw : w.isRef = true) (hn : narrow t w = w) (hd : decode c.code pc = .ok (.areturn, 1)) (fs : List Frame)
    (hl : ∀ (f : JFrame) (acts : List Action), f.method = m → f.locked = none → f.entered = [] → (doReturn e (T.setTop f) acts (some w)).1 = T.setFrames fs) : Steps p.tables e below (T.setTop (mkF m pc Ls (w :: rest))) (T.setFrames fs) :=
  retOut X hx hret hn (Or.inr (Or.inr (Or.inr (Or.inr ⟨rfl, ht, hw⟩)))) hd hl
end own
/-- a private method is the one that is picked -/
theorem own_selp {s : State} {args : Array Value} {y : MethodName} {n : Nat} (hi : (Jvm.Cond.instantiable y.cls n).before args s = true) (hp : s.PrivateAt y) (hm : (Jvm.Cond.instanceMethod y).before args s = true) (hy : y.cls ≠ "java/lang/invoke/MethodHandle" ∧ y.cls ≠ "java/lang/invoke/VarHandle") : (Jvm.Cond.selects y.cls y y).before args s = true := by
  obtain ⟨c, k, h1, h2, -, h4, -⟩ := Cond.instantiable_spec hi
  exact selects_self_of_private h1 h2 (Bool.or_eq_false_iff.mp h4).1 hp hm hy
theorem own_staK {Z : State} {h h' : Heap} {C n d : String} {v : Value} {ws : List Addr} (F : Sta Z h C n d v) (K : Keep h h' ws) (q : ∀ x ∈ ws, ∃ D, Exa Z h x D) : Sta Z h' C n d v := by
  obtain ⟨cf, i, k, f, st, cell, h1, h2, h3, h4, h5, h6, h7⟩ := F
  refine ⟨cf, i, k, f, st, cell, h1, h2, h3, h4, K.2.1 st cell h5 (fun hm => ?_), h6, h7⟩
  obtain ⟨D, c', k', e1, -, -, e4, -⟩ := q st hm
  cases h5.symm.trans e1
  rw [h6] at e4; cases e4
/-- a reference or null -/
theorem own_refOf {w : Value} (h : w.isRef = true) (c : ¬ w = Value.null) : ∃ a, w = .ref a := (ref_cases h).resolve_left c
theorem own_nW {t : FieldType} {w : Value} (ht : t.isReference = true) (h : w.isRef = true) : narrow t w = w := by
  rcases ref_cases h with rfl | ⟨a, rfl⟩ <;> cases t <;> first | rfl | simp [FieldType.isReference] at ht
theorem own_fW {t : FieldType} {w : Value} (ht : t.isReference = true) (h : w.isRef = true) : fits t w = true := by
  rcases ref_cases h with rfl | ⟨a, rfl⟩ <;> cases t <;> first | rfl | simp [FieldType.isReference] at ht
theorem own_nb {z : Int32} (h : z = 0 ∨ z = 1) : narrow .boolean (.int z) = .int z := by rcases h with rfl | rfl <;> rfl
theorem own_fb {z : Int32} (h : z = 0 ∨ z = 1) : fits .boolean (.int z) = true := by rcases h with rfl | rfl <;> rfl
/-- lcmp and a branch, in one -/
def own_lcv : ClassFile.Cond → Int64 → Int64 → Prop
  | .lt, x, y => x < y | .ge, x, y => ¬ x < y | .gt, x, y => y < x | .le, x, y => ¬ y < x | .eq, x, y => x = y | .ne, x, y => ¬ x = y
theorem own_lcT {cd : ClassFile.Cond} {x y : Int64} (h : own_lcv cd x y) : ifCond.holds cd (lcmpW x y) = true := by
  rw [if0]
  cases cd
  · exact (teq ((lw_eq x y).mpr h)).1
  · exact (feq (fun q => h ((lw_eq x y).mp q))).2
  · exact (tlt ((lw_lt x y).mpr h)).1
  · exact (flt (fun q => h ((lw_lt x y).mp q))).2.1
  · exact (tlt ((lw_gt x y).mpr h)).2.2.1
  · exact (flt (fun q => h ((lw_gt x y).mp q))).2.2.2
theorem own_lcF {cd : ClassFile.Cond} {x y : Int64} (h : ¬ own_lcv cd x y) : ifCond.holds cd (lcmpW x y) = false := by
  rw [if0]
  cases cd
  · exact (feq (fun q => h ((lw_eq x y).mp q))).1
  · exact (teq (Classical.byContradiction fun q => h (fun r => q ((lw_eq x y).mpr r)))).2
  · exact (flt (fun q => h ((lw_lt x y).mp q))).1
  · exact (tlt (Classical.byContradiction fun q => h (fun r => q ((lw_lt x y).mpr r)))).2.1
  · exact (flt (fun q => h ((lw_gt x y).mp q))).2.2.1
  · exact (tlt (Classical.byContradiction fun q => h (fun r => q ((lw_gt x y).mpr r)))).2.2.2

theorem own_pd__II_I : parseMethodDescriptor "(II)I" = some ⟨[.int, .int], some .int⟩ := by decide +kernel
theorem own_pd__I_I : parseMethodDescriptor "(I)I" = some ⟨[.int], some .int⟩ := by decide +kernel
def own_max (x0 : Int32) (x1 : Int32) : Int32 := (if x0 < x1 then x1 else x0)
theorem d1_0 : decode jdk_29_method_65_code 0 = .ok (.iload_n 0, 1) := by decide +kernel
theorem d1_1 : decode jdk_29_method_65_code 1 = .ok (.iload_n 1, 1) := by decide +kernel
theorem d1_2 : decode jdk_29_method_65_code 2 = .ok (.if_icmp .lt 7, 3) := by decide +kernel
theorem d1_5 : decode jdk_29_method_65_code 5 = .ok (.iload_n 0, 1) := by decide +kernel
theorem d1_6 : decode jdk_29_method_65_code 6 = .ok (.goto 4, 3) := by decide +kernel
theorem d1_9 : decode jdk_29_method_65_code 9 = .ok (.iload_n 1, 1) := by decide +kernel
theorem d1_10 : decode jdk_29_method_65_code 10 = .ok (.ireturn, 1) := by decide +kernel
theorem own_ef1 (m : MethodId) (x0 : Int32) (x1 : Int32) : entryFrame m #[(.int x0), (.int x1)] 2 = mkF m 0 #[.val (.int x0), .val (.int x1)] [] := by first | (simp [entryFrame, mkF, argsToLocals, Value.category]; done) | rfl
def Q1 (Z : State) (x0 : Int32) (x1 : Int32) (h0 : Heap) (n0 : Nat) (v : Option Value) (h : Heap) (L : List Loc) : Prop := v = some (.int (own_max x0 x1)) ∧ Fr n0 L ∧ h = h0
set_option maxRecDepth 65536 in
set_option maxHeartbeats 40000000 in
theorem rm1 (l : Launch) (Z : State) (a0 : Array Value) (hw : ∀ d ∈ tables_1, d.before a0 Z = true) (ws : List Jvm.Cond) (x0 : Int32) (x1 : Int32) (h0 : Heap) (n0 : Nat) (Z0 : n0 ≤ h0.size) :
    MetFree l (⟨"java/lang/Math", "max", "(II)I"⟩ : MethodName) (head1 (Jvm.Cond.code (⟨"java/lang/Math", "max", "(II)I"⟩ : MethodName) jdk_29_method_65_code 2 (some .int) :: ws) ({ frames := 0, cells := 0, slots := 0, locals := 0 } : Room)) (fun aW U => aW = #[(.int x0), (.int x1)] ∧ Z.Warmed39 U.vm ∧ U.heap = h0) (fun _ _ _ _ _ => True) (fun _ U o U' => ∃ v L, o = .returned v ∧ Q1 Z x0 x1 h0 n0 v U'.heap L ∧ FrameEnd U o U' L ({ frames := 0, cells := 0, slots := 0, locals := 0 } : Room).cells ({ frames := 0, cells := 0, slots := 0, locals := 0 } : Room).slots) := by
  refine MetFree.of_bodySF (Jvm.Free.JP.mathPlain rfl (by decide +kernel)) hisR ?_
  intro p e s m args below meth c s₁ Bd hml0 hP hK
  obtain ⟨rfl, hZ, hh⟩ := hP
  have hx := Bd.exec
  have hby := Bd.bytes
  have hml : c.maxLocals = 2 := hml0
  have hown : s.vm.findClass "java/lang/Math" = some m.cls := findClass_of_methodNamed Bd.named
  have hnm := (name_of_methodNamed Bd.named Bd.method).1
  have X0 : Stand p l e ({ frames := 0, cells := 0, slots := 0, locals := 0 } : Room) s m #[(.int x0), (.int x1)] below meth c s₁ [] 0 0 := Stand.of_body Bd
  have e0 : s₁.heap = h0 := by rw [← hh, Bd.state]; rfl
  have N0 := Fr.nil n0
  obtain ⟨Pq, hPq⟩ : ∃ P, P = own_P s below (fun v h L => Q1 Z x0 x1 h0 n0 v h L) ({ frames := 0, cells := 0, slots := 0, locals := 0 } : Room).cells ({ frames := 0, cells := 0, slots := 0, locals := 0 } : Room).slots := ⟨_, rfl⟩
  suffices hgo : own_Go p.tables e below Pq s₁ (mkF m 0 #[.val (.int x0), .val (.int x1)] []) by
    subst hPq
    obtain ⟨t, k1, k2, o, k3, k4⟩ := hgo
    exact ⟨t, o, castTop (own_ef1 m x0 x1) k1, k2, k3, k4⟩
  show own_Go _ _ _ _ s₁ (mkF m 0 #[.val (.int x0), .val (.int x1)] [])
  refine own_st (fun t k => XS.iloadN X0.here hx rfl (hb hby d1_0) rfl k) ?_
  show own_Go _ _ _ _ s₁ (mkF m 1 _ [(.int x0)])
  refine own_st (fun t k => XS.iloadN X0.here hx rfl (hb hby d1_1) rfl k) ?_
  show own_Go _ _ _ _ s₁ (mkF m 2 _ [(.int x1), (.int x0)])
  have J4 : ∀ (Tj4 : State) (Lj4 : List Loc) (p5 : Int32), Stand p l e ({ frames := 0, cells := 0, slots := 0, locals := 0 } : Room) s m #[(.int x0), (.int x1)] below meth c Tj4 Lj4 0 0 → Tj4.heap = h0 → Fr n0 Lj4 → p5 = (if x0 < x1 then x1 else x0) → own_Go p.tables e below Pq Tj4 (mkF m 10 #[.val (.int x0), .val (.int x1)] [(.int p5)]) := by
    intro Tj4 Lj4 p5 Xj4 ej4 Nj4 qp5
    show own_Go _ _ _ _ Tj4 (mkF m 10 _ [(.int p5)])
    subst hPq
    refine own_out Xj4 (v := some (.int p5)) (fun h => by rw [Bd.returns] at h; cases h) Bd.notSynchronized (own_retI Xj4 hx Bd.returns (hb hby d1_10)) (by decide) (by decide) ?_
    show Q1 Z x0 x1 h0 n0 _ Tj4.heap _
    rw [ej4]
    exact ⟨by subst_vars; rfl, Nj4, rfl⟩
  by_cases c1 : x0 < x1
  · skip
    refine own_st (fun t k => XS.icmpYes X0.here hx rfl (pc0 := 2) (pc' := 9) rfl (hb hby d1_2) rfl (tlt c1).1 (by decide) (by decide) k) ?_
    show own_Go _ _ _ _ s₁ (mkF m 9 _ [])
    refine own_st (fun t k => XS.iloadN X0.here hx rfl (hb hby d1_9) rfl k) ?_
    show own_Go _ _ _ _ s₁ (mkF m 10 _ [(.int x1)])
    exact J4 s₁ _ _ X0 e0 N0 (by simp only [if_pos c1])
  · skip
    refine own_st (fun t k => XS.icmpNo X0.here hx rfl (hb hby d1_2) rfl (flt c1).1 k) ?_
    show own_Go _ _ _ _ s₁ (mkF m 5 _ [])
    refine own_st (fun t k => XS.iloadN X0.here hx rfl (hb hby d1_5) rfl k) ?_
    show own_Go _ _ _ _ s₁ (mkF m 6 _ [(.int x0)])
    refine own_st (fun t k => XS.goto X0.here hx rfl (pc0 := 6) (pc' := 10) rfl (hb hby d1_6) (by decide) (by decide) k) ?_
    show own_Go _ _ _ _ s₁ (mkF m 10 _ [(.int x0)])
    exact J4 s₁ _ _ X0 e0 N0 (by simp only [if_neg c1])
def own_ws (x0 : Int32) : Int32 := (own_max (0 : Int32) (((x0 / (5000 : Int32)) - (1 : Int32)) * (5000 : Int32)))
theorem d2_0 : decode prog_18_method_2_code 0 = .ok (.iconst 0, 1) := by decide +kernel
theorem d2_1 : decode prog_18_method_2_code 1 = .ok (.iload_n 0, 1) := by decide +kernel
theorem d2_2 : decode prog_18_method_2_code 2 = .ok (.sipush 5000, 3) := by decide +kernel
theorem d2_5 : decode prog_18_method_2_code 5 = .ok (.idiv, 1) := by decide +kernel
theorem d2_6 : decode prog_18_method_2_code 6 = .ok (.iconst 1, 1) := by decide +kernel
theorem d2_7 : decode prog_18_method_2_code 7 = .ok (.isub, 1) := by decide +kernel
theorem d2_8 : decode prog_18_method_2_code 8 = .ok (.sipush 5000, 3) := by decide +kernel
theorem d2_11 : decode prog_18_method_2_code 11 = .ok (.imul, 1) := by decide +kernel
theorem d2_12 : decode prog_18_method_2_code 12 = .ok (.invokestatic 35, 3) := by decide +kernel
theorem d2_15 : decode prog_18_method_2_code 15 = .ok (.ireturn, 1) := by decide +kernel
theorem own_pn2 : plainName "com/example/antientropy/antientropy/sds/ReceivedFilter" = true := by first | (simp [plainName, overriddenIn]; done) | decide +kernel
theorem own_ef2 (m : MethodId) (x0 : Int32) : entryFrame m #[(.int x0)] 1 = mkF m 0 #[.val (.int x0)] [] := by first | (simp [entryFrame, mkF, argsToLocals, Value.category]; done) | rfl
def Q2 (Z : State) (x0 : Int32) (h0 : Heap) (n0 : Nat) (v : Option Value) (h : Heap) (L : List Loc) : Prop := v = some (.int (own_ws x0)) ∧ Fr n0 L ∧ h = h0
set_option maxRecDepth 65536 in
set_option maxHeartbeats 40000000 in
theorem rm2 (l : Launch) (Z : State) (a0 : Array Value) (hw : ∀ d ∈ tables_1, d.before a0 Z = true) (ws : List Jvm.Cond) (x0 : Int32) (h0 : Heap) (n0 : Nat) (Z0 : n0 ≤ h0.size) :
    MetFree l (⟨"com/example/antientropy/antientropy/sds/ReceivedFilter", "windowStart", "(I)I"⟩ : MethodName) (head1 (Jvm.Cond.code (⟨"com/example/antientropy/antientropy/sds/ReceivedFilter", "windowStart", "(I)I"⟩ : MethodName) prog_18_method_2_code 1 (some .int) :: ws) ({ frames := 1, cells := 0, slots := 0, locals := 13 } : Room)) (fun aW U => aW = #[(.int x0)] ∧ Z.Warmed39 U.vm ∧ U.heap = h0) (fun _ _ _ _ _ => True) (fun _ U o U' => ∃ v L, o = .returned v ∧ Q2 Z x0 h0 n0 v U'.heap L ∧ FrameEnd U o U' L ({ frames := 1, cells := 0, slots := 0, locals := 13 } : Room).cells ({ frames := 1, cells := 0, slots := 0, locals := 13 } : Room).slots) := by
  refine MetFree.of_bodySF (plainFor_of_name own_pn2) hisR ?_
  intro p e s m args below meth c s₁ Bd hml0 hP hK
  obtain ⟨rfl, hZ, hh⟩ := hP
  have hx := Bd.exec
  have hby := Bd.bytes
  have hml : c.maxLocals = 1 := hml0
  have hown : s.vm.findClass "com/example/antientropy/antientropy/sds/ReceivedFilter" = some m.cls := findClass_of_methodNamed Bd.named
  have hnm := (name_of_methodNamed Bd.named Bd.method).1
  have X0 : Stand p l e ({ frames := 1, cells := 0, slots := 0, locals := 13 } : Room) s m #[(.int x0)] below meth c s₁ [] 0 0 := Stand.of_body Bd
  have e0 : s₁.heap = h0 := by rw [← hh, Bd.state]; rfl
  have N0 := Fr.nil n0
  obtain ⟨Pq, hPq⟩ : ∃ P, P = own_P s below (fun v h L => Q2 Z x0 h0 n0 v h L) ({ frames := 1, cells := 0, slots := 0, locals := 13 } : Room).cells ({ frames := 1, cells := 0, slots := 0, locals := 13 } : Room).slots := ⟨_, rfl⟩
  suffices hgo : own_Go p.tables e below Pq s₁ (mkF m 0 #[.val (.int x0)] []) by
    subst hPq
    obtain ⟨t, k1, k2, o, k3, k4⟩ := hgo
    exact ⟨t, o, castTop (own_ef2 m x0) k1, k2, k3, k4⟩
  show own_Go _ _ _ _ s₁ (mkF m 0 #[.val (.int x0)] [])
  refine own_st (fun t k => XS.iconst X0.here hx rfl (hb hby d2_0) k) ?_
  show own_Go _ _ _ _ s₁ (mkF m 1 _ [(.int (0 : Int32))])
  refine own_st (fun t k => XS.iloadN X0.here hx rfl (hb hby d2_1) rfl k) ?_
  show own_Go _ _ _ _ s₁ (mkF m 2 _ [(.int x0), (.int (0 : Int32))])
  refine own_st (fun t k => XS.sipush X0.here hx rfl (hb hby d2_2) k) ?_
  show own_Go _ _ _ _ s₁ (mkF m 5 _ [(.int (5000 : Int32)), (.int x0), (.int (0 : Int32))])
  refine own_st (fun t k => XS.idiv X0.here hx rfl (hb hby d2_5) rfl (by decide) k) ?_
  show own_Go _ _ _ _ s₁ (mkF m 6 _ [(.int (x0 / (5000 : Int32))), (.int (0 : Int32))])
  refine own_st (fun t k => XS.iconst X0.here hx rfl (hb hby d2_6) k) ?_
  show own_Go _ _ _ _ s₁ (mkF m 7 _ [(.int (1 : Int32)), (.int (x0 / (5000 : Int32))), (.int (0 : Int32))])
  refine own_st (fun t k => XS.isub X0.here hx rfl (hb hby d2_7) rfl k) ?_
  show own_Go _ _ _ _ s₁ (mkF m 8 _ [(.int ((x0 / (5000 : Int32)) - (1 : Int32))), (.int (0 : Int32))])
  refine own_st (fun t k => XS.sipush X0.here hx rfl (hb hby d2_8) k) ?_
  show own_Go _ _ _ _ s₁ (mkF m 11 _ [(.int (5000 : Int32)), (.int ((x0 / (5000 : Int32)) - (1 : Int32))), (.int (0 : Int32))])
  refine own_st (fun t k => XS.imul X0.here hx rfl (hb hby d2_11) rfl k) ?_
  show own_Go _ _ _ _ s₁ (mkF m 12 _ [(.int (((x0 / (5000 : Int32)) - (1 : Int32)) * (5000 : Int32))), (.int (0 : Int32))])
  obtain ⟨_, _, ⟨T1, L1, k1, n1⟩, -, X1, ⟨Lc1, hQ1, l1, y1, z1⟩, st1⟩ := Jvm.LawKit.callS X0 hx (y := (⟨"java/lang/Math", "max", "(II)I"⟩ : MethodName)) hown (mvT hZ (hw _ (List.mem_of_getElem? (i := 5) rfl))) (mvT hZ (hw _ (List.mem_of_getElem? (i := 6) rfl))) (mvT hZ (hw _ (List.mem_of_getElem? (i := 7) rfl))) (mvT hZ (hw _ (List.mem_of_getElem? (i := 8) rfl))) (by decide) (backOf (W := 0) (rm1 l Z a0 hw [] (0 : Int32) (((x0 / (5000 : Int32)) - (1 : Int32)) * (5000 : Int32)) h0 n0 Z0 ) hZ (hw _ (List.mem_of_getElem? (i := 8) rfl)) (hw _ (List.mem_of_getElem? (i := 7) rfl)) (by decide) (by decide)) (g := (mkF m 12 #[.val (.int x0)] [(.int (((x0 / (5000 : Int32)) - (1 : Int32)) * (5000 : Int32))), (.int (0 : Int32))])) rfl (by rw [hml]; rfl) (argsL := [(.int (0 : Int32)), (.int (((x0 / (5000 : Int32)) - (1 : Int32)) * (5000 : Int32)))]) (rest := []) (lenOf own_pd__II_I rfl) rfl (by show 2 * 0 + _ ≤ _; exact Nat.le_of_eq rfl) (hb hby d2_12) (fun _ _ => ⟨rfl, e0, (by decide : 0 + 0 ≤ _), (by decide : 0 + 0 ≤ _)⟩)
  dsimp only [Pt.U, Pt.locs, Pt.cells, Pt.slots] at X1 l1 y1 z1 st1 hQ1
  subst l1 y1 z1
  obtain ⟨rfl, NQ1, eq1⟩ := hQ1
  have N2 := Fr.app N0 NQ1
  refine own_st st1 ?_
  show own_Go _ _ _ _ T1 (mkF m 15 _ [(.int (own_max (0 : Int32) (((x0 / (5000 : Int32)) - (1 : Int32)) * (5000 : Int32))))])
  subst hPq
  refine own_out X1 (v := some (.int (own_max (0 : Int32) (((x0 / (5000 : Int32)) - (1 : Int32)) * (5000 : Int32))))) (fun h => by rw [Bd.returns] at h; cases h) Bd.notSynchronized (own_retI X1 hx Bd.returns (hb hby d2_15)) (by decide) (by decide) ?_
  show Q2 Z x0 h0 n0 _ T1.heap _
  rw [eq1]
  exact ⟨by subst_vars; rfl, N2, rfl⟩
theorem own_e0 (x0 x1 : Int32) (p : Int32) (q : p = (if (x1 &&& (1 : Int32)) = (0 : Int32) then (if ((((x0 &&& (2147483647 : Int32)) % (429497 : Int32)).toInt64 * (5000 : Int64)) + (((x1 >>> ((1 : Int32) &&& 31)) &&& (3 : Int32)) - (2 : Int32)).toInt64) < (0 : Int64) then (0 : Int32) else ((((x0 &&& (2147483647 : Int32)) % (429497 : Int32)).toInt64 * (5000 : Int64)) + (((x1 >>> ((1 : Int32) &&& 31)) &&& (3 : Int32)) - (2 : Int32)).toInt64).toInt32) else (x0 &&& (2147483647 : Int32)))) : 0 ≤ p.toInt := by
  have e1 := c_mask x0 2147483647 31 (by decide) (by decide)
  generalize x0 &&& 2147483647 = u at *
  generalize x1 >>> ((1 : Int32) &&& 31) = w at *
  have e2 := c_mask w 3 2 (by decide) (by decide)
  generalize w &&& 3 = y at *
  have e3 := c_irem u 429497 429497 rfl
  generalize u % 429497 = z at *
  have e4 := c_isub y 2
  have r4 := rng32 (y - 2)
  generalize y - 2 = o at *
  have e5 := c_i2l z; have e6 := c_i2l o
  generalize z.toInt64 = zl at *
  generalize o.toInt64 = ol at *
  have e7 := c_lmul zl 5000
  have r7 := rng64 (zl * 5000)
  generalize zl * 5000 = m at *
  have e8 := c_ladd m ol
  have r8 := rng64 (m + ol)
  generalize m + ol = f at *
  have e9 := c_l2i f
  have r9 := rng32 f.toInt32
  simp only [show (2 : Int32).toInt = 2 from rfl, show (5000 : Int64).toInt = 5000 from rfl] at *
  have f4 : o.toInt = y.toInt - 2 := by omega
  have f3 : z.toInt = u.toInt % 429497 := e3.1 (by omega)
  have f7 : m.toInt = z.toInt * 5000 := by omega
  have f8 : f.toInt = m.toInt + ol.toInt := by omega
  clear e4 e7 e8
  subst q
  split
  · split
    · decide
    · rename_i h
      rw [Int64.lt_iff_toInt_lt, show (0 : Int64).toInt = 0 from rfl] at h
      omega
  · omega
theorem own_wsv (x : Int32) (h : 0 ≤ x.toInt) : (own_ws x).toInt = if x.toInt / 5000 = 0 then 0 else (x.toInt / 5000 - 1) * 5000 := by
  unfold own_ws own_max
  have r := rng32 x
  have e1 := c_idiv x 5000 5000 rfl (by decide)
  generalize x / 5000 = a at *
  have e2 := c_isub a 1
  have r2 := rng32 (a - 1)
  generalize a - 1 = b at *
  have e3 := c_imul b 5000
  have r3 := rng32 (b * 5000)
  generalize b * 5000 = d at *
  simp only [show (1 : Int32).toInt = 1 from rfl, show (5000 : Int32).toInt = 5000 from rfl, Int32.lt_iff_toInt_lt, show (0 : Int32).toInt = 0 from rfl] at *
  have f1 : a.toInt = x.toInt / 5000 := e1.1 h
  have f2 : b.toInt = a.toInt - 1 := by omega
  have f3 : d.toInt = b.toInt * 5000 := by omega
  clear e2 e3
  split <;> split <;> first | omega | rfl | (rw [show (0 : Int32).toInt = 0 from rfl]; omega)
theorem own_pn0 : plainName "com/example/antientropy/antientropy/sds/ReceivedFilterWindowStartPinLaw" = true := by first | (simp [plainName, overriddenIn]; done) | decide +kernel
theorem own_ef0 (m : MethodId) (x0 : Int32) (x1 : Int32) : entryFrame m #[(.int x0), (.int x1)] maxLocals = mkF m 0 #[.val (.int x0), .val (.int x1), .unset, .unset, .unset, .unset, .unset, .unset, .unset, .unset, .unset, .unset] [] := by first | (simp [entryFrame, mkF, argsToLocals, Value.category, maxLocals]; done) | rfl
def Q0 (Z : State) (x0 : Int32) (x1 : Int32) (h0 : Heap) (n0 : Nat) (v : Option Value) (h : Heap) (L : List Loc) : Prop := v = some (.int 1) ∧ Fr n0 L
theorem own_law (x0 : Int32) (x1 : Int32) (p10 : Int32) (v17 : Int64) (v19 : Int64) (p25 : Int32) (p30 : Int32) (p35 : Int32) (p40 : Int32) (p47 : Int32) (p60 : Int32) (qp10 : p10 = (if (x1 &&& (1 : Int32)) = (0 : Int32) then (if ((((x0 &&& (2147483647 : Int32)) % (429497 : Int32)).toInt64 * (5000 : Int64)) + (((x1 >>> ((1 : Int32) &&& 31)) &&& (3 : Int32)) - (2 : Int32)).toInt64) < (0 : Int64) then (0 : Int32) else ((((x0 &&& (2147483647 : Int32)) % (429497 : Int32)).toInt64 * (5000 : Int64)) + (((x1 >>> ((1 : Int32) &&& 31)) &&& (3 : Int32)) - (2 : Int32)).toInt64).toInt32) else (x0 &&& (2147483647 : Int32)))) (hv17 : (own_ws p10).toInt64 = v17) (hv19 : (p10.toInt64 - v17) = v19) (qp25 : p25 = (if v17 < (0 : Int64) then (0 : Int32) else (1 : Int32))) (qp30 : p30 = (if (v17 - (v17 / (5000 : Int64)) * (5000 : Int64)) = (0 : Int64) then (1 : Int32) else (0 : Int32))) (qp35 : p35 = (if v19 < (0 : Int64) then (0 : Int32) else (1 : Int32))) (qp40 : p40 = (if v19 < (10000 : Int64) then (1 : Int32) else (0 : Int32))) (qp47 : p47 = (if v19 < (5000 : Int64) then (if v17 = (0 : Int64) then (1 : Int32) else (0 : Int32)) else (1 : Int32))) (qp60 : p60 = (if p25 = (0 : Int32) then (0 : Int32) else (if p30 = (0 : Int32) then (0 : Int32) else (if p35 = (0 : Int32) then (0 : Int32) else (if p40 = (0 : Int32) then (0 : Int32) else (if p47 = (0 : Int32) then (0 : Int32) else (1 : Int32))))))) : p60 = 1 := by
  have h0 := own_e0 x0 x1 p10 qp10
  have hw := own_wsv p10 h0
  have r0 := rng32 p10
  have e17 : v17.toInt = (own_ws p10).toInt := by rw [← hv17]; exact c_i2l _
  rw [hw] at e17
  have e1 := c_i2l p10
  have e2 := c_lsub p10.toInt64 v17
  rw [hv19] at e2
  have r2 := rng64 v19
  have e3 := c_lrem v17 5000 5000 rfl
  clear qp10
  have a1 : p25 = 1 := by rw [qp25, if_neg]; rw [Int64.lt_iff_toInt_lt, show (0 : Int64).toInt = 0 from rfl]; split at e17 <;> omega
  have a2 : p30 = 1 := by
    rw [qp30, if_pos]; rw [← Int64.toInt_inj, show (0 : Int64).toInt = 0 from rfl]
    split at e17 <;> omega
  have a3 : p35 = 1 := by rw [qp35, if_neg]; rw [Int64.lt_iff_toInt_lt, show (0 : Int64).toInt = 0 from rfl]; split at e17 <;> omega
  have a4 : p40 = 1 := by rw [qp40, if_pos]; rw [Int64.lt_iff_toInt_lt, show (10000 : Int64).toInt = 10000 from rfl]; split at e17 <;> omega
  have a5 : p47 = 1 := by
    rw [qp47]; split
    · rename_i h
      rw [Int64.lt_iff_toInt_lt, show (5000 : Int64).toInt = 5000 from rfl] at h
      rw [if_pos]; rw [← Int64.toInt_inj, show (0 : Int64).toInt = 0 from rfl]
      split at e17 <;> omega
    · rfl
  subst a1 a2 a3 a4 a5
  rw [qp60]; decide
set_option maxRecDepth 65536 in
set_option maxHeartbeats 40000000 in
theorem rm0 (l : Launch) (Z : State) (a0 : Array Value) (hw : ∀ d ∈ tables_1, d.before a0 Z = true) (ws : List Jvm.Cond) (x0 : Int32) (x1 : Int32) (h0 : Heap) (n0 : Nat) (Z0 : n0 ≤ h0.size) :
    MetFree l x (head1 (Jvm.Cond.code x code maxLocals ret :: ws) room_1) (fun aW U => aW = #[(.int x0), (.int x1)] ∧ Z.Warmed39 U.vm ∧ U.heap = h0) (fun _ _ _ _ _ => True) (fun _ U o U' => ∃ v L, o = .returned v ∧ Q0 Z x0 x1 h0 n0 v U'.heap L ∧ FrameEnd U o U' L 0 0) := by
  refine MetFree.of_bodySF (plainFor_of_name own_pn0) hisR ?_
  intro p e s m args below meth c s₁ Bd hml0 hP hK
  obtain ⟨rfl, hZ, hh⟩ := hP
  have hx := Bd.exec
  have hby := Bd.bytes
  have hml : c.maxLocals = 12 := hml0
  have hown : s.vm.findClass "com/example/antientropy/antientropy/sds/ReceivedFilterWindowStartPinLaw" = some m.cls := findClass_of_methodNamed Bd.named
  have hnm := (name_of_methodNamed Bd.named Bd.method).1
  have X0 : Stand p l e room_1 s m #[(.int x0), (.int x1)] below meth c s₁ [] 0 0 := Stand.of_body Bd
  have e0 : s₁.heap = h0 := by rw [← hh, Bd.state]; rfl
  have N0 := Fr.nil n0
  obtain ⟨Pq, hPq⟩ : ∃ P, P = own_P s below (fun v h L => Q0 Z x0 x1 h0 n0 v h L) 0 0 := ⟨_, rfl⟩
  suffices hgo : own_Go p.tables e below Pq s₁ (mkF m 0 #[.val (.int x0), .val (.int x1), .unset, .unset, .unset, .unset, .unset, .unset, .unset, .unset, .unset, .unset] []) by
    subst hPq
    obtain ⟨t, k1, k2, o, k3, k4⟩ := hgo
    exact ⟨t, o, castTop (own_ef0 m x0 x1) k1, k2, k3, k4⟩
  show own_Go _ _ _ _ s₁ (mkF m 0 #[.val (.int x0), .val (.int x1), .unset, .unset, .unset, .unset, .unset, .unset, .unset, .unset, .unset, .unset] [])
  refine own_st (fun t k => XS.iloadN X0.here hx rfl (hb hby at_0) rfl k) ?_
  show own_Go _ _ _ _ s₁ (mkF m 1 _ [(.int x1)])
  refine own_st (fun t k => XS.iconst X0.here hx rfl (hb hby at_1) k) ?_
  show own_Go _ _ _ _ s₁ (mkF m 2 _ [(.int (1 : Int32)), (.int x1)])
  refine own_st (fun t k => XS.iand X0.here hx rfl (hb hby at_2) rfl k) ?_
  show own_Go _ _ _ _ s₁ (mkF m 3 _ [(.int (x1 &&& (1 : Int32)))])
  have J9 : ∀ (Tj9 : State) (Lj9 : List Loc) (p10 : Int32) (s11 : Slot) (s12 : Slot) (s13 : Slot) (s14 : Slot), Stand p l e room_1 s m #[(.int x0), (.int x1)] below meth c Tj9 Lj9 0 0 → Tj9.heap = h0 → Fr n0 Lj9 → p10 = (if (x1 &&& (1 : Int32)) = (0 : Int32) then (if ((((x0 &&& (2147483647 : Int32)) % (429497 : Int32)).toInt64 * (5000 : Int64)) + (((x1 >>> ((1 : Int32) &&& 31)) &&& (3 : Int32)) - (2 : Int32)).toInt64) < (0 : Int64) then (0 : Int32) else ((((x0 &&& (2147483647 : Int32)) % (429497 : Int32)).toInt64 * (5000 : Int64)) + (((x1 >>> ((1 : Int32) &&& 31)) &&& (3 : Int32)) - (2 : Int32)).toInt64).toInt32) else (x0 &&& (2147483647 : Int32))) → ((∃ (x_s11 : Int32) (x_s12 : Int32) (x_s13 : Int64), s11 = .val (.int x_s11) ∧ s12 = .val (.int x_s12) ∧ s13 = .val (.long x_s13) ∧ s14 = .second) ∨ (s11 = .unset ∧ s12 = .unset ∧ s13 = .unset ∧ s14 = .unset)) → own_Go p.tables e below Pq Tj9 (mkF m 58 #[.val (.int x0), .val (.int x1), .val (.int p10), s11, s12, s13, s14, .unset, .unset, .unset, .unset, .unset] []) := by
    intro Tj9 Lj9 p10 s11 s12 s13 s14 Xj9 ej9 Nj9 qp10 Dj9
    show own_Go _ _ _ _ Tj9 (mkF m 58 #[.val (.int x0), .val (.int x1), .val (.int p10), s11, s12, s13, s14, .unset, .unset, .unset, .unset, .unset] [])
    refine own_st (fun t k => XS.iloadN Xj9.here hx rfl (hb hby at_58) rfl k) ?_
    show own_Go _ _ _ _ Tj9 (mkF m 59 _ [(.int p10)])
    obtain ⟨_, _, ⟨T15, L15, k15, n15⟩, -, X15, ⟨Lc15, hQ15, l15, y15, z15⟩, st15⟩ := Jvm.LawKit.callS Xj9 hx (y := (⟨"com/example/antientropy/antientropy/sds/ReceivedFilter", "windowStart", "(I)I"⟩ : MethodName)) hown (mvT hZ (hw _ (List.mem_of_getElem? (i := 1) rfl))) (mvT hZ (hw _ (List.mem_of_getElem? (i := 2) rfl))) (mvT hZ (hw _ (List.mem_of_getElem? (i := 3) rfl))) (mvT hZ (hw _ (List.mem_of_getElem? (i := 4) rfl))) (by decide) (backOf (W := 0) (rm2 l Z a0 hw [] p10 h0 n0 Z0 ) hZ (hw _ (List.mem_of_getElem? (i := 4) rfl)) (hw _ (List.mem_of_getElem? (i := 3) rfl)) (by decide) (by decide)) (g := (mkF m 59 #[.val (.int x0), .val (.int x1), .val (.int p10), s11, s12, s13, s14, .unset, .unset, .unset, .unset, .unset] [(.int p10)])) rfl (by rw [hml]; rfl) (argsL := [(.int p10)]) (rest := []) (lenOf own_pd__I_I rfl) rfl (by show 2 * 0 + _ ≤ _; exact Nat.le_of_eq rfl) (hb hby at_59) (fun _ _ => ⟨rfl, ej9, (by decide : 0 + 0 ≤ _), (by decide : 0 + 0 ≤ _)⟩)
    dsimp only [Pt.U, Pt.locs, Pt.cells, Pt.slots] at X15 l15 y15 z15 st15 hQ15
    subst l15 y15 z15
    obtain ⟨rfl, NQ15, eq15⟩ := hQ15
    have N16 := Fr.app Nj9 NQ15
    refine own_st st15 ?_
    show own_Go _ _ _ _ T15 (mkF m 62 _ [(.int (own_ws p10))])
    refine own_st (fun t k => XS.i2l X15.here hx rfl (hb hby at_62) rfl k) ?_
    show own_Go _ _ _ _ T15 (mkF m 63 _ [(.long (own_ws p10).toInt64)])
    generalize hv17 : (own_ws p10).toInt64 = v17
    have os18 : storeLocals #[.val (.int x0), .val (.int x1), .val (.int p10), s11, s12, s13, s14, .unset, .unset, .unset, .unset, .unset] 3 (.long v17) = some #[.val (.int x0), .val (.int x1), .val (.int p10), .val (.long v17), .second, s13, s14, .unset, .unset, .unset, .unset, .unset] := by rcases Dj9 with ⟨_, _, _, rfl, rfl, rfl, rfl⟩ | ⟨rfl, rfl, rfl, rfl⟩ <;> rfl
    refine own_st (fun t k => XS.lstoreN X15.here hx rfl (hb hby at_63) rfl (l' := #[.val (.int x0), .val (.int x1), .val (.int p10), .val (.long v17), .second, s13, s14, .unset, .unset, .unset, .unset, .unset]) os18 k) ?_
    show own_Go _ _ _ _ T15 (mkF m 64 #[.val (.int x0), .val (.int x1), .val (.int p10), .val (.long v17), .second, s13, s14, .unset, .unset, .unset, .unset, .unset] [])
    refine own_st (fun t k => XS.iloadN X15.here hx rfl (hb hby at_64) rfl k) ?_
    show own_Go _ _ _ _ T15 (mkF m 65 _ [(.int p10)])
    refine own_st (fun t k => XS.i2l X15.here hx rfl (hb hby at_65) rfl k) ?_
    show own_Go _ _ _ _ T15 (mkF m 66 _ [(.long p10.toInt64)])
    refine own_st (fun t k => XS.lloadN X15.here hx rfl (hb hby at_66) rfl k) ?_
    show own_Go _ _ _ _ T15 (mkF m 67 _ [(.long v17), (.long p10.toInt64)])
    refine own_st (fun t k => XS.lsub X15.here hx rfl (hb hby at_67) rfl k) ?_
    show own_Go _ _ _ _ T15 (mkF m 68 _ [(.long (p10.toInt64 - v17))])
    generalize hv19 : (p10.toInt64 - v17) = v19
    have os20 : storeLocals #[.val (.int x0), .val (.int x1), .val (.int p10), .val (.long v17), .second, s13, s14, .unset, .unset, .unset, .unset, .unset] 5 (.long v19) = some #[.val (.int x0), .val (.int x1), .val (.int p10), .val (.long v17), .second, .val (.long v19), .second, .unset, .unset, .unset, .unset, .unset] := by rcases Dj9 with ⟨_, _, _, rfl, rfl, rfl, rfl⟩ | ⟨rfl, rfl, rfl, rfl⟩ <;> rfl
    refine own_st (fun t k => XS.lstore X15.here hx rfl (hb hby at_68) rfl (l' := #[.val (.int x0), .val (.int x1), .val (.int p10), .val (.long v17), .second, .val (.long v19), .second, .unset, .unset, .unset, .unset, .unset]) os20 k) ?_
    show own_Go _ _ _ _ T15 (mkF m 70 #[.val (.int x0), .val (.int x1), .val (.int p10), .val (.long v17), .second, .val (.long v19), .second, .unset, .unset, .unset, .unset, .unset] [])
    refine own_st (fun t k => XS.lloadN X15.here hx rfl (hb hby at_70) rfl k) ?_
    show own_Go _ _ _ _ T15 (mkF m 71 _ [(.long v17)])
    refine own_st (fun t k => XS.lconst X15.here hx rfl (hb hby at_71) k) ?_
    show own_Go _ _ _ _ T15 (mkF m 72 _ [(.long (0 : Int64)), (.long v17)])
    refine own_st (fun t k => XS.lcmp X15.here hx rfl (hb hby at_72) rfl k) ?_
    show own_Go _ _ _ _ T15 (mkF m 73 _ [(.int (lcmpW v17 (0 : Int64)))])
    have J24 : ∀ (Tj24 : State) (Lj24 : List Loc) (p25 : Int32), Stand p l e room_1 s m #[(.int x0), (.int x1)] below meth c Tj24 Lj24 0 0 → Tj24.heap = h0 → Fr n0 Lj24 → p25 = (if v17 < (0 : Int64) then (0 : Int32) else (1 : Int32)) → own_Go p.tables e below Pq Tj24 (mkF m 81 #[.val (.int x0), .val (.int x1), .val (.int p10), .val (.long v17), .second, .val (.long v19), .second, .unset, .unset, .unset, .unset, .unset] [(.int p25)]) := by
      intro Tj24 Lj24 p25 Xj24 ej24 Nj24 qp25
      show own_Go _ _ _ _ Tj24 (mkF m 81 _ [(.int p25)])
      refine own_st (fun t k => XS.istore Xj24.here hx rfl (hb hby at_81) rfl (l' := #[.val (.int x0), .val (.int x1), .val (.int p10), .val (.long v17), .second, .val (.long v19), .second, .val (.int p25), .unset, .unset, .unset, .unset]) rfl k) ?_
      show own_Go _ _ _ _ Tj24 (mkF m 83 #[.val (.int x0), .val (.int x1), .val (.int p10), .val (.long v17), .second, .val (.long v19), .second, .val (.int p25), .unset, .unset, .unset, .unset] [])
      refine own_st (fun t k => XS.lloadN Xj24.here hx rfl (hb hby at_83) rfl k) ?_
      show own_Go _ _ _ _ Tj24 (mkF m 84 _ [(.long v17)])
      refine own_st (fun t k => Xj24.ldc2Long hx hown (mvT hZ (hw _ (List.mem_of_getElem? (i := 9) rfl))) (g := (mkF m 84 #[.val (.int x0), .val (.int x1), .val (.int p10), .val (.long v17), .second, .val (.long v19), .second, .val (.int p25), .unset, .unset, .unset, .unset] [(.long v17)])) rfl (hb hby at_84) _ k) ?_
      show own_Go _ _ _ _ Tj24 (mkF m 87 _ [(.long (5000 : Int64)), (.long v17)])
      refine own_st (fun t k => XS.lrem Xj24.here hx rfl (hb hby at_87) rfl (by decide) k) ?_
      show own_Go _ _ _ _ Tj24 (mkF m 88 _ [(.long (v17 - (v17 / (5000 : Int64)) * (5000 : Int64)))])
      refine own_st (fun t k => XS.lconst Xj24.here hx rfl (hb hby at_88) k) ?_
      show own_Go _ _ _ _ Tj24 (mkF m 89 _ [(.long (0 : Int64)), (.long (v17 - (v17 / (5000 : Int64)) * (5000 : Int64)))])
      refine own_st (fun t k => XS.lcmp Xj24.here hx rfl (hb hby at_89) rfl k) ?_
      show own_Go _ _ _ _ Tj24 (mkF m 90 _ [(.int (lcmpW (v17 - (v17 / (5000 : Int64)) * (5000 : Int64)) (0 : Int64)))])
      have J29 : ∀ (Tj29 : State) (Lj29 : List Loc) (p30 : Int32), Stand p l e room_1 s m #[(.int x0), (.int x1)] below meth c Tj29 Lj29 0 0 → Tj29.heap = h0 → Fr n0 Lj29 → p30 = (if (v17 - (v17 / (5000 : Int64)) * (5000 : Int64)) = (0 : Int64) then (1 : Int32) else (0 : Int32)) → own_Go p.tables e below Pq Tj29 (mkF m 98 #[.val (.int x0), .val (.int x1), .val (.int p10), .val (.long v17), .second, .val (.long v19), .second, .val (.int p25), .unset, .unset, .unset, .unset] [(.int p30)]) := by
        intro Tj29 Lj29 p30 Xj29 ej29 Nj29 qp30
        show own_Go _ _ _ _ Tj29 (mkF m 98 _ [(.int p30)])
        refine own_st (fun t k => XS.istore Xj29.here hx rfl (hb hby at_98) rfl (l' := #[.val (.int x0), .val (.int x1), .val (.int p10), .val (.long v17), .second, .val (.long v19), .second, .val (.int p25), .val (.int p30), .unset, .unset, .unset]) rfl k) ?_
        show own_Go _ _ _ _ Tj29 (mkF m 100 #[.val (.int x0), .val (.int x1), .val (.int p10), .val (.long v17), .second, .val (.long v19), .second, .val (.int p25), .val (.int p30), .unset, .unset, .unset] [])
        refine own_st (fun t k => XS.lload Xj29.here hx rfl (hb hby at_100) rfl k) ?_
        show own_Go _ _ _ _ Tj29 (mkF m 102 _ [(.long v19)])
        refine own_st (fun t k => XS.lconst Xj29.here hx rfl (hb hby at_102) k) ?_
        show own_Go _ _ _ _ Tj29 (mkF m 103 _ [(.long (0 : Int64)), (.long v19)])
        refine own_st (fun t k => XS.lcmp Xj29.here hx rfl (hb hby at_103) rfl k) ?_
        show own_Go _ _ _ _ Tj29 (mkF m 104 _ [(.int (lcmpW v19 (0 : Int64)))])
        have J34 : ∀ (Tj34 : State) (Lj34 : List Loc) (p35 : Int32), Stand p l e room_1 s m #[(.int x0), (.int x1)] below meth c Tj34 Lj34 0 0 → Tj34.heap = h0 → Fr n0 Lj34 → p35 = (if v19 < (0 : Int64) then (0 : Int32) else (1 : Int32)) → own_Go p.tables e below Pq Tj34 (mkF m 112 #[.val (.int x0), .val (.int x1), .val (.int p10), .val (.long v17), .second, .val (.long v19), .second, .val (.int p25), .val (.int p30), .unset, .unset, .unset] [(.int p35)]) := by
          intro Tj34 Lj34 p35 Xj34 ej34 Nj34 qp35
          show own_Go _ _ _ _ Tj34 (mkF m 112 _ [(.int p35)])
          refine own_st (fun t k => XS.istore Xj34.here hx rfl (hb hby at_112) rfl (l' := #[.val (.int x0), .val (.int x1), .val (.int p10), .val (.long v17), .second, .val (.long v19), .second, .val (.int p25), .val (.int p30), .val (.int p35), .unset, .unset]) rfl k) ?_
          show own_Go _ _ _ _ Tj34 (mkF m 114 #[.val (.int x0), .val (.int x1), .val (.int p10), .val (.long v17), .second, .val (.long v19), .second, .val (.int p25), .val (.int p30), .val (.int p35), .unset, .unset] [])
          refine own_st (fun t k => XS.lload Xj34.here hx rfl (hb hby at_114) rfl k) ?_
          show own_Go _ _ _ _ Tj34 (mkF m 116 _ [(.long v19)])
          refine own_st (fun t k => Xj34.ldc2Long hx hown (mvT hZ (hw _ (List.mem_of_getElem? (i := 10) rfl))) (g := (mkF m 116 #[.val (.int x0), .val (.int x1), .val (.int p10), .val (.long v17), .second, .val (.long v19), .second, .val (.int p25), .val (.int p30), .val (.int p35), .unset, .unset] [(.long v19)])) rfl (hb hby at_116) _ k) ?_
          show own_Go _ _ _ _ Tj34 (mkF m 119 _ [(.long (10000 : Int64)), (.long v19)])
          refine own_st (fun t k => XS.lcmp Xj34.here hx rfl (hb hby at_119) rfl k) ?_
          show own_Go _ _ _ _ Tj34 (mkF m 120 _ [(.int (lcmpW v19 (10000 : Int64)))])
          have J39 : ∀ (Tj39 : State) (Lj39 : List Loc) (p40 : Int32), Stand p l e room_1 s m #[(.int x0), (.int x1)] below meth c Tj39 Lj39 0 0 → Tj39.heap = h0 → Fr n0 Lj39 → p40 = (if v19 < (10000 : Int64) then (1 : Int32) else (0 : Int32)) → own_Go p.tables e below Pq Tj39 (mkF m 128 #[.val (.int x0), .val (.int x1), .val (.int p10), .val (.long v17), .second, .val (.long v19), .second, .val (.int p25), .val (.int p30), .val (.int p35), .unset, .unset] [(.int p40)]) := by
            intro Tj39 Lj39 p40 Xj39 ej39 Nj39 qp40
            show own_Go _ _ _ _ Tj39 (mkF m 128 _ [(.int p40)])
            refine own_st (fun t k => XS.istore Xj39.here hx rfl (hb hby at_128) rfl (l' := #[.val (.int x0), .val (.int x1), .val (.int p10), .val (.long v17), .second, .val (.long v19), .second, .val (.int p25), .val (.int p30), .val (.int p35), .val (.int p40), .unset]) rfl k) ?_
            show own_Go _ _ _ _ Tj39 (mkF m 130 #[.val (.int x0), .val (.int x1), .val (.int p10), .val (.long v17), .second, .val (.long v19), .second, .val (.int p25), .val (.int p30), .val (.int p35), .val (.int p40), .unset] [])
            refine own_st (fun t k => XS.lload Xj39.here hx rfl (hb hby at_130) rfl k) ?_
            show own_Go _ _ _ _ Tj39 (mkF m 132 _ [(.long v19)])
            refine own_st (fun t k => Xj39.ldc2Long hx hown (mvT hZ (hw _ (List.mem_of_getElem? (i := 9) rfl))) (g := (mkF m 132 #[.val (.int x0), .val (.int x1), .val (.int p10), .val (.long v17), .second, .val (.long v19), .second, .val (.int p25), .val (.int p30), .val (.int p35), .val (.int p40), .unset] [(.long v19)])) rfl (hb hby at_132) _ k) ?_
            show own_Go _ _ _ _ Tj39 (mkF m 135 _ [(.long (5000 : Int64)), (.long v19)])
            refine own_st (fun t k => XS.lcmp Xj39.here hx rfl (hb hby at_135) rfl k) ?_
            show own_Go _ _ _ _ Tj39 (mkF m 136 _ [(.int (lcmpW v19 (5000 : Int64)))])
            have J46 : ∀ (Tj46 : State) (Lj46 : List Loc) (p47 : Int32), Stand p l e room_1 s m #[(.int x0), (.int x1)] below meth c Tj46 Lj46 0 0 → Tj46.heap = h0 → Fr n0 Lj46 → p47 = (if v19 < (5000 : Int64) then (if v17 = (0 : Int64) then (1 : Int32) else (0 : Int32)) else (1 : Int32)) → own_Go p.tables e below Pq Tj46 (mkF m 150 #[.val (.int x0), .val (.int x1), .val (.int p10), .val (.long v17), .second, .val (.long v19), .second, .val (.int p25), .val (.int p30), .val (.int p35), .val (.int p40), .unset] [(.int p47)]) := by
              intro Tj46 Lj46 p47 Xj46 ej46 Nj46 qp47
              show own_Go _ _ _ _ Tj46 (mkF m 150 _ [(.int p47)])
              refine own_st (fun t k => XS.istore Xj46.here hx rfl (hb hby at_150) rfl (l' := #[.val (.int x0), .val (.int x1), .val (.int p10), .val (.long v17), .second, .val (.long v19), .second, .val (.int p25), .val (.int p30), .val (.int p35), .val (.int p40), .val (.int p47)]) rfl k) ?_
              show own_Go _ _ _ _ Tj46 (mkF m 152 #[.val (.int x0), .val (.int x1), .val (.int p10), .val (.long v17), .second, .val (.long v19), .second, .val (.int p25), .val (.int p30), .val (.int p35), .val (.int p40), .val (.int p47)] [])
              refine own_st (fun t k => XS.iload Xj46.here hx rfl (hb hby at_152) rfl k) ?_
              show own_Go _ _ _ _ Tj46 (mkF m 154 _ [(.int p25)])
              have J59 : ∀ (Tj59 : State) (Lj59 : List Loc) (p60 : Int32), Stand p l e room_1 s m #[(.int x0), (.int x1)] below meth c Tj59 Lj59 0 0 → Tj59.heap = h0 → Fr n0 Lj59 → p60 = (if p25 = (0 : Int32) then (0 : Int32) else (if p30 = (0 : Int32) then (0 : Int32) else (if p35 = (0 : Int32) then (0 : Int32) else (if p40 = (0 : Int32) then (0 : Int32) else (if p47 = (0 : Int32) then (0 : Int32) else (1 : Int32)))))) → own_Go p.tables e below Pq Tj59 (mkF m 182 #[.val (.int x0), .val (.int x1), .val (.int p10), .val (.long v17), .second, .val (.long v19), .second, .val (.int p25), .val (.int p30), .val (.int p35), .val (.int p40), .val (.int p47)] [(.int p60)]) := by
                intro Tj59 Lj59 p60 Xj59 ej59 Nj59 qp60
                show own_Go _ _ _ _ Tj59 (mkF m 182 _ [(.int p60)])
                subst hPq
                refine own_out Xj59 (v := some (.int (nar .boolean p60))) (fun h => by rw [Bd.returns] at h; cases h) Bd.notSynchronized (fun fs hr => retN Xj59 hx (t := .boolean) Bd.returns (by simp) (hb hby at_182) hr) (by decide) (by decide) ?_
                show Q0 Z x0 x1 h0 n0 _ Tj59.heap _
                rw [ej59]
                exact ⟨congrArg (fun z => some (Value.int (nar .boolean z))) (own_law x0 x1 p10 v17 v19 p25 p30 p35 p40 p47 p60 qp10 hv17 hv19 qp25 qp30 qp35 qp40 qp47 qp60), Nj59⟩
              by_cases c48 : p25 = (0 : Int32)
              · skip
                refine own_st (fun t k => XS.ifYes Xj46.here hx rfl (pc0 := 154) (pc' := 181) rfl (hb hby at_154) rfl ((if0 _ _).trans (teq c48).1) (by decide) (by decide) k) ?_
                show own_Go _ _ _ _ Tj46 (mkF m 181 _ [])
                refine own_st (fun t k => XS.iconst Xj46.here hx rfl (hb hby at_181) k) ?_
                show own_Go _ _ _ _ Tj46 (mkF m 182 _ [(.int (0 : Int32))])
                exact J59 Tj46 _ _ Xj46 ej46 Nj46 (by simp only [if_pos c48])
              · skip
                refine own_st (fun t k => XS.ifNo Xj46.here hx rfl (hb hby at_154) rfl ((if0 _ _).trans (feq c48).1) k) ?_
                show own_Go _ _ _ _ Tj46 (mkF m 157 _ [])
                refine own_st (fun t k => XS.iload Xj46.here hx rfl (hb hby at_157) rfl k) ?_
                show own_Go _ _ _ _ Tj46 (mkF m 159 _ [(.int p30)])
                by_cases c50 : p30 = (0 : Int32)
                · skip
                  refine own_st (fun t k => XS.ifYes Xj46.here hx rfl (pc0 := 159) (pc' := 181) rfl (hb hby at_159) rfl ((if0 _ _).trans (teq c50).1) (by decide) (by decide) k) ?_
                  show own_Go _ _ _ _ Tj46 (mkF m 181 _ [])
                  refine own_st (fun t k => XS.iconst Xj46.here hx rfl (hb hby at_181) k) ?_
                  show own_Go _ _ _ _ Tj46 (mkF m 182 _ [(.int (0 : Int32))])
                  exact J59 Tj46 _ _ Xj46 ej46 Nj46 (by simp only [if_neg c48, if_pos c50])
                · skip
                  refine own_st (fun t k => XS.ifNo Xj46.here hx rfl (hb hby at_159) rfl ((if0 _ _).trans (feq c50).1) k) ?_
                  show own_Go _ _ _ _ Tj46 (mkF m 162 _ [])
                  refine own_st (fun t k => XS.iload Xj46.here hx rfl (hb hby at_162) rfl k) ?_
                  show own_Go _ _ _ _ Tj46 (mkF m 164 _ [(.int p35)])
                  by_cases c52 : p35 = (0 : Int32)
                  · skip
                    refine own_st (fun t k => XS.ifYes Xj46.here hx rfl (pc0 := 164) (pc' := 181) rfl (hb hby at_164) rfl ((if0 _ _).trans (teq c52).1) (by decide) (by decide) k) ?_
                    show own_Go _ _ _ _ Tj46 (mkF m 181 _ [])
                    refine own_st (fun t k => XS.iconst Xj46.here hx rfl (hb hby at_181) k) ?_
                    show own_Go _ _ _ _ Tj46 (mkF m 182 _ [(.int (0 : Int32))])
                    exact J59 Tj46 _ _ Xj46 ej46 Nj46 (by simp only [if_neg c48, if_neg c50, if_pos c52])
                  · skip
                    refine own_st (fun t k => XS.ifNo Xj46.here hx rfl (hb hby at_164) rfl ((if0 _ _).trans (feq c52).1) k) ?_
                    show own_Go _ _ _ _ Tj46 (mkF m 167 _ [])
                    refine own_st (fun t k => XS.iload Xj46.here hx rfl (hb hby at_167) rfl k) ?_
                    show own_Go _ _ _ _ Tj46 (mkF m 169 _ [(.int p40)])
                    by_cases c54 : p40 = (0 : Int32)
                    · skip
                      refine own_st (fun t k => XS.ifYes Xj46.here hx rfl (pc0 := 169) (pc' := 181) rfl (hb hby at_169) rfl ((if0 _ _).trans (teq c54).1) (by decide) (by decide) k) ?_
                      show own_Go _ _ _ _ Tj46 (mkF m 181 _ [])
                      refine own_st (fun t k => XS.iconst Xj46.here hx rfl (hb hby at_181) k) ?_
                      show own_Go _ _ _ _ Tj46 (mkF m 182 _ [(.int (0 : Int32))])
                      exact J59 Tj46 _ _ Xj46 ej46 Nj46 (by simp only [if_neg c48, if_neg c50, if_neg c52, if_pos c54])
                    · skip
                      refine own_st (fun t k => XS.ifNo Xj46.here hx rfl (hb hby at_169) rfl ((if0 _ _).trans (feq c54).1) k) ?_
                      show own_Go _ _ _ _ Tj46 (mkF m 172 _ [])
                      refine own_st (fun t k => XS.iload Xj46.here hx rfl (hb hby at_172) rfl k) ?_
                      show own_Go _ _ _ _ Tj46 (mkF m 174 _ [(.int p47)])
                      by_cases c56 : p47 = (0 : Int32)
                      · skip
                        refine own_st (fun t k => XS.ifYes Xj46.here hx rfl (pc0 := 174) (pc' := 181) rfl (hb hby at_174) rfl ((if0 _ _).trans (teq c56).1) (by decide) (by decide) k) ?_
                        show own_Go _ _ _ _ Tj46 (mkF m 181 _ [])
                        refine own_st (fun t k => XS.iconst Xj46.here hx rfl (hb hby at_181) k) ?_
                        show own_Go _ _ _ _ Tj46 (mkF m 182 _ [(.int (0 : Int32))])
                        exact J59 Tj46 _ _ Xj46 ej46 Nj46 (by simp only [if_neg c48, if_neg c50, if_neg c52, if_neg c54, if_pos c56])
                      · skip
                        refine own_st (fun t k => XS.ifNo Xj46.here hx rfl (hb hby at_174) rfl ((if0 _ _).trans (feq c56).1) k) ?_
                        show own_Go _ _ _ _ Tj46 (mkF m 177 _ [])
                        refine own_st (fun t k => XS.iconst Xj46.here hx rfl (hb hby at_177) k) ?_
                        show own_Go _ _ _ _ Tj46 (mkF m 178 _ [(.int (1 : Int32))])
                        refine own_st (fun t k => XS.goto Xj46.here hx rfl (pc0 := 178) (pc' := 182) rfl (hb hby at_178) (by decide) (by decide) k) ?_
                        show own_Go _ _ _ _ Tj46 (mkF m 182 _ [(.int (1 : Int32))])
                        exact J59 Tj46 _ _ Xj46 ej46 Nj46 (by simp only [if_neg c48, if_neg c50, if_neg c52, if_neg c54, if_neg c56])
            by_cases c41 : v19 < (5000 : Int64)
            · skip
              refine own_st (fun t k => XS.ifNo Xj39.here hx rfl (hb hby at_136) rfl (own_lcF (cd := .ge) (not_not_intro c41)) k) ?_
              show own_Go _ _ _ _ Tj39 (mkF m 139 _ [])
              refine own_st (fun t k => XS.lloadN Xj39.here hx rfl (hb hby at_139) rfl k) ?_
              show own_Go _ _ _ _ Tj39 (mkF m 140 _ [(.long v17)])
              refine own_st (fun t k => XS.lconst Xj39.here hx rfl (hb hby at_140) k) ?_
              show own_Go _ _ _ _ Tj39 (mkF m 141 _ [(.long (0 : Int64)), (.long v17)])
              refine own_st (fun t k => XS.lcmp Xj39.here hx rfl (hb hby at_141) rfl k) ?_
              show own_Go _ _ _ _ Tj39 (mkF m 142 _ [(.int (lcmpW v17 (0 : Int64)))])
              by_cases c42 : v17 = (0 : Int64)
              · skip
                refine own_st (fun t k => XS.ifNo Xj39.here hx rfl (hb hby at_142) rfl (own_lcF (cd := .ne) (not_not_intro c42)) k) ?_
                show own_Go _ _ _ _ Tj39 (mkF m 145 _ [])
                refine own_st (fun t k => XS.iconst Xj39.here hx rfl (hb hby at_145) k) ?_
                show own_Go _ _ _ _ Tj39 (mkF m 146 _ [(.int (1 : Int32))])
                refine own_st (fun t k => XS.goto Xj39.here hx rfl (pc0 := 146) (pc' := 150) rfl (hb hby at_146) (by decide) (by decide) k) ?_
                show own_Go _ _ _ _ Tj39 (mkF m 150 _ [(.int (1 : Int32))])
                exact J46 Tj39 _ _ Xj39 ej39 Nj39 (by simp only [if_pos c41, if_pos c42])
              · skip
                refine own_st (fun t k => XS.ifYes Xj39.here hx rfl (pc0 := 142) (pc' := 149) rfl (hb hby at_142) rfl (own_lcT (cd := .ne) c42) (by decide) (by decide) k) ?_
                show own_Go _ _ _ _ Tj39 (mkF m 149 _ [])
                refine own_st (fun t k => XS.iconst Xj39.here hx rfl (hb hby at_149) k) ?_
                show own_Go _ _ _ _ Tj39 (mkF m 150 _ [(.int (0 : Int32))])
                exact J46 Tj39 _ _ Xj39 ej39 Nj39 (by simp only [if_pos c41, if_neg c42])
            · skip
              refine own_st (fun t k => XS.ifYes Xj39.here hx rfl (pc0 := 136) (pc' := 145) rfl (hb hby at_136) rfl (own_lcT (cd := .ge) c41) (by decide) (by decide) k) ?_
              show own_Go _ _ _ _ Tj39 (mkF m 145 _ [])
              refine own_st (fun t k => XS.iconst Xj39.here hx rfl (hb hby at_145) k) ?_
              show own_Go _ _ _ _ Tj39 (mkF m 146 _ [(.int (1 : Int32))])
              refine own_st (fun t k => XS.goto Xj39.here hx rfl (pc0 := 146) (pc' := 150) rfl (hb hby at_146) (by decide) (by decide) k) ?_
              show own_Go _ _ _ _ Tj39 (mkF m 150 _ [(.int (1 : Int32))])
              exact J46 Tj39 _ _ Xj39 ej39 Nj39 (by simp only [if_neg c41])
          by_cases c36 : v19 < (10000 : Int64)
          · skip
            refine own_st (fun t k => XS.ifNo Xj34.here hx rfl (hb hby at_120) rfl (own_lcF (cd := .ge) (not_not_intro c36)) k) ?_
            show own_Go _ _ _ _ Tj34 (mkF m 123 _ [])
            refine own_st (fun t k => XS.iconst Xj34.here hx rfl (hb hby at_123) k) ?_
            show own_Go _ _ _ _ Tj34 (mkF m 124 _ [(.int (1 : Int32))])
            refine own_st (fun t k => XS.goto Xj34.here hx rfl (pc0 := 124) (pc' := 128) rfl (hb hby at_124) (by decide) (by decide) k) ?_
            show own_Go _ _ _ _ Tj34 (mkF m 128 _ [(.int (1 : Int32))])
            exact J39 Tj34 _ _ Xj34 ej34 Nj34 (by simp only [if_pos c36])
          · skip
            refine own_st (fun t k => XS.ifYes Xj34.here hx rfl (pc0 := 120) (pc' := 127) rfl (hb hby at_120) rfl (own_lcT (cd := .ge) c36) (by decide) (by decide) k) ?_
            show own_Go _ _ _ _ Tj34 (mkF m 127 _ [])
            refine own_st (fun t k => XS.iconst Xj34.here hx rfl (hb hby at_127) k) ?_
            show own_Go _ _ _ _ Tj34 (mkF m 128 _ [(.int (0 : Int32))])
            exact J39 Tj34 _ _ Xj34 ej34 Nj34 (by simp only [if_neg c36])
        by_cases c31 : v19 < (0 : Int64)
        · skip
          refine own_st (fun t k => XS.ifYes Xj29.here hx rfl (pc0 := 104) (pc' := 111) rfl (hb hby at_104) rfl (own_lcT (cd := .lt) c31) (by decide) (by decide) k) ?_
          show own_Go _ _ _ _ Tj29 (mkF m 111 _ [])
          refine own_st (fun t k => XS.iconst Xj29.here hx rfl (hb hby at_111) k) ?_
          show own_Go _ _ _ _ Tj29 (mkF m 112 _ [(.int (0 : Int32))])
          exact J34 Tj29 _ _ Xj29 ej29 Nj29 (by simp only [if_pos c31])
        · skip
          refine own_st (fun t k => XS.ifNo Xj29.here hx rfl (hb hby at_104) rfl (own_lcF (cd := .lt) c31) k) ?_
          show own_Go _ _ _ _ Tj29 (mkF m 107 _ [])
          refine own_st (fun t k => XS.iconst Xj29.here hx rfl (hb hby at_107) k) ?_
          show own_Go _ _ _ _ Tj29 (mkF m 108 _ [(.int (1 : Int32))])
          refine own_st (fun t k => XS.goto Xj29.here hx rfl (pc0 := 108) (pc' := 112) rfl (hb hby at_108) (by decide) (by decide) k) ?_
          show own_Go _ _ _ _ Tj29 (mkF m 112 _ [(.int (1 : Int32))])
          exact J34 Tj29 _ _ Xj29 ej29 Nj29 (by simp only [if_neg c31])
      by_cases c26 : (v17 - (v17 / (5000 : Int64)) * (5000 : Int64)) = (0 : Int64)
      · skip
        refine own_st (fun t k => XS.ifNo Xj24.here hx rfl (hb hby at_90) rfl (own_lcF (cd := .ne) (not_not_intro c26)) k) ?_
        show own_Go _ _ _ _ Tj24 (mkF m 93 _ [])
        refine own_st (fun t k => XS.iconst Xj24.here hx rfl (hb hby at_93) k) ?_
        show own_Go _ _ _ _ Tj24 (mkF m 94 _ [(.int (1 : Int32))])
        refine own_st (fun t k => XS.goto Xj24.here hx rfl (pc0 := 94) (pc' := 98) rfl (hb hby at_94) (by decide) (by decide) k) ?_
        show own_Go _ _ _ _ Tj24 (mkF m 98 _ [(.int (1 : Int32))])
        exact J29 Tj24 _ _ Xj24 ej24 Nj24 (by simp only [if_pos c26])
      · skip
        refine own_st (fun t k => XS.ifYes Xj24.here hx rfl (pc0 := 90) (pc' := 97) rfl (hb hby at_90) rfl (own_lcT (cd := .ne) c26) (by decide) (by decide) k) ?_
        show own_Go _ _ _ _ Tj24 (mkF m 97 _ [])
        refine own_st (fun t k => XS.iconst Xj24.here hx rfl (hb hby at_97) k) ?_
        show own_Go _ _ _ _ Tj24 (mkF m 98 _ [(.int (0 : Int32))])
        exact J29 Tj24 _ _ Xj24 ej24 Nj24 (by simp only [if_neg c26])
    by_cases c21 : v17 < (0 : Int64)
    · skip
      refine own_st (fun t k => XS.ifYes X15.here hx rfl (pc0 := 73) (pc' := 80) rfl (hb hby at_73) rfl (own_lcT (cd := .lt) c21) (by decide) (by decide) k) ?_
      show own_Go _ _ _ _ T15 (mkF m 80 _ [])
      refine own_st (fun t k => XS.iconst X15.here hx rfl (hb hby at_80) k) ?_
      show own_Go _ _ _ _ T15 (mkF m 81 _ [(.int (0 : Int32))])
      exact J24 T15 _ _ X15 eq15 N16 (by simp only [if_pos c21])
    · skip
      refine own_st (fun t k => XS.ifNo X15.here hx rfl (hb hby at_73) rfl (own_lcF (cd := .lt) c21) k) ?_
      show own_Go _ _ _ _ T15 (mkF m 76 _ [])
      refine own_st (fun t k => XS.iconst X15.here hx rfl (hb hby at_76) k) ?_
      show own_Go _ _ _ _ T15 (mkF m 77 _ [(.int (1 : Int32))])
      refine own_st (fun t k => XS.goto X15.here hx rfl (pc0 := 77) (pc' := 81) rfl (hb hby at_77) (by decide) (by decide) k) ?_
      show own_Go _ _ _ _ T15 (mkF m 81 _ [(.int (1 : Int32))])
      exact J24 T15 _ _ X15 eq15 N16 (by simp only [if_neg c21])
  by_cases c1 : (x1 &&& (1 : Int32)) = (0 : Int32)
  · skip
    refine own_st (fun t k => XS.ifYes X0.here hx rfl (pc0 := 3) (pc' := 14) rfl (hb hby at_3) rfl ((if0 _ _).trans (teq c1).1) (by decide) (by decide) k) ?_
    show own_Go _ _ _ _ s₁ (mkF m 14 _ [])
    refine own_st (fun t k => XS.iloadN X0.here hx rfl (hb hby at_14) rfl k) ?_
    show own_Go _ _ _ _ s₁ (mkF m 15 _ [(.int x0)])
    refine own_st (fun t k => X0.ldcInt hx hown (mvT hZ (hw _ (List.mem_of_getElem? (i := 0) rfl))) (g := (mkF m 15 #[.val (.int x0), .val (.int x1), .unset, .unset, .unset, .unset, .unset, .unset, .unset, .unset, .unset, .unset] [(.int x0)])) rfl (hb hby at_15) _ k) ?_
    show own_Go _ _ _ _ s₁ (mkF m 17 _ [(.int (2147483647 : Int32)), (.int x0)])
    refine own_st (fun t k => XS.iand X0.here hx rfl (hb hby at_17) rfl k) ?_
    show own_Go _ _ _ _ s₁ (mkF m 18 _ [(.int (x0 &&& (2147483647 : Int32)))])
    refine own_st (fun t k => X0.ldcInt hx hown (mvT hZ (hw _ (List.mem_of_getElem? (i := 11) rfl))) (g := (mkF m 18 #[.val (.int x0), .val (.int x1), .unset, .unset, .unset, .unset, .unset, .unset, .unset, .unset, .unset, .unset] [(.int (x0 &&& (2147483647 : Int32)))])) rfl (hb hby at_18) _ k) ?_
    show own_Go _ _ _ _ s₁ (mkF m 20 _ [(.int (429497 : Int32)), (.int (x0 &&& (2147483647 : Int32)))])
    refine own_st (fun t k => iremM X0 hx rfl (hb hby at_20) rfl (by decide) k) ?_
    show own_Go _ _ _ _ s₁ (mkF m 21 _ [(.int ((x0 &&& (2147483647 : Int32)) % (429497 : Int32)))])
    refine own_st (fun t k => XS.istoreN X0.here hx rfl (hb hby at_21) rfl (l' := #[.val (.int x0), .val (.int x1), .unset, .val (.int ((x0 &&& (2147483647 : Int32)) % (429497 : Int32))), .unset, .unset, .unset, .unset, .unset, .unset, .unset, .unset]) rfl k) ?_
    show own_Go _ _ _ _ s₁ (mkF m 22 #[.val (.int x0), .val (.int x1), .unset, .val (.int ((x0 &&& (2147483647 : Int32)) % (429497 : Int32))), .unset, .unset, .unset, .unset, .unset, .unset, .unset, .unset] [])
    refine own_st (fun t k => XS.iloadN X0.here hx rfl (hb hby at_22) rfl k) ?_
    show own_Go _ _ _ _ s₁ (mkF m 23 _ [(.int x1)])
    refine own_st (fun t k => XS.iconst X0.here hx rfl (hb hby at_23) k) ?_
    show own_Go _ _ _ _ s₁ (mkF m 24 _ [(.int (1 : Int32)), (.int x1)])
    refine own_st (fun t k => XS.ishr X0.here hx rfl (hb hby at_24) rfl k) ?_
    show own_Go _ _ _ _ s₁ (mkF m 25 _ [(.int (x1 >>> ((1 : Int32) &&& 31)))])
    refine own_st (fun t k => XS.iconst X0.here hx rfl (hb hby at_25) k) ?_
    show own_Go _ _ _ _ s₁ (mkF m 26 _ [(.int (3 : Int32)), (.int (x1 >>> ((1 : Int32) &&& 31)))])
    refine own_st (fun t k => XS.iand X0.here hx rfl (hb hby at_26) rfl k) ?_
    show own_Go _ _ _ _ s₁ (mkF m 27 _ [(.int ((x1 >>> ((1 : Int32) &&& 31)) &&& (3 : Int32)))])
    refine own_st (fun t k => XS.iconst X0.here hx rfl (hb hby at_27) k) ?_
    show own_Go _ _ _ _ s₁ (mkF m 28 _ [(.int (2 : Int32)), (.int ((x1 >>> ((1 : Int32) &&& 31)) &&& (3 : Int32)))])
    refine own_st (fun t k => XS.isub X0.here hx rfl (hb hby at_28) rfl k) ?_
    show own_Go _ _ _ _ s₁ (mkF m 29 _ [(.int (((x1 >>> ((1 : Int32) &&& 31)) &&& (3 : Int32)) - (2 : Int32)))])
    refine own_st (fun t k => XS.istore X0.here hx rfl (hb hby at_29) rfl (l' := #[.val (.int x0), .val (.int x1), .unset, .val (.int ((x0 &&& (2147483647 : Int32)) % (429497 : Int32))), .val (.int (((x1 >>> ((1 : Int32) &&& 31)) &&& (3 : Int32)) - (2 : Int32))), .unset, .unset, .unset, .unset, .unset, .unset, .unset]) rfl k) ?_
    show own_Go _ _ _ _ s₁ (mkF m 31 #[.val (.int x0), .val (.int x1), .unset, .val (.int ((x0 &&& (2147483647 : Int32)) % (429497 : Int32))), .val (.int (((x1 >>> ((1 : Int32) &&& 31)) &&& (3 : Int32)) - (2 : Int32))), .unset, .unset, .unset, .unset, .unset, .unset, .unset] [])
    refine own_st (fun t k => XS.iloadN X0.here hx rfl (hb hby at_31) rfl k) ?_
    show own_Go _ _ _ _ s₁ (mkF m 32 _ [(.int ((x0 &&& (2147483647 : Int32)) % (429497 : Int32)))])
    refine own_st (fun t k => XS.i2l X0.here hx rfl (hb hby at_32) rfl k) ?_
    show own_Go _ _ _ _ s₁ (mkF m 33 _ [(.long ((x0 &&& (2147483647 : Int32)) % (429497 : Int32)).toInt64)])
    refine own_st (fun t k => X0.ldc2Long hx hown (mvT hZ (hw _ (List.mem_of_getElem? (i := 9) rfl))) (g := (mkF m 33 #[.val (.int x0), .val (.int x1), .unset, .val (.int ((x0 &&& (2147483647 : Int32)) % (429497 : Int32))), .val (.int (((x1 >>> ((1 : Int32) &&& 31)) &&& (3 : Int32)) - (2 : Int32))), .unset, .unset, .unset, .unset, .unset, .unset, .unset] [(.long ((x0 &&& (2147483647 : Int32)) % (429497 : Int32)).toInt64)])) rfl (hb hby at_33) _ k) ?_
    show own_Go _ _ _ _ s₁ (mkF m 36 _ [(.long (5000 : Int64)), (.long ((x0 &&& (2147483647 : Int32)) % (429497 : Int32)).toInt64)])
    refine own_st (fun t k => XS.lmul X0.here hx rfl (hb hby at_36) rfl k) ?_
    show own_Go _ _ _ _ s₁ (mkF m 37 _ [(.long (((x0 &&& (2147483647 : Int32)) % (429497 : Int32)).toInt64 * (5000 : Int64)))])
    refine own_st (fun t k => XS.iload X0.here hx rfl (hb hby at_37) rfl k) ?_
    show own_Go _ _ _ _ s₁ (mkF m 39 _ [(.int (((x1 >>> ((1 : Int32) &&& 31)) &&& (3 : Int32)) - (2 : Int32))), (.long (((x0 &&& (2147483647 : Int32)) % (429497 : Int32)).toInt64 * (5000 : Int64)))])
    refine own_st (fun t k => XS.i2l X0.here hx rfl (hb hby at_39) rfl k) ?_
    show own_Go _ _ _ _ s₁ (mkF m 40 _ [(.long (((x1 >>> ((1 : Int32) &&& 31)) &&& (3 : Int32)) - (2 : Int32)).toInt64), (.long (((x0 &&& (2147483647 : Int32)) % (429497 : Int32)).toInt64 * (5000 : Int64)))])
    refine own_st (fun t k => XS.ladd X0.here hx rfl (hb hby at_40) rfl k) ?_
    show own_Go _ _ _ _ s₁ (mkF m 41 _ [(.long ((((x0 &&& (2147483647 : Int32)) % (429497 : Int32)).toInt64 * (5000 : Int64)) + (((x1 >>> ((1 : Int32) &&& 31)) &&& (3 : Int32)) - (2 : Int32)).toInt64))])
    refine own_st (fun t k => XS.lstore X0.here hx rfl (hb hby at_41) rfl (l' := #[.val (.int x0), .val (.int x1), .unset, .val (.int ((x0 &&& (2147483647 : Int32)) % (429497 : Int32))), .val (.int (((x1 >>> ((1 : Int32) &&& 31)) &&& (3 : Int32)) - (2 : Int32))), .val (.long ((((x0 &&& (2147483647 : Int32)) % (429497 : Int32)).toInt64 * (5000 : Int64)) + (((x1 >>> ((1 : Int32) &&& 31)) &&& (3 : Int32)) - (2 : Int32)).toInt64)), .second, .unset, .unset, .unset, .unset, .unset]) rfl k) ?_
    show own_Go _ _ _ _ s₁ (mkF m 43 #[.val (.int x0), .val (.int x1), .unset, .val (.int ((x0 &&& (2147483647 : Int32)) % (429497 : Int32))), .val (.int (((x1 >>> ((1 : Int32) &&& 31)) &&& (3 : Int32)) - (2 : Int32))), .val (.long ((((x0 &&& (2147483647 : Int32)) % (429497 : Int32)).toInt64 * (5000 : Int64)) + (((x1 >>> ((1 : Int32) &&& 31)) &&& (3 : Int32)) - (2 : Int32)).toInt64)), .second, .unset, .unset, .unset, .unset, .unset] [])
    refine own_st (fun t k => XS.lload X0.here hx rfl (hb hby at_43) rfl k) ?_
    show own_Go _ _ _ _ s₁ (mkF m 45 _ [(.long ((((x0 &&& (2147483647 : Int32)) % (429497 : Int32)).toInt64 * (5000 : Int64)) + (((x1 >>> ((1 : Int32) &&& 31)) &&& (3 : Int32)) - (2 : Int32)).toInt64))])
    refine own_st (fun t k => XS.lconst X0.here hx rfl (hb hby at_45) k) ?_
    show own_Go _ _ _ _ s₁ (mkF m 46 _ [(.long (0 : Int64)), (.long ((((x0 &&& (2147483647 : Int32)) % (429497 : Int32)).toInt64 * (5000 : Int64)) + (((x1 >>> ((1 : Int32) &&& 31)) &&& (3 : Int32)) - (2 : Int32)).toInt64))])
    refine own_st (fun t k => XS.lcmp X0.here hx rfl (hb hby at_46) rfl k) ?_
    show own_Go _ _ _ _ s₁ (mkF m 47 _ [(.int (lcmpW ((((x0 &&& (2147483647 : Int32)) % (429497 : Int32)).toInt64 * (5000 : Int64)) + (((x1 >>> ((1 : Int32) &&& 31)) &&& (3 : Int32)) - (2 : Int32)).toInt64) (0 : Int64)))])
    have J5 : ∀ (Tj5 : State) (Lj5 : List Loc) (p6 : Int32), Stand p l e room_1 s m #[(.int x0), (.int x1)] below meth c Tj5 Lj5 0 0 → Tj5.heap = h0 → Fr n0 Lj5 → p6 = (if ((((x0 &&& (2147483647 : Int32)) % (429497 : Int32)).toInt64 * (5000 : Int64)) + (((x1 >>> ((1 : Int32) &&& 31)) &&& (3 : Int32)) - (2 : Int32)).toInt64) < (0 : Int64) then (0 : Int32) else ((((x0 &&& (2147483647 : Int32)) % (429497 : Int32)).toInt64 * (5000 : Int64)) + (((x1 >>> ((1 : Int32) &&& 31)) &&& (3 : Int32)) - (2 : Int32)).toInt64).toInt32) → own_Go p.tables e below Pq Tj5 (mkF m 57 #[.val (.int x0), .val (.int x1), .unset, .val (.int ((x0 &&& (2147483647 : Int32)) % (429497 : Int32))), .val (.int (((x1 >>> ((1 : Int32) &&& 31)) &&& (3 : Int32)) - (2 : Int32))), .val (.long ((((x0 &&& (2147483647 : Int32)) % (429497 : Int32)).toInt64 * (5000 : Int64)) + (((x1 >>> ((1 : Int32) &&& 31)) &&& (3 : Int32)) - (2 : Int32)).toInt64)), .second, .unset, .unset, .unset, .unset, .unset] [(.int p6)]) := by
      intro Tj5 Lj5 p6 Xj5 ej5 Nj5 qp6
      show own_Go _ _ _ _ Tj5 (mkF m 57 _ [(.int p6)])
      refine own_st (fun t k => XS.istoreN Xj5.here hx rfl (hb hby at_57) rfl (l' := #[.val (.int x0), .val (.int x1), .val (.int p6), .val (.int ((x0 &&& (2147483647 : Int32)) % (429497 : Int32))), .val (.int (((x1 >>> ((1 : Int32) &&& 31)) &&& (3 : Int32)) - (2 : Int32))), .val (.long ((((x0 &&& (2147483647 : Int32)) % (429497 : Int32)).toInt64 * (5000 : Int64)) + (((x1 >>> ((1 : Int32) &&& 31)) &&& (3 : Int32)) - (2 : Int32)).toInt64)), .second, .unset, .unset, .unset, .unset, .unset]) rfl k) ?_
      show own_Go _ _ _ _ Tj5 (mkF m 58 #[.val (.int x0), .val (.int x1), .val (.int p6), .val (.int ((x0 &&& (2147483647 : Int32)) % (429497 : Int32))), .val (.int (((x1 >>> ((1 : Int32) &&& 31)) &&& (3 : Int32)) - (2 : Int32))), .val (.long ((((x0 &&& (2147483647 : Int32)) % (429497 : Int32)).toInt64 * (5000 : Int64)) + (((x1 >>> ((1 : Int32) &&& 31)) &&& (3 : Int32)) - (2 : Int32)).toInt64)), .second, .unset, .unset, .unset, .unset, .unset] [])
      exact J9 Tj5 _ _ _ _ _ _ Xj5 ej5 Nj5 (by simp only [if_pos c1, qp6]) (Or.inl ⟨((x0 &&& (2147483647 : Int32)) % (429497 : Int32)), (((x1 >>> ((1 : Int32) &&& 31)) &&& (3 : Int32)) - (2 : Int32)), ((((x0 &&& (2147483647 : Int32)) % (429497 : Int32)).toInt64 * (5000 : Int64)) + (((x1 >>> ((1 : Int32) &&& 31)) &&& (3 : Int32)) - (2 : Int32)).toInt64), rfl, rfl, rfl, rfl⟩)
    by_cases c2 : ((((x0 &&& (2147483647 : Int32)) % (429497 : Int32)).toInt64 * (5000 : Int64)) + (((x1 >>> ((1 : Int32) &&& 31)) &&& (3 : Int32)) - (2 : Int32)).toInt64) < (0 : Int64)
    · skip
      refine own_st (fun t k => XS.ifNo X0.here hx rfl (hb hby at_47) rfl (own_lcF (cd := .ge) (not_not_intro c2)) k) ?_
      show own_Go _ _ _ _ s₁ (mkF m 50 _ [])
      refine own_st (fun t k => XS.iconst X0.here hx rfl (hb hby at_50) k) ?_
      show own_Go _ _ _ _ s₁ (mkF m 51 _ [(.int (0 : Int32))])
      refine own_st (fun t k => XS.goto X0.here hx rfl (pc0 := 51) (pc' := 57) rfl (hb hby at_51) (by decide) (by decide) k) ?_
      show own_Go _ _ _ _ s₁ (mkF m 57 _ [(.int (0 : Int32))])
      exact J5 s₁ _ _ X0 e0 N0 (by simp only [if_pos c2])
    · skip
      refine own_st (fun t k => XS.ifYes X0.here hx rfl (pc0 := 47) (pc' := 54) rfl (hb hby at_47) rfl (own_lcT (cd := .ge) c2) (by decide) (by decide) k) ?_
      show own_Go _ _ _ _ s₁ (mkF m 54 _ [])
      refine own_st (fun t k => XS.lload X0.here hx rfl (hb hby at_54) rfl k) ?_
      show own_Go _ _ _ _ s₁ (mkF m 56 _ [(.long ((((x0 &&& (2147483647 : Int32)) % (429497 : Int32)).toInt64 * (5000 : Int64)) + (((x1 >>> ((1 : Int32) &&& 31)) &&& (3 : Int32)) - (2 : Int32)).toInt64))])
      refine own_st (fun t k => XS.l2i X0.here hx rfl (hb hby at_56) rfl k) ?_
      show own_Go _ _ _ _ s₁ (mkF m 57 _ [(.int ((((x0 &&& (2147483647 : Int32)) % (429497 : Int32)).toInt64 * (5000 : Int64)) + (((x1 >>> ((1 : Int32) &&& 31)) &&& (3 : Int32)) - (2 : Int32)).toInt64).toInt32)])
      exact J5 s₁ _ _ X0 e0 N0 (by simp only [if_neg c2])
  · skip
    refine own_st (fun t k => XS.ifNo X0.here hx rfl (hb hby at_3) rfl ((if0 _ _).trans (feq c1).1) k) ?_
    show own_Go _ _ _ _ s₁ (mkF m 6 _ [])
    refine own_st (fun t k => XS.iloadN X0.here hx rfl (hb hby at_6) rfl k) ?_
    show own_Go _ _ _ _ s₁ (mkF m 7 _ [(.int x0)])
    refine own_st (fun t k => X0.ldcInt hx hown (mvT hZ (hw _ (List.mem_of_getElem? (i := 0) rfl))) (g := (mkF m 7 #[.val (.int x0), .val (.int x1), .unset, .unset, .unset, .unset, .unset, .unset, .unset, .unset, .unset, .unset] [(.int x0)])) rfl (hb hby at_7) _ k) ?_
    show own_Go _ _ _ _ s₁ (mkF m 9 _ [(.int (2147483647 : Int32)), (.int x0)])
    refine own_st (fun t k => XS.iand X0.here hx rfl (hb hby at_9) rfl k) ?_
    show own_Go _ _ _ _ s₁ (mkF m 10 _ [(.int (x0 &&& (2147483647 : Int32)))])
    refine own_st (fun t k => XS.istoreN X0.here hx rfl (hb hby at_10) rfl (l' := #[.val (.int x0), .val (.int x1), .val (.int (x0 &&& (2147483647 : Int32))), .unset, .unset, .unset, .unset, .unset, .unset, .unset, .unset, .unset]) rfl k) ?_
    show own_Go _ _ _ _ s₁ (mkF m 11 #[.val (.int x0), .val (.int x1), .val (.int (x0 &&& (2147483647 : Int32))), .unset, .unset, .unset, .unset, .unset, .unset, .unset, .unset, .unset] [])
    refine own_st (fun t k => XS.goto X0.here hx rfl (pc0 := 11) (pc' := 58) rfl (hb hby at_11) (by decide) (by decide) k) ?_
    show own_Go _ _ _ _ s₁ (mkF m 58 _ [])
    exact J9 s₁ _ _ _ _ _ _ X0 e0 N0 (by simp only [if_neg c1]) (Or.inr (⟨rfl, rfl, rfl, rfl⟩))
set_option maxRecDepth 65536 in
set_option maxHeartbeats 40000000 in
theorem own_comes {Post : Tables → Env → Array Value → State → Outcome → State → Prop} (hpost : ∀ tb e args s v u, (limb_1_1.after args s (.returned v) u = true ∧ limb_1_2.after args s (.returned v) u = true ∧ True) → FrameEnd s (.returned v) u (Jvm.fieldLocs frame_1_writes args s ++ Jvm.arrayLocs frame_1_arrays args s ++ Jvm.staticLocs frame_1_statics s) 0 0 → Post tb e args s (.returned v) u) :
    ArmFor flags0 classFile x code maxLocals ret World_1 tables_1 room_1 Calls_1 rest_1 Pre_1 Post := by
  intro l hfl _ _ p e ha hc hk s m args below hf hA hF happ hP
  obtain ⟨hcalls, hrest, hpre⟩ := hP
  obtain ⟨-, -, -, hnamed, -, -, -, hat⟩ := (Spec.applies_iff hf).mp happ
  obtain ⟨hg, hn⟩ := and_e (Cond.before_iff.mp (show (Jvm.Cond.and given_1 narrow_1).before args s = true from hpre))
  obtain ⟨g0, r0⟩ := and_e hg
  obtain ⟨g1, r1⟩ := and_e r0
  obtain ⟨w0, w1, rfl⟩ : ∃ w0 w1 : Value, args = #[w0, w1] := by
    have hs : args.size = 2 := by simpa [Cond.value, given_1] using g0
    obtain ⟨L⟩ := args
    match L, hs with
    | [w0, w1], _ => exact ⟨w0, w1, rfl⟩
  have hw := fun d (hd : d ∈ tables_1) => atoms_spec (ws := Jvm.Cond.code x code maxLocals ret :: tables_1) hat d (List.mem_cons_of_mem _ hd)
  obtain ⟨i0, ei0⟩ := is_v g1
  obtain rfl : w0 = (.int i0) := Option.some.inj ei0
  obtain ⟨i1, ei1⟩ := is_v r1
  obtain rfl : w1 = (.int i1) := Option.some.inj ei1
  obtain ⟨n, o, h1, h2, h3, _, L, rfl, ⟨rfl, N⟩, hq⟩ := rm0 l s _ hw tables_1 i0 i1 s.heap s.heap.size (Nat.le_refl _) p e ha hc hk s m _ below hf ((Spec.applies_iff_loose hf).mp happ).1 ⟨rfl, State.Warmed39.refl s, rfl⟩ trivial
  refine ⟨n, _, h1, h2, h3, hpost _ _ _ _ _ _ ⟨Cond.after_iff.mpr rfl, Cond.after_iff.mpr (eq_i res_at (Term.int_eval (1)) rfl), trivial⟩ ⟨hq.1, hq.2.1, (hq.2.2.sift fun y hy => Or.inr (N y hy)).mono (by decide) (by decide)⟩⟩
theorem main_1_1 : Claimed_1_1 := own_comes fun _ _ _ _ _ _ h hF => ⟨h.1, hF⟩
theorem main_1_2 : Claimed_1_2 := own_comes fun _ _ _ _ _ _ h hF => ⟨h.2.1, hF⟩
end Jvm.Pilot.@@N@@
namespace Jvm.Pilot.@@N@@
open Jvm Jvm.ClassFile Sem Op Lib Jvm.Free Jvm.Stand Jvm.Pilot.@@N@@.Jvm.D
/-! MADE BY PROGRAM (witnessworld.py) out of the Statement's table words and the real class files: 10 classes; the members and pool entries that the words name. The judged class is class 1, her method 1. -/
namespace start1
open Jvm.ClassFile
def u (s : String) : CpInfo := .utf8 (stringToUtf16 s)
/-- a pool by its gaps: so many unusable entries, then the entry; so many at the end -/
def gap : Nat → List CpInfo → List CpInfo
  | 0, r => r
  | n + 1, r => .unusable :: gap n r
def poolList (es : List (Nat × CpInfo)) (last : Nat) : List CpInfo := es.foldr (fun e r => gap e.1 (e.2 :: r)) (gap last [])
def pool (es : List (Nat × CpInfo)) (last : Nat) : Array CpInfo := ⟨poolList es last⟩
def fileOf (pool : Array CpInfo) (this : Nat) (attrs : Array Attribute := #[]) (ms : Array MethodInfo := #[]) (fl : Nat := 33) (sup : Nat := 0) (ifs : Array Nat := #[]) (fds : Array FieldInfo := #[]) : ClassFile where
  minorVersion := 0
  majorVersion := 65
  constantPool := pool
  accessFlags := fl
  thisClass := this
  superClass := sup
  interfaces := ifs
  fields := fds
  methods := ms
  attributes := attrs
def plain (name : String) (sup : Option ClassId) : Class where
  name := name
  kind := .ordinary
  loader := none
  accessFlags := 33
  super := sup
  interfaces := #[]
  cf := none
  fields := #[]
  methods := #[]
  instanceTypes := #[]
  staticTypes := #[]
  resolved := #[]
  callSites := []
  init := .initialized
  statics := none
  mirror := none

def pool0 : Array CpInfo := pool [(5, u "<init>"), (0, u "()V"), (1, .class_ 10), (1, u "java/lang/Object")] 113

def k0m0 : Method := { name := "<init>", desc := "()V", sig := { parameters := [], returnType := none }, accessFlags := 1, code := none }
/-- java/lang/Object -/
def k0 : Class := { plain "java/lang/Object" none with
  accessFlags := 33
  interfaces := #[]
  cf := some (fileOf pool0 8 #[] #[{ accessFlags := 1, nameIndex := 5, descriptorIndex := 6, attributes := #[] }] 33 0 #[] #[])
  fields := #[]
  methods := #[k0m0]
  instanceTypes := #[]
  staticTypes := #[]
  resolved := Array.replicate 124 none
  statics := none }

def pool1 : Array CpInfo := pool [(2, .class_ 4), (1, u "java/lang/Object"), (0, u "<init>"), (0, u "()V"), (0, .integer 2147483647), (0, .integer 429497), (0, .class_ 10), (0, u "com/example/antientropy/antientropy/sds/ReceivedFilter"), (0, .long 5000), (1, .methodref 9 14), (0, .nameAndType 15 16), (0, u "windowStart"), (0, u "(I)I"), (0, .long 10000), (1, .class_ 20), (0, u "com/example/antientropy/antientropy/sds/ReceivedFilterWindowStartPinLaw"), (2, u "law"), (0, u "(II)Z")] 3

def k1m0 : Method := { name := "<init>", desc := "()V", sig := { parameters := [], returnType := none }, accessFlags := 1, code := none }
def k1c1 : Code := { maxStack := 4, maxLocals := 12, code := code, exceptionTable := #[], attributes := #[] }
def k1m1 : Method := { name := "law", desc := "(II)Z", sig := { parameters := [.int, .int], returnType := some .boolean }, accessFlags := 9, code := some k1c1 }
/-- com/example/antientropy/antientropy/sds/ReceivedFilterWindowStartPinLaw -/
def k1 : Class := { plain "com/example/antientropy/antientropy/sds/ReceivedFilterWindowStartPinLaw" (some 0) with
  accessFlags := 49
  interfaces := #[]
  cf := some (fileOf pool1 19 #[] #[{ accessFlags := 1, nameIndex := 5, descriptorIndex := 6, attributes := #[] }, { accessFlags := 9, nameIndex := 23, descriptorIndex := 24, attributes := #[] }] 49 2 #[] #[])
  fields := #[]
  methods := #[k1m0, k1m1]
  instanceTypes := #[]
  staticTypes := #[]
  resolved := Array.replicate 28 none
  statics := none }

def pool2 : Array CpInfo := pool [(4, .class_ 6), (1, u "java/lang/Object"), (4, .class_ 12), (0, u "com/example/antientropy/antientropy/sds/ReceivedFilter"), (5, u "received"), (0, u "Ljava/util/BitSet;"), (2, u "log"), (0, u "Lcom/example/antientropy/antientropy/sds/Log;"), (2, u "shape"), (0, u "Lcom/example/antientropy/antientropy/sds/BloomFilter;"), (6, u "filter"), (0, .methodref 36 37), (0, .class_ 38), (0, .nameAndType 39 40), (0, u "java/lang/Math"), (0, u "max"), (0, u "(II)I"), (12, u "windowStart"), (0, u "(I)I"), (22, u "STEP"), (0, u "I")] 9

def k2c0 : Code := { maxStack := 3, maxLocals := 1, code := prog_18_method_2_code, exceptionTable := #[], attributes := #[] }
def k2m0 : Method := { name := "windowStart", desc := "(I)I", sig := { parameters := [.int], returnType := some .int }, accessFlags := 8, code := some k2c0 }
/-- com/example/antientropy/antientropy/sds/ReceivedFilter -/
def k2 : Class := { plain "com/example/antientropy/antientropy/sds/ReceivedFilter" (some 0) with
  accessFlags := 48
  interfaces := #[]
  cf := some (fileOf pool2 11 #[] #[{ accessFlags := 8, nameIndex := 53, descriptorIndex := 54, attributes := #[] }] 48 4 #[] #[{ accessFlags := 24, nameIndex := 77, descriptorIndex := 78, attributes := #[] }, { accessFlags := 18, nameIndex := 22, descriptorIndex := 23, attributes := #[] }, { accessFlags := 18, nameIndex := 26, descriptorIndex := 27, attributes := #[] }, { accessFlags := 18, nameIndex := 18, descriptorIndex := 19, attributes := #[] }, { accessFlags := 2, nameIndex := 34, descriptorIndex := 27, attributes := #[] }])
  fields := #[{ name := "STEP", type := .int, accessFlags := 24, slot := 0, constantValue := 0 }, { name := "log", type := (.object "com/example/antientropy/antientropy/sds/Log"), accessFlags := 18, slot := 0, constantValue := 0 }, { name := "shape", type := (.object "com/example/antientropy/antientropy/sds/BloomFilter"), accessFlags := 18, slot := 1, constantValue := 0 }, { name := "received", type := (.object "java/util/BitSet"), accessFlags := 18, slot := 2, constantValue := 0 }, { name := "filter", type := (.object "com/example/antientropy/antientropy/sds/BloomFilter"), accessFlags := 2, slot := 3, constantValue := 0 }]
  methods := #[k2m0]
  instanceTypes := #[(.object "com/example/antientropy/antientropy/sds/Log"), (.object "com/example/antientropy/antientropy/sds/BloomFilter"), (.object "java/util/BitSet"), (.object "com/example/antientropy/antientropy/sds/BloomFilter")]
  staticTypes := #[.int]
  resolved := Array.replicate 88 none
  statics := none }

def pool3 : Array CpInfo := pool [(1, .class_ 2), (0, u "java/lang/Math"), (1, .class_ 6), (1, u "java/lang/Object"), (0, u "<init>"), (0, u "()V"), (89, .class_ 100), (1, u "java/lang/Math$RandomNumberGeneratorHolder"), (71, u "negativeZeroFloatBits"), (0, u "J"), (2, u "negativeZeroDoubleBits"), (21, u "max"), (46, u "$assertionsDisabled"), (0, u "Z"), (88, u "(II)I"), (2, u "twoToTheDoubleScaleDown"), (0, u "D"), (4, u "twoToTheDoubleScaleUp"), (9, u "E"), (3, u "PI"), (2, u "TAU"), (2, u "DEGREES_TO_RADIANS"), (0, u "RADIANS_TO_DEGREES")] 94

def k3m0 : Method := { name := "<init>", desc := "()V", sig := { parameters := [], returnType := none }, accessFlags := 2, code := none }
def k3c1 : Code := { maxStack := 2, maxLocals := 2, code := jdk_29_method_65_code, exceptionTable := #[], attributes := #[] }
def k3m1 : Method := { name := "max", desc := "(II)I", sig := { parameters := [.int, .int], returnType := some .int }, accessFlags := 9, code := some k3c1 }
/-- java/lang/Math -/
def k3 : Class := { plain "java/lang/Math" (some 0) with
  accessFlags := 49
  interfaces := #[]
  cf := some (fileOf pool3 1 #[.nestMembers #[98]] #[{ accessFlags := 2, nameIndex := 7, descriptorIndex := 8, attributes := #[] }, { accessFlags := 9, nameIndex := 198, descriptorIndex := 335, attributes := #[] }] 49 4 #[] #[{ accessFlags := 25, nameIndex := 354, descriptorIndex := 339, attributes := #[] }, { accessFlags := 25, nameIndex := 358, descriptorIndex := 339, attributes := #[] }, { accessFlags := 25, nameIndex := 361, descriptorIndex := 339, attributes := #[] }, { accessFlags := 26, nameIndex := 364, descriptorIndex := 339, attributes := #[] }, { accessFlags := 26, nameIndex := 365, descriptorIndex := 339, attributes := #[] }, { accessFlags := 26, nameIndex := 172, descriptorIndex := 173, attributes := #[] }, { accessFlags := 26, nameIndex := 176, descriptorIndex := 173, attributes := #[] }, { accessFlags := 8, nameIndex := 344, descriptorIndex := 339, attributes := #[] }, { accessFlags := 8, nameIndex := 338, descriptorIndex := 339, attributes := #[] }, { accessFlags := 4120, nameIndex := 245, descriptorIndex := 246, attributes := #[] }])
  fields := #[{ name := "E", type := .double, accessFlags := 25, slot := 0, constantValue := 0 }, { name := "PI", type := .double, accessFlags := 25, slot := 1, constantValue := 0 }, { name := "TAU", type := .double, accessFlags := 25, slot := 2, constantValue := 0 }, { name := "DEGREES_TO_RADIANS", type := .double, accessFlags := 26, slot := 3, constantValue := 0 }, { name := "RADIANS_TO_DEGREES", type := .double, accessFlags := 26, slot := 4, constantValue := 0 }, { name := "negativeZeroFloatBits", type := .long, accessFlags := 26, slot := 5, constantValue := 0 }, { name := "negativeZeroDoubleBits", type := .long, accessFlags := 26, slot := 6, constantValue := 0 }, { name := "twoToTheDoubleScaleUp", type := .double, accessFlags := 8, slot := 7, constantValue := 0 }, { name := "twoToTheDoubleScaleDown", type := .double, accessFlags := 8, slot := 8, constantValue := 0 }, { name := "$assertionsDisabled", type := .boolean, accessFlags := 4120, slot := 9, constantValue := 0 }]
  methods := #[k3m0, k3m1]
  instanceTypes := #[]
  staticTypes := #[.double, .double, .double, .double, .double, .long, .long, .double, .double, .boolean]
  resolved := Array.replicate 460 none
  statics := none }

def pool4 : Array CpInfo := pool [(1, u "java/lang/Cloneable"), (0, .class_ 1), (0, u "java/lang/Object"), (0, .class_ 3)] 3

/-- java/lang/Cloneable -/
def k4 : Class := { plain "java/lang/Cloneable" (some 0) with
  accessFlags := 1537
  interfaces := #[]
  cf := some (fileOf pool4 2 #[] #[] 1537 4 #[] #[])
  fields := #[]
  methods := #[]
  instanceTypes := #[]
  staticTypes := #[]
  resolved := Array.replicate 8 none
  statics := none }

def pool5 : Array CpInfo := pool [(1, u "java/io/Serializable"), (0, .class_ 1), (0, u "java/lang/Object"), (0, .class_ 3)] 3

/-- java/io/Serializable -/
def k5 : Class := { plain "java/io/Serializable" (some 0) with
  accessFlags := 1537
  interfaces := #[]
  cf := some (fileOf pool5 2 #[] #[] 1537 4 #[] #[])
  fields := #[]
  methods := #[]
  instanceTypes := #[]
  staticTypes := #[]
  resolved := Array.replicate 8 none
  statics := none }

/-- the primitive byte -/
def k6 : Class := { plain "byte" none with kind := .primitive 'B', accessFlags := 0x411 }
/-- [B -/
def k7 : Class := { plain "[B" (some 0) with kind := .array 6 .byte, interfaces := #[4, 5], accessFlags := 1041 }

/-- the primitive int -/
def k8 : Class := { plain "int" none with kind := .primitive 'I', accessFlags := 0x411 }
/-- [I -/
def k9 : Class := { plain "[I" (some 0) with kind := .array 8 .int, interfaces := #[4, 5], accessFlags := 1041 }

def heap : Heap := #[]
def classes : Array Class := #[k0, k1, k2, k3, k4, k5, k6, k7, k8, k9]
def interned : List (Array UInt16 × Addr) := []
def slotsUsed : Nat := 0
def theMethod : MethodId := ⟨1, 1⟩
def args0 : Array Value := #[.int 5, .int 5]
def aboutOver (below : List Frame) : State where
  vm := { classes := classes, interned := interned.toArray }
  heap := heap
  slotsUsed := slotsUsed
  threads := #[{ frames := .invoking theMethod args0 :: below }]
def below0 : List Frame := [.native { method := ⟨0, 0⟩, args := #[] }]
def about1 : State := aboutOver below0
def p0 : Program := .bare "" "" ""
def e0 : Env := launch0.env 0 0 0
theorem w_frames : about1.frames = Frame.invoking theMethod args0 :: below0 := rfl
set_option maxRecDepth 65536 in
theorem w_args : argsFit about1.vm theMethod args0 = true := by decide +kernel
set_option maxRecDepth 65536 in
theorem w_heap : heapFits about1 = true := by decide +kernel
set_option maxRecDepth 65536 in
theorem w_runnable : about1.curStatus? = some .runnable := by decide +kernel
set_option maxRecDepth 65536 in
theorem w_alone : about1.alone = true := by decide +kernel
set_option maxRecDepth 65536 in
theorem w_named : about1.methodNamed? x = some theMethod := by decide +kernel
set_option maxRecDepth 65536 in
theorem w_hears : about1.hears theMethod below0 = true := by decide +kernel
set_option maxRecDepth 65536 in
theorem w_ripe : about1.ripe theMethod args0 below0 = true := by decide +kernel
theorem w_running : about1.status = .running := rfl
set_option maxRecDepth 65536 in
theorem w_room : about1.hasRoom e0.platform room_1 = true :=
  launch0.hasRoom_least _ room_1 (by decide +kernel) (by decide +kernel) (by decide +kernel) (by decide +kernel) (by decide +kernel) (by decide +kernel)
theorem allAtoms_all (ts : List Jvm.Cond) (a : Array Jvm.Value) (st : Jvm.State) : (allAtoms ts).before a st = ts.all (fun c => c.before a st) := by
  induction ts with
  | nil => rfl
  | cons c t ih =>
    show (Jvm.Cond.and c (allAtoms t)).before a st = _
    rw [Jvm.Cond.before_and, ih, List.all_cons]
def words1 : List Jvm.Cond := Jvm.Cond.code x code maxLocals ret :: tables_1
/-- a 'code' word, met by the world's own term for the bytes: nothing is compared byte by byte -/
theorem code_word {y : MethodName} {bytes : ByteArray} {mx : Nat} {rt : Option FieldType} {a : Array Value} {s : State} {m : MethodId} {meth : Method} {c : Code} (h1 : s.methodNamed? y = some m) (h2 : s.vm.method? m = some meth) (h3 : meth.code = some c) (h4 : c.code = bytes)
    (h5 : (c.maxLocals == mx && c.exceptionTable.isEmpty && decide (c.maxStack ≤ mostOperands) && decide (meth.sig.returnType = rt) && !meth.locks && decide (parseMethodDescriptor y.desc = some meth.sig)) = true) : (Jvm.Cond.code y bytes mx rt).before a s = true := by
  simp only [Bool.and_eq_true, beq_iff_eq, Bool.not_eq_true', decide_eq_true_eq] at h5
  obtain ⟨⟨⟨⟨⟨g1, g2⟩, g3⟩, g4⟩, g5⟩, g6⟩ := h5
  simp [Cond.before, Cond.holds, Cond.value, h1, h2, h3, h4, g1, g2, g3, g4, g5, g6]
def isCode : Jvm.Cond → Bool
  | .code _ _ _ _ => true
  | _ => false
theorem all_split {L : List Jvm.Cond} {P : Jvm.Cond → Bool} (h1 : L.all (fun c => isCode c || P c) = true) (h2 : ∀ c ∈ L.filter isCode, P c = true) : L.all P = true := by
  refine List.all_eq_true.mpr fun c hc => ?_
  have h := List.all_eq_true.mp h1 c hc
  rcases Bool.eq_false_or_eq_true (isCode c) with hi | hi
  · exact h2 c (List.mem_filter.mpr ⟨hc, hi⟩)
  · simpa [hi] using h
set_option maxRecDepth 65536 in
theorem w_c0 : (Jvm.Cond.code x code maxLocals ret).before args0 about1 = true := code_word (m := ⟨1, 1⟩) (meth := k1m1) (c := k1c1) (by decide +kernel) rfl rfl rfl (by decide +kernel)
set_option maxRecDepth 65536 in
theorem w_c1 : (Jvm.Cond.code ({ cls := "com/example/antientropy/antientropy/sds/ReceivedFilter", name := "windowStart", desc := "(I)I" } : Jvm.MethodName) prog_18_method_2_code (1 : Nat) (Option.some Jvm.ClassFile.FieldType.int)).before args0 about1 = true := code_word (m := ⟨2, 0⟩) (meth := k2m0) (c := k2c0) (by decide +kernel) rfl rfl rfl (by decide +kernel)
set_option maxRecDepth 65536 in
theorem w_c2 : (Jvm.Cond.code ({ cls := "java/lang/Math", name := "max", desc := "(II)I" } : Jvm.MethodName) jdk_29_method_65_code (2 : Nat) (Option.some Jvm.ClassFile.FieldType.int)).before args0 about1 = true := code_word (m := ⟨3, 1⟩) (meth := k3m1) (c := k3c1) (by decide +kernel) rfl rfl rfl (by decide +kernel)
def codes1 : List Jvm.Cond := [Jvm.Cond.code x code maxLocals ret, Jvm.Cond.code ({ cls := "com/example/antientropy/antientropy/sds/ReceivedFilter", name := "windowStart", desc := "(I)I" } : Jvm.MethodName) prog_18_method_2_code (1 : Nat) (Option.some Jvm.ClassFile.FieldType.int), Jvm.Cond.code ({ cls := "java/lang/Math", name := "max", desc := "(II)I" } : Jvm.MethodName) jdk_29_method_65_code (2 : Nat) (Option.some Jvm.ClassFile.FieldType.int)]
set_option maxRecDepth 65536 in
theorem codes_eq : words1.filter isCode = codes1 := rfl
theorem w_codes : ∀ c ∈ words1.filter isCode, c.before args0 about1 = true := by
  rw [codes_eq]
  intro c hc
  simp only [codes1, List.mem_cons, List.not_mem_nil, or_false] at hc
  rcases hc with rfl | rfl | rfl
  · exact w_c0
  · exact w_c1
  · exact w_c2
set_option maxRecDepth 65536 in
theorem w_t1 : words1.all (fun c => isCode c || c.before args0 about1) = true := by decide +kernel
theorem w_tables : (allAtoms (Jvm.Cond.code x code maxLocals ret :: tables_1)).before args0 about1 = true := by
  rw [allAtoms_all]
  show words1.all (fun c => c.before args0 about1) = true
  refine all_split ?_ w_codes
  rw [w_t1]
set_option maxRecDepth 65536 in
theorem w_case : (Jvm.Cond.and given_1 narrow_1).before args0 about1 = true := by decide +kernel
theorem w_applies : (headSpec (Jvm.Cond.code x code maxLocals ret :: tables_1) room_1).applies x e0.platform about1 = true :=
  (Spec.applies_iff w_frames).mpr ⟨w_running, w_runnable, w_alone, w_named, w_hears, w_ripe, w_room, w_tables⟩
theorem atStart : AtStart classFile x code maxLocals ret World_1 tables_1 room_1 Calls_1 rest_1 Pre_1 launch0 p0 e0 about1 theMethod args0 below0 :=
  ⟨lists_1, trivial, launch0.admits_env _ _ _, launch0.least_env, fairChoices_fair.cas, fairChoices_fair.clock, w_frames, w_args, w_heap, w_applies, trivial, trivial, w_case⟩
end start1
theorem witness_1 : WitnessClaimed_1 := ⟨start1.p0, start1.e0, start1.about1, start1.theMethod, start1.args0, start1.below0, start1.atStart⟩
end Jvm.Pilot.@@N@@
