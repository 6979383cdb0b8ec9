import JvmDerived
import JvmDerived.Pilot.@@N@@Statement
import JvmDerived.Pilot.@@N@@Code
set_option linter.unusedVariables false
set_option linter.unusedSimpArgs false
@@BLOCK:NumsL.lean.txt@@
namespace Jvm.Pilot.@@N@@
open Jvm Jvm.ClassFile Sem Op Lib Jvm.Free Jvm.Stand Jvm.LawKit Jvm.RoadKit Bundle Jvm.Pilot.@@N@@.Jvm.D
/-- from here the run comes to a state of which P holds -/
def own_Go (tb : Tables) (e : Env) (below : List Frame) (P : State → Prop) (T : State) (g : JFrame) : Prop := ∃ t, Steps tb e below (T.setTop g) t ∧ P t
theorem own_st {tb : Tables} {e : Env} {below : List Frame} {P : State → Prop} {T T' : State} {g g' : JFrame} (h : ∀ t, Steps tb e below (T'.setTop g') t → Steps tb e below (T.setTop g) t) (k : own_Go tb e below P T' g') : own_Go tb e below P T g := by
  obtain ⟨t, a, b⟩ := k; exact ⟨t, h t a, b⟩
/-- what the end of a body must be -/
def own_P (s : State) (below : List Frame) (Q : Option Value → Heap → List Loc → Prop) (C S : Nat) (t : State) : Prop := t.status = .running ∧ ∃ o, Ended t below o ∧ ∃ v L, o = .returned v ∧ Q v t.heap L ∧ FrameEnd s o t L C S
/-- .. of a body that may have interned -/
def own_PW (s : State) (below : List Frame) (Q : Option Value → Heap → List Loc → Prop) (C S : Nat) (t : State) : Prop := t.status = .running ∧ ∃ o, Ended t below o ∧ ∃ v L, o = .returned v ∧ Q v t.heap L ∧ ReturnedEndW s o t L C S
section own
variable {p : Program} {l : Launch} {e : Env} {R : Room} {s : State} {m : MethodId} {args : Array Value} {below : List Frame} {meth : Method} {c : Code} {T : State} {locs : List Loc} {cells slots : Nat} {Qo : Option Value → Heap → List Loc → Prop} {C' S' : Nat}
theorem own_out (X : Stand p l e R s m args below meth c T locs cells slots) {v : Option Value} {g : JFrame} (hv : meth.sig.returnType = none → v = none) (hlocks : meth.locks = false)
    (hst : ∀ fs, (∀ (f : JFrame) (acts : List Action), f.method = m → f.locked = none → f.entered = [] → (doReturn e (T.setTop f) acts v).1 = T.setFrames fs) → Steps p.tables e below (T.setTop g) (T.setFrames fs))
    (hc : cells ≤ C') (hs : slots ≤ S') (hq : Qo v T.heap locs) : own_Go p.tables e below (own_P s below Qo C' S') T g := by
  obtain ⟨fs, hr, hrun, hended, hW, hsame⟩ := X.leave (v := v) hv hlocks
  exact ⟨_, hst fs hr, hrun, _, hended, _, _, rfl, hq, ⟨_, rfl⟩, hW, hsame.mono hc hs⟩
theorem own_outW {vm0 : Vm} (X : Stand p l e R (s.setVm vm0) m args below meth c T locs cells slots) {k0 : Nat} (hS : s.Since vm0 k0) (hk : k0 ≤ T.heap.size) {v : Option Value} {g : JFrame} (hv : meth.sig.returnType = none → v = none) (hlocks : meth.locks = false)
    (hst : ∀ fs, (∀ (f : JFrame) (acts : List Action), f.method = m → f.locked = none → f.entered = [] → (doReturn e (T.setTop f) acts v).1 = T.setFrames fs) → Steps p.tables e below (T.setTop g) (T.setFrames fs))
    (hc : cells ≤ C') (hs : slots ≤ S') (hq : Qo v T.heap locs) : own_Go p.tables e below (own_PW s below Qo C' S') T g := by
  obtain ⟨fs, hr, hrun, hended, hW⟩ := X.leaveW hS hk (v := v) hv hlocks
  exact ⟨_, hst fs hr, hrun, _, hended, _, _, rfl, hq, hW.1, hW.2.1, hW.2.2.1, hW.2.2.2.mono hc hs⟩
theorem own_retI (X : Stand p l e R s m args below meth c T locs cells slots) (hx : p.tables.exec = Jvm.exec) {pc : Nat} {Ls : Array Slot} {z : Int32} {rest : List Value} (hret : meth.sig.returnType = some .int) (hd : decode c.code pc = .ok (.ireturn, 1)) (fs : List Frame)
    (hl : ∀ (f : JFrame) (acts : List Action), f.method = m → f.locked = none → f.entered = [] → (doReturn e (T.setTop f) acts (some (.int z))).1 = T.setFrames fs) : Steps p.tables e below (T.setTop (mkF m pc Ls (.int z :: rest))) (T.setFrames fs) :=
  retOut X hx hret rfl (Or.inl ⟨rfl, Or.inl rfl, _, rfl⟩) hd hl
theorem own_retZ (X : Stand p l e R s m args below meth c T locs cells slots) (hx : p.tables.exec = Jvm.exec) {pc : Nat} {Ls : Array Slot} {z : Int32} {rest : List Value} (hret : meth.sig.returnType = some .boolean) (hd : decode c.code pc = .ok (.ireturn, 1)) (hb : z = 0 ∨ z = 1) (fs : List Frame)
    (hl : ∀ (f : JFrame) (acts : List Action), f.method = m → f.locked = none → f.entered = [] → (doReturn e (T.setTop f) acts (some (.int z))).1 = T.setFrames fs) : Steps p.tables e below (T.setTop (mkF m pc Ls (.int z :: rest))) (T.setFrames fs) := by
  have e1 : nar .boolean z = z := by rcases hb with rfl | rfl <;> decide
  exact retN X hx hret (Or.inl rfl) hd (by rw [e1]; exact hl)
theorem own_retJ (X : Stand p l e R s m args below meth c T locs cells slots) (hx : p.tables.exec = Jvm.exec) {pc : Nat} {Ls : Array Slot} {z : Int64} {rest : List Value} (hret : meth.sig.returnType = some .long) (hd : decode c.code pc = .ok (.lreturn, 1)) (fs : List Frame)
    (hl : ∀ (f : JFrame) (acts : List Action), f.method = m → f.locked = none → f.entered = [] → (doReturn e (T.setTop f) acts (some (.long z))).1 = T.setFrames fs) : Steps p.tables e below (T.setTop (mkF m pc Ls (.long z :: rest))) (T.setFrames fs) :=
  retOut X hx hret rfl (Or.inr (Or.inl ⟨rfl, rfl, _, rfl⟩)) hd hl
theorem own_retR (X : Stand p l e R s m args below meth c T locs cells slots) (hx : p.tables.exec = Jvm.exec) {pc : Nat} {Ls : Array Slot} {w : Value} {t : FieldType} {rest : List Value} (hret : meth.sig.returnType = some t) (ht : t.isReference = true) (hw : w.isRef = true) (hn : narrow t w = w) (hd : decode c.code pc = .ok (.areturn, 1)) (fs : List Frame)
    (hl : ∀ (f : JFrame) (acts : List Action), f.method = m → f.locked = none → f.entered = [] → (doReturn e (T.setTop f) acts (some w)).1 = T.setFrames fs) : Steps p.tables e below (T.setTop (mkF m pc Ls (w :: rest))) (T.setFrames fs) :=
  retOut X hx hret hn (Or.inr (Or.inr (Or.inr (Or.inr ⟨rfl, ht, hw⟩)))) hd hl
end own
/-- a private method is the one that is picked -/
theorem own_selp {s : State} {args : Array Value} {y : MethodName} {n : Nat} (hi : (Jvm.Cond.instantiable y.cls n).before args s = true) (hp : s.PrivateAt y) (hm : (Jvm.Cond.instanceMethod y).before args s = true) (hy : y.cls ≠ "java/lang/invoke/MethodHandle" ∧ y.cls ≠ "java/lang/invoke/VarHandle") : (Jvm.Cond.selects y.cls y y).before args s = true := by
  obtain ⟨c, k, h1, h2, -, h4, -⟩ := Cond.instantiable_spec hi
  exact selects_self_of_private h1 h2 (Bool.or_eq_false_iff.mp h4).1 hp hm hy
theorem own_staK {Z : State} {h h' : Heap} {C n d : String} {v : Value} {ws : List Addr} (F : Sta Z h C n d v) (K : Keep h h' ws) (q : ∀ x ∈ ws, ∃ D, Exa Z h x D) : Sta Z h' C n d v := by
  obtain ⟨cf, i, k, f, st, cell, h1, h2, h3, h4, h5, h6, h7⟩ := F
  refine ⟨cf, i, k, f, st, cell, h1, h2, h3, h4, K.2.1 st cell h5 (fun hm => ?_), h6, h7⟩
  obtain ⟨D, c', k', e1, -, -, e4, -⟩ := q st hm
  cases h5.symm.trans e1
  rw [h6] at e4; cases e4
/-- a reference or null -/
theorem own_refOf {w : Value} (h : w.isRef = true) (c : ¬ w = Value.null) : ∃ a, w = .ref a := (ref_cases h).resolve_left c
theorem own_nW {t : FieldType} {w : Value} (ht : t.isReference = true) (h : w.isRef = true) : narrow t w = w := by
  rcases ref_cases h with rfl | ⟨a, rfl⟩ <;> cases t <;> first | rfl | simp [FieldType.isReference] at ht
theorem own_fW {t : FieldType} {w : Value} (ht : t.isReference = true) (h : w.isRef = true) : fits t w = true := by
  rcases ref_cases h with rfl | ⟨a, rfl⟩ <;> cases t <;> first | rfl | simp [FieldType.isReference] at ht
theorem own_nb {z : Int32} (h : z = 0 ∨ z = 1) : narrow .boolean (.int z) = .int z := by rcases h with rfl | rfl <;> rfl
theorem own_fb {z : Int32} (h : z = 0 ∨ z = 1) : fits .boolean (.int z) = true := by rcases h with rfl | rfl <;> rfl
/-- lcmp and a branch, in one -/
def own_lcv : ClassFile.Cond → Int64 → Int64 → Prop
  | .lt, x, y => x < y | .ge, x, y => ¬ x < y | .gt, x, y => y < x | .le, x, y => ¬ y < x | .eq, x, y => x = y | .ne, x, y => ¬ x = y
theorem own_lcT {cd : ClassFile.Cond} {x y : Int64} (h : own_lcv cd x y) : ifCond.holds cd (lcmpW x y) = true := by
  rw [if0]
  cases cd
  · exact (teq ((lw_eq x y).mpr h)).1
  · exact (feq (fun q => h ((lw_eq x y).mp q))).2
  · exact (tlt ((lw_lt x y).mpr h)).1
  · exact (flt (fun q => h ((lw_lt x y).mp q))).2.1
  · exact (tlt ((lw_gt x y).mpr h)).2.2.1
  · exact (flt (fun q => h ((lw_gt x y).mp q))).2.2.2
theorem own_lcF {cd : ClassFile.Cond} {x y : Int64} (h : ¬ own_lcv cd x y) : ifCond.holds cd (lcmpW x y) = false := by
  rw [if0]
  cases cd
  · exact (feq (fun q => h ((lw_eq x y).mp q))).1
  · exact (teq (Classical.byContradiction fun q => h (fun r => q ((lw_eq x y).mpr r)))).2
  · exact (flt (fun q => h ((lw_lt x y).mp q))).1
  · exact (tlt (Classical.byContradiction fun q => h (fun r => q ((lw_lt x y).mpr r)))).2.1
  · exact (flt (fun q => h ((lw_gt x y).mp q))).2.2.1
  · exact (tlt (Classical.byContradiction fun q => h (fun r => q ((lw_gt x y).mpr r)))).2.2.2

theorem own_sA {Z : State} {a0 : Array Value} (hw : ∀ d ∈ tables_1, d.before a0 Z = true) : ∀ a ∈ Bundle.stringAtoms, a.before a0 Z = true := by
  intro d hd
  simp only [Bundle.stringAtoms, List.mem_cons, List.not_mem_nil, or_false] at hd
  rcases hd with rfl | rfl | rfl | rfl | rfl | rfl | rfl
  · exact (hw _ (List.mem_of_getElem? (i := 27) rfl))
  · exact (hw _ (List.mem_of_getElem? (i := 28) rfl))
  · exact (hw _ (List.mem_of_getElem? (i := 29) rfl))
  · exact (hw _ (List.mem_of_getElem? (i := 30) rfl))
  · exact (hw _ (List.mem_of_getElem? (i := 31) rfl))
  · exact (hw _ (List.mem_of_getElem? (i := 32) rfl))
  · exact (hw _ (List.mem_of_getElem? (i := 33) rfl))
theorem own_pd___V : parseMethodDescriptor "()V" = some ⟨[], none⟩ := by decide +kernel
theorem own_pd__Ljava_lang_String_JJJ_V : parseMethodDescriptor "(Ljava/lang/String;JJJ)V" = some ⟨[(.object "java/lang/String"), .long, .long, .long], none⟩ := by decide +kernel
theorem own_pd__JJ_J : parseMethodDescriptor "(JJ)J" = some ⟨[.long, .long], some .long⟩ := by decide +kernel
theorem own_pd__JJJJJ_V : parseMethodDescriptor "(JJJJJ)V" = some ⟨[.long, .long, .long, .long, .long], none⟩ := by decide +kernel
theorem own_pd___I : parseMethodDescriptor "()I" = some ⟨[], some .int⟩ := by decide +kernel
def own_max (x0 : Int64) (x1 : Int64) : Int64 := (if x0 < x1 then x1 else x0)
theorem d1_0 : decode jdk_29_method_66_code 0 = .ok (.lload_n 0, 1) := by decide +kernel
theorem d1_1 : decode jdk_29_method_66_code 1 = .ok (.lload_n 2, 1) := by decide +kernel
theorem d1_2 : decode jdk_29_method_66_code 2 = .ok (.lcmp, 1) := by decide +kernel
theorem d1_3 : decode jdk_29_method_66_code 3 = .ok (.ifCond .lt 7, 3) := by decide +kernel
theorem d1_6 : decode jdk_29_method_66_code 6 = .ok (.lload_n 0, 1) := by decide +kernel
theorem d1_7 : decode jdk_29_method_66_code 7 = .ok (.goto 4, 3) := by decide +kernel
theorem d1_10 : decode jdk_29_method_66_code 10 = .ok (.lload_n 2, 1) := by decide +kernel
theorem d1_11 : decode jdk_29_method_66_code 11 = .ok (.lreturn, 1) := by decide +kernel
theorem own_ef1 (m : MethodId) (x0 : Int64) (x1 : Int64) : entryFrame m #[(.long x0), (.long x1)] 4 = mkF m 0 #[.val (.long x0), .second, .val (.long x1), .second] [] := by first | (simp [entryFrame, mkF, argsToLocals, Value.category]; done) | rfl
def Q1 (Z : State) (x0 : Int64) (x1 : Int64) (h0 : Heap) (n0 : Nat) (v : Option Value) (h : Heap) (L : List Loc) : Prop := v = some (.long (own_max x0 x1)) ∧ Fr n0 L ∧ h = h0
set_option maxRecDepth 65536 in
set_option maxHeartbeats 4000000 in
theorem rm1 (l : Launch) (Z : State) (a0 : Array Value) (hw : ∀ d ∈ tables_1, d.before a0 Z = true) (ws : List Jvm.Cond) (x0 : Int64) (x1 : Int64) (h0 : Heap) (n0 : Nat) (Z0 : n0 ≤ h0.size) :
    MetFree l (⟨"java/lang/Math", "max", "(JJ)J"⟩ : MethodName) (head1 (Jvm.Cond.code (⟨"java/lang/Math", "max", "(JJ)J"⟩ : MethodName) jdk_29_method_66_code 4 (some .long) :: ws) ({ frames := 0, cells := 0, slots := 0, locals := 0 } : Room)) (fun aW U => aW = #[(.long x0), (.long x1)] ∧ Z.Warmed39 U.vm ∧ U.heap = h0) (fun _ _ _ _ _ => True) (fun _ U o U' => ∃ v L, o = .returned v ∧ Q1 Z x0 x1 h0 n0 v U'.heap L ∧ FrameEnd U o U' L ({ frames := 0, cells := 0, slots := 0, locals := 0 } : Room).cells ({ frames := 0, cells := 0, slots := 0, locals := 0 } : Room).slots) := by
  refine MetFree.of_bodySF (Jvm.Free.JP.mathPlain rfl (by decide +kernel)) hisR ?_
  intro p e s m args below meth c s₁ Bd hml0 hP hK
  obtain ⟨rfl, hZ, hh⟩ := hP
  have hx := Bd.exec
  have hby := Bd.bytes
  have hml : c.maxLocals = 4 := hml0
  have hown : s.vm.findClass "java/lang/Math" = some m.cls := findClass_of_methodNamed Bd.named
  have hnm := (name_of_methodNamed Bd.named Bd.method).1
  have X0 : Stand p l e ({ frames := 0, cells := 0, slots := 0, locals := 0 } : Room) s m #[(.long x0), (.long x1)] below meth c s₁ [] 0 0 := Stand.of_body Bd
  have e0 : s₁.heap = h0 := by rw [← hh, Bd.state]; rfl
  have N0 := Fr.nil n0
  obtain ⟨Pq, hPq⟩ : ∃ P, P = own_P s below (fun v h L => Q1 Z x0 x1 h0 n0 v h L) ({ frames := 0, cells := 0, slots := 0, locals := 0 } : Room).cells ({ frames := 0, cells := 0, slots := 0, locals := 0 } : Room).slots := ⟨_, rfl⟩
  suffices hgo : own_Go p.tables e below Pq s₁ (mkF m 0 #[.val (.long x0), .second, .val (.long x1), .second] []) by
    subst hPq
    obtain ⟨t, k1, k2, o, k3, k4⟩ := hgo
    exact ⟨t, o, castTop (own_ef1 m x0 x1) k1, k2, k3, k4⟩
  show own_Go _ _ _ _ s₁ (mkF m 0 #[.val (.long x0), .second, .val (.long x1), .second] [])
  refine own_st (fun t k => XS.lloadN X0.here hx rfl (hb hby d1_0) rfl k) ?_
  show own_Go _ _ _ _ s₁ (mkF m 1 _ [(.long x0)])
  refine own_st (fun t k => XS.lloadN X0.here hx rfl (hb hby d1_1) rfl k) ?_
  show own_Go _ _ _ _ s₁ (mkF m 2 _ [(.long x1), (.long x0)])
  refine own_st (fun t k => XS.lcmp X0.here hx rfl (hb hby d1_2) rfl k) ?_
  show own_Go _ _ _ _ s₁ (mkF m 3 _ [(.int (lcmpW x0 x1))])
  have J4 : ∀ (Tj4 : State) (Lj4 : List Loc) (p5 : Int64), Stand p l e ({ frames := 0, cells := 0, slots := 0, locals := 0 } : Room) s m #[(.long x0), (.long x1)] below meth c Tj4 Lj4 0 0 → Tj4.heap = h0 → Fr n0 Lj4 → p5 = (if x0 < x1 then x1 else x0) → own_Go p.tables e below Pq Tj4 (mkF m 11 #[.val (.long x0), .second, .val (.long x1), .second] [(.long p5)]) := by
    intro Tj4 Lj4 p5 Xj4 ej4 Nj4 qp5
    show own_Go _ _ _ _ Tj4 (mkF m 11 _ [(.long p5)])
    subst hPq
    refine own_out Xj4 (v := some (.long p5)) (fun h => by rw [Bd.returns] at h; cases h) Bd.notSynchronized (own_retJ Xj4 hx Bd.returns (hb hby d1_11)) (by decide) (by decide) ?_
    show Q1 Z x0 x1 h0 n0 _ Tj4.heap _
    rw [ej4]
    exact ⟨by subst_vars; rfl, Nj4, rfl⟩
  by_cases c1 : x0 < x1
  · skip
    refine own_st (fun t k => XS.ifYes X0.here hx rfl (pc0 := 3) (pc' := 10) rfl (hb hby d1_3) rfl (own_lcT (cd := .lt) c1) (by decide) (by decide) k) ?_
    show own_Go _ _ _ _ s₁ (mkF m 10 _ [])
    refine own_st (fun t k => XS.lloadN X0.here hx rfl (hb hby d1_10) rfl k) ?_
    show own_Go _ _ _ _ s₁ (mkF m 11 _ [(.long x1)])
    exact J4 s₁ _ _ X0 e0 N0 (by simp only [if_pos c1])
  · skip
    refine own_st (fun t k => XS.ifNo X0.here hx rfl (hb hby d1_3) rfl (own_lcF (cd := .lt) c1) k) ?_
    show own_Go _ _ _ _ s₁ (mkF m 6 _ [])
    refine own_st (fun t k => XS.lloadN X0.here hx rfl (hb hby d1_6) rfl k) ?_
    show own_Go _ _ _ _ s₁ (mkF m 7 _ [(.long x0)])
    refine own_st (fun t k => XS.goto X0.here hx rfl (pc0 := 7) (pc' := 11) rfl (hb hby d1_7) (by decide) (by decide) k) ?_
    show own_Go _ _ _ _ s₁ (mkF m 11 _ [(.long x0)])
    exact J4 s₁ _ _ X0 e0 N0 (by simp only [if_neg c1])
def own_place (x0 : Int64) (x1 : Int64) : Int64 := (if ((9223372036854775807 : Int64) - x1) < x0 then (x0 - x1) else x0)
theorem d2_0 : decode method_2_code 0 = .ok (.lload_n 0, 1) := by decide +kernel
theorem d2_1 : decode method_2_code 1 = .ok (.ldc2_w 9, 3) := by decide +kernel
theorem d2_4 : decode method_2_code 4 = .ok (.lload_n 2, 1) := by decide +kernel
theorem d2_5 : decode method_2_code 5 = .ok (.lsub, 1) := by decide +kernel
theorem d2_6 : decode method_2_code 6 = .ok (.lcmp, 1) := by decide +kernel
theorem d2_7 : decode method_2_code 7 = .ok (.ifCond .le 7, 3) := by decide +kernel
theorem d2_10 : decode method_2_code 10 = .ok (.lload_n 0, 1) := by decide +kernel
theorem d2_11 : decode method_2_code 11 = .ok (.lload_n 2, 1) := by decide +kernel
theorem d2_12 : decode method_2_code 12 = .ok (.lsub, 1) := by decide +kernel
theorem d2_13 : decode method_2_code 13 = .ok (.lreturn, 1) := by decide +kernel
theorem d2_14 : decode method_2_code 14 = .ok (.lload_n 0, 1) := by decide +kernel
theorem d2_15 : decode method_2_code 15 = .ok (.lreturn, 1) := by decide +kernel
theorem own_pn2 : plainName "com/example/laermkontur/laermkontur/study/GridRowsPinLaw" = true := by first | (simp [plainName, overriddenIn]; done) | decide +kernel
theorem own_ef2 (m : MethodId) (x0 : Int64) (x1 : Int64) : entryFrame m #[(.long x0), (.long x1)] 4 = mkF m 0 #[.val (.long x0), .second, .val (.long x1), .second] [] := by first | (simp [entryFrame, mkF, argsToLocals, Value.category]; done) | rfl
def Q2 (Z : State) (x0 : Int64) (x1 : Int64) (h0 : Heap) (n0 : Nat) (v : Option Value) (h : Heap) (L : List Loc) : Prop := v = some (.long (own_place x0 x1)) ∧ Fr n0 L ∧ h = h0
set_option maxRecDepth 65536 in
set_option maxHeartbeats 4000000 in
theorem rm2 (l : Launch) (Z : State) (a0 : Array Value) (hw : ∀ d ∈ tables_1, d.before a0 Z = true) (ws : List Jvm.Cond) (x0 : Int64) (x1 : Int64) (h0 : Heap) (n0 : Nat) (Z0 : n0 ≤ h0.size) :
    MetFree l (⟨"com/example/laermkontur/laermkontur/study/GridRowsPinLaw", "place", "(JJ)J"⟩ : MethodName) (head1 (Jvm.Cond.code (⟨"com/example/laermkontur/laermkontur/study/GridRowsPinLaw", "place", "(JJ)J"⟩ : MethodName) method_2_code 4 (some .long) :: ws) ({ frames := 0, cells := 0, slots := 0, locals := 0 } : Room)) (fun aW U => aW = #[(.long x0), (.long x1)] ∧ Z.Warmed39 U.vm ∧ U.heap = h0) (fun _ _ _ _ _ => True) (fun _ U o U' => ∃ v L, o = .returned v ∧ Q2 Z x0 x1 h0 n0 v U'.heap L ∧ FrameEnd U o U' L ({ frames := 0, cells := 0, slots := 0, locals := 0 } : Room).cells ({ frames := 0, cells := 0, slots := 0, locals := 0 } : Room).slots) := by
  refine MetFree.of_bodySF (plainFor_of_name own_pn2) hisR ?_
  intro p e s m args below meth c s₁ Bd hml0 hP hK
  obtain ⟨rfl, hZ, hh⟩ := hP
  have hx := Bd.exec
  have hby := Bd.bytes
  have hml : c.maxLocals = 4 := hml0
  have hown : s.vm.findClass "com/example/laermkontur/laermkontur/study/GridRowsPinLaw" = some m.cls := findClass_of_methodNamed Bd.named
  have hnm := (name_of_methodNamed Bd.named Bd.method).1
  have X0 : Stand p l e ({ frames := 0, cells := 0, slots := 0, locals := 0 } : Room) s m #[(.long x0), (.long x1)] below meth c s₁ [] 0 0 := Stand.of_body Bd
  have e0 : s₁.heap = h0 := by rw [← hh, Bd.state]; rfl
  have N0 := Fr.nil n0
  obtain ⟨Pq, hPq⟩ : ∃ P, P = own_P s below (fun v h L => Q2 Z x0 x1 h0 n0 v h L) ({ frames := 0, cells := 0, slots := 0, locals := 0 } : Room).cells ({ frames := 0, cells := 0, slots := 0, locals := 0 } : Room).slots := ⟨_, rfl⟩
  suffices hgo : own_Go p.tables e below Pq s₁ (mkF m 0 #[.val (.long x0), .second, .val (.long x1), .second] []) by
    subst hPq
    obtain ⟨t, k1, k2, o, k3, k4⟩ := hgo
    exact ⟨t, o, castTop (own_ef2 m x0 x1) k1, k2, k3, k4⟩
  show own_Go _ _ _ _ s₁ (mkF m 0 #[.val (.long x0), .second, .val (.long x1), .second] [])
  refine own_st (fun t k => XS.lloadN X0.here hx rfl (hb hby d2_0) rfl k) ?_
  show own_Go _ _ _ _ s₁ (mkF m 1 _ [(.long x0)])
  refine own_st (fun t k => X0.ldc2Long hx hown (mvT hZ (hw _ (List.mem_of_getElem? (i := 1) rfl))) (g := (mkF m 1 #[.val (.long x0), .second, .val (.long x1), .second] [(.long x0)])) rfl (hb hby d2_1) _ k) ?_
  show own_Go _ _ _ _ s₁ (mkF m 4 _ [(.long (9223372036854775807 : Int64)), (.long x0)])
  refine own_st (fun t k => XS.lloadN X0.here hx rfl (hb hby d2_4) rfl k) ?_
  show own_Go _ _ _ _ s₁ (mkF m 5 _ [(.long x1), (.long (9223372036854775807 : Int64)), (.long x0)])
  refine own_st (fun t k => XS.lsub X0.here hx rfl (hb hby d2_5) rfl k) ?_
  show own_Go _ _ _ _ s₁ (mkF m 6 _ [(.long ((9223372036854775807 : Int64) - x1)), (.long x0)])
  refine own_st (fun t k => XS.lcmp X0.here hx rfl (hb hby d2_6) rfl k) ?_
  show own_Go _ _ _ _ s₁ (mkF m 7 _ [(.int (lcmpW x0 ((9223372036854775807 : Int64) - x1)))])
  by_cases c1 : ((9223372036854775807 : Int64) - x1) < x0
  · skip
    refine own_st (fun t k => XS.ifNo X0.here hx rfl (hb hby d2_7) rfl (own_lcF (cd := .le) (not_not_intro c1)) k) ?_
    show own_Go _ _ _ _ s₁ (mkF m 10 _ [])
    refine own_st (fun t k => XS.lloadN X0.here hx rfl (hb hby d2_10) rfl k) ?_
    show own_Go _ _ _ _ s₁ (mkF m 11 _ [(.long x0)])
    refine own_st (fun t k => XS.lloadN X0.here hx rfl (hb hby d2_11) rfl k) ?_
    show own_Go _ _ _ _ s₁ (mkF m 12 _ [(.long x1), (.long x0)])
    refine own_st (fun t k => XS.lsub X0.here hx rfl (hb hby d2_12) rfl k) ?_
    show own_Go _ _ _ _ s₁ (mkF m 13 _ [(.long (x0 - x1))])
    subst hPq
    refine own_out X0 (v := some (.long (x0 - x1))) (fun h => by rw [Bd.returns] at h; cases h) Bd.notSynchronized (own_retJ X0 hx Bd.returns (hb hby d2_13)) (by decide) (by decide) ?_
    show Q2 Z x0 x1 h0 n0 _ s₁.heap _
    rw [e0]
    exact ⟨by subst_vars; simp only [own_place, if_pos c1], N0, rfl⟩
  · skip
    refine own_st (fun t k => XS.ifYes X0.here hx rfl (pc0 := 7) (pc' := 14) rfl (hb hby d2_7) rfl (own_lcT (cd := .le) c1) (by decide) (by decide) k) ?_
    show own_Go _ _ _ _ s₁ (mkF m 14 _ [])
    refine own_st (fun t k => XS.lloadN X0.here hx rfl (hb hby d2_14) rfl k) ?_
    show own_Go _ _ _ _ s₁ (mkF m 15 _ [(.long x0)])
    subst hPq
    refine own_out X0 (v := some (.long x0)) (fun h => by rw [Bd.returns] at h; cases h) Bd.notSynchronized (own_retJ X0 hx Bd.returns (hb hby d2_15)) (by decide) (by decide) ?_
    show Q2 Z x0 x1 h0 n0 _ s₁.heap _
    rw [e0]
    exact ⟨by subst_vars; simp only [own_place, if_neg c1], N0, rfl⟩
theorem d3_0 : decode jdk_30_method_1_code 0 = .ok (.aload_n 0, 1) := by decide +kernel
theorem d3_1 : decode jdk_30_method_1_code 1 = .ok (.invokespecial 1, 3) := by decide +kernel
theorem d3_4 : decode jdk_30_method_1_code 4 = .ok (.return_, 1) := by decide +kernel
theorem own_pn3 : plainName "java/lang/Record" = true := by first | (simp [plainName, overriddenIn]; done) | decide +kernel
theorem own_ef3 (m : MethodId) (a : Addr) : entryFrame m #[(.ref a)] 1 = mkF m 0 #[.val (.ref a)] [] := by first | (simp [entryFrame, mkF, argsToLocals, Value.category]; done) | rfl
def Q3 (Z : State) (a : Addr) (h0 : Heap) (n0 : Nat) (v : Option Value) (h : Heap) (L : List Loc) : Prop := v = none ∧ Fr n0 L ∧ h = h0
set_option maxRecDepth 65536 in
set_option maxHeartbeats 4000000 in
theorem rm3 (l : Launch) (Z : State) (a0 : Array Value) (hw : ∀ d ∈ tables_1, d.before a0 Z = true) (ws : List Jvm.Cond) (a : Addr) (h0 : Heap) (n0 : Nat) (Z0 : n0 ≤ h0.size) :
    MetFree l (⟨"java/lang/Record", "<init>", "()V"⟩ : MethodName) (head1 (Jvm.Cond.code (⟨"java/lang/Record", "<init>", "()V"⟩ : MethodName) jdk_30_method_1_code 1 none :: ws) ({ frames := 1, cells := 0, slots := 0, locals := 12 } : Room)) (fun aW U => aW = #[(.ref a)] ∧ Z.Warmed39 U.vm ∧ U.heap = h0) (fun _ _ _ _ _ => True) (fun _ U o U' => ∃ v L, o = .returned v ∧ Q3 Z a h0 n0 v U'.heap L ∧ FrameEnd U o U' L ({ frames := 1, cells := 0, slots := 0, locals := 12 } : Room).cells ({ frames := 1, cells := 0, slots := 0, locals := 12 } : Room).slots) := by
  refine MetFree.of_bodySF (plainFor_of_name own_pn3) hisR ?_
  intro p e s m args below meth c s₁ Bd hml0 hP hK
  obtain ⟨rfl, hZ, hh⟩ := hP
  have hx := Bd.exec
  have hby := Bd.bytes
  have hml : c.maxLocals = 1 := hml0
  have hown : s.vm.findClass "java/lang/Record" = some m.cls := findClass_of_methodNamed Bd.named
  have hnm := (name_of_methodNamed Bd.named Bd.method).1
  have X0 : Stand p l e ({ frames := 1, cells := 0, slots := 0, locals := 12 } : Room) s m #[(.ref a)] below meth c s₁ [] 0 0 := Stand.of_body Bd
  have e0 : s₁.heap = h0 := by rw [← hh, Bd.state]; rfl
  have N0 := Fr.nil n0
  obtain ⟨Pq, hPq⟩ : ∃ P, P = own_P s below (fun v h L => Q3 Z a h0 n0 v h L) ({ frames := 1, cells := 0, slots := 0, locals := 12 } : Room).cells ({ frames := 1, cells := 0, slots := 0, locals := 12 } : Room).slots := ⟨_, rfl⟩
  suffices hgo : own_Go p.tables e below Pq s₁ (mkF m 0 #[.val (.ref a)] []) by
    subst hPq
    obtain ⟨t, k1, k2, o, k3, k4⟩ := hgo
    exact ⟨t, o, castTop (own_ef3 m a) k1, k2, k3, k4⟩
  show own_Go _ _ _ _ s₁ (mkF m 0 #[.val (.ref a)] [])
  refine own_st (fun t k => XS.aloadN X0.here hx rfl (hb hby d3_0) rfl rfl k) ?_
  show own_Go _ _ _ _ s₁ (mkF m 1 _ [(.ref a)])
  obtain ⟨T1, X1, e1, st1⟩ := initO X0 hx hZ hown (hw _ (List.mem_of_getElem? (i := 23) rfl)) (hw _ (List.mem_of_getElem? (i := 24) rfl)) (hw _ (List.mem_of_getElem? (i := 25) rfl)) e0 (g := (mkF m 1 #[.val (.ref a)] [(.ref a)])) rfl (by rw [hml]; rfl) rfl (hb hby d3_1) (by decide) (W := 0) (by show 2 * 0 + _ ≤ _; exact Nat.le_of_eq rfl) (by decide)
  refine own_st st1 ?_
  show own_Go _ _ _ _ T1 (mkF m 4 _ [])
  subst hPq
  refine own_out X1 (v := none) (fun _ => rfl) Bd.notSynchronized (fun fs hr => X1.returnOut hx Bd.returns (hb hby d3_4) hr) (by decide) (by decide) ?_
  show Q3 Z a h0 n0 _ T1.heap _
  rw [e1]
  exact ⟨rfl, N0, rfl⟩
theorem d4_0 : decode prog_53_method_2_code 0 = .ok (.lload_n 3, 1) := by decide +kernel
theorem d4_1 : decode prog_53_method_2_code 1 = .ok (.lload_n 1, 1) := by decide +kernel
theorem d4_2 : decode prog_53_method_2_code 2 = .ok (.lcmp, 1) := by decide +kernel
theorem d4_3 : decode prog_53_method_2_code 3 = .ok (.ifCond .gt 18, 3) := by decide +kernel
theorem d4_21 : decode prog_53_method_2_code 21 = .ok (.lload_n 3, 1) := by decide +kernel
theorem d4_22 : decode prog_53_method_2_code 22 = .ok (.lload_n 1, 1) := by decide +kernel
theorem d4_23 : decode prog_53_method_2_code 23 = .ok (.lsub, 1) := by decide +kernel
theorem d4_24 : decode prog_53_method_2_code 24 = .ok (.lstore 7, 2) := by decide +kernel
theorem d4_26 : decode prog_53_method_2_code 26 = .ok (.lload 7, 2) := by decide +kernel
theorem d4_28 : decode prog_53_method_2_code 28 = .ok (.lconst 0, 1) := by decide +kernel
theorem d4_29 : decode prog_53_method_2_code 29 = .ok (.lcmp, 1) := by decide +kernel
theorem d4_30 : decode prog_53_method_2_code 30 = .ok (.ifCond .lt 17, 3) := by decide +kernel
theorem d4_33 : decode prog_53_method_2_code 33 = .ok (.lload 7, 2) := by decide +kernel
theorem d4_35 : decode prog_53_method_2_code 35 = .ok (.lload 5, 2) := by decide +kernel
theorem d4_37 : decode prog_53_method_2_code 37 = .ok (.ldiv, 1) := by decide +kernel
theorem d4_38 : decode prog_53_method_2_code 38 = .ok (.lconst 1, 1) := by decide +kernel
theorem d4_39 : decode prog_53_method_2_code 39 = .ok (.ladd, 1) := by decide +kernel
theorem d4_40 : decode prog_53_method_2_code 40 = .ok (.ldc2_w 28, 3) := by decide +kernel
theorem d4_43 : decode prog_53_method_2_code 43 = .ok (.lcmp, 1) := by decide +kernel
theorem d4_44 : decode prog_53_method_2_code 44 = .ok (.ifCond .le 9, 3) := by decide +kernel
theorem d4_53 : decode prog_53_method_2_code 53 = .ok (.lload 7, 2) := by decide +kernel
theorem d4_55 : decode prog_53_method_2_code 55 = .ok (.lload 5, 2) := by decide +kernel
theorem d4_57 : decode prog_53_method_2_code 57 = .ok (.lrem, 1) := by decide +kernel
theorem d4_58 : decode prog_53_method_2_code 58 = .ok (.lconst 0, 1) := by decide +kernel
theorem d4_59 : decode prog_53_method_2_code 59 = .ok (.lcmp, 1) := by decide +kernel
theorem d4_60 : decode prog_53_method_2_code 60 = .ok (.ifCond .eq 22, 3) := by decide +kernel
theorem d4_82 : decode prog_53_method_2_code 82 = .ok (.return_, 1) := by decide +kernel
theorem own_pn4 : plainName "com/example/laermkontur/laermkontur/study/Grid" = true := by first | (simp [plainName, overriddenIn]; done) | decide +kernel
theorem own_ef4 (m : MethodId) (nm : Addr) (lo : Int64) (hi : Int64) (sp : Int64) : entryFrame m #[(.ref nm), (.long lo), (.long hi), (.long sp)] 9 = mkF m 0 #[.val (.ref nm), .val (.long lo), .second, .val (.long hi), .second, .val (.long sp), .second, .unset, .unset] [] := by first | (simp [entryFrame, mkF, argsToLocals, Value.category]; done) | rfl
def Q4 (Z : State) (nm : Addr) (lo : Int64) (hi : Int64) (sp : Int64) (h0 : Heap) (n0 : Nat) (v : Option Value) (h : Heap) (L : List Loc) : Prop := v = none ∧ Fr n0 L ∧ h = h0
set_option maxRecDepth 65536 in
set_option maxHeartbeats 4000000 in
theorem rm4 (l : Launch) (Z : State) (a0 : Array Value) (hw : ∀ d ∈ tables_1, d.before a0 Z = true) (ws : List Jvm.Cond) (nm : Addr) (lo : Int64) (hi : Int64) (sp : Int64) (h0 : Heap) (n0 : Nat) (Z0 : n0 ≤ h0.size) (hA : lo < hi) (hB : ¬ (hi - lo) < (0 : Int64)) (hC : ¬ (2147483639 : Int64) < (((hi - lo) / sp) + (1 : Int64))) (hD : ((hi - lo) - ((hi - lo) / sp) * sp) = (0 : Int64)) (hE : sp ≠ (0 : Int64)) :
    MetFree l (⟨"com/example/laermkontur/laermkontur/study/Grid", "checkExtent", "(Ljava/lang/String;JJJ)V"⟩ : MethodName) (head1 (Jvm.Cond.code (⟨"com/example/laermkontur/laermkontur/study/Grid", "checkExtent", "(Ljava/lang/String;JJJ)V"⟩ : MethodName) prog_53_method_2_code 9 none :: ws) ({ frames := 0, cells := 0, slots := 0, locals := 0 } : Room)) (fun aW U => aW = #[(.ref nm), (.long lo), (.long hi), (.long sp)] ∧ Z.Warmed39 U.vm ∧ U.heap = h0) (fun _ _ _ _ _ => True) (fun _ U o U' => ∃ v L, o = .returned v ∧ Q4 Z nm lo hi sp h0 n0 v U'.heap L ∧ FrameEnd U o U' L ({ frames := 0, cells := 0, slots := 0, locals := 0 } : Room).cells ({ frames := 0, cells := 0, slots := 0, locals := 0 } : Room).slots) := by
  refine MetFree.of_bodySF (plainFor_of_name own_pn4) hisR ?_
  intro p e s m args below meth c s₁ Bd hml0 hP hK
  obtain ⟨rfl, hZ, hh⟩ := hP
  have hx := Bd.exec
  have hby := Bd.bytes
  have hml : c.maxLocals = 9 := hml0
  have hown : s.vm.findClass "com/example/laermkontur/laermkontur/study/Grid" = some m.cls := findClass_of_methodNamed Bd.named
  have hnm := (name_of_methodNamed Bd.named Bd.method).1
  have X0 : Stand p l e ({ frames := 0, cells := 0, slots := 0, locals := 0 } : Room) s m #[(.ref nm), (.long lo), (.long hi), (.long sp)] below meth c s₁ [] 0 0 := Stand.of_body Bd
  have e0 : s₁.heap = h0 := by rw [← hh, Bd.state]; rfl
  have N0 := Fr.nil n0
  obtain ⟨Pq, hPq⟩ : ∃ P, P = own_P s below (fun v h L => Q4 Z nm lo hi sp h0 n0 v h L) ({ frames := 0, cells := 0, slots := 0, locals := 0 } : Room).cells ({ frames := 0, cells := 0, slots := 0, locals := 0 } : Room).slots := ⟨_, rfl⟩
  suffices hgo : own_Go p.tables e below Pq s₁ (mkF m 0 #[.val (.ref nm), .val (.long lo), .second, .val (.long hi), .second, .val (.long sp), .second, .unset, .unset] []) by
    subst hPq
    obtain ⟨t, k1, k2, o, k3, k4⟩ := hgo
    exact ⟨t, o, castTop (own_ef4 m nm lo hi sp) k1, k2, k3, k4⟩
  show own_Go _ _ _ _ s₁ (mkF m 0 #[.val (.ref nm), .val (.long lo), .second, .val (.long hi), .second, .val (.long sp), .second, .unset, .unset] [])
  refine own_st (fun t k => XS.lloadN X0.here hx rfl (hb hby d4_0) rfl k) ?_
  show own_Go _ _ _ _ s₁ (mkF m 1 _ [(.long hi)])
  refine own_st (fun t k => XS.lloadN X0.here hx rfl (hb hby d4_1) rfl k) ?_
  show own_Go _ _ _ _ s₁ (mkF m 2 _ [(.long lo), (.long hi)])
  refine own_st (fun t k => XS.lcmp X0.here hx rfl (hb hby d4_2) rfl k) ?_
  show own_Go _ _ _ _ s₁ (mkF m 3 _ [(.int (lcmpW hi lo))])
  refine own_st (fun t k => XS.ifYes X0.here hx rfl (pc0 := 3) (pc' := 21) rfl (hb hby d4_3) rfl (own_lcT (cd := .gt) hA) (by decide) (by decide) k) ?_
  show own_Go _ _ _ _ s₁ (mkF m 21 _ [])
  refine own_st (fun t k => XS.lloadN X0.here hx rfl (hb hby d4_21) rfl k) ?_
  show own_Go _ _ _ _ s₁ (mkF m 22 _ [(.long hi)])
  refine own_st (fun t k => XS.lloadN X0.here hx rfl (hb hby d4_22) rfl k) ?_
  show own_Go _ _ _ _ s₁ (mkF m 23 _ [(.long lo), (.long hi)])
  refine own_st (fun t k => XS.lsub X0.here hx rfl (hb hby d4_23) rfl k) ?_
  show own_Go _ _ _ _ s₁ (mkF m 24 _ [(.long (hi - lo))])
  refine own_st (fun t k => XS.lstore X0.here hx rfl (hb hby d4_24) rfl (l' := #[.val (.ref nm), .val (.long lo), .second, .val (.long hi), .second, .val (.long sp), .second, .val (.long (hi - lo)), .second]) rfl k) ?_
  show own_Go _ _ _ _ s₁ (mkF m 26 #[.val (.ref nm), .val (.long lo), .second, .val (.long hi), .second, .val (.long sp), .second, .val (.long (hi - lo)), .second] [])
  refine own_st (fun t k => XS.lload X0.here hx rfl (hb hby d4_26) rfl k) ?_
  show own_Go _ _ _ _ s₁ (mkF m 28 _ [(.long (hi - lo))])
  refine own_st (fun t k => XS.lconst X0.here hx rfl (hb hby d4_28) k) ?_
  show own_Go _ _ _ _ s₁ (mkF m 29 _ [(.long (0 : Int64)), (.long (hi - lo))])
  refine own_st (fun t k => XS.lcmp X0.here hx rfl (hb hby d4_29) rfl k) ?_
  show own_Go _ _ _ _ s₁ (mkF m 30 _ [(.int (lcmpW (hi - lo) (0 : Int64)))])
  refine own_st (fun t k => XS.ifNo X0.here hx rfl (hb hby d4_30) rfl (own_lcF (cd := .lt) hB) k) ?_
  show own_Go _ _ _ _ s₁ (mkF m 33 _ [])
  refine own_st (fun t k => XS.lload X0.here hx rfl (hb hby d4_33) rfl k) ?_
  show own_Go _ _ _ _ s₁ (mkF m 35 _ [(.long (hi - lo))])
  refine own_st (fun t k => XS.lload X0.here hx rfl (hb hby d4_35) rfl k) ?_
  show own_Go _ _ _ _ s₁ (mkF m 37 _ [(.long sp), (.long (hi - lo))])
  refine own_st (fun t k => XS.ldiv X0.here hx rfl (hb hby d4_37) rfl hE k) ?_
  show own_Go _ _ _ _ s₁ (mkF m 38 _ [(.long ((hi - lo) / sp))])
  refine own_st (fun t k => XS.lconst X0.here hx rfl (hb hby d4_38) k) ?_
  show own_Go _ _ _ _ s₁ (mkF m 39 _ [(.long (1 : Int64)), (.long ((hi - lo) / sp))])
  refine own_st (fun t k => XS.ladd X0.here hx rfl (hb hby d4_39) rfl k) ?_
  show own_Go _ _ _ _ s₁ (mkF m 40 _ [(.long (((hi - lo) / sp) + (1 : Int64)))])
  refine own_st (fun t k => X0.ldc2Long hx hown (mvT hZ (hw _ (List.mem_of_getElem? (i := 37) rfl))) (g := (mkF m 40 #[.val (.ref nm), .val (.long lo), .second, .val (.long hi), .second, .val (.long sp), .second, .val (.long (hi - lo)), .second] [(.long (((hi - lo) / sp) + (1 : Int64)))])) rfl (hb hby d4_40) _ k) ?_
  show own_Go _ _ _ _ s₁ (mkF m 43 _ [(.long (2147483639 : Int64)), (.long (((hi - lo) / sp) + (1 : Int64)))])
  refine own_st (fun t k => XS.lcmp X0.here hx rfl (hb hby d4_43) rfl k) ?_
  show own_Go _ _ _ _ s₁ (mkF m 44 _ [(.int (lcmpW (((hi - lo) / sp) + (1 : Int64)) (2147483639 : Int64)))])
  refine own_st (fun t k => XS.ifYes X0.here hx rfl (pc0 := 44) (pc' := 53) rfl (hb hby d4_44) rfl (own_lcT (cd := .le) hC) (by decide) (by decide) k) ?_
  show own_Go _ _ _ _ s₁ (mkF m 53 _ [])
  refine own_st (fun t k => XS.lload X0.here hx rfl (hb hby d4_53) rfl k) ?_
  show own_Go _ _ _ _ s₁ (mkF m 55 _ [(.long (hi - lo))])
  refine own_st (fun t k => XS.lload X0.here hx rfl (hb hby d4_55) rfl k) ?_
  show own_Go _ _ _ _ s₁ (mkF m 57 _ [(.long sp), (.long (hi - lo))])
  refine own_st (fun t k => XS.lrem X0.here hx rfl (hb hby d4_57) rfl hE k) ?_
  show own_Go _ _ _ _ s₁ (mkF m 58 _ [(.long ((hi - lo) - ((hi - lo) / sp) * sp))])
  refine own_st (fun t k => XS.lconst X0.here hx rfl (hb hby d4_58) k) ?_
  show own_Go _ _ _ _ s₁ (mkF m 59 _ [(.long (0 : Int64)), (.long ((hi - lo) - ((hi - lo) / sp) * sp))])
  refine own_st (fun t k => XS.lcmp X0.here hx rfl (hb hby d4_59) rfl k) ?_
  show own_Go _ _ _ _ s₁ (mkF m 60 _ [(.int (lcmpW ((hi - lo) - ((hi - lo) / sp) * sp) (0 : Int64)))])
  refine own_st (fun t k => XS.ifYes X0.here hx rfl (pc0 := 60) (pc' := 82) rfl (hb hby d4_60) rfl (own_lcT (cd := .eq) hD) (by decide) (by decide) k) ?_
  show own_Go _ _ _ _ s₁ (mkF m 82 _ [])
  subst hPq
  refine own_out X0 (v := none) (fun _ => rfl) Bd.notSynchronized (fun fs hr => X0.returnOut hx Bd.returns (hb hby d4_82) hr) (by decide) (by decide) ?_
  show Q4 Z nm lo hi sp h0 n0 _ s₁.heap _
  rw [e0]
  exact ⟨rfl, N0, rfl⟩
theorem d5_0 : decode prog_53_method_1_code 0 = .ok (.aload_n 0, 1) := by decide +kernel
theorem d5_1 : decode prog_53_method_1_code 1 = .ok (.invokespecial 3, 3) := by decide +kernel
theorem d5_4 : decode prog_53_method_1_code 4 = .ok (.lload 9, 2) := by decide +kernel
theorem d5_6 : decode prog_53_method_1_code 6 = .ok (.lconst 0, 1) := by decide +kernel
theorem d5_7 : decode prog_53_method_1_code 7 = .ok (.lcmp, 1) := by decide +kernel
theorem d5_8 : decode prog_53_method_1_code 8 = .ok (.ifCond .gt 18, 3) := by decide +kernel
theorem d5_26 : decode prog_53_method_1_code 26 = .ok (.ldc 18, 2) := by decide +kernel
theorem d5_28 : decode prog_53_method_1_code 28 = .ok (.lload_n 1, 1) := by decide +kernel
theorem d5_29 : decode prog_53_method_1_code 29 = .ok (.lload 5, 2) := by decide +kernel
theorem d5_31 : decode prog_53_method_1_code 31 = .ok (.lload 9, 2) := by decide +kernel
theorem d5_33 : decode prog_53_method_1_code 33 = .ok (.invokestatic 20, 3) := by decide +kernel
theorem d5_36 : decode prog_53_method_1_code 36 = .ok (.ldc 26, 2) := by decide +kernel
theorem d5_38 : decode prog_53_method_1_code 38 = .ok (.lload_n 3, 1) := by decide +kernel
theorem d5_39 : decode prog_53_method_1_code 39 = .ok (.lload 7, 2) := by decide +kernel
theorem d5_41 : decode prog_53_method_1_code 41 = .ok (.lload 9, 2) := by decide +kernel
theorem d5_43 : decode prog_53_method_1_code 43 = .ok (.invokestatic 20, 3) := by decide +kernel
theorem d5_46 : decode prog_53_method_1_code 46 = .ok (.lload 5, 2) := by decide +kernel
theorem d5_48 : decode prog_53_method_1_code 48 = .ok (.lload_n 1, 1) := by decide +kernel
theorem d5_49 : decode prog_53_method_1_code 49 = .ok (.lsub, 1) := by decide +kernel
theorem d5_50 : decode prog_53_method_1_code 50 = .ok (.lload 9, 2) := by decide +kernel
theorem d5_52 : decode prog_53_method_1_code 52 = .ok (.ldiv, 1) := by decide +kernel
theorem d5_53 : decode prog_53_method_1_code 53 = .ok (.lconst 1, 1) := by decide +kernel
theorem d5_54 : decode prog_53_method_1_code 54 = .ok (.ladd, 1) := by decide +kernel
theorem d5_55 : decode prog_53_method_1_code 55 = .ok (.lload 7, 2) := by decide +kernel
theorem d5_57 : decode prog_53_method_1_code 57 = .ok (.lload_n 3, 1) := by decide +kernel
theorem d5_58 : decode prog_53_method_1_code 58 = .ok (.lsub, 1) := by decide +kernel
theorem d5_59 : decode prog_53_method_1_code 59 = .ok (.lload 9, 2) := by decide +kernel
theorem d5_61 : decode prog_53_method_1_code 61 = .ok (.ldiv, 1) := by decide +kernel
theorem d5_62 : decode prog_53_method_1_code 62 = .ok (.lconst 1, 1) := by decide +kernel
theorem d5_63 : decode prog_53_method_1_code 63 = .ok (.ladd, 1) := by decide +kernel
theorem d5_64 : decode prog_53_method_1_code 64 = .ok (.lmul, 1) := by decide +kernel
theorem d5_65 : decode prog_53_method_1_code 65 = .ok (.lstore 11, 2) := by decide +kernel
theorem d5_67 : decode prog_53_method_1_code 67 = .ok (.lload 11, 2) := by decide +kernel
theorem d5_69 : decode prog_53_method_1_code 69 = .ok (.ldc2_w 28, 3) := by decide +kernel
theorem d5_72 : decode prog_53_method_1_code 72 = .ok (.lcmp, 1) := by decide +kernel
theorem d5_73 : decode prog_53_method_1_code 73 = .ok (.ifCond .le 12, 3) := by decide +kernel
theorem d5_85 : decode prog_53_method_1_code 85 = .ok (.aload_n 0, 1) := by decide +kernel
theorem d5_86 : decode prog_53_method_1_code 86 = .ok (.lload_n 1, 1) := by decide +kernel
theorem d5_87 : decode prog_53_method_1_code 87 = .ok (.putfield 39, 3) := by decide +kernel
theorem d5_90 : decode prog_53_method_1_code 90 = .ok (.aload_n 0, 1) := by decide +kernel
theorem d5_91 : decode prog_53_method_1_code 91 = .ok (.lload_n 3, 1) := by decide +kernel
theorem d5_92 : decode prog_53_method_1_code 92 = .ok (.putfield 43, 3) := by decide +kernel
theorem d5_95 : decode prog_53_method_1_code 95 = .ok (.aload_n 0, 1) := by decide +kernel
theorem d5_96 : decode prog_53_method_1_code 96 = .ok (.lload 5, 2) := by decide +kernel
theorem d5_98 : decode prog_53_method_1_code 98 = .ok (.putfield 46, 3) := by decide +kernel
theorem d5_101 : decode prog_53_method_1_code 101 = .ok (.aload_n 0, 1) := by decide +kernel
theorem d5_102 : decode prog_53_method_1_code 102 = .ok (.lload 7, 2) := by decide +kernel
theorem d5_104 : decode prog_53_method_1_code 104 = .ok (.putfield 49, 3) := by decide +kernel
theorem d5_107 : decode prog_53_method_1_code 107 = .ok (.aload_n 0, 1) := by decide +kernel
theorem d5_108 : decode prog_53_method_1_code 108 = .ok (.lload 9, 2) := by decide +kernel
theorem d5_110 : decode prog_53_method_1_code 110 = .ok (.putfield 52, 3) := by decide +kernel
theorem d5_113 : decode prog_53_method_1_code 113 = .ok (.return_, 1) := by decide +kernel
theorem own_pn5 : plainName "com/example/laermkontur/laermkontur/study/Grid" = true := by first | (simp [plainName, overriddenIn]; done) | decide +kernel
theorem own_ef5 (m : MethodId) (a : Addr) (x0 : Int64) (x1 : Int64) (x2 : Int64) (x3 : Int64) (x4 : Int64) : entryFrame m #[(.ref a), (.long x0), (.long x1), (.long x2), (.long x3), (.long x4)] 13 = mkF m 0 #[.val (.ref a), .val (.long x0), .second, .val (.long x1), .second, .val (.long x2), .second, .val (.long x3), .second, .val (.long x4), .second, .unset, .unset] [] := by first | (simp [entryFrame, mkF, argsToLocals, Value.category]; done) | rfl
def Q5 (Z : State) (a : Addr) (x0 : Int64) (x1 : Int64) (x2 : Int64) (x3 : Int64) (x4 : Int64) (u0 : Value) (u1 : Value) (u2 : Value) (u3 : Value) (u4 : Value) (h0 : Heap) (n0 : Nat) (v : Option Value) (h : Heap) (L : List Loc) : Prop := v = none ∧ Fr n0 L ∧ Keep h0 h [a] ∧ Exa Z h a "com/example/laermkontur/laermkontur/study/Grid" ∧ Fld Z h a "com/example/laermkontur/laermkontur/study/Grid" "xMin" "J" (.long x0) ∧ Fld Z h a "com/example/laermkontur/laermkontur/study/Grid" "yMin" "J" (.long x1) ∧ Fld Z h a "com/example/laermkontur/laermkontur/study/Grid" "xMax" "J" (.long x2) ∧ Fld Z h a "com/example/laermkontur/laermkontur/study/Grid" "yMax" "J" (.long x3) ∧ Fld Z h a "com/example/laermkontur/laermkontur/study/Grid" "spacing" "J" (.long x4)
set_option maxRecDepth 65536 in
set_option maxHeartbeats 4000000 in
theorem rm5 (l : Launch) (Z : State) (a0 : Array Value) (hw : ∀ d ∈ tables_1, d.before a0 Z = true) (ws : List Jvm.Cond) (a : Addr) (x0 : Int64) (x1 : Int64) (x2 : Int64) (x3 : Int64) (x4 : Int64) (u0 : Value) (u1 : Value) (u2 : Value) (u3 : Value) (u4 : Value) (h0 : Heap) (n0 : Nat) (Z0 : n0 ≤ h0.size) (F0 : Exa Z h0 a "com/example/laermkontur/laermkontur/study/Grid") (F1 : Fld Z h0 a "com/example/laermkontur/laermkontur/study/Grid" "xMin" "J" u0) (F2 : Fld Z h0 a "com/example/laermkontur/laermkontur/study/Grid" "yMin" "J" u1) (F3 : Fld Z h0 a "com/example/laermkontur/laermkontur/study/Grid" "xMax" "J" u2) (F4 : Fld Z h0 a "com/example/laermkontur/laermkontur/study/Grid" "yMax" "J" u3) (F5 : Fld Z h0 a "com/example/laermkontur/laermkontur/study/Grid" "spacing" "J" u4) (h0p : (0 : Int64) < x4) (hE : x4 ≠ (0 : Int64)) (hx0 : x0 < x2) (hx1 : ¬ (x2 - x0) < (0 : Int64)) (hx2 : ¬ (2147483639 : Int64) < (((x2 - x0) / x4) + (1 : Int64))) (hx3 : ((x2 - x0) - ((x2 - x0) / x4) * x4) = (0 : Int64)) (hy0 : x1 < x3) (hy1 : ¬ (x3 - x1) < (0 : Int64)) (hy2 : ¬ (2147483639 : Int64) < (((x3 - x1) / x4) + (1 : Int64))) (hy3 : ((x3 - x1) - ((x3 - x1) / x4) * x4) = (0 : Int64)) (hM : ¬ (2147483639 : Int64) < ((((x2 - x0) / x4) + (1 : Int64)) * (((x3 - x1) / x4) + (1 : Int64)))) (g_a : n0 ≤ a) :
    MetFree l (⟨"com/example/laermkontur/laermkontur/study/Grid", "<init>", "(JJJJJ)V"⟩ : MethodName) (head1 (Jvm.Cond.code (⟨"com/example/laermkontur/laermkontur/study/Grid", "<init>", "(JJJJJ)V"⟩ : MethodName) prog_53_method_1_code 13 none :: ws) ({ frames := 2, cells := 4, slots := 16, locals := 24 } : Room)) (fun aW U => aW = #[(.ref a), (.long x0), (.long x1), (.long x2), (.long x3), (.long x4)] ∧ Z.Warmed39 U.vm ∧ U.heap = h0) (fun _ _ _ _ _ => True) (fun _ U o U' => ∃ v L, o = .returned v ∧ Q5 Z a x0 x1 x2 x3 x4 u0 u1 u2 u3 u4 h0 n0 v U'.heap L ∧ ReturnedEndW U o U' L ({ frames := 2, cells := 4, slots := 16, locals := 24 } : Room).cells ({ frames := 2, cells := 4, slots := 16, locals := 24 } : Room).slots) := by
  refine MetFree.of_bodySF (plainFor_of_name own_pn5) hisR ?_
  intro p e s m args below meth c s₁ Bd hml0 hP hK
  obtain ⟨rfl, hZ, hh⟩ := hP
  have hx := Bd.exec
  have hby := Bd.bytes
  have hml : c.maxLocals = 13 := hml0
  have hown : s.vm.findClass "com/example/laermkontur/laermkontur/study/Grid" = some m.cls := findClass_of_methodNamed Bd.named
  have hnm := (name_of_methodNamed Bd.named Bd.method).1
  have X0 : Stand p l e ({ frames := 2, cells := 4, slots := 16, locals := 24 } : Room) s m #[(.ref a), (.long x0), (.long x1), (.long x2), (.long x3), (.long x4)] below meth c s₁ [] 0 0 := Stand.of_body Bd
  have e0 : s₁.heap = h0 := by rw [← hh, Bd.state]; rfl
  have N0 := Fr.nil n0
  have X0 : Stand p l e ({ frames := 2, cells := 4, slots := 16, locals := 24 } : Room) (s.setVm s.vm) m #[(.ref a), (.long x0), (.long x1), (.long x2), (.long x3), (.long x4)] below meth c s₁ [] 0 0 := X0
  have hS : s.Since s.vm 0 := (State.WarmedH.refl s).since 0
  have hk : 0 ≤ h0.size := Nat.zero_le _
  have hZ : Z.Warmed39 (s.setVm s.vm).vm := hZ
  have hown : (s.setVm s.vm).vm.findClass "com/example/laermkontur/laermkontur/study/Grid" = some m.cls := hown
  have K0 : Keep h0 h0 [a] := Keep.refl _ _
  obtain ⟨Pq, hPq⟩ : ∃ P, P = own_PW s below (fun v h L => Q5 Z a x0 x1 x2 x3 x4 u0 u1 u2 u3 u4 h0 n0 v h L) ({ frames := 2, cells := 4, slots := 16, locals := 24 } : Room).cells ({ frames := 2, cells := 4, slots := 16, locals := 24 } : Room).slots := ⟨_, rfl⟩
  suffices hgo : own_Go p.tables e below Pq s₁ (mkF m 0 #[.val (.ref a), .val (.long x0), .second, .val (.long x1), .second, .val (.long x2), .second, .val (.long x3), .second, .val (.long x4), .second, .unset, .unset] []) by
    subst hPq
    obtain ⟨t, k1, k2, o, k3, k4⟩ := hgo
    exact ⟨t, o, castTop (own_ef5 m a x0 x1 x2 x3 x4) k1, k2, k3, k4⟩
  show own_Go _ _ _ _ s₁ (mkF m 0 #[.val (.ref a), .val (.long x0), .second, .val (.long x1), .second, .val (.long x2), .second, .val (.long x3), .second, .val (.long x4), .second, .unset, .unset] [])
  refine own_st (fun t k => XS.aloadN X0.here hx rfl (hb hby d5_0) rfl rfl k) ?_
  show own_Go _ _ _ _ s₁ (mkF m 1 _ [(.ref a)])
  obtain ⟨_, _, ⟨T1, L1, k1, n1⟩, -, X1, ⟨Lc1, hQ1, l1, y1, z1⟩, st1⟩ := X0.specialBack hx (y := (⟨"java/lang/Record", "<init>", "()V"⟩ : MethodName)) rfl hown (mvT hZ (hw _ (List.mem_of_getElem? (i := 18) rfl))) (mvT hZ (hw _ (List.mem_of_getElem? (i := 19) rfl))) (mvT hZ (hw _ (List.mem_of_getElem? (i := 22) rfl))) (by decide) (backOf (W := 0) (rm3 l Z a0 hw [] a h0 n0 Z0 ) hZ (hw _ (List.mem_of_getElem? (i := 22) rfl)) (hw _ (List.mem_of_getElem? (i := 21) rfl)) (by decide) (by decide)) (g := (mkF m 1 #[.val (.ref a), .val (.long x0), .second, .val (.long x1), .second, .val (.long x2), .second, .val (.long x3), .second, .val (.long x4), .second, .unset, .unset] [(.ref a)])) rfl (by rw [hml]; rfl) (Steps.refl _) (a := a) (argsL := []) (rest := []) (lenOf own_pd___V rfl) rfl (by show 2 * 0 + _ ≤ _; exact Nat.le_of_eq rfl) (hb hby d5_1) (fun _ _ => ⟨rfl, e0, (by decide : 0 + 0 ≤ _), (by decide : 0 + 0 ≤ _)⟩)
  dsimp only [Pt.U, Pt.locs, Pt.cells, Pt.slots] at X1 l1 y1 z1 st1 hQ1
  subst l1 y1 z1
  obtain ⟨rfl, NQ1, eq1⟩ := hQ1
  have N2 := Fr.app N0 NQ1
  refine own_st (fun t k => st1.trans k) ?_
  show own_Go _ _ _ _ T1 (mkF m 4 _ [])
  refine own_st (fun t k => XS.lload X1.here hx rfl (hb hby d5_4) rfl k) ?_
  show own_Go _ _ _ _ T1 (mkF m 6 _ [(.long x4)])
  refine own_st (fun t k => XS.lconst X1.here hx rfl (hb hby d5_6) k) ?_
  show own_Go _ _ _ _ T1 (mkF m 7 _ [(.long (0 : Int64)), (.long x4)])
  refine own_st (fun t k => XS.lcmp X1.here hx rfl (hb hby d5_7) rfl k) ?_
  show own_Go _ _ _ _ T1 (mkF m 8 _ [(.int (lcmpW x4 (0 : Int64)))])
  refine own_st (fun t k => XS.ifYes X1.here hx rfl (pc0 := 8) (pc' := 26) rfl (hb hby d5_8) rfl (own_lcT (cd := .gt) h0p) (by decide) (by decide) k) ?_
  show own_Go _ _ _ _ T1 (mkF m 26 _ [])
  obtain ⟨b3, T3, h3, k3, X3, e3, E3, hS, hk, hZ, hown, st3⟩ := ldcS X1 hx hZ hown (hw _ (List.mem_of_getElem? (i := 26) rfl)) (own_sA hw) eq1 hS hk (g := (mkF m 26 #[.val (.ref a), .val (.long x0), .second, .val (.long x1), .second, .val (.long x2), .second, .val (.long x3), .second, .val (.long x4), .second, .unset, .unset] [])) rfl (hb hby d5_26) (n := 4) (by decide) (by decide) (by decide) (by decide)
  refine own_st st3 ?_
  have f4 := F0.ext E3
  have f5 := F1.ext E3
  have f6 := F2.ext E3
  have f7 := F3.ext E3
  have f8 := F4.ext E3
  have f9 := F5.ext E3
  have Z10 : n0 ≤ h3.size := Nat.le_trans Z0 E3.1
  have K11 : Keep h0 h3 [a] := K0.ext E3
  show own_Go _ _ _ _ T3 (mkF m 28 _ [(.ref b3)])
  refine own_st (fun t k => XS.lloadN X3.here hx rfl (hb hby d5_28) rfl k) ?_
  show own_Go _ _ _ _ T3 (mkF m 29 _ [(.long x0), (.ref b3)])
  refine own_st (fun t k => XS.lload X3.here hx rfl (hb hby d5_29) rfl k) ?_
  show own_Go _ _ _ _ T3 (mkF m 31 _ [(.long x2), (.long x0), (.ref b3)])
  refine own_st (fun t k => XS.lload X3.here hx rfl (hb hby d5_31) rfl k) ?_
  show own_Go _ _ _ _ T3 (mkF m 33 _ [(.long x4), (.long x2), (.long x0), (.ref b3)])
  obtain ⟨_, _, ⟨T12, L12, k12, n12⟩, -, X12, ⟨Lc12, hQ12, l12, y12, z12⟩, st12⟩ := Jvm.LawKit.callS X3 hx (y := (⟨"com/example/laermkontur/laermkontur/study/Grid", "checkExtent", "(Ljava/lang/String;JJJ)V"⟩ : MethodName)) hown (mvT hZ (hw _ (List.mem_of_getElem? (i := 34) rfl))) (mvT hZ (hw _ (List.mem_of_getElem? (i := 35) rfl))) (mvT hZ (hw _ (List.mem_of_getElem? (i := 14) rfl))) (mvT hZ (hw _ (List.mem_of_getElem? (i := 36) rfl))) (by decide) (backOf (W := 0) (rm4 l Z a0 hw [] b3 x0 x2 x4 h3 n0 Z10 hx0 hx1 hx2 hx3 hE) hZ (hw _ (List.mem_of_getElem? (i := 36) rfl)) (hw _ (List.mem_of_getElem? (i := 14) rfl)) (by decide) (by decide)) (g := (mkF m 33 #[.val (.ref a), .val (.long x0), .second, .val (.long x1), .second, .val (.long x2), .second, .val (.long x3), .second, .val (.long x4), .second, .unset, .unset] [(.long x4), (.long x2), (.long x0), (.ref b3)])) rfl (by rw [hml]; rfl) (argsL := [(.ref b3), (.long x0), (.long x2), (.long x4)]) (rest := []) (lenOf own_pd__Ljava_lang_String_JJJ_V rfl) rfl (by show 2 * 0 + _ ≤ _; exact Nat.le_of_eq rfl) (hb hby d5_33) (fun _ _ => ⟨rfl, e3, (by decide : 2 + 0 ≤ _), (by decide : 8 + 0 ≤ _)⟩)
  dsimp only [Pt.U, Pt.locs, Pt.cells, Pt.slots] at X12 l12 y12 z12 st12 hQ12
  subst l12 y12 z12
  obtain ⟨rfl, NQ12, eq12⟩ := hQ12
  have N13 := Fr.app N2 NQ12
  refine own_st st12 ?_
  show own_Go _ _ _ _ T12 (mkF m 36 _ [])
  obtain ⟨b14, T14, h14, k14, X14, e14, E14, hS, hk, hZ, hown, st14⟩ := ldcS X12 hx hZ hown (hw _ (List.mem_of_getElem? (i := 38) rfl)) (own_sA hw) eq12 hS hk (g := (mkF m 36 #[.val (.ref a), .val (.long x0), .second, .val (.long x1), .second, .val (.long x2), .second, .val (.long x3), .second, .val (.long x4), .second, .unset, .unset] [])) rfl (hb hby d5_36) (n := 4) (by decide) (by decide) (by decide) (by decide)
  refine own_st st14 ?_
  have f15 := f4.ext E14
  have f16 := f5.ext E14
  have f17 := f6.ext E14
  have f18 := f7.ext E14
  have f19 := f8.ext E14
  have f20 := f9.ext E14
  have Z21 : n0 ≤ h14.size := Nat.le_trans Z10 E14.1
  have K22 : Keep h0 h14 [a] := K11.ext E14
  show own_Go _ _ _ _ T14 (mkF m 38 _ [(.ref b14)])
  refine own_st (fun t k => XS.lloadN X14.here hx rfl (hb hby d5_38) rfl k) ?_
  show own_Go _ _ _ _ T14 (mkF m 39 _ [(.long x1), (.ref b14)])
  refine own_st (fun t k => XS.lload X14.here hx rfl (hb hby d5_39) rfl k) ?_
  show own_Go _ _ _ _ T14 (mkF m 41 _ [(.long x3), (.long x1), (.ref b14)])
  refine own_st (fun t k => XS.lload X14.here hx rfl (hb hby d5_41) rfl k) ?_
  show own_Go _ _ _ _ T14 (mkF m 43 _ [(.long x4), (.long x3), (.long x1), (.ref b14)])
  obtain ⟨_, _, ⟨T23, L23, k23, n23⟩, -, X23, ⟨Lc23, hQ23, l23, y23, z23⟩, st23⟩ := Jvm.LawKit.callS X14 hx (y := (⟨"com/example/laermkontur/laermkontur/study/Grid", "checkExtent", "(Ljava/lang/String;JJJ)V"⟩ : MethodName)) hown (mvT hZ (hw _ (List.mem_of_getElem? (i := 34) rfl))) (mvT hZ (hw _ (List.mem_of_getElem? (i := 35) rfl))) (mvT hZ (hw _ (List.mem_of_getElem? (i := 14) rfl))) (mvT hZ (hw _ (List.mem_of_getElem? (i := 36) rfl))) (by decide) (backOf (W := 0) (rm4 l Z a0 hw [] b14 x1 x3 x4 h14 n0 Z21 hy0 hy1 hy2 hy3 hE) hZ (hw _ (List.mem_of_getElem? (i := 36) rfl)) (hw _ (List.mem_of_getElem? (i := 14) rfl)) (by decide) (by decide)) (g := (mkF m 43 #[.val (.ref a), .val (.long x0), .second, .val (.long x1), .second, .val (.long x2), .second, .val (.long x3), .second, .val (.long x4), .second, .unset, .unset] [(.long x4), (.long x3), (.long x1), (.ref b14)])) rfl (by rw [hml]; rfl) (argsL := [(.ref b14), (.long x1), (.long x3), (.long x4)]) (rest := []) (lenOf own_pd__Ljava_lang_String_JJJ_V rfl) rfl (by show 2 * 0 + _ ≤ _; exact Nat.le_of_eq rfl) (hb hby d5_43) (fun _ _ => ⟨rfl, e14, (by decide : 4 + 0 ≤ _), (by decide : 16 + 0 ≤ _)⟩)
  dsimp only [Pt.U, Pt.locs, Pt.cells, Pt.slots] at X23 l23 y23 z23 st23 hQ23
  subst l23 y23 z23
  obtain ⟨rfl, NQ23, eq23⟩ := hQ23
  have N24 := Fr.app N13 NQ23
  refine own_st st23 ?_
  show own_Go _ _ _ _ T23 (mkF m 46 _ [])
  refine own_st (fun t k => XS.lload X23.here hx rfl (hb hby d5_46) rfl k) ?_
  show own_Go _ _ _ _ T23 (mkF m 48 _ [(.long x2)])
  refine own_st (fun t k => XS.lloadN X23.here hx rfl (hb hby d5_48) rfl k) ?_
  show own_Go _ _ _ _ T23 (mkF m 49 _ [(.long x0), (.long x2)])
  refine own_st (fun t k => XS.lsub X23.here hx rfl (hb hby d5_49) rfl k) ?_
  show own_Go _ _ _ _ T23 (mkF m 50 _ [(.long (x2 - x0))])
  refine own_st (fun t k => XS.lload X23.here hx rfl (hb hby d5_50) rfl k) ?_
  show own_Go _ _ _ _ T23 (mkF m 52 _ [(.long x4), (.long (x2 - x0))])
  refine own_st (fun t k => XS.ldiv X23.here hx rfl (hb hby d5_52) rfl hE k) ?_
  show own_Go _ _ _ _ T23 (mkF m 53 _ [(.long ((x2 - x0) / x4))])
  refine own_st (fun t k => XS.lconst X23.here hx rfl (hb hby d5_53) k) ?_
  show own_Go _ _ _ _ T23 (mkF m 54 _ [(.long (1 : Int64)), (.long ((x2 - x0) / x4))])
  refine own_st (fun t k => XS.ladd X23.here hx rfl (hb hby d5_54) rfl k) ?_
  show own_Go _ _ _ _ T23 (mkF m 55 _ [(.long (((x2 - x0) / x4) + (1 : Int64)))])
  refine own_st (fun t k => XS.lload X23.here hx rfl (hb hby d5_55) rfl k) ?_
  show own_Go _ _ _ _ T23 (mkF m 57 _ [(.long x3), (.long (((x2 - x0) / x4) + (1 : Int64)))])
  refine own_st (fun t k => XS.lloadN X23.here hx rfl (hb hby d5_57) rfl k) ?_
  show own_Go _ _ _ _ T23 (mkF m 58 _ [(.long x1), (.long x3), (.long (((x2 - x0) / x4) + (1 : Int64)))])
  refine own_st (fun t k => XS.lsub X23.here hx rfl (hb hby d5_58) rfl k) ?_
  show own_Go _ _ _ _ T23 (mkF m 59 _ [(.long (x3 - x1)), (.long (((x2 - x0) / x4) + (1 : Int64)))])
  refine own_st (fun t k => XS.lload X23.here hx rfl (hb hby d5_59) rfl k) ?_
  show own_Go _ _ _ _ T23 (mkF m 61 _ [(.long x4), (.long (x3 - x1)), (.long (((x2 - x0) / x4) + (1 : Int64)))])
  refine own_st (fun t k => XS.ldiv X23.here hx rfl (hb hby d5_61) rfl hE k) ?_
  show own_Go _ _ _ _ T23 (mkF m 62 _ [(.long ((x3 - x1) / x4)), (.long (((x2 - x0) / x4) + (1 : Int64)))])
  refine own_st (fun t k => XS.lconst X23.here hx rfl (hb hby d5_62) k) ?_
  show own_Go _ _ _ _ T23 (mkF m 63 _ [(.long (1 : Int64)), (.long ((x3 - x1) / x4)), (.long (((x2 - x0) / x4) + (1 : Int64)))])
  refine own_st (fun t k => XS.ladd X23.here hx rfl (hb hby d5_63) rfl k) ?_
  show own_Go _ _ _ _ T23 (mkF m 64 _ [(.long (((x3 - x1) / x4) + (1 : Int64))), (.long (((x2 - x0) / x4) + (1 : Int64)))])
  refine own_st (fun t k => XS.lmul X23.here hx rfl (hb hby d5_64) rfl k) ?_
  show own_Go _ _ _ _ T23 (mkF m 65 _ [(.long ((((x2 - x0) / x4) + (1 : Int64)) * (((x3 - x1) / x4) + (1 : Int64))))])
  refine own_st (fun t k => XS.lstore X23.here hx rfl (hb hby d5_65) rfl (l' := #[.val (.ref a), .val (.long x0), .second, .val (.long x1), .second, .val (.long x2), .second, .val (.long x3), .second, .val (.long x4), .second, .val (.long ((((x2 - x0) / x4) + (1 : Int64)) * (((x3 - x1) / x4) + (1 : Int64)))), .second]) rfl k) ?_
  show own_Go _ _ _ _ T23 (mkF m 67 #[.val (.ref a), .val (.long x0), .second, .val (.long x1), .second, .val (.long x2), .second, .val (.long x3), .second, .val (.long x4), .second, .val (.long ((((x2 - x0) / x4) + (1 : Int64)) * (((x3 - x1) / x4) + (1 : Int64)))), .second] [])
  refine own_st (fun t k => XS.lload X23.here hx rfl (hb hby d5_67) rfl k) ?_
  show own_Go _ _ _ _ T23 (mkF m 69 _ [(.long ((((x2 - x0) / x4) + (1 : Int64)) * (((x3 - x1) / x4) + (1 : Int64))))])
  refine own_st (fun t k => X23.ldc2Long hx hown (mvT hZ (hw _ (List.mem_of_getElem? (i := 37) rfl))) (g := (mkF m 69 #[.val (.ref a), .val (.long x0), .second, .val (.long x1), .second, .val (.long x2), .second, .val (.long x3), .second, .val (.long x4), .second, .val (.long ((((x2 - x0) / x4) + (1 : Int64)) * (((x3 - x1) / x4) + (1 : Int64)))), .second] [(.long ((((x2 - x0) / x4) + (1 : Int64)) * (((x3 - x1) / x4) + (1 : Int64))))])) rfl (hb hby d5_69) _ k) ?_
  show own_Go _ _ _ _ T23 (mkF m 72 _ [(.long (2147483639 : Int64)), (.long ((((x2 - x0) / x4) + (1 : Int64)) * (((x3 - x1) / x4) + (1 : Int64))))])
  refine own_st (fun t k => XS.lcmp X23.here hx rfl (hb hby d5_72) rfl k) ?_
  show own_Go _ _ _ _ T23 (mkF m 73 _ [(.int (lcmpW ((((x2 - x0) / x4) + (1 : Int64)) * (((x3 - x1) / x4) + (1 : Int64))) (2147483639 : Int64)))])
  refine own_st (fun t k => XS.ifYes X23.here hx rfl (pc0 := 73) (pc' := 85) rfl (hb hby d5_73) rfl (own_lcT (cd := .le) hM) (by decide) (by decide) k) ?_
  show own_Go _ _ _ _ T23 (mkF m 85 _ [])
  refine own_st (fun t k => XS.aloadN X23.here hx rfl (hb hby d5_85) rfl rfl k) ?_
  show own_Go _ _ _ _ T23 (mkF m 86 _ [(.ref a)])
  refine own_st (fun t k => XS.lloadN X23.here hx rfl (hb hby d5_86) rfl k) ?_
  show own_Go _ _ _ _ T23 (mkF m 87 _ [(.long x0), (.ref a)])
  obtain ⟨T25, h25, X25, e25, W25, st25⟩ := putF X23 hx hZ hown (host := "") (Or.inl (hw _ (List.mem_of_getElem? (i := 39) rfl))) Via.refl eq23 f16 f15 (Or.inr ⟨(hw _ (List.mem_of_getElem? (i := 40) rfl)), rfl, hnm⟩) (hw _ (List.mem_of_getElem? (i := 13) rfl)) (ty := .long) (by decide) rfl rfl (g := (mkF m 87 #[.val (.ref a), .val (.long x0), .second, .val (.long x1), .second, .val (.long x2), .second, .val (.long x3), .second, .val (.long x4), .second, .val (.long ((((x2 - x0) / x4) + (1 : Int64)) * (((x3 - x1) / x4) + (1 : Int64)))), .second] [(.long x0), (.ref a)])) rfl rfl (hb hby d5_87)
  refine own_st st25 ?_
  have f26 := f15.wr W25
  have f27 := f17.other W25 (Or.inr (slot_ne (Or.inr (hw _ (List.mem_of_getElem? (i := 42) rfl))) (Or.inr (hw _ (List.mem_of_getElem? (i := 40) rfl))) (by decide) (t := .long) (t' := .long) (by decide) (by decide)))
  have f28 := f18.other W25 (Or.inr (slot_ne (Or.inr (hw _ (List.mem_of_getElem? (i := 44) rfl))) (Or.inr (hw _ (List.mem_of_getElem? (i := 40) rfl))) (by decide) (t := .long) (t' := .long) (by decide) (by decide)))
  have f29 := f19.other W25 (Or.inr (slot_ne (Or.inr (hw _ (List.mem_of_getElem? (i := 46) rfl))) (Or.inr (hw _ (List.mem_of_getElem? (i := 40) rfl))) (by decide) (t := .long) (t' := .long) (by decide) (by decide)))
  have f30 := f20.other W25 (Or.inr (slot_ne (Or.inr (hw _ (List.mem_of_getElem? (i := 48) rfl))) (Or.inr (hw _ (List.mem_of_getElem? (i := 40) rfl))) (by decide) (t := .long) (t' := .long) (by decide) (by decide)))
  have N31 := Fr.snoc X25 N24 g_a
  have Z32 : n0 ≤ h25.size := Nat.le_trans Z21 (Nat.le_of_eq W25.size.symm)
  have hk := Nat.le_trans hk (Nat.le_of_eq W25.size.symm)
  have K33 : Keep h0 h25 [a] := K22.wr W25 (Or.inl (List.mem_of_getElem? (i := 0) rfl))
  have f34 := f16.same W25
  show own_Go _ _ _ _ T25 (mkF m 90 _ [])
  refine own_st (fun t k => XS.aloadN X25.here hx rfl (hb hby d5_90) rfl rfl k) ?_
  show own_Go _ _ _ _ T25 (mkF m 91 _ [(.ref a)])
  refine own_st (fun t k => XS.lloadN X25.here hx rfl (hb hby d5_91) rfl k) ?_
  show own_Go _ _ _ _ T25 (mkF m 92 _ [(.long x1), (.ref a)])
  obtain ⟨T35, h35, X35, e35, W35, st35⟩ := putF X25 hx hZ hown (host := "") (Or.inl (hw _ (List.mem_of_getElem? (i := 41) rfl))) Via.refl e25 f27 f26 (Or.inr ⟨(hw _ (List.mem_of_getElem? (i := 42) rfl)), rfl, hnm⟩) (hw _ (List.mem_of_getElem? (i := 13) rfl)) (ty := .long) (by decide) rfl rfl (g := (mkF m 92 #[.val (.ref a), .val (.long x0), .second, .val (.long x1), .second, .val (.long x2), .second, .val (.long x3), .second, .val (.long x4), .second, .val (.long ((((x2 - x0) / x4) + (1 : Int64)) * (((x3 - x1) / x4) + (1 : Int64)))), .second] [(.long x1), (.ref a)])) rfl rfl (hb hby d5_92)
  refine own_st st35 ?_
  have f36 := f26.wr W35
  have f37 := f28.other W35 (Or.inr (slot_ne (Or.inr (hw _ (List.mem_of_getElem? (i := 44) rfl))) (Or.inr (hw _ (List.mem_of_getElem? (i := 42) rfl))) (by decide) (t := .long) (t' := .long) (by decide) (by decide)))
  have f38 := f29.other W35 (Or.inr (slot_ne (Or.inr (hw _ (List.mem_of_getElem? (i := 46) rfl))) (Or.inr (hw _ (List.mem_of_getElem? (i := 42) rfl))) (by decide) (t := .long) (t' := .long) (by decide) (by decide)))
  have f39 := f30.other W35 (Or.inr (slot_ne (Or.inr (hw _ (List.mem_of_getElem? (i := 48) rfl))) (Or.inr (hw _ (List.mem_of_getElem? (i := 42) rfl))) (by decide) (t := .long) (t' := .long) (by decide) (by decide)))
  have f40 := f34.other W35 (Or.inr (slot_ne (Or.inr (hw _ (List.mem_of_getElem? (i := 40) rfl))) (Or.inr (hw _ (List.mem_of_getElem? (i := 42) rfl))) (by decide) (t := .long) (t' := .long) (by decide) (by decide)))
  have N41 := Fr.snoc X35 N31 g_a
  have Z42 : n0 ≤ h35.size := Nat.le_trans Z32 (Nat.le_of_eq W35.size.symm)
  have hk := Nat.le_trans hk (Nat.le_of_eq W35.size.symm)
  have K43 : Keep h0 h35 [a] := K33.wr W35 (Or.inl (List.mem_of_getElem? (i := 0) rfl))
  have f44 := f27.same W35
  show own_Go _ _ _ _ T35 (mkF m 95 _ [])
  refine own_st (fun t k => XS.aloadN X35.here hx rfl (hb hby d5_95) rfl rfl k) ?_
  show own_Go _ _ _ _ T35 (mkF m 96 _ [(.ref a)])
  refine own_st (fun t k => XS.lload X35.here hx rfl (hb hby d5_96) rfl k) ?_
  show own_Go _ _ _ _ T35 (mkF m 98 _ [(.long x2), (.ref a)])
  obtain ⟨T45, h45, X45, e45, W45, st45⟩ := putF X35 hx hZ hown (host := "") (Or.inl (hw _ (List.mem_of_getElem? (i := 43) rfl))) Via.refl e35 f37 f36 (Or.inr ⟨(hw _ (List.mem_of_getElem? (i := 44) rfl)), rfl, hnm⟩) (hw _ (List.mem_of_getElem? (i := 13) rfl)) (ty := .long) (by decide) rfl rfl (g := (mkF m 98 #[.val (.ref a), .val (.long x0), .second, .val (.long x1), .second, .val (.long x2), .second, .val (.long x3), .second, .val (.long x4), .second, .val (.long ((((x2 - x0) / x4) + (1 : Int64)) * (((x3 - x1) / x4) + (1 : Int64)))), .second] [(.long x2), (.ref a)])) rfl rfl (hb hby d5_98)
  refine own_st st45 ?_
  have f46 := f36.wr W45
  have f47 := f38.other W45 (Or.inr (slot_ne (Or.inr (hw _ (List.mem_of_getElem? (i := 46) rfl))) (Or.inr (hw _ (List.mem_of_getElem? (i := 44) rfl))) (by decide) (t := .long) (t' := .long) (by decide) (by decide)))
  have f48 := f39.other W45 (Or.inr (slot_ne (Or.inr (hw _ (List.mem_of_getElem? (i := 48) rfl))) (Or.inr (hw _ (List.mem_of_getElem? (i := 44) rfl))) (by decide) (t := .long) (t' := .long) (by decide) (by decide)))
  have f49 := f40.other W45 (Or.inr (slot_ne (Or.inr (hw _ (List.mem_of_getElem? (i := 40) rfl))) (Or.inr (hw _ (List.mem_of_getElem? (i := 44) rfl))) (by decide) (t := .long) (t' := .long) (by decide) (by decide)))
  have f50 := f44.other W45 (Or.inr (slot_ne (Or.inr (hw _ (List.mem_of_getElem? (i := 42) rfl))) (Or.inr (hw _ (List.mem_of_getElem? (i := 44) rfl))) (by decide) (t := .long) (t' := .long) (by decide) (by decide)))
  have N51 := Fr.snoc X45 N41 g_a
  have Z52 : n0 ≤ h45.size := Nat.le_trans Z42 (Nat.le_of_eq W45.size.symm)
  have hk := Nat.le_trans hk (Nat.le_of_eq W45.size.symm)
  have K53 : Keep h0 h45 [a] := K43.wr W45 (Or.inl (List.mem_of_getElem? (i := 0) rfl))
  have f54 := f37.same W45
  show own_Go _ _ _ _ T45 (mkF m 101 _ [])
  refine own_st (fun t k => XS.aloadN X45.here hx rfl (hb hby d5_101) rfl rfl k) ?_
  show own_Go _ _ _ _ T45 (mkF m 102 _ [(.ref a)])
  refine own_st (fun t k => XS.lload X45.here hx rfl (hb hby d5_102) rfl k) ?_
  show own_Go _ _ _ _ T45 (mkF m 104 _ [(.long x3), (.ref a)])
  obtain ⟨T55, h55, X55, e55, W55, st55⟩ := putF X45 hx hZ hown (host := "") (Or.inl (hw _ (List.mem_of_getElem? (i := 45) rfl))) Via.refl e45 f47 f46 (Or.inr ⟨(hw _ (List.mem_of_getElem? (i := 46) rfl)), rfl, hnm⟩) (hw _ (List.mem_of_getElem? (i := 13) rfl)) (ty := .long) (by decide) rfl rfl (g := (mkF m 104 #[.val (.ref a), .val (.long x0), .second, .val (.long x1), .second, .val (.long x2), .second, .val (.long x3), .second, .val (.long x4), .second, .val (.long ((((x2 - x0) / x4) + (1 : Int64)) * (((x3 - x1) / x4) + (1 : Int64)))), .second] [(.long x3), (.ref a)])) rfl rfl (hb hby d5_104)
  refine own_st st55 ?_
  have f56 := f46.wr W55
  have f57 := f48.other W55 (Or.inr (slot_ne (Or.inr (hw _ (List.mem_of_getElem? (i := 48) rfl))) (Or.inr (hw _ (List.mem_of_getElem? (i := 46) rfl))) (by decide) (t := .long) (t' := .long) (by decide) (by decide)))
  have f58 := f49.other W55 (Or.inr (slot_ne (Or.inr (hw _ (List.mem_of_getElem? (i := 40) rfl))) (Or.inr (hw _ (List.mem_of_getElem? (i := 46) rfl))) (by decide) (t := .long) (t' := .long) (by decide) (by decide)))
  have f59 := f50.other W55 (Or.inr (slot_ne (Or.inr (hw _ (List.mem_of_getElem? (i := 42) rfl))) (Or.inr (hw _ (List.mem_of_getElem? (i := 46) rfl))) (by decide) (t := .long) (t' := .long) (by decide) (by decide)))
  have f60 := f54.other W55 (Or.inr (slot_ne (Or.inr (hw _ (List.mem_of_getElem? (i := 44) rfl))) (Or.inr (hw _ (List.mem_of_getElem? (i := 46) rfl))) (by decide) (t := .long) (t' := .long) (by decide) (by decide)))
  have N61 := Fr.snoc X55 N51 g_a
  have Z62 : n0 ≤ h55.size := Nat.le_trans Z52 (Nat.le_of_eq W55.size.symm)
  have hk := Nat.le_trans hk (Nat.le_of_eq W55.size.symm)
  have K63 : Keep h0 h55 [a] := K53.wr W55 (Or.inl (List.mem_of_getElem? (i := 0) rfl))
  have f64 := f47.same W55
  show own_Go _ _ _ _ T55 (mkF m 107 _ [])
  refine own_st (fun t k => XS.aloadN X55.here hx rfl (hb hby d5_107) rfl rfl k) ?_
  show own_Go _ _ _ _ T55 (mkF m 108 _ [(.ref a)])
  refine own_st (fun t k => XS.lload X55.here hx rfl (hb hby d5_108) rfl k) ?_
  show own_Go _ _ _ _ T55 (mkF m 110 _ [(.long x4), (.ref a)])
  obtain ⟨T65, h65, X65, e65, W65, st65⟩ := putF X55 hx hZ hown (host := "") (Or.inl (hw _ (List.mem_of_getElem? (i := 47) rfl))) Via.refl e55 f57 f56 (Or.inr ⟨(hw _ (List.mem_of_getElem? (i := 48) rfl)), rfl, hnm⟩) (hw _ (List.mem_of_getElem? (i := 13) rfl)) (ty := .long) (by decide) rfl rfl (g := (mkF m 110 #[.val (.ref a), .val (.long x0), .second, .val (.long x1), .second, .val (.long x2), .second, .val (.long x3), .second, .val (.long x4), .second, .val (.long ((((x2 - x0) / x4) + (1 : Int64)) * (((x3 - x1) / x4) + (1 : Int64)))), .second] [(.long x4), (.ref a)])) rfl rfl (hb hby d5_110)
  refine own_st st65 ?_
  have f66 := f56.wr W65
  have f67 := f58.other W65 (Or.inr (slot_ne (Or.inr (hw _ (List.mem_of_getElem? (i := 40) rfl))) (Or.inr (hw _ (List.mem_of_getElem? (i := 48) rfl))) (by decide) (t := .long) (t' := .long) (by decide) (by decide)))
  have f68 := f59.other W65 (Or.inr (slot_ne (Or.inr (hw _ (List.mem_of_getElem? (i := 42) rfl))) (Or.inr (hw _ (List.mem_of_getElem? (i := 48) rfl))) (by decide) (t := .long) (t' := .long) (by decide) (by decide)))
  have f69 := f60.other W65 (Or.inr (slot_ne (Or.inr (hw _ (List.mem_of_getElem? (i := 44) rfl))) (Or.inr (hw _ (List.mem_of_getElem? (i := 48) rfl))) (by decide) (t := .long) (t' := .long) (by decide) (by decide)))
  have f70 := f64.other W65 (Or.inr (slot_ne (Or.inr (hw _ (List.mem_of_getElem? (i := 46) rfl))) (Or.inr (hw _ (List.mem_of_getElem? (i := 48) rfl))) (by decide) (t := .long) (t' := .long) (by decide) (by decide)))
  have N71 := Fr.snoc X65 N61 g_a
  have Z72 : n0 ≤ h65.size := Nat.le_trans Z62 (Nat.le_of_eq W65.size.symm)
  have hk := Nat.le_trans hk (Nat.le_of_eq W65.size.symm)
  have K73 : Keep h0 h65 [a] := K63.wr W65 (Or.inl (List.mem_of_getElem? (i := 0) rfl))
  have f74 := f57.same W65
  show own_Go _ _ _ _ T65 (mkF m 113 _ [])
  subst hPq
  refine own_outW X65 hS (by rw [e65]; exact hk) (v := none) (fun _ => rfl) Bd.notSynchronized (fun fs hr => X65.returnOut hx Bd.returns (hb hby d5_113) hr) (by decide) (by decide) ?_
  show Q5 Z a x0 x1 x2 x3 x4 u0 u1 u2 u3 u4 h0 n0 _ T65.heap _
  rw [e65]
  exact ⟨rfl, N71, K73, f66, f67, f68, f69, f70, f74⟩
def own_rows (hi : Int64) (lo : Int64) (sp : Int64) : Int32 := (((hi - lo) / sp) + (1 : Int64)).toInt32
theorem d6_0 : decode prog_53_method_5_code 0 = .ok (.aload_n 0, 1) := by decide +kernel
theorem d6_1 : decode prog_53_method_5_code 1 = .ok (.getfield 49, 3) := by decide +kernel
theorem d6_4 : decode prog_53_method_5_code 4 = .ok (.aload_n 0, 1) := by decide +kernel
theorem d6_5 : decode prog_53_method_5_code 5 = .ok (.getfield 43, 3) := by decide +kernel
theorem d6_8 : decode prog_53_method_5_code 8 = .ok (.lsub, 1) := by decide +kernel
theorem d6_9 : decode prog_53_method_5_code 9 = .ok (.aload_n 0, 1) := by decide +kernel
theorem d6_10 : decode prog_53_method_5_code 10 = .ok (.getfield 52, 3) := by decide +kernel
theorem d6_13 : decode prog_53_method_5_code 13 = .ok (.ldiv, 1) := by decide +kernel
theorem d6_14 : decode prog_53_method_5_code 14 = .ok (.lconst 1, 1) := by decide +kernel
theorem d6_15 : decode prog_53_method_5_code 15 = .ok (.ladd, 1) := by decide +kernel
theorem d6_16 : decode prog_53_method_5_code 16 = .ok (.l2i, 1) := by decide +kernel
theorem d6_17 : decode prog_53_method_5_code 17 = .ok (.ireturn, 1) := by decide +kernel
theorem own_pn6 : plainName "com/example/laermkontur/laermkontur/study/Grid" = true := by first | (simp [plainName, overriddenIn]; done) | decide +kernel
theorem own_ef6 (m : MethodId) (a : Addr) : entryFrame m #[(.ref a)] 1 = mkF m 0 #[.val (.ref a)] [] := by first | (simp [entryFrame, mkF, argsToLocals, Value.category]; done) | rfl
def Q6 (Z : State) (a : Addr) (hi : Int64) (lo : Int64) (sp : Int64) (h0 : Heap) (n0 : Nat) (v : Option Value) (h : Heap) (L : List Loc) : Prop := v = some (.int (own_rows hi lo sp)) ∧ Fr n0 L ∧ h = h0
set_option maxRecDepth 65536 in
set_option maxHeartbeats 4000000 in
theorem rm6 (l : Launch) (Z : State) (a0 : Array Value) (hw : ∀ d ∈ tables_1, d.before a0 Z = true) (ws : List Jvm.Cond) (a : Addr) (hi : Int64) (lo : Int64) (sp : Int64) (h0 : Heap) (n0 : Nat) (Z0 : n0 ≤ h0.size) (F0 : Exa Z h0 a "com/example/laermkontur/laermkontur/study/Grid") (F1 : Fld Z h0 a "com/example/laermkontur/laermkontur/study/Grid" "yMax" "J" (.long hi)) (F2 : Fld Z h0 a "com/example/laermkontur/laermkontur/study/Grid" "yMin" "J" (.long lo)) (F3 : Fld Z h0 a "com/example/laermkontur/laermkontur/study/Grid" "spacing" "J" (.long sp)) (hE : sp ≠ (0 : Int64)) :
    MetFree l (⟨"com/example/laermkontur/laermkontur/study/Grid", "rows", "()I"⟩ : MethodName) (head1 (Jvm.Cond.code (⟨"com/example/laermkontur/laermkontur/study/Grid", "rows", "()I"⟩ : MethodName) prog_53_method_5_code 1 (some .int) :: ws) ({ frames := 0, cells := 0, slots := 0, locals := 0 } : Room)) (fun aW U => aW = #[(.ref a)] ∧ Z.Warmed39 U.vm ∧ U.heap = h0) (fun _ _ _ _ _ => True) (fun _ U o U' => ∃ v L, o = .returned v ∧ Q6 Z a hi lo sp h0 n0 v U'.heap L ∧ FrameEnd U o U' L ({ frames := 0, cells := 0, slots := 0, locals := 0 } : Room).cells ({ frames := 0, cells := 0, slots := 0, locals := 0 } : Room).slots) := by
  refine MetFree.of_bodySF (plainFor_of_name own_pn6) hisR ?_
  intro p e s m args below meth c s₁ Bd hml0 hP hK
  obtain ⟨rfl, hZ, hh⟩ := hP
  have hx := Bd.exec
  have hby := Bd.bytes
  have hml : c.maxLocals = 1 := hml0
  have hown : s.vm.findClass "com/example/laermkontur/laermkontur/study/Grid" = some m.cls := findClass_of_methodNamed Bd.named
  have hnm := (name_of_methodNamed Bd.named Bd.method).1
  have X0 : Stand p l e ({ frames := 0, cells := 0, slots := 0, locals := 0 } : Room) s m #[(.ref a)] below meth c s₁ [] 0 0 := Stand.of_body Bd
  have e0 : s₁.heap = h0 := by rw [← hh, Bd.state]; rfl
  have N0 := Fr.nil n0
  obtain ⟨Pq, hPq⟩ : ∃ P, P = own_P s below (fun v h L => Q6 Z a hi lo sp h0 n0 v h L) ({ frames := 0, cells := 0, slots := 0, locals := 0 } : Room).cells ({ frames := 0, cells := 0, slots := 0, locals := 0 } : Room).slots := ⟨_, rfl⟩
  suffices hgo : own_Go p.tables e below Pq s₁ (mkF m 0 #[.val (.ref a)] []) by
    subst hPq
    obtain ⟨t, k1, k2, o, k3, k4⟩ := hgo
    exact ⟨t, o, castTop (own_ef6 m a) k1, k2, k3, k4⟩
  show own_Go _ _ _ _ s₁ (mkF m 0 #[.val (.ref a)] [])
  refine own_st (fun t k => XS.aloadN X0.here hx rfl (hb hby d6_0) rfl rfl k) ?_
  show own_Go _ _ _ _ s₁ (mkF m 1 _ [(.ref a)])
  obtain ⟨T1, X1, e1, st1⟩ := getF X0 hx hZ hown (host := "") (Or.inl (hw _ (List.mem_of_getElem? (i := 45) rfl))) Via.refl e0 F1 (g := (mkF m 1 #[.val (.ref a)] [(.ref a)])) rfl rfl (hb hby d6_1)
  refine own_st st1 ?_
  show own_Go _ _ _ _ T1 (mkF m 4 _ [(.long hi)])
  refine own_st (fun t k => XS.aloadN X1.here hx rfl (hb hby d6_4) rfl rfl k) ?_
  show own_Go _ _ _ _ T1 (mkF m 5 _ [(.ref a), (.long hi)])
  obtain ⟨T2, X2, e2, st2⟩ := getF X1 hx hZ hown (host := "") (Or.inl (hw _ (List.mem_of_getElem? (i := 41) rfl))) Via.refl e1 F2 (g := (mkF m 5 #[.val (.ref a)] [(.ref a), (.long hi)])) rfl rfl (hb hby d6_5)
  refine own_st st2 ?_
  show own_Go _ _ _ _ T2 (mkF m 8 _ [(.long lo), (.long hi)])
  refine own_st (fun t k => XS.lsub X2.here hx rfl (hb hby d6_8) rfl k) ?_
  show own_Go _ _ _ _ T2 (mkF m 9 _ [(.long (hi - lo))])
  refine own_st (fun t k => XS.aloadN X2.here hx rfl (hb hby d6_9) rfl rfl k) ?_
  show own_Go _ _ _ _ T2 (mkF m 10 _ [(.ref a), (.long (hi - lo))])
  obtain ⟨T3, X3, e3, st3⟩ := getF X2 hx hZ hown (host := "") (Or.inl (hw _ (List.mem_of_getElem? (i := 47) rfl))) Via.refl e2 F3 (g := (mkF m 10 #[.val (.ref a)] [(.ref a), (.long (hi - lo))])) rfl rfl (hb hby d6_10)
  refine own_st st3 ?_
  show own_Go _ _ _ _ T3 (mkF m 13 _ [(.long sp), (.long (hi - lo))])
  refine own_st (fun t k => XS.ldiv X3.here hx rfl (hb hby d6_13) rfl hE k) ?_
  show own_Go _ _ _ _ T3 (mkF m 14 _ [(.long ((hi - lo) / sp))])
  refine own_st (fun t k => XS.lconst X3.here hx rfl (hb hby d6_14) k) ?_
  show own_Go _ _ _ _ T3 (mkF m 15 _ [(.long (1 : Int64)), (.long ((hi - lo) / sp))])
  refine own_st (fun t k => XS.ladd X3.here hx rfl (hb hby d6_15) rfl k) ?_
  show own_Go _ _ _ _ T3 (mkF m 16 _ [(.long (((hi - lo) / sp) + (1 : Int64)))])
  refine own_st (fun t k => XS.l2i X3.here hx rfl (hb hby d6_16) rfl k) ?_
  show own_Go _ _ _ _ T3 (mkF m 17 _ [(.int (((hi - lo) / sp) + (1 : Int64)).toInt32)])
  subst hPq
  refine own_out X3 (v := some (.int (((hi - lo) / sp) + (1 : Int64)).toInt32)) (fun h => by rw [Bd.returns] at h; cases h) Bd.notSynchronized (own_retI X3 hx Bd.returns (hb hby d6_17)) (by decide) (by decide) ?_
  show Q6 Z a hi lo sp h0 n0 _ T3.heap _
  rw [e3]
  exact ⟨by subst_vars; rfl, N0, rfl⟩
theorem own_axis (k s e x xm : Int64) (hk : 1 ≤ k.toInt) (hs : 1 ≤ s.toInt) (hb : k.toInt * s.toInt ≤ 9223372036854775807) (he : k * s = e) (hx : own_place x e = xm) :
    e.toInt = k.toInt * s.toInt ∧ (xm + e) - xm = e ∧ xm < (xm + e) ∧ ¬ e < (0 : Int64) ∧ e / s = k ∧ (e - (e / s) * s) = (0 : Int64) := by
  have q1 : 1 ≤ k.toInt * s.toInt := by have := Int.mul_le_mul hk hs (by decide) (by omega); omega
  have e1 := c_lmul k s
  rw [he] at e1
  have r1 := rng64 e
  have f1 : e.toInt = k.toInt * s.toInt := by
    generalize k.toInt * s.toInt = p at *
    omega
  have hne : s ≠ -1 := fun q => by rw [q, show (-1 : Int64).toInt = -1 from rfl] at hs; omega
  have d1 : (e / s).toInt = k.toInt := by
    rw [(c_ldiv e s s.toInt rfl hne).1 (by omega), f1]
    exact Int.mul_ediv_cancel _ (by omega)
  have d2 : e / s = k := Int64.toInt_inj.mp d1
  have hsub : (xm + e) - xm = e := by
    apply Int64.toBitVec_inj.mp
    rw [Int64.toBitVec_sub, Int64.toBitVec_add, BitVec.add_comm, BitVec.add_sub_cancel]
  have hzero : (e - (e / s) * s) = (0 : Int64) := by
    rw [d2, he]
    apply Int64.toBitVec_inj.mp
    rw [Int64.toBitVec_sub, BitVec.sub_self]; rfl
  refine ⟨f1, hsub, ?_, ?_, d2, hzero⟩
  · have s1 := c_lsub 9223372036854775807 e
    rw [show (9223372036854775807 : Int64).toInt = 9223372036854775807 from rfl] at s1
    have r2 := rng64 (9223372036854775807 - e); have rx := rng64 x
    have f2 : (9223372036854775807 - e).toInt = 9223372036854775807 - e.toInt := by omega
    have s2 := c_lsub x e
    have r3 := rng64 (x - e)
    have a1 := c_ladd xm e
    have r4 := rng64 (xm + e); have r5 := rng64 xm
    rw [Int64.lt_iff_toInt_lt]
    unfold own_place at hx
    by_cases c : (9223372036854775807 - e) < x
    · rw [if_pos c] at hx
      rw [Int64.lt_iff_toInt_lt, f2] at c
      rw [hx] at s2
      omega
    · rw [if_neg c] at hx
      rw [Int64.lt_iff_toInt_lt, f2] at c
      subst hx
      omega
  · rw [Int64.lt_iff_toInt_lt, show (0 : Int64).toInt = 0 from rfl]; omega
theorem own_mono {a b c d : Int} (h1 : 0 ≤ c) (h2 : a ≤ b) (h3 : b * c ≤ d) : a * c ≤ d := Int.le_trans (Int.mul_le_mul_of_nonneg_right h2 h1) h3
theorem own_sm {m : Int64} (h : 1 ≤ m.toInt) : ((9223372036854775807 : Int64) / m).toInt = 9223372036854775807 / m.toInt ∧ 1 ≤ ((9223372036854775807 : Int64) / m).toInt := by
  have hne : m ≠ -1 := fun q => by rw [q, show (-1 : Int64).toInt = -1 from rfl] at h; omega
  have e := (c_ldiv 9223372036854775807 m m.toInt rfl hne).1 (by decide)
  rw [show (9223372036854775807 : Int64).toInt = 9223372036854775807 from rfl] at e
  have r := rng64 m
  refine ⟨e, ?_⟩
  rw [e]
  exact (Int.le_ediv_iff_mul_le (by omega)).mpr (by omega)
theorem own_s {x m s : Int64} (hm : 1 ≤ m.toInt) (h : ((1 : Int64) + ((x &&& (9223372036854775807 : Int64)) - ((x &&& (9223372036854775807 : Int64)) / ((9223372036854775807 : Int64) / m)) * ((9223372036854775807 : Int64) / m))) = s) : 1 ≤ s.toInt ∧ m.toInt * s.toInt ≤ 9223372036854775807 := by
  obtain ⟨q1, q2⟩ := own_sm hm
  have e1 := c_maskL x 9223372036854775807 63 (by decide) (by decide)
  generalize (x &&& 9223372036854775807) = u at *
  have rq := rng64 ((9223372036854775807 : Int64) / m)
  generalize ((9223372036854775807 : Int64) / m) = w at *
  have e2 := (c_lrem u w w.toInt rfl).1 (by omega)
  have m1 := Int.emod_nonneg u.toInt (show w.toInt ≠ 0 by omega)
  have m2 := Int.emod_lt_of_pos u.toInt (show 0 < w.toInt by omega)
  rw [← e2] at m1 m2
  generalize (u - u / w * w) = t at *
  have e3 := c_ladd 1 t
  rw [h, show (1 : Int64).toInt = 1 from rfl] at e3
  have r := rng64 s
  have f : s.toInt = 1 + t.toInt := by omega
  have f2 : s.toInt ≤ w.toInt := by omega
  refine ⟨by omega, ?_⟩
  have a := Int.mul_le_mul_of_nonneg_left f2 (show 0 ≤ m.toInt by omega)
  rw [q1] at a
  have b := Int.mul_ediv_self_le (x := 9223372036854775807) (k := m.toInt) (by omega)
  omega
theorem own_nzI {v : Int64} (h : 1 ≤ v.toInt) : v ≠ 0 := fun q => by rw [q, show (0 : Int64).toInt = 0 from rfl] at h; omega
theorem own_c {x v : Int64} (h : ((2 : Int64) + ((x &&& (9223372036854775807 : Int64)) - ((x &&& (9223372036854775807 : Int64)) / (1073741818 : Int64)) * (1073741818 : Int64))) = v) : 2 ≤ v.toInt ∧ v.toInt ≤ 1073741819 := by
  have e1 := c_maskL x 9223372036854775807 63 (by decide) (by decide)
  generalize (x &&& 9223372036854775807) = u at *
  have e2 := (c_lrem u 1073741818 1073741818 rfl).1 (by omega)
  generalize u - u / 1073741818 * 1073741818 = w at *
  have e3 := c_ladd 2 w
  rw [h, show (2 : Int64).toInt = 2 from rfl] at e3
  have r := rng64 v
  omega
theorem own_mr {v1 v2 : Int64} (h1 : 2 ≤ v1.toInt ∧ v1.toInt ≤ 1073741819) (h : (((2147483639 : Int64) / v1) - (1 : Int64)) = v2) : v2.toInt = 2147483639 / v1.toInt - 1 ∧ 1 ≤ v2.toInt ∧ v2.toInt ≤ 1073741818 := by
  have hne : v1 ≠ -1 := fun q => by rw [q, show (-1 : Int64).toInt = -1 from rfl] at h1; omega
  have e2 := (c_ldiv 2147483639 v1 v1.toInt rfl hne).1 (by decide)
  rw [show (2147483639 : Int64).toInt = 2147483639 from rfl] at e2
  have b1 : 2 ≤ 2147483639 / v1.toInt := (Int.le_ediv_iff_mul_le (by omega)).mpr (by omega)
  have b2 : 2147483639 / v1.toInt ≤ 1073741819 := by
    have := (Int.ediv_lt_iff_lt_mul (show 0 < v1.toInt by omega)).mpr (show 2147483639 < 1073741820 * v1.toInt by omega)
    omega
  have e3 := c_lsub ((2147483639 : Int64) / v1) 1
  rw [h, show (1 : Int64).toInt = 1 from rfl] at e3
  have r := rng64 v2
  omega
theorem own_r {x v2 v3 : Int64} (h2 : 1 ≤ v2.toInt ∧ v2.toInt ≤ 1073741818) (h : ((2 : Int64) + ((x &&& (9223372036854775807 : Int64)) - ((x &&& (9223372036854775807 : Int64)) / v2) * v2)) = v3) : 2 ≤ v3.toInt ∧ v3.toInt ≤ v2.toInt + 1 := by
  have e1 := c_maskL x 9223372036854775807 63 (by decide) (by decide)
  generalize (x &&& 9223372036854775807) = u at *
  have e2 := (c_lrem u v2 v2.toInt rfl).1 (by omega)
  have m1 := Int.emod_nonneg u.toInt (show v2.toInt ≠ 0 by omega)
  have m2 := Int.emod_lt_of_pos u.toInt (show 0 < v2.toInt by omega)
  rw [← e2] at m1 m2
  generalize u - u / v2 * v2 = w at *
  have e3 := c_ladd 2 w
  rw [h, show (2 : Int64).toInt = 2 from rfl] at e3
  have r := rng64 v3
  omega
theorem own_m1 {v : Int64} (h : 2 ≤ v.toInt) : (v - (1 : Int64)).toInt = v.toInt - 1 := by
  have e := c_lsub v 1
  have r := rng64 (v - 1); have r2 := rng64 v
  rw [show (1 : Int64).toInt = 1 from rfl] at e
  omega
theorem own_mx {v1 v3 v6 : Int64} (h1 : 2 ≤ v1.toInt) (h3 : 2 ≤ v3.toInt) (h : ((own_max v1 v3) - (1 : Int64)) = v6) : v1.toInt - 1 ≤ v6.toInt ∧ v3.toInt - 1 ≤ v6.toInt := by
  have q : v1.toInt ≤ (own_max v1 v3).toInt ∧ v3.toInt ≤ (own_max v1 v3).toInt := by
    unfold own_max
    by_cases c : v1 < v3
    · rw [if_pos c]; rw [Int64.lt_iff_toInt_lt] at c; exact ⟨by omega, by omega⟩
    · rw [if_neg c]; rw [Int64.lt_iff_toInt_lt] at c; exact ⟨by omega, by omega⟩
  have e := own_m1 (v := own_max v1 v3) (by omega)
  rw [h] at e
  omega
theorem own_pr {v1 v2 v3 : Int64} (h1 : 2 ≤ v1.toInt ∧ v1.toInt ≤ 1073741819) (h2 : v2.toInt = 2147483639 / v1.toInt - 1 ∧ 1 ≤ v2.toInt ∧ v2.toInt ≤ 1073741818) (h3 : 2 ≤ v3.toInt ∧ v3.toInt ≤ v2.toInt + 1) : v1.toInt * v3.toInt ≤ 2147483639 := by
  have h4 : v3.toInt ≤ 2147483639 / v1.toInt := by omega
  have a := Int.mul_le_mul_of_nonneg_left h4 (show 0 ≤ v1.toInt by omega)
  have b := Int.mul_ediv_self_le (x := 2147483639) (k := v1.toInt) (by omega)
  omega
theorem own_pn0 : plainName "com/example/laermkontur/laermkontur/study/GridRowsPinLaw" = true := by first | (simp [plainName, overriddenIn]; done) | decide +kernel
theorem own_ef0 (m : MethodId) (x0 : Int64) (x1 : Int64) (x2 : Int64) (x3 : Int64) (x4 : Int64) : entryFrame m #[(.long x0), (.long x1), (.long x2), (.long x3), (.long x4)] maxLocals = mkF m 0 #[.val (.long x0), .second, .val (.long x1), .second, .val (.long x2), .second, .val (.long x3), .second, .val (.long x4), .second, .unset, .unset, .unset, .unset, .unset, .unset, .unset, .unset, .unset, .unset, .unset, .unset, .unset, .unset, .unset, .unset, .unset, .unset, .unset, .unset, .unset] [] := by first | (simp [entryFrame, mkF, argsToLocals, Value.category, maxLocals]; done) | rfl
def Q0 (Z : State) (x0 : Int64) (x1 : Int64) (x2 : Int64) (x3 : Int64) (x4 : Int64) (h0 : Heap) (n0 : Nat) (v : Option Value) (h : Heap) (L : List Loc) : Prop := v = some (.int 1) ∧ Fr n0 L
theorem own_nz20 (x0 : Int64) (x1 : Int64) (x2 : Int64) (x3 : Int64) (x4 : Int64) (v1 : Int64) (hv1 : ((2 : Int64) + ((x0 &&& (9223372036854775807 : Int64)) - ((x0 &&& (9223372036854775807 : Int64)) / (1073741818 : Int64)) * (1073741818 : Int64))) = v1) : v1 ≠ (0 : Int64) := by
  have a := own_c hv1
  exact own_nzI (by omega)
theorem own_nz35 (x0 : Int64) (x1 : Int64) (x2 : Int64) (x3 : Int64) (x4 : Int64) (v1 : Int64) (v2 : Int64) (hv1 : ((2 : Int64) + ((x0 &&& (9223372036854775807 : Int64)) - ((x0 &&& (9223372036854775807 : Int64)) / (1073741818 : Int64)) * (1073741818 : Int64))) = v1) (hv2 : (((2147483639 : Int64) / v1) - (1 : Int64)) = v2) : v2 ≠ (0 : Int64) := by
  have a := own_mr (own_c hv1) hv2
  exact own_nzI (by omega)
theorem own_nz55 (x0 : Int64) (x1 : Int64) (x2 : Int64) (x3 : Int64) (x4 : Int64) (v1 : Int64) (v2 : Int64) (v3 : Int64) (v6 : Int64) (hv1 : ((2 : Int64) + ((x0 &&& (9223372036854775807 : Int64)) - ((x0 &&& (9223372036854775807 : Int64)) / (1073741818 : Int64)) * (1073741818 : Int64))) = v1) (hv2 : (((2147483639 : Int64) / v1) - (1 : Int64)) = v2) (hv3 : ((2 : Int64) + ((x1 &&& (9223372036854775807 : Int64)) - ((x1 &&& (9223372036854775807 : Int64)) / v2) * v2)) = v3) (hv6 : ((own_max v1 v3) - (1 : Int64)) = v6) : v6 ≠ (0 : Int64) := by
  have a1 := own_c hv1
  have a2 := own_mr a1 hv2
  have a3 := own_r a2.2 hv3
  have a6 := own_mx a1.1 a3.1 hv6
  exact own_nzI (by omega)
theorem own_nz67 (x0 : Int64) (x1 : Int64) (x2 : Int64) (x3 : Int64) (x4 : Int64) (v1 : Int64) (v2 : Int64) (v3 : Int64) (v6 : Int64) (v7 : Int64) (hv1 : ((2 : Int64) + ((x0 &&& (9223372036854775807 : Int64)) - ((x0 &&& (9223372036854775807 : Int64)) / (1073741818 : Int64)) * (1073741818 : Int64))) = v1) (hv2 : (((2147483639 : Int64) / v1) - (1 : Int64)) = v2) (hv3 : ((2 : Int64) + ((x1 &&& (9223372036854775807 : Int64)) - ((x1 &&& (9223372036854775807 : Int64)) / v2) * v2)) = v3) (hv6 : ((own_max v1 v3) - (1 : Int64)) = v6) (hv7 : ((9223372036854775807 : Int64) / v6) = v7) : v7 ≠ (0 : Int64) := by
  have a1 := own_c hv1
  have a2 := own_mr a1 hv2
  have a3 := own_r a2.2 hv3
  have a6 := own_mx a1.1 a3.1 hv6
  rw [← hv7]
  exact own_nzI (own_sm (by omega)).2
theorem own_grid (x0 : Int64) (x1 : Int64) (x2 : Int64) (x3 : Int64) (x4 : Int64) (v1 : Int64) (v2 : Int64) (v3 : Int64) (v6 : Int64) (v7 : Int64) (v8 : Int64) (v9 : Int64) (v10 : Int64) (v13 : Int64) (v16 : Int64) (hv1 : ((2 : Int64) + ((x0 &&& (9223372036854775807 : Int64)) - ((x0 &&& (9223372036854775807 : Int64)) / (1073741818 : Int64)) * (1073741818 : Int64))) = v1) (hv2 : (((2147483639 : Int64) / v1) - (1 : Int64)) = v2) (hv3 : ((2 : Int64) + ((x1 &&& (9223372036854775807 : Int64)) - ((x1 &&& (9223372036854775807 : Int64)) / v2) * v2)) = v3) (hv6 : ((own_max v1 v3) - (1 : Int64)) = v6) (hv7 : ((9223372036854775807 : Int64) / v6) = v7) (hv8 : ((1 : Int64) + ((x2 &&& (9223372036854775807 : Int64)) - ((x2 &&& (9223372036854775807 : Int64)) / v7) * v7)) = v8) (hv9 : ((v1 - (1 : Int64)) * v8) = v9) (hv10 : ((v3 - (1 : Int64)) * v8) = v10) (hv13 : (own_place x4 v9) = v13) (hv16 : (own_place x3 v10) = v16) : (0 : Int64) < v8 ∧ v8 ≠ (0 : Int64) ∧ v16 < (v16 + v10) ∧ ¬ ((v16 + v10) - v16) < (0 : Int64) ∧ ¬ (2147483639 : Int64) < ((((v16 + v10) - v16) / v8) + (1 : Int64)) ∧ (((v16 + v10) - v16) - (((v16 + v10) - v16) / v8) * v8) = (0 : Int64) ∧ v13 < (v13 + v9) ∧ ¬ ((v13 + v9) - v13) < (0 : Int64) ∧ ¬ (2147483639 : Int64) < ((((v13 + v9) - v13) / v8) + (1 : Int64)) ∧ (((v13 + v9) - v13) - (((v13 + v9) - v13) / v8) * v8) = (0 : Int64) ∧ ¬ (2147483639 : Int64) < (((((v16 + v10) - v16) / v8) + (1 : Int64)) * ((((v13 + v9) - v13) / v8) + (1 : Int64))) := by
  have a1 := own_c hv1
  have a2 := own_mr a1 hv2
  have a3 := own_r a2.2 hv3
  have a6 := own_mx a1.1 a3.1 hv6
  have s7 := own_s (m := v6) (x := x2) (s := v8) (by omega) (by rw [hv7]; exact hv8)
  have k1 := own_m1 (v := v1) (by omega)
  have k3 := own_m1 (v := v3) (by omega)
  obtain ⟨p1, p2, p3, p4, p5, p6⟩ := own_axis (v1 - (1 : Int64)) v8 v9 x4 v13 (by omega) s7.1 (by rw [k1]; exact own_mono (by omega) (show v1.toInt - 1 ≤ v6.toInt by omega) s7.2) hv9 hv13
  obtain ⟨q1, q2, q3, q4, q5, q6⟩ := own_axis (v3 - (1 : Int64)) v8 v10 x3 v16 (by omega) s7.1 (by rw [k3]; exact own_mono (by omega) (show v3.toInt - 1 ≤ v6.toInt by omega) s7.2) hv10 hv16
  have pr := own_pr a1 a2 a3
  have c1 : (v1 - (1 : Int64)) + 1 = v1 := by
    apply Int64.toBitVec_inj.mp
    rw [Int64.toBitVec_add, Int64.toBitVec_sub, BitVec.sub_add_cancel]
  have c3 : (v3 - (1 : Int64)) + 1 = v3 := by
    apply Int64.toBitVec_inj.mp
    rw [Int64.toBitVec_add, Int64.toBitVec_sub, BitVec.sub_add_cancel]
  rw [p2, q2, p5, q5, c1, c3]
  refine ⟨by rw [Int64.lt_iff_toInt_lt, show (0 : Int64).toInt = 0 from rfl]; omega, own_nzI s7.1, q3, q4, ?_, by rw [← q5]; exact q6, p3, p4, ?_, by rw [← p5]; exact p6, ?_⟩
  · rw [Int64.lt_iff_toInt_lt, show (2147483639 : Int64).toInt = 2147483639 from rfl]; omega
  · rw [Int64.lt_iff_toInt_lt, show (2147483639 : Int64).toInt = 2147483639 from rfl]; omega
  · have e := c_lmul v3 v1
    have r := rng64 (v3 * v1)
    have z : 0 ≤ v1.toInt * v3.toInt := Int.mul_nonneg (by omega) (by omega)
    rw [Int64.lt_iff_toInt_lt, show (2147483639 : Int64).toInt = 2147483639 from rfl]
    rw [Int.mul_comm] at e
    generalize v1.toInt * v3.toInt = pp at *
    omega
theorem own_law (x0 : Int64) (x1 : Int64) (x2 : Int64) (x3 : Int64) (x4 : Int64) (v1 : Int64) (v2 : Int64) (v3 : Int64) (v6 : Int64) (v7 : Int64) (v8 : Int64) (v9 : Int64) (v10 : Int64) (v13 : Int64) (v16 : Int64) (p35 : Int32) (hv1 : ((2 : Int64) + ((x0 &&& (9223372036854775807 : Int64)) - ((x0 &&& (9223372036854775807 : Int64)) / (1073741818 : Int64)) * (1073741818 : Int64))) = v1) (hv2 : (((2147483639 : Int64) / v1) - (1 : Int64)) = v2) (hv3 : ((2 : Int64) + ((x1 &&& (9223372036854775807 : Int64)) - ((x1 &&& (9223372036854775807 : Int64)) / v2) * v2)) = v3) (hv6 : ((own_max v1 v3) - (1 : Int64)) = v6) (hv7 : ((9223372036854775807 : Int64) / v6) = v7) (hv8 : ((1 : Int64) + ((x2 &&& (9223372036854775807 : Int64)) - ((x2 &&& (9223372036854775807 : Int64)) / v7) * v7)) = v8) (hv9 : ((v1 - (1 : Int64)) * v8) = v9) (hv10 : ((v3 - (1 : Int64)) * v8) = v10) (hv13 : (own_place x4 v9) = v13) (hv16 : (own_place x3 v10) = v16) (qp35 : p35 = (if (own_rows (v13 + v9) v13 v8) = v1.toInt32 then (1 : Int32) else (0 : Int32))) : p35 = 1 := by
  have a1 := own_c hv1
  have a2 := own_mr a1 hv2
  have a3 := own_r a2.2 hv3
  have a6 := own_mx a1.1 a3.1 hv6
  have s7 := own_s (m := v6) (x := x2) (s := v8) (by omega) (by rw [hv7]; exact hv8)
  have k1 := own_m1 (v := v1) (by omega)
  obtain ⟨p1, p2, p3, p4, p5, p6⟩ := own_axis (v1 - (1 : Int64)) v8 v9 x4 v13 (by omega) s7.1 (by rw [k1]; exact own_mono (by omega) (show v1.toInt - 1 ≤ v6.toInt by omega) s7.2) hv9 hv13
  have c1 : (v1 - (1 : Int64)) + 1 = v1 := by
    apply Int64.toBitVec_inj.mp
    rw [Int64.toBitVec_add, Int64.toBitVec_sub, BitVec.sub_add_cancel]
  rw [qp35, if_pos]
  unfold own_rows
  rw [p2, p5, c1]
set_option maxRecDepth 65536 in
set_option maxHeartbeats 4000000 in
theorem rm0 (l : Launch) (Z : State) (a0 : Array Value) (hw : ∀ d ∈ tables_1, d.before a0 Z = true) (ws : List Jvm.Cond) (x0 : Int64) (x1 : Int64) (x2 : Int64) (x3 : Int64) (x4 : Int64) (h0 : Heap) (n0 : Nat) (Z0 : n0 ≤ h0.size) :
    MetFree l x (head1 (Jvm.Cond.code x code maxLocals ret :: ws) room_1) (fun aW U => aW = #[(.long x0), (.long x1), (.long x2), (.long x3), (.long x4)] ∧ Z.Warmed39 U.vm ∧ U.heap = h0) (fun _ _ _ _ _ => True) (fun _ U o U' => ∃ v L, o = .returned v ∧ Q0 Z x0 x1 x2 x3 x4 h0 n0 v U'.heap L ∧ ReturnedEndW U o U' L 16 2176) := by
  refine MetFree.of_bodySF (plainFor_of_name own_pn0) hisR ?_
  intro p e s m args below meth c s₁ Bd hml0 hP hK
  obtain ⟨rfl, hZ, hh⟩ := hP
  have hx := Bd.exec
  have hby := Bd.bytes
  have hml : c.maxLocals = 31 := hml0
  have hown : s.vm.findClass "com/example/laermkontur/laermkontur/study/GridRowsPinLaw" = some m.cls := findClass_of_methodNamed Bd.named
  have hnm := (name_of_methodNamed Bd.named Bd.method).1
  have X0 : Stand p l e room_1 s m #[(.long x0), (.long x1), (.long x2), (.long x3), (.long x4)] below meth c s₁ [] 0 0 := Stand.of_body Bd
  have e0 : s₁.heap = h0 := by rw [← hh, Bd.state]; rfl
  have N0 := Fr.nil n0
  have X0 : Stand p l e room_1 (s.setVm s.vm) m #[(.long x0), (.long x1), (.long x2), (.long x3), (.long x4)] below meth c s₁ [] 0 0 := X0
  have hS : s.Since s.vm 0 := (State.WarmedH.refl s).since 0
  have hk : 0 ≤ h0.size := Nat.zero_le _
  have hZ : Z.Warmed39 (s.setVm s.vm).vm := hZ
  have hown : (s.setVm s.vm).vm.findClass "com/example/laermkontur/laermkontur/study/GridRowsPinLaw" = some m.cls := hown
  obtain ⟨Pq, hPq⟩ : ∃ P, P = own_PW s below (fun v h L => Q0 Z x0 x1 x2 x3 x4 h0 n0 v h L) 16 2176 := ⟨_, rfl⟩
  suffices hgo : own_Go p.tables e below Pq s₁ (mkF m 0 #[.val (.long x0), .second, .val (.long x1), .second, .val (.long x2), .second, .val (.long x3), .second, .val (.long x4), .second, .unset, .unset, .unset, .unset, .unset, .unset, .unset, .unset, .unset, .unset, .unset, .unset, .unset, .unset, .unset, .unset, .unset, .unset, .unset, .unset, .unset] []) by
    subst hPq
    obtain ⟨t, k1, k2, o, k3, k4⟩ := hgo
    exact ⟨t, o, castTop (own_ef0 m x0 x1 x2 x3 x4) k1, k2, k3, k4⟩
  show own_Go _ _ _ _ s₁ (mkF m 0 #[.val (.long x0), .second, .val (.long x1), .second, .val (.long x2), .second, .val (.long x3), .second, .val (.long x4), .second, .unset, .unset, .unset, .unset, .unset, .unset, .unset, .unset, .unset, .unset, .unset, .unset, .unset, .unset, .unset, .unset, .unset, .unset, .unset, .unset, .unset] [])
  refine own_st (fun t k => X0.ldc2Long hx hown (mvT hZ (hw _ (List.mem_of_getElem? (i := 0) rfl))) (g := (mkF m 0 #[.val (.long x0), .second, .val (.long x1), .second, .val (.long x2), .second, .val (.long x3), .second, .val (.long x4), .second, .unset, .unset, .unset, .unset, .unset, .unset, .unset, .unset, .unset, .unset, .unset, .unset, .unset, .unset, .unset, .unset, .unset, .unset, .unset, .unset, .unset] [])) rfl (hb hby at_0) _ k) ?_
  show own_Go _ _ _ _ s₁ (mkF m 3 _ [(.long (2 : Int64))])
  refine own_st (fun t k => XS.lloadN X0.here hx rfl (hb hby at_3) rfl k) ?_
  show own_Go _ _ _ _ s₁ (mkF m 4 _ [(.long x0), (.long (2 : Int64))])
  refine own_st (fun t k => X0.ldc2Long hx hown (mvT hZ (hw _ (List.mem_of_getElem? (i := 1) rfl))) (g := (mkF m 4 #[.val (.long x0), .second, .val (.long x1), .second, .val (.long x2), .second, .val (.long x3), .second, .val (.long x4), .second, .unset, .unset, .unset, .unset, .unset, .unset, .unset, .unset, .unset, .unset, .unset, .unset, .unset, .unset, .unset, .unset, .unset, .unset, .unset, .unset, .unset] [(.long x0), (.long (2 : Int64))])) rfl (hb hby at_4) _ k) ?_
  show own_Go _ _ _ _ s₁ (mkF m 7 _ [(.long (9223372036854775807 : Int64)), (.long x0), (.long (2 : Int64))])
  refine own_st (fun t k => XS.land X0.here hx rfl (hb hby at_7) rfl k) ?_
  show own_Go _ _ _ _ s₁ (mkF m 8 _ [(.long (x0 &&& (9223372036854775807 : Int64))), (.long (2 : Int64))])
  refine own_st (fun t k => X0.ldc2Long hx hown (mvT hZ (hw _ (List.mem_of_getElem? (i := 2) rfl))) (g := (mkF m 8 #[.val (.long x0), .second, .val (.long x1), .second, .val (.long x2), .second, .val (.long x3), .second, .val (.long x4), .second, .unset, .unset, .unset, .unset, .unset, .unset, .unset, .unset, .unset, .unset, .unset, .unset, .unset, .unset, .unset, .unset, .unset, .unset, .unset, .unset, .unset] [(.long (x0 &&& (9223372036854775807 : Int64))), (.long (2 : Int64))])) rfl (hb hby at_8) _ k) ?_
  show own_Go _ _ _ _ s₁ (mkF m 11 _ [(.long (1073741818 : Int64)), (.long (x0 &&& (9223372036854775807 : Int64))), (.long (2 : Int64))])
  refine own_st (fun t k => XS.lrem X0.here hx rfl (hb hby at_11) rfl (by decide) k) ?_
  show own_Go _ _ _ _ s₁ (mkF m 12 _ [(.long ((x0 &&& (9223372036854775807 : Int64)) - ((x0 &&& (9223372036854775807 : Int64)) / (1073741818 : Int64)) * (1073741818 : Int64))), (.long (2 : Int64))])
  refine own_st (fun t k => XS.ladd X0.here hx rfl (hb hby at_12) rfl k) ?_
  show own_Go _ _ _ _ s₁ (mkF m 13 _ [(.long ((2 : Int64) + ((x0 &&& (9223372036854775807 : Int64)) - ((x0 &&& (9223372036854775807 : Int64)) / (1073741818 : Int64)) * (1073741818 : Int64))))])
  generalize hv1 : ((2 : Int64) + ((x0 &&& (9223372036854775807 : Int64)) - ((x0 &&& (9223372036854775807 : Int64)) / (1073741818 : Int64)) * (1073741818 : Int64))) = v1
  refine own_st (fun t k => XS.lstore X0.here hx rfl (hb hby at_13) rfl (l' := #[.val (.long x0), .second, .val (.long x1), .second, .val (.long x2), .second, .val (.long x3), .second, .val (.long x4), .second, .val (.long v1), .second, .unset, .unset, .unset, .unset, .unset, .unset, .unset, .unset, .unset, .unset, .unset, .unset, .unset, .unset, .unset, .unset, .unset, .unset, .unset]) rfl k) ?_
  show own_Go _ _ _ _ s₁ (mkF m 15 #[.val (.long x0), .second, .val (.long x1), .second, .val (.long x2), .second, .val (.long x3), .second, .val (.long x4), .second, .val (.long v1), .second, .unset, .unset, .unset, .unset, .unset, .unset, .unset, .unset, .unset, .unset, .unset, .unset, .unset, .unset, .unset, .unset, .unset, .unset, .unset] [])
  refine own_st (fun t k => X0.ldc2Long hx hown (mvT hZ (hw _ (List.mem_of_getElem? (i := 3) rfl))) (g := (mkF m 15 #[.val (.long x0), .second, .val (.long x1), .second, .val (.long x2), .second, .val (.long x3), .second, .val (.long x4), .second, .val (.long v1), .second, .unset, .unset, .unset, .unset, .unset, .unset, .unset, .unset, .unset, .unset, .unset, .unset, .unset, .unset, .unset, .unset, .unset, .unset, .unset] [])) rfl (hb hby at_15) _ k) ?_
  show own_Go _ _ _ _ s₁ (mkF m 18 _ [(.long (2147483639 : Int64))])
  refine own_st (fun t k => XS.lload X0.here hx rfl (hb hby at_18) rfl k) ?_
  show own_Go _ _ _ _ s₁ (mkF m 20 _ [(.long v1), (.long (2147483639 : Int64))])
  refine own_st (fun t k => XS.ldiv X0.here hx rfl (hb hby at_20) rfl (own_nz20 x0 x1 x2 x3 x4 v1 hv1) k) ?_
  show own_Go _ _ _ _ s₁ (mkF m 21 _ [(.long ((2147483639 : Int64) / v1))])
  refine own_st (fun t k => XS.lconst X0.here hx rfl (hb hby at_21) k) ?_
  show own_Go _ _ _ _ s₁ (mkF m 22 _ [(.long (1 : Int64)), (.long ((2147483639 : Int64) / v1))])
  refine own_st (fun t k => XS.lsub X0.here hx rfl (hb hby at_22) rfl k) ?_
  show own_Go _ _ _ _ s₁ (mkF m 23 _ [(.long (((2147483639 : Int64) / v1) - (1 : Int64)))])
  generalize hv2 : (((2147483639 : Int64) / v1) - (1 : Int64)) = v2
  refine own_st (fun t k => XS.lstore X0.here hx rfl (hb hby at_23) rfl (l' := #[.val (.long x0), .second, .val (.long x1), .second, .val (.long x2), .second, .val (.long x3), .second, .val (.long x4), .second, .val (.long v1), .second, .val (.long v2), .second, .unset, .unset, .unset, .unset, .unset, .unset, .unset, .unset, .unset, .unset, .unset, .unset, .unset, .unset, .unset, .unset, .unset]) rfl k) ?_
  show own_Go _ _ _ _ s₁ (mkF m 25 #[.val (.long x0), .second, .val (.long x1), .second, .val (.long x2), .second, .val (.long x3), .second, .val (.long x4), .second, .val (.long v1), .second, .val (.long v2), .second, .unset, .unset, .unset, .unset, .unset, .unset, .unset, .unset, .unset, .unset, .unset, .unset, .unset, .unset, .unset, .unset, .unset] [])
  refine own_st (fun t k => X0.ldc2Long hx hown (mvT hZ (hw _ (List.mem_of_getElem? (i := 0) rfl))) (g := (mkF m 25 #[.val (.long x0), .second, .val (.long x1), .second, .val (.long x2), .second, .val (.long x3), .second, .val (.long x4), .second, .val (.long v1), .second, .val (.long v2), .second, .unset, .unset, .unset, .unset, .unset, .unset, .unset, .unset, .unset, .unset, .unset, .unset, .unset, .unset, .unset, .unset, .unset] [])) rfl (hb hby at_25) _ k) ?_
  show own_Go _ _ _ _ s₁ (mkF m 28 _ [(.long (2 : Int64))])
  refine own_st (fun t k => XS.lloadN X0.here hx rfl (hb hby at_28) rfl k) ?_
  show own_Go _ _ _ _ s₁ (mkF m 29 _ [(.long x1), (.long (2 : Int64))])
  refine own_st (fun t k => X0.ldc2Long hx hown (mvT hZ (hw _ (List.mem_of_getElem? (i := 1) rfl))) (g := (mkF m 29 #[.val (.long x0), .second, .val (.long x1), .second, .val (.long x2), .second, .val (.long x3), .second, .val (.long x4), .second, .val (.long v1), .second, .val (.long v2), .second, .unset, .unset, .unset, .unset, .unset, .unset, .unset, .unset, .unset, .unset, .unset, .unset, .unset, .unset, .unset, .unset, .unset] [(.long x1), (.long (2 : Int64))])) rfl (hb hby at_29) _ k) ?_
  show own_Go _ _ _ _ s₁ (mkF m 32 _ [(.long (9223372036854775807 : Int64)), (.long x1), (.long (2 : Int64))])
  refine own_st (fun t k => XS.land X0.here hx rfl (hb hby at_32) rfl k) ?_
  show own_Go _ _ _ _ s₁ (mkF m 33 _ [(.long (x1 &&& (9223372036854775807 : Int64))), (.long (2 : Int64))])
  refine own_st (fun t k => XS.lload X0.here hx rfl (hb hby at_33) rfl k) ?_
  show own_Go _ _ _ _ s₁ (mkF m 35 _ [(.long v2), (.long (x1 &&& (9223372036854775807 : Int64))), (.long (2 : Int64))])
  refine own_st (fun t k => XS.lrem X0.here hx rfl (hb hby at_35) rfl (own_nz35 x0 x1 x2 x3 x4 v1 v2 hv1 hv2) k) ?_
  show own_Go _ _ _ _ s₁ (mkF m 36 _ [(.long ((x1 &&& (9223372036854775807 : Int64)) - ((x1 &&& (9223372036854775807 : Int64)) / v2) * v2)), (.long (2 : Int64))])
  refine own_st (fun t k => XS.ladd X0.here hx rfl (hb hby at_36) rfl k) ?_
  show own_Go _ _ _ _ s₁ (mkF m 37 _ [(.long ((2 : Int64) + ((x1 &&& (9223372036854775807 : Int64)) - ((x1 &&& (9223372036854775807 : Int64)) / v2) * v2)))])
  generalize hv3 : ((2 : Int64) + ((x1 &&& (9223372036854775807 : Int64)) - ((x1 &&& (9223372036854775807 : Int64)) / v2) * v2)) = v3
  refine own_st (fun t k => XS.lstore X0.here hx rfl (hb hby at_37) rfl (l' := #[.val (.long x0), .second, .val (.long x1), .second, .val (.long x2), .second, .val (.long x3), .second, .val (.long x4), .second, .val (.long v1), .second, .val (.long v2), .second, .val (.long v3), .second, .unset, .unset, .unset, .unset, .unset, .unset, .unset, .unset, .unset, .unset, .unset, .unset, .unset, .unset, .unset]) rfl k) ?_
  show own_Go _ _ _ _ s₁ (mkF m 39 #[.val (.long x0), .second, .val (.long x1), .second, .val (.long x2), .second, .val (.long x3), .second, .val (.long x4), .second, .val (.long v1), .second, .val (.long v2), .second, .val (.long v3), .second, .unset, .unset, .unset, .unset, .unset, .unset, .unset, .unset, .unset, .unset, .unset, .unset, .unset, .unset, .unset] [])
  refine own_st (fun t k => XS.lload X0.here hx rfl (hb hby at_39) rfl k) ?_
  show own_Go _ _ _ _ s₁ (mkF m 41 _ [(.long v1)])
  refine own_st (fun t k => XS.lload X0.here hx rfl (hb hby at_41) rfl k) ?_
  show own_Go _ _ _ _ s₁ (mkF m 43 _ [(.long v3), (.long v1)])
  obtain ⟨_, _, ⟨T4, L4, k4, n4⟩, -, X4, ⟨Lc4, hQ4, l4, y4, z4⟩, st4⟩ := Jvm.LawKit.callS X0 hx (y := (⟨"java/lang/Math", "max", "(JJ)J"⟩ : MethodName)) hown (mvT hZ (hw _ (List.mem_of_getElem? (i := 4) rfl))) (mvT hZ (hw _ (List.mem_of_getElem? (i := 5) rfl))) (mvT hZ (hw _ (List.mem_of_getElem? (i := 6) rfl))) (mvT hZ (hw _ (List.mem_of_getElem? (i := 7) rfl))) (by decide) (backOf (W := 0) (rm1 l Z a0 hw [] v1 v3 h0 n0 Z0 ) hZ (hw _ (List.mem_of_getElem? (i := 7) rfl)) (hw _ (List.mem_of_getElem? (i := 6) rfl)) (by decide) (by decide)) (g := (mkF m 43 #[.val (.long x0), .second, .val (.long x1), .second, .val (.long x2), .second, .val (.long x3), .second, .val (.long x4), .second, .val (.long v1), .second, .val (.long v2), .second, .val (.long v3), .second, .unset, .unset, .unset, .unset, .unset, .unset, .unset, .unset, .unset, .unset, .unset, .unset, .unset, .unset, .unset] [(.long v3), (.long v1)])) rfl (by rw [hml]; rfl) (argsL := [(.long v1), (.long v3)]) (rest := []) (lenOf own_pd__JJ_J rfl) rfl (by show 2 * 0 + _ ≤ _; exact Nat.le_of_eq rfl) (hb hby at_43) (fun _ _ => ⟨rfl, e0, (by decide : 0 + 0 ≤ _), (by decide : 0 + 0 ≤ _)⟩)
  dsimp only [Pt.U, Pt.locs, Pt.cells, Pt.slots] at X4 l4 y4 z4 st4 hQ4
  subst l4 y4 z4
  obtain ⟨rfl, NQ4, eq4⟩ := hQ4
  have N5 := Fr.app N0 NQ4
  refine own_st st4 ?_
  show own_Go _ _ _ _ T4 (mkF m 46 _ [(.long (own_max v1 v3))])
  refine own_st (fun t k => XS.lconst X4.here hx rfl (hb hby at_46) k) ?_
  show own_Go _ _ _ _ T4 (mkF m 47 _ [(.long (1 : Int64)), (.long (own_max v1 v3))])
  refine own_st (fun t k => XS.lsub X4.here hx rfl (hb hby at_47) rfl k) ?_
  show own_Go _ _ _ _ T4 (mkF m 48 _ [(.long ((own_max v1 v3) - (1 : Int64)))])
  generalize hv6 : ((own_max v1 v3) - (1 : Int64)) = v6
  refine own_st (fun t k => XS.lstore X4.here hx rfl (hb hby at_48) rfl (l' := #[.val (.long x0), .second, .val (.long x1), .second, .val (.long x2), .second, .val (.long x3), .second, .val (.long x4), .second, .val (.long v1), .second, .val (.long v2), .second, .val (.long v3), .second, .val (.long v6), .second, .unset, .unset, .unset, .unset, .unset, .unset, .unset, .unset, .unset, .unset, .unset, .unset, .unset]) rfl k) ?_
  show own_Go _ _ _ _ T4 (mkF m 50 #[.val (.long x0), .second, .val (.long x1), .second, .val (.long x2), .second, .val (.long x3), .second, .val (.long x4), .second, .val (.long v1), .second, .val (.long v2), .second, .val (.long v3), .second, .val (.long v6), .second, .unset, .unset, .unset, .unset, .unset, .unset, .unset, .unset, .unset, .unset, .unset, .unset, .unset] [])
  refine own_st (fun t k => X4.ldc2Long hx hown (mvT hZ (hw _ (List.mem_of_getElem? (i := 1) rfl))) (g := (mkF m 50 #[.val (.long x0), .second, .val (.long x1), .second, .val (.long x2), .second, .val (.long x3), .second, .val (.long x4), .second, .val (.long v1), .second, .val (.long v2), .second, .val (.long v3), .second, .val (.long v6), .second, .unset, .unset, .unset, .unset, .unset, .unset, .unset, .unset, .unset, .unset, .unset, .unset, .unset] [])) rfl (hb hby at_50) _ k) ?_
  show own_Go _ _ _ _ T4 (mkF m 53 _ [(.long (9223372036854775807 : Int64))])
  refine own_st (fun t k => XS.lload X4.here hx rfl (hb hby at_53) rfl k) ?_
  show own_Go _ _ _ _ T4 (mkF m 55 _ [(.long v6), (.long (9223372036854775807 : Int64))])
  refine own_st (fun t k => XS.ldiv X4.here hx rfl (hb hby at_55) rfl (own_nz55 x0 x1 x2 x3 x4 v1 v2 v3 v6 hv1 hv2 hv3 hv6) k) ?_
  show own_Go _ _ _ _ T4 (mkF m 56 _ [(.long ((9223372036854775807 : Int64) / v6))])
  generalize hv7 : ((9223372036854775807 : Int64) / v6) = v7
  refine own_st (fun t k => XS.lstore X4.here hx rfl (hb hby at_56) rfl (l' := #[.val (.long x0), .second, .val (.long x1), .second, .val (.long x2), .second, .val (.long x3), .second, .val (.long x4), .second, .val (.long v1), .second, .val (.long v2), .second, .val (.long v3), .second, .val (.long v6), .second, .val (.long v7), .second, .unset, .unset, .unset, .unset, .unset, .unset, .unset, .unset, .unset, .unset, .unset]) rfl k) ?_
  show own_Go _ _ _ _ T4 (mkF m 58 #[.val (.long x0), .second, .val (.long x1), .second, .val (.long x2), .second, .val (.long x3), .second, .val (.long x4), .second, .val (.long v1), .second, .val (.long v2), .second, .val (.long v3), .second, .val (.long v6), .second, .val (.long v7), .second, .unset, .unset, .unset, .unset, .unset, .unset, .unset, .unset, .unset, .unset, .unset] [])
  refine own_st (fun t k => XS.lconst X4.here hx rfl (hb hby at_58) k) ?_
  show own_Go _ _ _ _ T4 (mkF m 59 _ [(.long (1 : Int64))])
  refine own_st (fun t k => XS.lload X4.here hx rfl (hb hby at_59) rfl k) ?_
  show own_Go _ _ _ _ T4 (mkF m 61 _ [(.long x2), (.long (1 : Int64))])
  refine own_st (fun t k => X4.ldc2Long hx hown (mvT hZ (hw _ (List.mem_of_getElem? (i := 1) rfl))) (g := (mkF m 61 #[.val (.long x0), .second, .val (.long x1), .second, .val (.long x2), .second, .val (.long x3), .second, .val (.long x4), .second, .val (.long v1), .second, .val (.long v2), .second, .val (.long v3), .second, .val (.long v6), .second, .val (.long v7), .second, .unset, .unset, .unset, .unset, .unset, .unset, .unset, .unset, .unset, .unset, .unset] [(.long x2), (.long (1 : Int64))])) rfl (hb hby at_61) _ k) ?_
  show own_Go _ _ _ _ T4 (mkF m 64 _ [(.long (9223372036854775807 : Int64)), (.long x2), (.long (1 : Int64))])
  refine own_st (fun t k => XS.land X4.here hx rfl (hb hby at_64) rfl k) ?_
  show own_Go _ _ _ _ T4 (mkF m 65 _ [(.long (x2 &&& (9223372036854775807 : Int64))), (.long (1 : Int64))])
  refine own_st (fun t k => XS.lload X4.here hx rfl (hb hby at_65) rfl k) ?_
  show own_Go _ _ _ _ T4 (mkF m 67 _ [(.long v7), (.long (x2 &&& (9223372036854775807 : Int64))), (.long (1 : Int64))])
  refine own_st (fun t k => XS.lrem X4.here hx rfl (hb hby at_67) rfl (own_nz67 x0 x1 x2 x3 x4 v1 v2 v3 v6 v7 hv1 hv2 hv3 hv6 hv7) k) ?_
  show own_Go _ _ _ _ T4 (mkF m 68 _ [(.long ((x2 &&& (9223372036854775807 : Int64)) - ((x2 &&& (9223372036854775807 : Int64)) / v7) * v7)), (.long (1 : Int64))])
  refine own_st (fun t k => XS.ladd X4.here hx rfl (hb hby at_68) rfl k) ?_
  show own_Go _ _ _ _ T4 (mkF m 69 _ [(.long ((1 : Int64) + ((x2 &&& (9223372036854775807 : Int64)) - ((x2 &&& (9223372036854775807 : Int64)) / v7) * v7)))])
  generalize hv8 : ((1 : Int64) + ((x2 &&& (9223372036854775807 : Int64)) - ((x2 &&& (9223372036854775807 : Int64)) / v7) * v7)) = v8
  refine own_st (fun t k => XS.lstore X4.here hx rfl (hb hby at_69) rfl (l' := #[.val (.long x0), .second, .val (.long x1), .second, .val (.long x2), .second, .val (.long x3), .second, .val (.long x4), .second, .val (.long v1), .second, .val (.long v2), .second, .val (.long v3), .second, .val (.long v6), .second, .val (.long v7), .second, .val (.long v8), .second, .unset, .unset, .unset, .unset, .unset, .unset, .unset, .unset, .unset]) rfl k) ?_
  show own_Go _ _ _ _ T4 (mkF m 71 #[.val (.long x0), .second, .val (.long x1), .second, .val (.long x2), .second, .val (.long x3), .second, .val (.long x4), .second, .val (.long v1), .second, .val (.long v2), .second, .val (.long v3), .second, .val (.long v6), .second, .val (.long v7), .second, .val (.long v8), .second, .unset, .unset, .unset, .unset, .unset, .unset, .unset, .unset, .unset] [])
  refine own_st (fun t k => XS.lload X4.here hx rfl (hb hby at_71) rfl k) ?_
  show own_Go _ _ _ _ T4 (mkF m 73 _ [(.long v1)])
  refine own_st (fun t k => XS.lconst X4.here hx rfl (hb hby at_73) k) ?_
  show own_Go _ _ _ _ T4 (mkF m 74 _ [(.long (1 : Int64)), (.long v1)])
  refine own_st (fun t k => XS.lsub X4.here hx rfl (hb hby at_74) rfl k) ?_
  show own_Go _ _ _ _ T4 (mkF m 75 _ [(.long (v1 - (1 : Int64)))])
  refine own_st (fun t k => XS.lload X4.here hx rfl (hb hby at_75) rfl k) ?_
  show own_Go _ _ _ _ T4 (mkF m 77 _ [(.long v8), (.long (v1 - (1 : Int64)))])
  refine own_st (fun t k => XS.lmul X4.here hx rfl (hb hby at_77) rfl k) ?_
  show own_Go _ _ _ _ T4 (mkF m 78 _ [(.long ((v1 - (1 : Int64)) * v8))])
  generalize hv9 : ((v1 - (1 : Int64)) * v8) = v9
  refine own_st (fun t k => XS.lstore X4.here hx rfl (hb hby at_78) rfl (l' := #[.val (.long x0), .second, .val (.long x1), .second, .val (.long x2), .second, .val (.long x3), .second, .val (.long x4), .second, .val (.long v1), .second, .val (.long v2), .second, .val (.long v3), .second, .val (.long v6), .second, .val (.long v7), .second, .val (.long v8), .second, .val (.long v9), .second, .unset, .unset, .unset, .unset, .unset, .unset, .unset]) rfl k) ?_
  show own_Go _ _ _ _ T4 (mkF m 80 #[.val (.long x0), .second, .val (.long x1), .second, .val (.long x2), .second, .val (.long x3), .second, .val (.long x4), .second, .val (.long v1), .second, .val (.long v2), .second, .val (.long v3), .second, .val (.long v6), .second, .val (.long v7), .second, .val (.long v8), .second, .val (.long v9), .second, .unset, .unset, .unset, .unset, .unset, .unset, .unset] [])
  refine own_st (fun t k => XS.lload X4.here hx rfl (hb hby at_80) rfl k) ?_
  show own_Go _ _ _ _ T4 (mkF m 82 _ [(.long v3)])
  refine own_st (fun t k => XS.lconst X4.here hx rfl (hb hby at_82) k) ?_
  show own_Go _ _ _ _ T4 (mkF m 83 _ [(.long (1 : Int64)), (.long v3)])
  refine own_st (fun t k => XS.lsub X4.here hx rfl (hb hby at_83) rfl k) ?_
  show own_Go _ _ _ _ T4 (mkF m 84 _ [(.long (v3 - (1 : Int64)))])
  refine own_st (fun t k => XS.lload X4.here hx rfl (hb hby at_84) rfl k) ?_
  show own_Go _ _ _ _ T4 (mkF m 86 _ [(.long v8), (.long (v3 - (1 : Int64)))])
  refine own_st (fun t k => XS.lmul X4.here hx rfl (hb hby at_86) rfl k) ?_
  show own_Go _ _ _ _ T4 (mkF m 87 _ [(.long ((v3 - (1 : Int64)) * v8))])
  generalize hv10 : ((v3 - (1 : Int64)) * v8) = v10
  refine own_st (fun t k => XS.lstore X4.here hx rfl (hb hby at_87) rfl (l' := #[.val (.long x0), .second, .val (.long x1), .second, .val (.long x2), .second, .val (.long x3), .second, .val (.long x4), .second, .val (.long v1), .second, .val (.long v2), .second, .val (.long v3), .second, .val (.long v6), .second, .val (.long v7), .second, .val (.long v8), .second, .val (.long v9), .second, .val (.long v10), .second, .unset, .unset, .unset, .unset, .unset]) rfl k) ?_
  show own_Go _ _ _ _ T4 (mkF m 89 #[.val (.long x0), .second, .val (.long x1), .second, .val (.long x2), .second, .val (.long x3), .second, .val (.long x4), .second, .val (.long v1), .second, .val (.long v2), .second, .val (.long v3), .second, .val (.long v6), .second, .val (.long v7), .second, .val (.long v8), .second, .val (.long v9), .second, .val (.long v10), .second, .unset, .unset, .unset, .unset, .unset] [])
  refine own_st (fun t k => XS.lload X4.here hx rfl (hb hby at_89) rfl k) ?_
  show own_Go _ _ _ _ T4 (mkF m 91 _ [(.long x4)])
  refine own_st (fun t k => XS.lload X4.here hx rfl (hb hby at_91) rfl k) ?_
  show own_Go _ _ _ _ T4 (mkF m 93 _ [(.long v9), (.long x4)])
  obtain ⟨_, _, ⟨T11, L11, k11, n11⟩, -, X11, ⟨Lc11, hQ11, l11, y11, z11⟩, st11⟩ := Jvm.LawKit.callS X4 hx (y := (⟨"com/example/laermkontur/laermkontur/study/GridRowsPinLaw", "place", "(JJ)J"⟩ : MethodName)) hown (mvT hZ (hw _ (List.mem_of_getElem? (i := 8) rfl))) (mvT hZ (hw _ (List.mem_of_getElem? (i := 9) rfl))) (mvT hZ (hw _ (List.mem_of_getElem? (i := 10) rfl))) (mvT hZ (hw _ (List.mem_of_getElem? (i := 11) rfl))) (by decide) (backOf (W := 0) (rm2 l Z a0 hw [] x4 v9 h0 n0 Z0 ) hZ (hw _ (List.mem_of_getElem? (i := 11) rfl)) (hw _ (List.mem_of_getElem? (i := 10) rfl)) (by decide) (by decide)) (g := (mkF m 93 #[.val (.long x0), .second, .val (.long x1), .second, .val (.long x2), .second, .val (.long x3), .second, .val (.long x4), .second, .val (.long v1), .second, .val (.long v2), .second, .val (.long v3), .second, .val (.long v6), .second, .val (.long v7), .second, .val (.long v8), .second, .val (.long v9), .second, .val (.long v10), .second, .unset, .unset, .unset, .unset, .unset] [(.long v9), (.long x4)])) rfl (by rw [hml]; rfl) (argsL := [(.long x4), (.long v9)]) (rest := []) (lenOf own_pd__JJ_J rfl) rfl (by show 2 * 0 + _ ≤ _; exact Nat.le_of_eq rfl) (hb hby at_93) (fun _ _ => ⟨rfl, eq4, (by decide : 0 + 0 ≤ _), (by decide : 0 + 0 ≤ _)⟩)
  dsimp only [Pt.U, Pt.locs, Pt.cells, Pt.slots] at X11 l11 y11 z11 st11 hQ11
  subst l11 y11 z11
  obtain ⟨rfl, NQ11, eq11⟩ := hQ11
  have N12 := Fr.app N5 NQ11
  refine own_st st11 ?_
  show own_Go _ _ _ _ T11 (mkF m 96 _ [(.long (own_place x4 v9))])
  generalize hv13 : (own_place x4 v9) = v13
  refine own_st (fun t k => XS.lstore X11.here hx rfl (hb hby at_96) rfl (l' := #[.val (.long x0), .second, .val (.long x1), .second, .val (.long x2), .second, .val (.long x3), .second, .val (.long x4), .second, .val (.long v1), .second, .val (.long v2), .second, .val (.long v3), .second, .val (.long v6), .second, .val (.long v7), .second, .val (.long v8), .second, .val (.long v9), .second, .val (.long v10), .second, .val (.long v13), .second, .unset, .unset, .unset]) rfl k) ?_
  show own_Go _ _ _ _ T11 (mkF m 98 #[.val (.long x0), .second, .val (.long x1), .second, .val (.long x2), .second, .val (.long x3), .second, .val (.long x4), .second, .val (.long v1), .second, .val (.long v2), .second, .val (.long v3), .second, .val (.long v6), .second, .val (.long v7), .second, .val (.long v8), .second, .val (.long v9), .second, .val (.long v10), .second, .val (.long v13), .second, .unset, .unset, .unset] [])
  refine own_st (fun t k => XS.lload X11.here hx rfl (hb hby at_98) rfl k) ?_
  show own_Go _ _ _ _ T11 (mkF m 100 _ [(.long x3)])
  refine own_st (fun t k => XS.lload X11.here hx rfl (hb hby at_100) rfl k) ?_
  show own_Go _ _ _ _ T11 (mkF m 102 _ [(.long v10), (.long x3)])
  obtain ⟨_, _, ⟨T14, L14, k14, n14⟩, -, X14, ⟨Lc14, hQ14, l14, y14, z14⟩, st14⟩ := Jvm.LawKit.callS X11 hx (y := (⟨"com/example/laermkontur/laermkontur/study/GridRowsPinLaw", "place", "(JJ)J"⟩ : MethodName)) hown (mvT hZ (hw _ (List.mem_of_getElem? (i := 8) rfl))) (mvT hZ (hw _ (List.mem_of_getElem? (i := 9) rfl))) (mvT hZ (hw _ (List.mem_of_getElem? (i := 10) rfl))) (mvT hZ (hw _ (List.mem_of_getElem? (i := 11) rfl))) (by decide) (backOf (W := 0) (rm2 l Z a0 hw [] x3 v10 h0 n0 Z0 ) hZ (hw _ (List.mem_of_getElem? (i := 11) rfl)) (hw _ (List.mem_of_getElem? (i := 10) rfl)) (by decide) (by decide)) (g := (mkF m 102 #[.val (.long x0), .second, .val (.long x1), .second, .val (.long x2), .second, .val (.long x3), .second, .val (.long x4), .second, .val (.long v1), .second, .val (.long v2), .second, .val (.long v3), .second, .val (.long v6), .second, .val (.long v7), .second, .val (.long v8), .second, .val (.long v9), .second, .val (.long v10), .second, .val (.long v13), .second, .unset, .unset, .unset] [(.long v10), (.long x3)])) rfl (by rw [hml]; rfl) (argsL := [(.long x3), (.long v10)]) (rest := []) (lenOf own_pd__JJ_J rfl) rfl (by show 2 * 0 + _ ≤ _; exact Nat.le_of_eq rfl) (hb hby at_102) (fun _ _ => ⟨rfl, eq11, (by decide : 0 + 0 ≤ _), (by decide : 0 + 0 ≤ _)⟩)
  dsimp only [Pt.U, Pt.locs, Pt.cells, Pt.slots] at X14 l14 y14 z14 st14 hQ14
  subst l14 y14 z14
  obtain ⟨rfl, NQ14, eq14⟩ := hQ14
  have N15 := Fr.app N12 NQ14
  refine own_st st14 ?_
  show own_Go _ _ _ _ T14 (mkF m 105 _ [(.long (own_place x3 v10))])
  generalize hv16 : (own_place x3 v10) = v16
  refine own_st (fun t k => XS.lstore X14.here hx rfl (hb hby at_105) rfl (l' := #[.val (.long x0), .second, .val (.long x1), .second, .val (.long x2), .second, .val (.long x3), .second, .val (.long x4), .second, .val (.long v1), .second, .val (.long v2), .second, .val (.long v3), .second, .val (.long v6), .second, .val (.long v7), .second, .val (.long v8), .second, .val (.long v9), .second, .val (.long v10), .second, .val (.long v13), .second, .val (.long v16), .second, .unset]) rfl k) ?_
  show own_Go _ _ _ _ T14 (mkF m 107 #[.val (.long x0), .second, .val (.long x1), .second, .val (.long x2), .second, .val (.long x3), .second, .val (.long x4), .second, .val (.long v1), .second, .val (.long v2), .second, .val (.long v3), .second, .val (.long v6), .second, .val (.long v7), .second, .val (.long v8), .second, .val (.long v9), .second, .val (.long v10), .second, .val (.long v13), .second, .val (.long v16), .second, .unset] [])
  obtain ⟨T17, h17, X17, e17, E17, A17, D17, -, st17⟩ := newO X14 hx hZ hown (hw _ (List.mem_of_getElem? (i := 12) rfl)) (hw _ (List.mem_of_getElem? (i := 13) rfl)) (hw _ (List.mem_of_getElem? (i := 14) rfl)) eq14 (g := (mkF m 107 #[.val (.long x0), .second, .val (.long x1), .second, .val (.long x2), .second, .val (.long x3), .second, .val (.long x4), .second, .val (.long v1), .second, .val (.long v2), .second, .val (.long v3), .second, .val (.long v6), .second, .val (.long v7), .second, .val (.long v8), .second, .val (.long v9), .second, .val (.long v10), .second, .val (.long v13), .second, .val (.long v16), .second, .unset] [])) rfl (hb hby at_107) (by decide) (by decide)
  obtain ⟨b17, g17⟩ : ∃ z, z = h0.size := ⟨_, rfl⟩
  rw [← g17] at A17 D17 st17
  refine own_st st17 ?_
  have gx18 : n0 ≤ b17 := Nat.le_trans Z0 (Nat.le_of_eq g17.symm)
  have Z19 : n0 ≤ h17.size := Nat.le_trans Z0 E17.1
  have hk := Nat.le_trans hk E17.1
  have f20 : Fld Z h17 b17 "com/example/laermkontur/laermkontur/study/Grid" "xMin" "J" (.long (0 : Int64)) := D17 (Or.inr (hw _ (List.mem_of_getElem? (i := 40) rfl))) (ty := .long) (by decide)
  have f21 : Fld Z h17 b17 "com/example/laermkontur/laermkontur/study/Grid" "yMin" "J" (.long (0 : Int64)) := D17 (Or.inr (hw _ (List.mem_of_getElem? (i := 42) rfl))) (ty := .long) (by decide)
  have f22 : Fld Z h17 b17 "com/example/laermkontur/laermkontur/study/Grid" "xMax" "J" (.long (0 : Int64)) := D17 (Or.inr (hw _ (List.mem_of_getElem? (i := 44) rfl))) (ty := .long) (by decide)
  have f23 : Fld Z h17 b17 "com/example/laermkontur/laermkontur/study/Grid" "yMax" "J" (.long (0 : Int64)) := D17 (Or.inr (hw _ (List.mem_of_getElem? (i := 46) rfl))) (ty := .long) (by decide)
  have f24 : Fld Z h17 b17 "com/example/laermkontur/laermkontur/study/Grid" "spacing" "J" (.long (0 : Int64)) := D17 (Or.inr (hw _ (List.mem_of_getElem? (i := 48) rfl))) (ty := .long) (by decide)
  show own_Go _ _ _ _ T17 (mkF m 110 _ [(.ref b17)])
  refine own_st (fun t k => XS.dup X17.here hx rfl (hb hby at_110) rfl rfl k) ?_
  show own_Go _ _ _ _ T17 (mkF m 111 _ [(.ref b17), (.ref b17)])
  refine own_st (fun t k => XS.lload X17.here hx rfl (hb hby at_111) rfl k) ?_
  show own_Go _ _ _ _ T17 (mkF m 113 _ [(.long v16), (.ref b17), (.ref b17)])
  refine own_st (fun t k => XS.lload X17.here hx rfl (hb hby at_113) rfl k) ?_
  show own_Go _ _ _ _ T17 (mkF m 115 _ [(.long v13), (.long v16), (.ref b17), (.ref b17)])
  refine own_st (fun t k => XS.lload X17.here hx rfl (hb hby at_115) rfl k) ?_
  show own_Go _ _ _ _ T17 (mkF m 117 _ [(.long v16), (.long v13), (.long v16), (.ref b17), (.ref b17)])
  refine own_st (fun t k => XS.lload X17.here hx rfl (hb hby at_117) rfl k) ?_
  show own_Go _ _ _ _ T17 (mkF m 119 _ [(.long v10), (.long v16), (.long v13), (.long v16), (.ref b17), (.ref b17)])
  refine own_st (fun t k => XS.ladd X17.here hx rfl (hb hby at_119) rfl k) ?_
  show own_Go _ _ _ _ T17 (mkF m 120 _ [(.long (v16 + v10)), (.long v13), (.long v16), (.ref b17), (.ref b17)])
  refine own_st (fun t k => XS.lload X17.here hx rfl (hb hby at_120) rfl k) ?_
  show own_Go _ _ _ _ T17 (mkF m 122 _ [(.long v13), (.long (v16 + v10)), (.long v13), (.long v16), (.ref b17), (.ref b17)])
  refine own_st (fun t k => XS.lload X17.here hx rfl (hb hby at_122) rfl k) ?_
  show own_Go _ _ _ _ T17 (mkF m 124 _ [(.long v9), (.long v13), (.long (v16 + v10)), (.long v13), (.long v16), (.ref b17), (.ref b17)])
  refine own_st (fun t k => XS.ladd X17.here hx rfl (hb hby at_124) rfl k) ?_
  show own_Go _ _ _ _ T17 (mkF m 125 _ [(.long (v13 + v9)), (.long (v16 + v10)), (.long v13), (.long v16), (.ref b17), (.ref b17)])
  refine own_st (fun t k => XS.lload X17.here hx rfl (hb hby at_125) rfl k) ?_
  show own_Go _ _ _ _ T17 (mkF m 127 _ [(.long v8), (.long (v13 + v9)), (.long (v16 + v10)), (.long v13), (.long v16), (.ref b17), (.ref b17)])
  have hG := (own_grid x0 x1 x2 x3 x4 v1 v2 v3 v6 v7 v8 v9 v10 v13 v16 hv1 hv2 hv3 hv6 hv7 hv8 hv9 hv10 hv13 hv16)
  obtain ⟨_, _, ⟨T25, L25, k25, n25⟩, -, X25, hS25, gr25, ⟨Lc25, hQ25, l25, y25, z25⟩, st25⟩ := X17.specialBackS hx (y := (⟨"com/example/laermkontur/laermkontur/study/Grid", "<init>", "(JJJJJ)V"⟩ : MethodName)) rfl hown (mvT hZ (hw _ (List.mem_of_getElem? (i := 15) rfl))) (mvT hZ (hw _ (List.mem_of_getElem? (i := 16) rfl))) (mvT hZ (hw _ (List.mem_of_getElem? (i := 17) rfl))) (by decide) (backOfS (W := 1) (rm5 l Z a0 hw [] b17 v16 v13 (v16 + v10) (v13 + v9) v8 (.long (0 : Int64)) (.long (0 : Int64)) (.long (0 : Int64)) (.long (0 : Int64)) (.long (0 : Int64)) h17 n0 Z19 A17 f20 f21 f22 f23 f24 hG.1 hG.2.1 hG.2.2.1 hG.2.2.2.1 hG.2.2.2.2.1 hG.2.2.2.2.2.1 hG.2.2.2.2.2.2.1 hG.2.2.2.2.2.2.2.1 hG.2.2.2.2.2.2.2.2.1 hG.2.2.2.2.2.2.2.2.2.1 hG.2.2.2.2.2.2.2.2.2.2 gx18) hZ (hw _ (List.mem_of_getElem? (i := 17) rfl)) (hw _ (List.mem_of_getElem? (i := 14) rfl)) (by decide) (by decide)) (g := (mkF m 127 #[.val (.long x0), .second, .val (.long x1), .second, .val (.long x2), .second, .val (.long x3), .second, .val (.long x4), .second, .val (.long v1), .second, .val (.long v2), .second, .val (.long v3), .second, .val (.long v6), .second, .val (.long v7), .second, .val (.long v8), .second, .val (.long v9), .second, .val (.long v10), .second, .val (.long v13), .second, .val (.long v16), .second, .unset] [(.long v8), (.long (v13 + v9)), (.long (v16 + v10)), (.long v13), (.long v16), (.ref b17), (.ref b17)])) rfl (by rw [hml]; rfl) (Steps.refl _) (a := b17) (argsL := [(.long v16), (.long v13), (.long (v16 + v10)), (.long (v13 + v9)), (.long v8)]) (rest := [(.ref b17)]) (lenOf own_pd__JJJJJ_V rfl) rfl (by show 2 * 0 + _ ≤ _; exact Nat.le_of_eq rfl) (hb hby at_127) (fun _ _ => ⟨rfl, e17, (by decide : 1 + 4 ≤ _), (by decide : 5 + 16 ≤ _)⟩)
  dsimp only [Pt.U, Pt.locs, Pt.cells, Pt.slots] at X25 l25 y25 z25 st25 hQ25 hS25 gr25
  subst l25 y25 z25
  obtain ⟨X25, hS, hZ, hown⟩ := rebS hS (by rw [e17]; exact hk) X25 hS25 gr25 hZ hown
  have hk := Nat.le_refl T25.heap.size
  obtain ⟨rfl, NQ25, K25, fq25_0, fq25_1, fq25_2, fq25_3, fq25_4, fq25_5⟩ := hQ25
  have N26 := Fr.app N15 NQ25
  refine own_st (fun t k => st25.trans k) ?_
  have f27 := A17.keep K25
  have Z28 : n0 ≤ T25.heap.size := Nat.le_trans Z19 K25.1
  show own_Go _ _ _ _ T25 (mkF m 130 _ [(.ref b17)])
  refine own_st (fun t k => XS.astore X25.here hx rfl (hb hby at_130) rfl rfl (l' := #[.val (.long x0), .second, .val (.long x1), .second, .val (.long x2), .second, .val (.long x3), .second, .val (.long x4), .second, .val (.long v1), .second, .val (.long v2), .second, .val (.long v3), .second, .val (.long v6), .second, .val (.long v7), .second, .val (.long v8), .second, .val (.long v9), .second, .val (.long v10), .second, .val (.long v13), .second, .val (.long v16), .second, .val (.ref b17)]) rfl k) ?_
  show own_Go _ _ _ _ T25 (mkF m 132 #[.val (.long x0), .second, .val (.long x1), .second, .val (.long x2), .second, .val (.long x3), .second, .val (.long x4), .second, .val (.long v1), .second, .val (.long v2), .second, .val (.long v3), .second, .val (.long v6), .second, .val (.long v7), .second, .val (.long v8), .second, .val (.long v9), .second, .val (.long v10), .second, .val (.long v13), .second, .val (.long v16), .second, .val (.ref b17)] [])
  refine own_st (fun t k => XS.aload X25.here hx rfl (hb hby at_132) rfl rfl k) ?_
  show own_Go _ _ _ _ T25 (mkF m 134 _ [(.ref b17)])
  obtain ⟨cq29, kq29, q29a, q29b, q29c⟩ := isOf hZ rfl fq25_0
  obtain ⟨_, _, ⟨T29, L29, k29, n29⟩, -, X29, ⟨Lc29, hQ29, l29, y29, z29⟩, st29⟩ := X25.virtualBack hx (y := (⟨"com/example/laermkontur/laermkontur/study/Grid", "rows", "()I"⟩ : MethodName)) (z := (⟨"com/example/laermkontur/laermkontur/study/Grid", "rows", "()I"⟩ : MethodName)) hown (mvT hZ (hw _ (List.mem_of_getElem? (i := 49) rfl))) (mvT hZ (hw _ (List.mem_of_getElem? (i := 50) rfl))) (notFace_of_selects (args := #[]) (mvT hZ (hw _ (List.mem_of_getElem? (i := 52) rfl)))) (mvT hZ (hw _ (List.mem_of_getElem? (i := 52) rfl))) (mvT hZ (hw _ (List.mem_of_getElem? (i := 51) rfl))) (by decide) (backOf (W := 0) (rm6 l Z a0 hw [] b17 (v13 + v9) v13 v8 T25.heap n0 Z28 fq25_0 fq25_4 fq25_2 fq25_5 hG.2.1) hZ (hw _ (List.mem_of_getElem? (i := 53) rfl)) (hw _ (List.mem_of_getElem? (i := 14) rfl)) (by decide) (by decide)) q29a q29c (g := (mkF m 134 #[.val (.long x0), .second, .val (.long x1), .second, .val (.long x2), .second, .val (.long x3), .second, .val (.long x4), .second, .val (.long v1), .second, .val (.long v2), .second, .val (.long v3), .second, .val (.long v6), .second, .val (.long v7), .second, .val (.long v8), .second, .val (.long v9), .second, .val (.long v10), .second, .val (.long v13), .second, .val (.long v16), .second, .val (.ref b17)] [(.ref b17)])) rfl (by rw [hml]; rfl) (Steps.refl _) (argsL := []) (rest := []) (lenOf own_pd___I rfl) rfl (by show 2 * 0 + _ ≤ _; exact Nat.le_of_eq rfl) (hb hby at_134) (fun _ _ => ⟨rfl, rfl, (by decide : 5 + 0 ≤ _), (by decide : 21 + 0 ≤ _)⟩)
  dsimp only [Pt.U, Pt.locs, Pt.cells, Pt.slots] at X29 l29 y29 z29 st29 hQ29
  subst l29 y29 z29
  obtain ⟨rfl, NQ29, eq29⟩ := hQ29
  have N30 := Fr.app N26 NQ29
  refine own_st (fun t k => st29.trans k) ?_
  show own_Go _ _ _ _ T29 (mkF m 137 _ [(.int (own_rows (v13 + v9) v13 v8))])
  refine own_st (fun t k => XS.lload X29.here hx rfl (hb hby at_137) rfl k) ?_
  show own_Go _ _ _ _ T29 (mkF m 139 _ [(.long v1), (.int (own_rows (v13 + v9) v13 v8))])
  refine own_st (fun t k => XS.l2i X29.here hx rfl (hb hby at_139) rfl k) ?_
  show own_Go _ _ _ _ T29 (mkF m 140 _ [(.int v1.toInt32), (.int (own_rows (v13 + v9) v13 v8))])
  have J34 : ∀ (Tj34 : State) (Lj34 : List Loc) (p35 : Int32) (vmj34 : Vm) (kj34 : Nat), Stand p l e room_1 (s.setVm vmj34) m #[(.long x0), (.long x1), (.long x2), (.long x3), (.long x4)] below meth c Tj34 Lj34 5 21 → Tj34.heap = T25.heap → Fr n0 Lj34 → s.Since vmj34 kj34 → kj34 ≤ T25.heap.size → Z.Warmed39 (s.setVm vmj34).vm → (s.setVm vmj34).vm.findClass "com/example/laermkontur/laermkontur/study/GridRowsPinLaw" = some m.cls → p35 = (if (own_rows (v13 + v9) v13 v8) = v1.toInt32 then (1 : Int32) else (0 : Int32)) → own_Go p.tables e below Pq Tj34 (mkF m 148 #[.val (.long x0), .second, .val (.long x1), .second, .val (.long x2), .second, .val (.long x3), .second, .val (.long x4), .second, .val (.long v1), .second, .val (.long v2), .second, .val (.long v3), .second, .val (.long v6), .second, .val (.long v7), .second, .val (.long v8), .second, .val (.long v9), .second, .val (.long v10), .second, .val (.long v13), .second, .val (.long v16), .second, .val (.ref b17)] [(.int p35)]) := by
    intro Tj34 Lj34 p35 vmj34 kj34 Xj34 ej34 Nj34 hS hk hZ hown qp35
    show own_Go _ _ _ _ Tj34 (mkF m 148 _ [(.int p35)])
    subst hPq
    refine own_outW Xj34 hS (by rw [ej34]; exact hk) (v := some (.int (nar .boolean p35))) (fun h => by rw [Bd.returns] at h; cases h) Bd.notSynchronized (fun fs hr => retN Xj34 hx (t := .boolean) Bd.returns (by simp) (hb hby at_148) hr) (by decide) (by decide) ?_
    show Q0 Z x0 x1 x2 x3 x4 h0 n0 _ Tj34.heap _
    rw [ej34]
    exact ⟨congrArg (fun z => some (Value.int (nar .boolean z))) (own_law x0 x1 x2 x3 x4 v1 v2 v3 v6 v7 v8 v9 v10 v13 v16 p35 hv1 hv2 hv3 hv6 hv7 hv8 hv9 hv10 hv13 hv16 qp35), Nj34⟩
  by_cases c31 : (own_rows (v13 + v9) v13 v8) = v1.toInt32
  · skip
    refine own_st (fun t k => XS.icmpNo X29.here hx rfl (hb hby at_140) rfl (teq c31).2 k) ?_
    show own_Go _ _ _ _ T29 (mkF m 143 _ [])
    refine own_st (fun t k => XS.iconst X29.here hx rfl (hb hby at_143) k) ?_
    show own_Go _ _ _ _ T29 (mkF m 144 _ [(.int (1 : Int32))])
    refine own_st (fun t k => XS.goto X29.here hx rfl (pc0 := 144) (pc' := 148) rfl (hb hby at_144) (by decide) (by decide) k) ?_
    show own_Go _ _ _ _ T29 (mkF m 148 _ [(.int (1 : Int32))])
    exact J34 T29 _ _ _ _ X29 eq29 N30 hS hk hZ hown (by simp only [if_pos c31])
  · skip
    refine own_st (fun t k => XS.icmpYes X29.here hx rfl (pc0 := 140) (pc' := 147) rfl (hb hby at_140) rfl (feq c31).2 (by decide) (by decide) k) ?_
    show own_Go _ _ _ _ T29 (mkF m 147 _ [])
    refine own_st (fun t k => XS.iconst X29.here hx rfl (hb hby at_147) k) ?_
    show own_Go _ _ _ _ T29 (mkF m 148 _ [(.int (0 : Int32))])
    exact J34 T29 _ _ _ _ X29 eq29 N30 hS hk hZ hown (by simp only [if_neg c31])
set_option maxRecDepth 65536 in
set_option maxHeartbeats 4000000 in
theorem own_comes {Post : Tables → Env → Array Value → State → Outcome → State → Prop} (hpost : ∀ tb e args s v u, (limb_1_1.after args s (.returned v) u = true ∧ limb_1_2.after args s (.returned v) u = true ∧ True) → ReturnedEndW s (.returned v) u (Jvm.fieldLocs frame_1_writes args s ++ Jvm.arrayLocs frame_1_arrays args s ++ Jvm.staticLocs frame_1_statics s) 16 2176 → Post tb e args s (.returned v) u) :
    ArmFor flags0 classFile x code maxLocals ret World_1 tables_1 room_1 Calls_1 rest_1 Pre_1 Post := by
  intro l hfl _ _ p e ha hc hk s m args below hf hA hF happ hP
  obtain ⟨hcalls, hrest, hpre⟩ := hP
  obtain ⟨-, -, -, hnamed, -, -, -, hat⟩ := (Spec.applies_iff hf).mp happ
  obtain ⟨hg, hn⟩ := and_e (Cond.before_iff.mp (show (Jvm.Cond.and given_1 narrow_1).before args s = true from hpre))
  obtain ⟨g0, r0⟩ := and_e hg
  obtain ⟨g1, r1⟩ := and_e r0
  obtain ⟨g2, r2⟩ := and_e r1
  obtain ⟨g3, r3⟩ := and_e r2
  obtain ⟨g4, r4⟩ := and_e r3
  obtain ⟨w0, w1, w2, w3, w4, rfl⟩ : ∃ w0 w1 w2 w3 w4 : Value, args = #[w0, w1, w2, w3, w4] := by
    have hs : args.size = 5 := by simpa [Cond.value, given_1] using g0
    obtain ⟨L⟩ := args
    match L, hs with
    | [w0, w1, w2, w3, w4], _ => exact ⟨w0, w1, w2, w3, w4, rfl⟩
  have hw := fun d (hd : d ∈ tables_1) => atoms_spec (ws := Jvm.Cond.code x code maxLocals ret :: tables_1) hat d (List.mem_cons_of_mem _ hd)
  obtain ⟨i0, ei0⟩ := isL_v g1
  obtain rfl : w0 = (.long i0) := Option.some.inj ei0
  obtain ⟨i1, ei1⟩ := isL_v g2
  obtain rfl : w1 = (.long i1) := Option.some.inj ei1
  obtain ⟨i2, ei2⟩ := isL_v g3
  obtain rfl : w2 = (.long i2) := Option.some.inj ei2
  obtain ⟨i3, ei3⟩ := isL_v g4
  obtain rfl : w3 = (.long i3) := Option.some.inj ei3
  obtain ⟨i4, ei4⟩ := isL_v r4
  obtain rfl : w4 = (.long i4) := Option.some.inj ei4
  obtain ⟨n, o, h1, h2, h3, _, L, rfl, ⟨rfl, N⟩, hq⟩ := rm0 l s _ hw tables_1 i0 i1 i2 i3 i4 s.heap s.heap.size (Nat.le_refl _) p e ha hc hk s m _ below hf ((Spec.applies_iff_loose hf).mp happ).1 ⟨rfl, State.Warmed39.refl s, rfl⟩ trivial
  refine ⟨n, _, h1, h2, h3, hpost _ _ _ _ _ _ ⟨Cond.after_iff.mpr rfl, Cond.after_iff.mpr (eq_i res_at (Term.int_eval (1)) rfl), trivial⟩ ⟨hq.1, hq.2.1, hq.2.2.1, (hq.2.2.2.sift fun y hy => Or.inr (N y hy)).mono (by decide) (by decide)⟩⟩
theorem main_1_1 : Claimed_1_1 := own_comes fun _ _ _ _ _ _ h hF => ⟨h.1, hF⟩
theorem main_1_2 : Claimed_1_2 := own_comes fun _ _ _ _ _ _ h hF => ⟨h.2.1, hF⟩
end Jvm.Pilot.@@N@@
namespace Jvm.Pilot.@@N@@
open Jvm Jvm.ClassFile Sem Op Lib Jvm.Free Jvm.Stand Jvm.Pilot.@@N@@.Jvm.D
/-! MADE BY PROGRAM (witnessworld.py) out of the Statement's table words and the real class files: 16 classes; the members and pool entries that the words name. The judged class is class 1, her method 2. -/
namespace start1
open Jvm.ClassFile
def u (s : String) : CpInfo := .utf8 (stringToUtf16 s)
/-- a pool by its gaps: so many unusable entries, then the entry; so many at the end -/
def gap : Nat → List CpInfo → List CpInfo
  | 0, r => r
  | n + 1, r => .unusable :: gap n r
def poolList (es : List (Nat × CpInfo)) (last : Nat) : List CpInfo := es.foldr (fun e r => gap e.1 (e.2 :: r)) (gap last [])
def pool (es : List (Nat × CpInfo)) (last : Nat) : Array CpInfo := ⟨poolList es last⟩
def fileOf (pool : Array CpInfo) (this : Nat) (attrs : Array Attribute := #[]) (ms : Array MethodInfo := #[]) (fl : Nat := 33) (sup : Nat := 0) (ifs : Array Nat := #[]) (fds : Array FieldInfo := #[]) : ClassFile where
  minorVersion := 0
  majorVersion := 65
  constantPool := pool
  accessFlags := fl
  thisClass := this
  superClass := sup
  interfaces := ifs
  fields := fds
  methods := ms
  attributes := attrs
def plain (name : String) (sup : Option ClassId) : Class where
  name := name
  kind := .ordinary
  loader := none
  accessFlags := 33
  super := sup
  interfaces := #[]
  cf := none
  fields := #[]
  methods := #[]
  instanceTypes := #[]
  staticTypes := #[]
  resolved := #[]
  callSites := []
  init := .initialized
  statics := none
  mirror := none

def pool0 : Array CpInfo := pool [(5, u "<init>"), (0, u "()V"), (1, .class_ 10), (1, u "java/lang/Object")] 113

def k0c0 : Code := { maxStack := 0, maxLocals := 1, code := object_method_1_code, exceptionTable := #[], attributes := #[] }
def k0m0 : Method := { name := "<init>", desc := "()V", sig := { parameters := [], returnType := none }, accessFlags := 1, code := some k0c0 }
/-- java/lang/Object -/
def k0 : Class := { plain "java/lang/Object" none with
  accessFlags := 33
  interfaces := #[]
  cf := some (fileOf pool0 8 #[] #[{ accessFlags := 1, nameIndex := 5, descriptorIndex := 6, attributes := #[] }] 33 0 #[] #[])
  fields := #[]
  methods := #[k0m0]
  instanceTypes := #[]
  staticTypes := #[]
  resolved := Array.replicate 124 none
  statics := none }

def pool1 : Array CpInfo := pool [(2, .class_ 4), (1, u "java/lang/Object"), (0, u "<init>"), (0, u "()V"), (2, .long 9223372036854775807), (1, .long 2), (1, .class_ 14), (0, u "com/example/laermkontur/laermkontur/study/GridRowsPinLaw"), (0, .long 1073741818), (1, .long 2147483639), (1, .methodref 20 21), (0, .class_ 22), (0, .nameAndType 23 24), (0, u "java/lang/Math"), (0, u "max"), (0, u "(JJ)J"), (0, .methodref 13 26), (0, .nameAndType 27 24), (0, u "place"), (0, .class_ 29), (0, u "com/example/laermkontur/laermkontur/study/Grid"), (0, .methodref 28 31), (0, .nameAndType 5 32), (0, u "(JJJJJ)V"), (0, .methodref 28 34), (0, .nameAndType 35 36), (0, u "rows"), (0, u "()I"), (0, u "MAXN"), (0, u "J"), (4, u "law"), (0, u "(JJJJJ)Z")] 2

def k1m0 : Method := { name := "<init>", desc := "()V", sig := { parameters := [], returnType := none }, accessFlags := 1, code := none }
def k1c1 : Code := { maxStack := 6, maxLocals := 4, code := method_2_code, exceptionTable := #[], attributes := #[] }
def k1m1 : Method := { name := "place", desc := "(JJ)J", sig := { parameters := [.long, .long], returnType := some .long }, accessFlags := 10, code := some k1c1 }
def k1c2 : Code := { maxStack := 12, maxLocals := 31, code := code, exceptionTable := #[], attributes := #[] }
def k1m2 : Method := { name := "law", desc := "(JJJJJ)Z", sig := { parameters := [.long, .long, .long, .long, .long], returnType := some .boolean }, accessFlags := 9, code := some k1c2 }
/-- com/example/laermkontur/laermkontur/study/GridRowsPinLaw -/
def k1 : Class := { plain "com/example/laermkontur/laermkontur/study/GridRowsPinLaw" (some 0) with
  accessFlags := 49
  interfaces := #[]
  cf := some (fileOf pool1 13 #[] #[{ accessFlags := 1, nameIndex := 5, descriptorIndex := 6, attributes := #[] }, { accessFlags := 10, nameIndex := 27, descriptorIndex := 24, attributes := #[] }, { accessFlags := 9, nameIndex := 43, descriptorIndex := 44, attributes := #[] }] 49 2 #[] #[{ accessFlags := 26, nameIndex := 37, descriptorIndex := 38, attributes := #[] }])
  fields := #[{ name := "MAXN", type := .long, accessFlags := 26, slot := 0, constantValue := 0 }]
  methods := #[k1m0, k1m1, k1m2]
  instanceTypes := #[]
  staticTypes := #[.long]
  resolved := Array.replicate 47 none
  statics := none }

def pool2 : Array CpInfo := pool [(1, .class_ 2), (0, u "java/lang/Math"), (1, .class_ 6), (1, u "java/lang/Object"), (0, u "<init>"), (0, u "()V"), (89, .class_ 100), (1, u "java/lang/Math$RandomNumberGeneratorHolder"), (20, u "(JJ)J"), (50, u "negativeZeroFloatBits"), (0, u "J"), (2, u "negativeZeroDoubleBits"), (21, u "max"), (46, u "$assertionsDisabled"), (0, u "Z"), (91, u "twoToTheDoubleScaleDown"), (0, u "D"), (4, u "twoToTheDoubleScaleUp"), (9, u "E"), (3, u "PI"), (2, u "TAU"), (2, u "DEGREES_TO_RADIANS"), (0, u "RADIANS_TO_DEGREES")] 94

def k2m0 : Method := { name := "<init>", desc := "()V", sig := { parameters := [], returnType := none }, accessFlags := 2, code := none }
def k2c1 : Code := { maxStack := 4, maxLocals := 4, code := jdk_29_method_66_code, exceptionTable := #[], attributes := #[] }
def k2m1 : Method := { name := "max", desc := "(JJ)J", sig := { parameters := [.long, .long], returnType := some .long }, accessFlags := 9, code := some k2c1 }
/-- java/lang/Math -/
def k2 : Class := { plain "java/lang/Math" (some 0) with
  accessFlags := 49
  interfaces := #[]
  cf := some (fileOf pool2 1 #[.nestMembers #[98]] #[{ accessFlags := 2, nameIndex := 7, descriptorIndex := 8, attributes := #[] }, { accessFlags := 9, nameIndex := 198, descriptorIndex := 121, attributes := #[] }] 49 4 #[] #[{ accessFlags := 25, nameIndex := 354, descriptorIndex := 339, attributes := #[] }, { accessFlags := 25, nameIndex := 358, descriptorIndex := 339, attributes := #[] }, { accessFlags := 25, nameIndex := 361, descriptorIndex := 339, attributes := #[] }, { accessFlags := 26, nameIndex := 364, descriptorIndex := 339, attributes := #[] }, { accessFlags := 26, nameIndex := 365, descriptorIndex := 339, attributes := #[] }, { accessFlags := 26, nameIndex := 172, descriptorIndex := 173, attributes := #[] }, { accessFlags := 26, nameIndex := 176, descriptorIndex := 173, attributes := #[] }, { accessFlags := 8, nameIndex := 344, descriptorIndex := 339, attributes := #[] }, { accessFlags := 8, nameIndex := 338, descriptorIndex := 339, attributes := #[] }, { accessFlags := 4120, nameIndex := 245, descriptorIndex := 246, attributes := #[] }])
  fields := #[{ name := "E", type := .double, accessFlags := 25, slot := 0, constantValue := 0 }, { name := "PI", type := .double, accessFlags := 25, slot := 1, constantValue := 0 }, { name := "TAU", type := .double, accessFlags := 25, slot := 2, constantValue := 0 }, { name := "DEGREES_TO_RADIANS", type := .double, accessFlags := 26, slot := 3, constantValue := 0 }, { name := "RADIANS_TO_DEGREES", type := .double, accessFlags := 26, slot := 4, constantValue := 0 }, { name := "negativeZeroFloatBits", type := .long, accessFlags := 26, slot := 5, constantValue := 0 }, { name := "negativeZeroDoubleBits", type := .long, accessFlags := 26, slot := 6, constantValue := 0 }, { name := "twoToTheDoubleScaleUp", type := .double, accessFlags := 8, slot := 7, constantValue := 0 }, { name := "twoToTheDoubleScaleDown", type := .double, accessFlags := 8, slot := 8, constantValue := 0 }, { name := "$assertionsDisabled", type := .boolean, accessFlags := 4120, slot := 9, constantValue := 0 }]
  methods := #[k2m0, k2m1]
  instanceTypes := #[]
  staticTypes := #[.double, .double, .double, .double, .double, .long, .long, .double, .double, .boolean]
  resolved := Array.replicate 460 none
  statics := none }

def pool3 : Array CpInfo := pool [(1, .methodref 2 3), (0, .class_ 4), (0, .nameAndType 5 6), (0, u "java/lang/Object"), (0, u "<init>"), (0, u "()V"), (0, .class_ 8), (0, u "java/lang/Record")] 13

def k3c0 : Code := { maxStack := 1, maxLocals := 1, code := jdk_30_method_1_code, exceptionTable := #[], attributes := #[] }
def k3m0 : Method := { name := "<init>", desc := "()V", sig := { parameters := [], returnType := none }, accessFlags := 4, code := some k3c0 }
/-- java/lang/Record -/
def k3 : Class := { plain "java/lang/Record" (some 0) with
  accessFlags := 1057
  interfaces := #[]
  cf := some (fileOf pool3 7 #[] #[{ accessFlags := 4, nameIndex := 5, descriptorIndex := 6, attributes := #[] }] 1057 2 #[] #[])
  fields := #[]
  methods := #[k3m0]
  instanceTypes := #[]
  staticTypes := #[]
  resolved := Array.replicate 22 none
  statics := none }

def pool4 : Array CpInfo := pool [(3, .methodref 4 5), (0, .class_ 6), (0, .nameAndType 7 8), (0, u "java/lang/Record"), (0, u "<init>"), (0, u "()V"), (9, .string 19), (0, u "x"), (0, .methodref 21 22), (0, .class_ 23), (0, .nameAndType 24 25), (0, u "com/example/laermkontur/laermkontur/study/Grid"), (0, u "checkExtent"), (0, u "(Ljava/lang/String;JJJ)V"), (0, .string 27), (0, u "y"), (0, .long 2147483639), (10, .fieldref 21 40), (0, .nameAndType 41 42), (0, u "xMin"), (0, u "J"), (0, .fieldref 21 44), (0, .nameAndType 45 42), (0, u "yMin"), (0, .fieldref 21 47), (0, .nameAndType 48 42), (0, u "xMax"), (0, .fieldref 21 50), (0, .nameAndType 51 42), (0, u "yMax"), (0, .fieldref 21 53), (0, .nameAndType 54 42), (0, u "spacing"), (27, u "MAX_NODES"), (1, u "(JJJJJ)V"), (5, u "()I"), (0, u "rows")] 43

def k4c0 : Code := { maxStack := 7, maxLocals := 13, code := prog_53_method_1_code, exceptionTable := #[], attributes := #[] }
def k4m0 : Method := { name := "<init>", desc := "(JJJJJ)V", sig := { parameters := [.long, .long, .long, .long, .long], returnType := none }, accessFlags := 1, code := some k4c0 }
def k4c1 : Code := { maxStack := 8, maxLocals := 9, code := prog_53_method_2_code, exceptionTable := #[], attributes := #[] }
def k4m1 : Method := { name := "checkExtent", desc := "(Ljava/lang/String;JJJ)V", sig := { parameters := [(.object "java/lang/String"), .long, .long, .long], returnType := none }, accessFlags := 10, code := some k4c1 }
def k4c2 : Code := { maxStack := 4, maxLocals := 1, code := prog_53_method_5_code, exceptionTable := #[], attributes := #[] }
def k4m2 : Method := { name := "rows", desc := "()I", sig := { parameters := [], returnType := some .int }, accessFlags := 1, code := some k4c2 }
/-- com/example/laermkontur/laermkontur/study/Grid -/
def k4 : Class := { plain "com/example/laermkontur/laermkontur/study/Grid" (some 3) with
  accessFlags := 49
  interfaces := #[]
  cf := some (fileOf pool4 21 #[] #[{ accessFlags := 1, nameIndex := 7, descriptorIndex := 84, attributes := #[] }, { accessFlags := 10, nameIndex := 24, descriptorIndex := 25, attributes := #[] }, { accessFlags := 1, nameIndex := 91, descriptorIndex := 90, attributes := #[] }] 49 4 #[] #[{ accessFlags := 18, nameIndex := 41, descriptorIndex := 42, attributes := #[] }, { accessFlags := 18, nameIndex := 45, descriptorIndex := 42, attributes := #[] }, { accessFlags := 18, nameIndex := 48, descriptorIndex := 42, attributes := #[] }, { accessFlags := 18, nameIndex := 51, descriptorIndex := 42, attributes := #[] }, { accessFlags := 18, nameIndex := 54, descriptorIndex := 42, attributes := #[] }, { accessFlags := 25, nameIndex := 82, descriptorIndex := 42, attributes := #[] }])
  fields := #[{ name := "xMin", type := .long, accessFlags := 18, slot := 0, constantValue := 0 }, { name := "yMin", type := .long, accessFlags := 18, slot := 1, constantValue := 0 }, { name := "xMax", type := .long, accessFlags := 18, slot := 2, constantValue := 0 }, { name := "yMax", type := .long, accessFlags := 18, slot := 3, constantValue := 0 }, { name := "spacing", type := .long, accessFlags := 18, slot := 4, constantValue := 0 }, { name := "MAX_NODES", type := .long, accessFlags := 25, slot := 0, constantValue := 0 }]
  methods := #[k4m0, k4m1, k4m2]
  instanceTypes := #[.long, .long, .long, .long, .long]
  staticTypes := #[.long]
  resolved := Array.replicate 135 none
  statics := none }

def pool5 : Array CpInfo := pool [(1, .class_ 2), (0, u "java/io/Serializable"), (0, .class_ 4), (0, u "java/lang/Object")] 2

/-- java/io/Serializable -/
def k5 : Class := { plain "java/io/Serializable" (some 0) with
  accessFlags := 1537
  interfaces := #[]
  cf := some (fileOf pool5 1 #[] #[] 1537 3 #[] #[])
  fields := #[]
  methods := #[]
  instanceTypes := #[]
  staticTypes := #[]
  resolved := Array.replicate 7 none
  statics := none }

def pool6 : Array CpInfo := pool [(1, .class_ 2), (0, u "java/lang/Comparable"), (0, .class_ 4), (0, u "java/lang/Object")] 7

/-- java/lang/Comparable -/
def k6 : Class := { plain "java/lang/Comparable" (some 0) with
  accessFlags := 1537
  interfaces := #[]
  cf := some (fileOf pool6 1 #[] #[] 1537 3 #[] #[])
  fields := #[]
  methods := #[]
  instanceTypes := #[]
  staticTypes := #[]
  resolved := Array.replicate 12 none
  statics := none }

def pool7 : Array CpInfo := pool [(2, .class_ 4), (1, u "java/lang/CharSequence"), (42, .class_ 48), (0, u "java/lang/CharSequence$1CodePointIterator"), (10, .class_ 60), (0, u "java/lang/CharSequence$1CharIterator"), (5, .class_ 67), (0, u "java/lang/Object")] 63

/-- java/lang/CharSequence -/
def k7 : Class := { plain "java/lang/CharSequence" (some 0) with
  accessFlags := 1537
  interfaces := #[]
  cf := some (fileOf pool7 2 #[.nestMembers #[47, 59]] #[] 1537 66 #[] #[])
  fields := #[]
  methods := #[]
  instanceTypes := #[]
  staticTypes := #[]
  resolved := Array.replicate 131 none
  statics := none }

def pool8 : Array CpInfo := pool [(1, .class_ 2), (0, u "java/lang/constant/Constable"), (0, .class_ 4), (0, u "java/lang/Object")] 6

/-- java/lang/constant/Constable -/
def k8 : Class := { plain "java/lang/constant/Constable" (some 0) with
  accessFlags := 1537
  interfaces := #[]
  cf := some (fileOf pool8 1 #[] #[] 1537 3 #[] #[])
  fields := #[]
  methods := #[]
  instanceTypes := #[]
  staticTypes := #[]
  resolved := Array.replicate 11 none
  statics := none }

def pool9 : Array CpInfo := pool [(1, .class_ 2), (0, u "java/lang/constant/ConstantDesc"), (0, .class_ 4), (0, u "java/lang/Object")] 32

/-- java/lang/constant/ConstantDesc -/
def k9 : Class := { plain "java/lang/constant/ConstantDesc" (some 0) with
  accessFlags := 1537
  interfaces := #[]
  cf := some (fileOf pool9 1 #[] #[] 1537 3 #[] #[])
  fields := #[]
  methods := #[]
  instanceTypes := #[]
  staticTypes := #[]
  resolved := Array.replicate 37 none
  statics := none }

def pool10 : Array CpInfo := pool [(2, .class_ 4), (1, u "java/lang/Object"), (0, u "<init>"), (0, u "()V"), (3, .class_ 12), (1, u "java/lang/String"), (0, u "value"), (0, u "[B"), (2, u "coder"), (0, u "B"), (2, u "hash"), (0, u "I"), (2, u "hashIsZero"), (0, u "Z"), (13, u "COMPACT_STRINGS"), (534, .class_ 576), (0, u "java/lang/CharSequence"), (22, u "CASE_INSENSITIVE_ORDER"), (0, u "Ljava/util/Comparator;"), (500, u "serialPersistentFields"), (0, u "[Ljava/io/ObjectStreamField;"), (0, .class_ 1104), (0, u "java/lang/String$CaseInsensitiveComparator"), (1, .class_ 1107), (0, u "java/io/Serializable"), (0, .class_ 1109), (0, u "java/lang/Comparable"), (0, .class_ 1111), (0, u "java/lang/constant/Constable"), (0, .class_ 1113), (0, u "java/lang/constant/ConstantDesc"), (2, u "serialVersionUID"), (0, u "J"), (3, u "REPL"), (0, u "C"), (2, u "LATIN1"), (1, u "UTF16")] 323

def k10m0 : Method := { name := "<init>", desc := "()V", sig := { parameters := [], returnType := none }, accessFlags := 1, code := none }
/-- java/lang/String -/
def k10 : Class := { plain "java/lang/String" (some 0) with
  accessFlags := 49
  interfaces := #[5, 6, 7, 8, 9]
  cf := some (fileOf pool10 10 #[.nestMembers #[1103]] #[{ accessFlags := 1, nameIndex := 5, descriptorIndex := 6, attributes := #[] }] 49 2 #[1106, 1108, 575, 1110, 1112] #[{ accessFlags := 18, nameIndex := 13, descriptorIndex := 14, attributes := #[] }, { accessFlags := 18, nameIndex := 17, descriptorIndex := 18, attributes := #[] }, { accessFlags := 2, nameIndex := 21, descriptorIndex := 22, attributes := #[] }, { accessFlags := 2, nameIndex := 25, descriptorIndex := 26, attributes := #[] }, { accessFlags := 26, nameIndex := 1116, descriptorIndex := 1117, attributes := #[] }, { accessFlags := 24, nameIndex := 40, descriptorIndex := 26, attributes := #[] }, { accessFlags := 26, nameIndex := 1101, descriptorIndex := 1102, attributes := #[] }, { accessFlags := 26, nameIndex := 1121, descriptorIndex := 1122, attributes := #[] }, { accessFlags := 25, nameIndex := 599, descriptorIndex := 600, attributes := #[] }, { accessFlags := 24, nameIndex := 1125, descriptorIndex := 18, attributes := #[] }, { accessFlags := 24, nameIndex := 1127, descriptorIndex := 18, attributes := #[] }])
  fields := #[{ name := "value", type := (.array .byte), accessFlags := 18, slot := 0, constantValue := 0 }, { name := "coder", type := .byte, accessFlags := 18, slot := 1, constantValue := 0 }, { name := "hash", type := .int, accessFlags := 2, slot := 2, constantValue := 0 }, { name := "hashIsZero", type := .boolean, accessFlags := 2, slot := 3, constantValue := 0 }, { name := "serialVersionUID", type := .long, accessFlags := 26, slot := 0, constantValue := 0 }, { name := "COMPACT_STRINGS", type := .boolean, accessFlags := 24, slot := 1, constantValue := 0 }, { name := "serialPersistentFields", type := (.array (.object "java/io/ObjectStreamField")), accessFlags := 26, slot := 2, constantValue := 0 }, { name := "REPL", type := .char, accessFlags := 26, slot := 3, constantValue := 0 }, { name := "CASE_INSENSITIVE_ORDER", type := (.object "java/util/Comparator"), accessFlags := 25, slot := 4, constantValue := 0 }, { name := "LATIN1", type := .byte, accessFlags := 24, slot := 5, constantValue := 0 }, { name := "UTF16", type := .byte, accessFlags := 24, slot := 6, constantValue := 0 }]
  methods := #[k10m0]
  instanceTypes := #[(.array .byte), .byte, .int, .boolean]
  staticTypes := #[.long, .boolean, (.array (.object "java/io/ObjectStreamField")), .char, (.object "java/util/Comparator"), .byte, .byte]
  resolved := Array.replicate 1451 none
  statics := none }

def pool11 : Array CpInfo := pool [(1, u "java/lang/Cloneable"), (0, .class_ 1), (0, u "java/lang/Object"), (0, .class_ 3)] 3

/-- java/lang/Cloneable -/
def k11 : Class := { plain "java/lang/Cloneable" (some 0) with
  accessFlags := 1537
  interfaces := #[]
  cf := some (fileOf pool11 2 #[] #[] 1537 4 #[] #[])
  fields := #[]
  methods := #[]
  instanceTypes := #[]
  staticTypes := #[]
  resolved := Array.replicate 8 none
  statics := none }

/-- the primitive byte -/
def k12 : Class := { plain "byte" none with kind := .primitive 'B', accessFlags := 0x411 }
/-- [B -/
def k13 : Class := { plain "[B" (some 0) with kind := .array 12 .byte, interfaces := #[11, 5], accessFlags := 1041 }

/-- the primitive int -/
def k14 : Class := { plain "int" none with kind := .primitive 'I', accessFlags := 0x411 }
/-- [I -/
def k15 : Class := { plain "[I" (some 0) with kind := .array 14 .int, interfaces := #[11, 5], accessFlags := 1041 }

def heap : Heap := #[]
def classes : Array Class := #[k0, k1, k2, k3, k4, k5, k6, k7, k8, k9, k10, k11, k12, k13, k14, k15]
def interned : List (Array UInt16 × Addr) := []
def slotsUsed : Nat := 0
def theMethod : MethodId := ⟨1, 2⟩
def args0 : Array Value := #[.long 5, .long 5, .long 5, .long 5, .long 5]
def aboutOver (below : List Frame) : State where
  vm := { classes := classes, interned := interned.toArray }
  heap := heap
  slotsUsed := slotsUsed
  threads := #[{ frames := .invoking theMethod args0 :: below }]
def below0 : List Frame := [.native { method := ⟨0, 0⟩, args := #[] }]
def about1 : State := aboutOver below0
def p0 : Program := .bare "" "" ""
def e0 : Env := launch0.env 0 0 0
theorem w_frames : about1.frames = Frame.invoking theMethod args0 :: below0 := rfl
set_option maxRecDepth 65536 in
theorem w_args : argsFit about1.vm theMethod args0 = true := by decide +kernel
set_option maxRecDepth 65536 in
theorem w_heap : heapFits about1 = true := by decide +kernel
set_option maxRecDepth 65536 in
theorem w_runnable : about1.curStatus? = some .runnable := by decide +kernel
set_option maxRecDepth 65536 in
theorem w_alone : about1.alone = true := by decide +kernel
set_option maxRecDepth 65536 in
theorem w_named : about1.methodNamed? x = some theMethod := by decide +kernel
set_option maxRecDepth 65536 in
theorem w_hears : about1.hears theMethod below0 = true := by decide +kernel
set_option maxRecDepth 65536 in
theorem w_ripe : about1.ripe theMethod args0 below0 = true := by decide +kernel
theorem w_running : about1.status = .running := rfl
set_option maxRecDepth 65536 in
theorem w_room : about1.hasRoom e0.platform room_1 = true :=
  launch0.hasRoom_least _ room_1 (by decide +kernel) (by decide +kernel) (by decide +kernel) (by decide +kernel) (by decide +kernel) (by decide +kernel)
theorem allAtoms_all (ts : List Jvm.Cond) (a : Array Jvm.Value) (st : Jvm.State) : (allAtoms ts).before a st = ts.all (fun c => c.before a st) := by
  induction ts with
  | nil => rfl
  | cons c t ih =>
    show (Jvm.Cond.and c (allAtoms t)).before a st = _
    rw [Jvm.Cond.before_and, ih, List.all_cons]
def words1 : List Jvm.Cond := Jvm.Cond.code x code maxLocals ret :: tables_1
/-- a 'code' word, met by the world's own term for the bytes: nothing is compared byte by byte -/
theorem code_word {y : MethodName} {bytes : ByteArray} {mx : Nat} {rt : Option FieldType} {a : Array Value} {s : State} {m : MethodId} {meth : Method} {c : Code} (h1 : s.methodNamed? y = some m) (h2 : s.vm.method? m = some meth) (h3 : meth.code = some c) (h4 : c.code = bytes)
    (h5 : (c.maxLocals == mx && c.exceptionTable.isEmpty && decide (c.maxStack ≤ mostOperands) && decide (meth.sig.returnType = rt) && !meth.locks && decide (parseMethodDescriptor y.desc = some meth.sig)) = true) : (Jvm.Cond.code y bytes mx rt).before a s = true := by
  simp only [Bool.and_eq_true, beq_iff_eq, Bool.not_eq_true', decide_eq_true_eq] at h5
  obtain ⟨⟨⟨⟨⟨g1, g2⟩, g3⟩, g4⟩, g5⟩, g6⟩ := h5
  simp [Cond.before, Cond.holds, Cond.value, h1, h2, h3, h4, g1, g2, g3, g4, g5, g6]
def isCode : Jvm.Cond → Bool
  | .code _ _ _ _ => true
  | _ => false
theorem all_split {L : List Jvm.Cond} {P : Jvm.Cond → Bool} (h1 : L.all (fun c => isCode c || P c) = true) (h2 : ∀ c ∈ L.filter isCode, P c = true) : L.all P = true := by
  refine List.all_eq_true.mpr fun c hc => ?_
  have h := List.all_eq_true.mp h1 c hc
  rcases Bool.eq_false_or_eq_true (isCode c) with hi | hi
  · exact h2 c (List.mem_filter.mpr ⟨hc, hi⟩)
  · simpa [hi] using h
set_option maxRecDepth 65536 in
theorem w_c0 : (Jvm.Cond.code x code maxLocals ret).before args0 about1 = true := code_word (m := ⟨1, 2⟩) (meth := k1m2) (c := k1c2) (by decide +kernel) rfl rfl rfl (by decide +kernel)
set_option maxRecDepth 65536 in
theorem w_c1 : (Jvm.Cond.code ({ cls := "java/lang/Math", name := "max", desc := "(JJ)J" } : Jvm.MethodName) jdk_29_method_66_code (4 : Nat) (Option.some Jvm.ClassFile.FieldType.long)).before args0 about1 = true := code_word (m := ⟨2, 1⟩) (meth := k2m1) (c := k2c1) (by decide +kernel) rfl rfl rfl (by decide +kernel)
set_option maxRecDepth 65536 in
theorem w_c2 : (Jvm.Cond.code ({ cls := "com/example/laermkontur/laermkontur/study/GridRowsPinLaw", name := "place", desc := "(JJ)J" } : Jvm.MethodName) method_2_code (4 : Nat) (Option.some Jvm.ClassFile.FieldType.long)).before args0 about1 = true := code_word (m := ⟨1, 1⟩) (meth := k1m1) (c := k1c1) (by decide +kernel) rfl rfl rfl (by decide +kernel)
set_option maxRecDepth 65536 in
theorem w_c3 : (Jvm.Cond.code ({ cls := "com/example/laermkontur/laermkontur/study/Grid", name := "<init>", desc := "(JJJJJ)V" } : Jvm.MethodName) prog_53_method_1_code (13 : Nat) (Option.none : Option Jvm.ClassFile.FieldType)).before args0 about1 = true := code_word (m := ⟨4, 0⟩) (meth := k4m0) (c := k4c0) (by decide +kernel) rfl rfl rfl (by decide +kernel)
set_option maxRecDepth 65536 in
theorem w_c4 : (Jvm.Cond.code ({ cls := "java/lang/Record", name := "<init>", desc := "()V" } : Jvm.MethodName) jdk_30_method_1_code (1 : Nat) (Option.none : Option Jvm.ClassFile.FieldType)).before args0 about1 = true := code_word (m := ⟨3, 0⟩) (meth := k3m0) (c := k3c0) (by decide +kernel) rfl rfl rfl (by decide +kernel)
set_option maxRecDepth 65536 in
theorem w_c5 : (Jvm.Cond.code ({ cls := "java/lang/Object", name := "<init>", desc := "()V" } : Jvm.MethodName) object_method_1_code (1 : Nat) (Option.none : Option Jvm.ClassFile.FieldType)).before args0 about1 = true := code_word (m := ⟨0, 0⟩) (meth := k0m0) (c := k0c0) (by decide +kernel) rfl rfl rfl (by decide +kernel)
set_option maxRecDepth 65536 in
theorem w_c6 : (Jvm.Cond.code ({ cls := "com/example/laermkontur/laermkontur/study/Grid", name := "checkExtent", desc := "(Ljava/lang/String;JJJ)V" } : Jvm.MethodName) prog_53_method_2_code (9 : Nat) (Option.none : Option Jvm.ClassFile.FieldType)).before args0 about1 = true := code_word (m := ⟨4, 1⟩) (meth := k4m1) (c := k4c1) (by decide +kernel) rfl rfl rfl (by decide +kernel)
set_option maxRecDepth 65536 in
theorem w_c7 : (Jvm.Cond.code ({ cls := "com/example/laermkontur/laermkontur/study/Grid", name := "rows", desc := "()I" } : Jvm.MethodName) prog_53_method_5_code (1 : Nat) (Option.some Jvm.ClassFile.FieldType.int)).before args0 about1 = true := code_word (m := ⟨4, 2⟩) (meth := k4m2) (c := k4c2) (by decide +kernel) rfl rfl rfl (by decide +kernel)
def codes1 : List Jvm.Cond := [Jvm.Cond.code x code maxLocals ret, Jvm.Cond.code ({ cls := "java/lang/Math", name := "max", desc := "(JJ)J" } : Jvm.MethodName) jdk_29_method_66_code (4 : Nat) (Option.some Jvm.ClassFile.FieldType.long), Jvm.Cond.code ({ cls := "com/example/laermkontur/laermkontur/study/GridRowsPinLaw", name := "place", desc := "(JJ)J" } : Jvm.MethodName) method_2_code (4 : Nat) (Option.some Jvm.ClassFile.FieldType.long), Jvm.Cond.code ({ cls := "com/example/laermkontur/laermkontur/study/Grid", name := "<init>", desc := "(JJJJJ)V" } : Jvm.MethodName) prog_53_method_1_code (13 : Nat) (Option.none : Option Jvm.ClassFile.FieldType), Jvm.Cond.code ({ cls := "java/lang/Record", name := "<init>", desc := "()V" } : Jvm.MethodName) jdk_30_method_1_code (1 : Nat) (Option.none : Option Jvm.ClassFile.FieldType), Jvm.Cond.code ({ cls := "java/lang/Object", name := "<init>", desc := "()V" } : Jvm.MethodName) object_method_1_code (1 : Nat) (Option.none : Option Jvm.ClassFile.FieldType), Jvm.Cond.code ({ cls := "com/example/laermkontur/laermkontur/study/Grid", name := "checkExtent", desc := "(Ljava/lang/String;JJJ)V" } : Jvm.MethodName) prog_53_method_2_code (9 : Nat) (Option.none : Option Jvm.ClassFile.FieldType), Jvm.Cond.code ({ cls := "com/example/laermkontur/laermkontur/study/Grid", name := "rows", desc := "()I" } : Jvm.MethodName) prog_53_method_5_code (1 : Nat) (Option.some Jvm.ClassFile.FieldType.int)]
set_option maxRecDepth 65536 in
theorem codes_eq : words1.filter isCode = codes1 := rfl
theorem w_codes : ∀ c ∈ words1.filter isCode, c.before args0 about1 = true := by
  rw [codes_eq]
  intro c hc
  simp only [codes1, List.mem_cons, List.not_mem_nil, or_false] at hc
  rcases hc with rfl | rfl | rfl | rfl | rfl | rfl | rfl | rfl
  · exact w_c0
  · exact w_c1
  · exact w_c2
  · exact w_c3
  · exact w_c4
  · exact w_c5
  · exact w_c6
  · exact w_c7
set_option maxRecDepth 65536 in
theorem w_t1 : (words1.take 24).all (fun c => isCode c || c.before args0 about1) = true := by decide +kernel
set_option maxRecDepth 65536 in
theorem w_t2 : ((words1.drop 24).take 24).all (fun c => isCode c || c.before args0 about1) = true := by decide +kernel
set_option maxRecDepth 65536 in
theorem w_t3 : ((words1.drop 24).drop 24).all (fun c => isCode c || c.before args0 about1) = true := by decide +kernel
theorem w_tables : (allAtoms (Jvm.Cond.code x code maxLocals ret :: tables_1)).before args0 about1 = true := by
  rw [allAtoms_all]
  show words1.all (fun c => c.before args0 about1) = true
  refine all_split ?_ w_codes
  rw [← List.take_append_drop 24 words1, List.all_append, w_t1, ← List.take_append_drop 24 (words1.drop 24), List.all_append, w_t2, w_t3]
  rfl
set_option maxRecDepth 65536 in
theorem w_case : (Jvm.Cond.and given_1 narrow_1).before args0 about1 = true := by decide +kernel
theorem w_applies : (headSpec (Jvm.Cond.code x code maxLocals ret :: tables_1) room_1).applies x e0.platform about1 = true :=
  (Spec.applies_iff w_frames).mpr ⟨w_running, w_runnable, w_alone, w_named, w_hears, w_ripe, w_room, w_tables⟩
theorem atStart : AtStart classFile x code maxLocals ret World_1 tables_1 room_1 Calls_1 rest_1 Pre_1 launch0 p0 e0 about1 theMethod args0 below0 :=
  ⟨lists_1, trivial, launch0.admits_env _ _ _, launch0.least_env, fairChoices_fair.cas, fairChoices_fair.clock, w_frames, w_args, w_heap, w_applies, trivial, trivial, w_case⟩
end start1
theorem witness_1 : WitnessClaimed_1 := ⟨start1.p0, start1.e0, start1.about1, start1.theMethod, start1.args0, start1.below0, start1.atStart⟩
end Jvm.Pilot.@@N@@
