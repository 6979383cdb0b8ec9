import JvmDerived
import JvmDerived.Pilot.@@N@@Statement
import JvmDerived.Pilot.@@N@@Code
set_option linter.unusedVariables false
set_option linter.unusedSimpArgs false
@@BLOCK:NumsL.lean.txt@@
namespace Jvm.Pilot.@@N@@
open Jvm Jvm.ClassFile Sem Op Lib Jvm.Free Jvm.Stand Jvm.LawKit Jvm.RoadKit Bundle Jvm.Pilot.@@N@@.Jvm.D
/-- from here the run comes to a state of which P holds -/
def own_Go (tb : Tables) (e : Env) (below : List Frame) (P : State → Prop) (T : State) (g : JFrame) : Prop := ∃ t, Steps tb e below (T.setTop g) t ∧ P t
theorem own_st {tb : Tables} {e : Env} {below : List Frame} {P : State → Prop} {T T' : State} {g g' : JFrame} (h : ∀ t, Steps tb e below (T'.setTop g') t → Steps tb e below (T.setTop g) t) (k : own_Go tb e below P T' g') : own_Go tb e below P T g := by
  obtain ⟨t, a, b⟩ := k; exact ⟨t, h t a, b⟩
/-- what the end of a body must be -/
def own_P (s : State) (below : List Frame) (Q : Option Value → Heap → List Loc → Prop) (C S : Nat) (t : State) : Prop := t.status = .running ∧ ∃ o, Ended t below o ∧ ∃ v L, o = .returned v ∧ Q v t.heap L ∧ FrameEnd s o t L C S
/-- .. of a body that may have interned -/
def own_PW (s : State) (below : List Frame) (Q : Option Value → Heap → List Loc → Prop) (C S : Nat) (t : State) : Prop := t.status = .running ∧ ∃ o, Ended t below o ∧ ∃ v L, o = .returned v ∧ Q v t.heap L ∧ ReturnedEndW s o t L C S
section own
variable {p : Program} {l : Launch} {e : Env} {R : Room} {s : State} {m : MethodId} {args : Array Value} {below : List Frame} {meth : Method} {c : Code} {T : State} {locs : List Loc} {cells slots : Nat} {Qo : Option Value → Heap → List Loc → Prop} {C' S' : Nat}
theorem own_out (X : Stand p l e R s m args below meth c T locs cells slots) {v : Option Value} {g : JFrame} (hv : meth.sig.returnType = none → v = none) (hlocks : meth.locks = false)
    (hst : ∀ fs, (∀ (f : JFrame) (acts : List Action), f.method = m → f.locked = none → f.entered = [] → (doReturn e (T.setTop f) acts v).1 = T.setFrames fs) → Steps p.tables e below (T.setTop g) (T.setFrames fs))
    (hc : cells ≤ C') (hs : slots ≤ S') (hq : Qo v T.heap locs) : own_Go p.tables e below (own_P s below Qo C' S') T g := by
  obtain ⟨fs, hr, hrun, hended, hW, hsame⟩ := X.leave (v := v) hv hlocks
  exact ⟨_, hst fs hr, hrun, _, hended, _, _, rfl, hq, ⟨_, rfl⟩, hW, hsame.mono hc hs⟩
theorem own_outW {vm0 : Vm} (X : Stand p l e R (s.setVm vm0) m args below meth c T locs cells slots) {k0 : Nat} (hS : s.Since vm0 k0) (hk : k0 ≤ T.heap.size) {v : Option Value} {g : JFrame} (hv : meth.sig.returnType = none → v = none) (hlocks : meth.locks = false)
    (hst : ∀ fs, (∀ (f : JFrame) (acts : List Action), f.method = m → f.locked = none → f.entered = [] → (doReturn e (T.setTop f) acts v).1 = T.setFrames fs) → Steps p.tables e below (T.setTop g) (T.setFrames fs))
    (hc : cells ≤ C') (hs : slots ≤ S') (hq : Qo v T.heap locs) : own_Go p.tables e below (own_PW s below Qo C' S') T g := by
  obtain ⟨fs, hr, hrun, hended, hW⟩ := X.leaveW hS hk (v := v) hv hlocks
  exact ⟨_, hst fs hr, hrun, _, hended, _, _, rfl, hq, hW.1, hW.2.1, hW.2.2.1, hW.2.2.2.mono hc hs⟩
theorem own_retI (X : Stand p l e R s m args below meth c T locs cells slots) (hx : p.tables.exec = Jvm.exec) {pc : Nat} {Ls : Array Slot} {z : Int32} {rest : List Value} (hret : meth.sig.returnType = some .int) (hd : decode c.code pc = .ok (.ireturn, 1)) (fs : List Frame)
    (hl : ∀ (f : JFrame) (acts : List Action), f.method = m → f.locked = none → f.entered = [] → (doReturn e (T.setTop f) acts (some (.int z))).1 = T.setFrames fs) : Steps p.tables e below (T.setTop (mkF m pc Ls (.int z :: rest))) (T.setFrames fs) :=
  retOut X hx hret rfl (Or.inl ⟨rfl, Or.inl rfl, _, rfl⟩) hd hl
theorem own_retZ (X : Stand p l e R s m args below meth c T locs cells slots) (hx : p.tables.exec = Jvm.exec) {pc : Nat} {Ls : Array Slot} {z : Int32} {rest : List Value} (hret : meth.sig.returnType = some .boolean) (hd : decode c.code pc = .ok (.ireturn, 1)) (hb : z = 0 ∨ z = 1) (fs : List Frame)
    (hl : ∀ (f : JFrame) (acts : List Action), f.method = m → f.locked = none → f.entered = [] → (doReturn e (T.setTop f) acts (some (.int z))).1 = T.setFrames fs) : Steps p.tables e below (T.setTop (mkF m pc Ls (.int z :: rest))) (T.setFrames fs) := by
  have e1 : nar .boolean z = z := by rcases hb with rfl | rfl <;> decide
  exact retN X hx hret (Or.inl rfl) hd (by rw [e1]; exact hl)
theorem own_retJ (X : Stand p l e R s m args below meth c T locs cells slots) (hx : p.tables.exec = Jvm.exec) {pc : Nat} {Ls : Array Slot} {z : Int64} {rest : List Value} (hret : meth.sig.returnType = some .long) (hd : decode c.code pc = .ok (.lreturn, 1)) (fs : List Frame)
    (hl : ∀ (f : JFrame) (acts : List Action), f.method = m → f.locked = none → f.entered = [] → (doReturn e (T.setTop f) acts (some (.long z))).1 = T.setFrames fs) : Steps p.tables e below (T.setTop (mkF m pc Ls (.long z :: rest))) (T.setFrames fs) :=
  retOut X hx hret rfl (Or.inr (Or.inl ⟨rfl, rfl, _, rfl⟩)) hd hl
theorem own_retR (X : Stand p l e R s m args below meth c T locs cells slots) (hx : p.tables.exec = Jvm.exec) {pc : Nat} {Ls : Array Slot} {w : Value} {t : FieldType} {rest : List Value} (hret : meth.sig.returnType = some t) (ht : t.isReference = true) (hw : w.isRef = true) (hn : narrow t w = w) (hd : decode c.code pc = .ok (.areturn, 1)) (fs : List Frame)
    (hl : ∀ (f : JFrame) (acts : List Action), f.method = m → f.locked = none → f.entered = [] → (doReturn e (T.setTop f) acts (some w)).1 = T.setFrames fs) : Steps p.tables e below (T.setTop (mkF m pc Ls (w :: rest))) (T.setFrames fs) :=
  retOut X hx hret hn (Or.inr (Or.inr (Or.inr (Or.inr ⟨rfl, ht, hw⟩)))) hd hl
end own
/-- a private method is the one that is picked -/
theorem own_selp {s : State} {args : Array Value} {y : MethodName} {n : Nat} (hi : (Jvm.Cond.instantiable y.cls n).before args s = true) (hp : s.PrivateAt y) (hm : (Jvm.Cond.instanceMethod y).before args s = true) (hy : y.cls ≠ "java/lang/invoke/MethodHandle" ∧ y.cls ≠ "java/lang/invoke/VarHandle") : (Jvm.Cond.selects y.cls y y).before args s = true := by
  obtain ⟨c, k, h1, h2, -, h4, -⟩ := Cond.instantiable_spec hi
  exact selects_self_of_private h1 h2 (Bool.or_eq_false_iff.mp h4).1 hp hm hy
theorem own_staK {Z : State} {h h' : Heap} {C n d : String} {v : Value} {ws : List Addr} (F : Sta Z h C n d v) (K : Keep h h' ws) (q : ∀ x ∈ ws, ∃ D, Exa Z h x D) : Sta Z h' C n d v := by
  obtain ⟨cf, i, k, f, st, cell, h1, h2, h3, h4, h5, h6, h7⟩ := F
  refine ⟨cf, i, k, f, st, cell, h1, h2, h3, h4, K.2.1 st cell h5 (fun hm => ?_), h6, h7⟩
  obtain ⟨D, c', k', e1, -, -, e4, -⟩ := q st hm
  cases h5.symm.trans e1
  rw [h6] at e4; cases e4
/-- a reference or null -/
theorem own_refOf {w : Value} (h : w.isRef = true) (c : ¬ w = Value.null) : ∃ a, w = .ref a := (ref_cases h).resolve_left c
theorem own_nW {t : FieldType} {w : Value} (ht : t.isReference = true) (h : w.isRef = true) : narrow t w = w := by
  rcases ref_cases h with rfl | ⟨a, rfl⟩ <;> cases t <;> first | rfl | simp [FieldType.isReference] at ht
theorem own_fW {t : FieldType} {w : Value} (ht : t.isReference = true) (h : w.isRef = true) : fits t w = true := by
  rcases ref_cases h with rfl | ⟨a, rfl⟩ <;> cases t <;> first | rfl | simp [FieldType.isReference] at ht
theorem own_nb {z : Int32} (h : z = 0 ∨ z = 1) : narrow .boolean (.int z) = .int z := by rcases h with rfl | rfl <;> rfl
theorem own_fb {z : Int32} (h : z = 0 ∨ z = 1) : fits .boolean (.int z) = true := by rcases h with rfl | rfl <;> rfl
/-- lcmp and a branch, in one -/
def own_lcv : ClassFile.Cond → Int64 → Int64 → Prop
  | .lt, x, y => x < y | .ge, x, y => ¬ x < y | .gt, x, y => y < x | .le, x, y => ¬ y < x | .eq, x, y => x = y | .ne, x, y => ¬ x = y
theorem own_lcT {cd : ClassFile.Cond} {x y : Int64} (h : own_lcv cd x y) : ifCond.holds cd (lcmpW x y) = true := by
  rw [if0]
  cases cd
  · exact (teq ((lw_eq x y).mpr h)).1
  · exact (feq (fun q => h ((lw_eq x y).mp q))).2
  · exact (tlt ((lw_lt x y).mpr h)).1
  · exact (flt (fun q => h ((lw_lt x y).mp q))).2.1
  · exact (tlt ((lw_gt x y).mpr h)).2.2.1
  · exact (flt (fun q => h ((lw_gt x y).mp q))).2.2.2
theorem own_lcF {cd : ClassFile.Cond} {x y : Int64} (h : ¬ own_lcv cd x y) : ifCond.holds cd (lcmpW x y) = false := by
  rw [if0]
  cases cd
  · exact (feq (fun q => h ((lw_eq x y).mp q))).1
  · exact (teq (Classical.byContradiction fun q => h (fun r => q ((lw_eq x y).mpr r)))).2
  · exact (flt (fun q => h ((lw_lt x y).mp q))).1
  · exact (tlt (Classical.byContradiction fun q => h (fun r => q ((lw_lt x y).mpr r)))).2.1
  · exact (flt (fun q => h ((lw_gt x y).mp q))).2.2.1
  · exact (tlt (Classical.byContradiction fun q => h (fun r => q ((lw_gt x y).mpr r)))).2.2.2

theorem own_pd__J_Z : parseMethodDescriptor "(J)Z" = some ⟨[.long], some .boolean⟩ := by decide +kernel
theorem own_pd__J_J : parseMethodDescriptor "(J)J" = some ⟨[.long], some .long⟩ := by decide +kernel
def own_isValid (x0 : Int64) : Int32 := (if x0 < (0 : Int64) then (0 : Int32) else (if (281474976710655 : Int64) < x0 then (0 : Int32) else (1 : Int32)))
theorem own_isValid_b (x0 : Int64) : (own_isValid x0) = 0 ∨ (own_isValid x0) = 1 := by
  unfold own_isValid
  (repeat' split) <;> first | exact Or.inl rfl | exact Or.inr rfl
theorem d_prog_54_method_2_code_0 : decode prog_54_method_2_code 0 = .ok (.lload_n 0, 1) := by decide +kernel
theorem d_prog_54_method_2_code_1 : decode prog_54_method_2_code 1 = .ok (.lconst 0, 1) := by decide +kernel
theorem d_prog_54_method_2_code_2 : decode prog_54_method_2_code 2 = .ok (.lcmp, 1) := by decide +kernel
theorem d_prog_54_method_2_code_3 : decode prog_54_method_2_code 3 = .ok (.ifCond .lt 15, 3) := by decide +kernel
theorem d_prog_54_method_2_code_6 : decode prog_54_method_2_code 6 = .ok (.lload_n 0, 1) := by decide +kernel
theorem d_prog_54_method_2_code_7 : decode prog_54_method_2_code 7 = .ok (.ldc2_w 9, 3) := by decide +kernel
theorem d_prog_54_method_2_code_10 : decode prog_54_method_2_code 10 = .ok (.lcmp, 1) := by decide +kernel
theorem d_prog_54_method_2_code_11 : decode prog_54_method_2_code 11 = .ok (.ifCond .gt 7, 3) := by decide +kernel
theorem d_prog_54_method_2_code_14 : decode prog_54_method_2_code 14 = .ok (.iconst 1, 1) := by decide +kernel
theorem d_prog_54_method_2_code_15 : decode prog_54_method_2_code 15 = .ok (.goto 4, 3) := by decide +kernel
theorem d_prog_54_method_2_code_18 : decode prog_54_method_2_code 18 = .ok (.iconst 0, 1) := by decide +kernel
theorem d_prog_54_method_2_code_19 : decode prog_54_method_2_code 19 = .ok (.ireturn, 1) := by decide +kernel
theorem own_pn1 : plainName "com/example/adige/adige/Seeds" = true := by first | (simp [plainName, overriddenIn]; done) | decide +kernel
theorem own_ef1 (m : MethodId) (x0 : Int64) : entryFrame m #[(.long x0)] 2 = mkF m 0 #[.val (.long x0), .second] [] := by first | (simp [entryFrame, mkF, argsToLocals, Value.category]; done) | rfl
def Q1 (Z : State) (x0 : Int64) (h0 : Heap) (n0 : Nat) (v : Option Value) (h : Heap) (L : List Loc) : Prop := v = some (.int (own_isValid x0)) ∧ Fr n0 L ∧ h = h0
set_option maxRecDepth 65536 in
set_option maxHeartbeats 40000000 in
theorem rm1 (l : Launch) (Z : State) (a0 : Array Value) (hw : ∀ d ∈ tables_1, d.before a0 Z = true) (ws : List Jvm.Cond) (x0 : Int64) (h0 : Heap) (n0 : Nat) (Z0 : n0 ≤ h0.size) :
    MetFree l (⟨"com/example/adige/adige/Seeds", "isValid", "(J)Z"⟩ : MethodName) (head1 (Jvm.Cond.code (⟨"com/example/adige/adige/Seeds", "isValid", "(J)Z"⟩ : MethodName) prog_54_method_2_code 2 (some .boolean) :: ws) ({ frames := 0, cells := 0, slots := 0, locals := 0 } : Room)) (fun a U => a = #[(.long x0)] ∧ Z.Warmed39 U.vm ∧ U.heap = h0) (fun _ _ _ _ _ => True) (fun _ U o U' => ∃ v L, o = .returned v ∧ Q1 Z x0 h0 n0 v U'.heap L ∧ FrameEnd U o U' L ({ frames := 0, cells := 0, slots := 0, locals := 0 } : Room).cells ({ frames := 0, cells := 0, slots := 0, locals := 0 } : Room).slots) := by
  refine MetFree.of_bodySF (plainFor_of_name own_pn1) hisR ?_
  intro p e s m args below meth c s₁ Bd hml0 hP hK
  obtain ⟨rfl, hZ, hh⟩ := hP
  have hx := Bd.exec
  have hby := Bd.bytes
  have hml : c.maxLocals = 2 := hml0
  have hown : s.vm.findClass "com/example/adige/adige/Seeds" = some m.cls := findClass_of_methodNamed Bd.named
  have hnm := (name_of_methodNamed Bd.named Bd.method).1
  have X0 : Stand p l e ({ frames := 0, cells := 0, slots := 0, locals := 0 } : Room) s m #[(.long x0)] below meth c s₁ [] 0 0 := Stand.of_body Bd
  have e0 : s₁.heap = h0 := by rw [← hh, Bd.state]; rfl
  have N0 := Fr.nil n0
  obtain ⟨Pq, hPq⟩ : ∃ P, P = own_P s below (fun v h L => Q1 Z x0 h0 n0 v h L) ({ frames := 0, cells := 0, slots := 0, locals := 0 } : Room).cells ({ frames := 0, cells := 0, slots := 0, locals := 0 } : Room).slots := ⟨_, rfl⟩
  suffices hgo : own_Go p.tables e below Pq s₁ (mkF m 0 #[.val (.long x0), .second] []) by
    subst hPq
    obtain ⟨t, k1, k2, o, k3, k4⟩ := hgo
    exact ⟨t, o, castTop (own_ef1 m x0) k1, k2, k3, k4⟩
  show own_Go _ _ _ _ s₁ (mkF m 0 #[.val (.long x0), .second] [])
  refine own_st (fun t k => XS.lloadN X0.here hx rfl (hb hby d_prog_54_method_2_code_0) rfl k) ?_
  show own_Go _ _ _ _ s₁ (mkF m 1 _ [(.long x0)])
  refine own_st (fun t k => XS.lconst X0.here hx rfl (hb hby d_prog_54_method_2_code_1) k) ?_
  show own_Go _ _ _ _ s₁ (mkF m 2 _ [(.long (0 : Int64)), (.long x0)])
  refine own_st (fun t k => XS.lcmp X0.here hx rfl (hb hby d_prog_54_method_2_code_2) rfl k) ?_
  show own_Go _ _ _ _ s₁ (mkF m 3 _ [(.int (lcmpW x0 (0 : Int64)))])
  have J6 : ∀ (Tj6 : State) (Lj6 : List Loc) (p7 : Int32), Stand p l e ({ frames := 0, cells := 0, slots := 0, locals := 0 } : Room) s m #[(.long x0)] below meth c Tj6 Lj6 0 0 → Tj6.heap = h0 → Fr n0 Lj6 → p7 = (if x0 < (0 : Int64) then (0 : Int32) else (if (281474976710655 : Int64) < x0 then (0 : Int32) else (1 : Int32))) → own_Go p.tables e below Pq Tj6 (mkF m 19 #[.val (.long x0), .second] [(.int p7)]) := by
    intro Tj6 Lj6 p7 Xj6 ej6 Nj6 qp7
    show own_Go _ _ _ _ Tj6 (mkF m 19 _ [(.int p7)])
    have hb_p7 : p7 = 0 ∨ p7 = 1 := by rw [qp7]; (repeat' split) <;> first | exact Or.inl rfl | exact Or.inr rfl | assumption
    subst hPq
    refine own_out Xj6 (v := some (.int p7)) (fun h => by rw [Bd.returns] at h; cases h) Bd.notSynchronized (own_retZ Xj6 hx Bd.returns (hb hby d_prog_54_method_2_code_19) hb_p7) (by decide) (by decide) ?_
    show Q1 Z x0 h0 n0 _ Tj6.heap _
    rw [ej6]
    exact ⟨by subst_vars; rfl, Nj6, rfl⟩
  by_cases c1 : x0 < (0 : Int64)
  · skip
    refine own_st (fun t k => XS.ifYes X0.here hx rfl (pc0 := 3) (pc' := 18) rfl (hb hby d_prog_54_method_2_code_3) rfl (own_lcT (cd := .lt) c1) (by decide) (by decide) k) ?_
    show own_Go _ _ _ _ s₁ (mkF m 18 _ [])
    refine own_st (fun t k => XS.iconst X0.here hx rfl (hb hby d_prog_54_method_2_code_18) k) ?_
    show own_Go _ _ _ _ s₁ (mkF m 19 _ [(.int (0 : Int32))])
    exact J6 s₁ _ _ X0 e0 N0 (by simp only [if_pos c1])
  · skip
    refine own_st (fun t k => XS.ifNo X0.here hx rfl (hb hby d_prog_54_method_2_code_3) rfl (own_lcF (cd := .lt) c1) k) ?_
    show own_Go _ _ _ _ s₁ (mkF m 6 _ [])
    refine own_st (fun t k => XS.lloadN X0.here hx rfl (hb hby d_prog_54_method_2_code_6) rfl k) ?_
    show own_Go _ _ _ _ s₁ (mkF m 7 _ [(.long x0)])
    refine own_st (fun t k => X0.ldc2Long hx hown (mvT hZ (hw _ (List.mem_of_getElem? (i := 9) rfl))) (g := (mkF m 7 #[.val (.long x0), .second] [(.long x0)])) rfl (hb hby d_prog_54_method_2_code_7) _ k) ?_
    show own_Go _ _ _ _ s₁ (mkF m 10 _ [(.long (281474976710655 : Int64)), (.long x0)])
    refine own_st (fun t k => XS.lcmp X0.here hx rfl (hb hby d_prog_54_method_2_code_10) rfl k) ?_
    show own_Go _ _ _ _ s₁ (mkF m 11 _ [(.int (lcmpW x0 (281474976710655 : Int64)))])
    by_cases c3 : (281474976710655 : Int64) < x0
    · skip
      refine own_st (fun t k => XS.ifYes X0.here hx rfl (pc0 := 11) (pc' := 18) rfl (hb hby d_prog_54_method_2_code_11) rfl (own_lcT (cd := .gt) c3) (by decide) (by decide) k) ?_
      show own_Go _ _ _ _ s₁ (mkF m 18 _ [])
      refine own_st (fun t k => XS.iconst X0.here hx rfl (hb hby d_prog_54_method_2_code_18) k) ?_
      show own_Go _ _ _ _ s₁ (mkF m 19 _ [(.int (0 : Int32))])
      exact J6 s₁ _ _ X0 e0 N0 (by simp only [if_neg c1, if_pos c3])
    · skip
      refine own_st (fun t k => XS.ifNo X0.here hx rfl (hb hby d_prog_54_method_2_code_11) rfl (own_lcF (cd := .gt) c3) k) ?_
      show own_Go _ _ _ _ s₁ (mkF m 14 _ [])
      refine own_st (fun t k => XS.iconst X0.here hx rfl (hb hby d_prog_54_method_2_code_14) k) ?_
      show own_Go _ _ _ _ s₁ (mkF m 15 _ [(.int (1 : Int32))])
      refine own_st (fun t k => XS.goto X0.here hx rfl (pc0 := 15) (pc' := 19) rfl (hb hby d_prog_54_method_2_code_15) (by decide) (by decide) k) ?_
      show own_Go _ _ _ _ s₁ (mkF m 19 _ [(.int (1 : Int32))])
      exact J6 s₁ _ _ X0 e0 N0 (by simp only [if_neg c1, if_neg c3])
def own_ref (x0 : Int64) : Int32 := (if ((x0.toUInt64 >>> ((48 : Int32) &&& 0x3f).toInt64.toUInt64).toInt64) = (0 : Int64) then (1 : Int32) else (0 : Int32))
theorem own_ref_b (x0 : Int64) : (own_ref x0) = 0 ∨ (own_ref x0) = 1 := by
  unfold own_ref
  (repeat' split) <;> first | exact Or.inl rfl | exact Or.inr rfl
theorem d_method_2_code_0 : decode method_2_code 0 = .ok (.lload_n 0, 1) := by decide +kernel
theorem d_method_2_code_1 : decode method_2_code 1 = .ok (.bipush 48, 2) := by decide +kernel
theorem d_method_2_code_3 : decode method_2_code 3 = .ok (.lushr, 1) := by decide +kernel
theorem d_method_2_code_4 : decode method_2_code 4 = .ok (.lconst 0, 1) := by decide +kernel
theorem d_method_2_code_5 : decode method_2_code 5 = .ok (.lcmp, 1) := by decide +kernel
theorem d_method_2_code_6 : decode method_2_code 6 = .ok (.ifCond .ne 7, 3) := by decide +kernel
theorem d_method_2_code_9 : decode method_2_code 9 = .ok (.iconst 1, 1) := by decide +kernel
theorem d_method_2_code_10 : decode method_2_code 10 = .ok (.goto 4, 3) := by decide +kernel
theorem d_method_2_code_13 : decode method_2_code 13 = .ok (.iconst 0, 1) := by decide +kernel
theorem d_method_2_code_14 : decode method_2_code 14 = .ok (.ireturn, 1) := by decide +kernel
theorem own_pn2 : plainName "com/example/adige/adige/SeedsIsValidPinLaw" = true := by first | (simp [plainName, overriddenIn]; done) | decide +kernel
theorem own_ef2 (m : MethodId) (x0 : Int64) : entryFrame m #[(.long x0)] 2 = mkF m 0 #[.val (.long x0), .second] [] := by first | (simp [entryFrame, mkF, argsToLocals, Value.category]; done) | rfl
def Q2 (Z : State) (x0 : Int64) (h0 : Heap) (n0 : Nat) (v : Option Value) (h : Heap) (L : List Loc) : Prop := v = some (.int (own_ref x0)) ∧ Fr n0 L ∧ h = h0
set_option maxRecDepth 65536 in
set_option maxHeartbeats 40000000 in
theorem rm2 (l : Launch) (Z : State) (a0 : Array Value) (hw : ∀ d ∈ tables_1, d.before a0 Z = true) (ws : List Jvm.Cond) (x0 : Int64) (h0 : Heap) (n0 : Nat) (Z0 : n0 ≤ h0.size) :
    MetFree l (⟨"com/example/adige/adige/SeedsIsValidPinLaw", "ref", "(J)Z"⟩ : MethodName) (head1 (Jvm.Cond.code (⟨"com/example/adige/adige/SeedsIsValidPinLaw", "ref", "(J)Z"⟩ : MethodName) method_2_code 2 (some .boolean) :: ws) ({ frames := 0, cells := 0, slots := 0, locals := 0 } : Room)) (fun a U => a = #[(.long x0)] ∧ Z.Warmed39 U.vm ∧ U.heap = h0) (fun _ _ _ _ _ => True) (fun _ U o U' => ∃ v L, o = .returned v ∧ Q2 Z x0 h0 n0 v U'.heap L ∧ FrameEnd U o U' L ({ frames := 0, cells := 0, slots := 0, locals := 0 } : Room).cells ({ frames := 0, cells := 0, slots := 0, locals := 0 } : Room).slots) := by
  refine MetFree.of_bodySF (plainFor_of_name own_pn2) hisR ?_
  intro p e s m args below meth c s₁ Bd hml0 hP hK
  obtain ⟨rfl, hZ, hh⟩ := hP
  have hx := Bd.exec
  have hby := Bd.bytes
  have hml : c.maxLocals = 2 := hml0
  have hown : s.vm.findClass "com/example/adige/adige/SeedsIsValidPinLaw" = some m.cls := findClass_of_methodNamed Bd.named
  have hnm := (name_of_methodNamed Bd.named Bd.method).1
  have X0 : Stand p l e ({ frames := 0, cells := 0, slots := 0, locals := 0 } : Room) s m #[(.long x0)] below meth c s₁ [] 0 0 := Stand.of_body Bd
  have e0 : s₁.heap = h0 := by rw [← hh, Bd.state]; rfl
  have N0 := Fr.nil n0
  obtain ⟨Pq, hPq⟩ : ∃ P, P = own_P s below (fun v h L => Q2 Z x0 h0 n0 v h L) ({ frames := 0, cells := 0, slots := 0, locals := 0 } : Room).cells ({ frames := 0, cells := 0, slots := 0, locals := 0 } : Room).slots := ⟨_, rfl⟩
  suffices hgo : own_Go p.tables e below Pq s₁ (mkF m 0 #[.val (.long x0), .second] []) by
    subst hPq
    obtain ⟨t, k1, k2, o, k3, k4⟩ := hgo
    exact ⟨t, o, castTop (own_ef2 m x0) k1, k2, k3, k4⟩
  show own_Go _ _ _ _ s₁ (mkF m 0 #[.val (.long x0), .second] [])
  refine own_st (fun t k => XS.lloadN X0.here hx rfl (hb hby d_method_2_code_0) rfl k) ?_
  show own_Go _ _ _ _ s₁ (mkF m 1 _ [(.long x0)])
  refine own_st (fun t k => XS.bipush X0.here hx rfl (hb hby d_method_2_code_1) k) ?_
  show own_Go _ _ _ _ s₁ (mkF m 3 _ [(.int (48 : Int32)), (.long x0)])
  refine own_st (fun t k => XS.lushr X0.here hx rfl (hb hby d_method_2_code_3) rfl k) ?_
  show own_Go _ _ _ _ s₁ (mkF m 4 _ [(.long ((x0.toUInt64 >>> ((48 : Int32) &&& 0x3f).toInt64.toUInt64).toInt64))])
  refine own_st (fun t k => XS.lconst X0.here hx rfl (hb hby d_method_2_code_4) k) ?_
  show own_Go _ _ _ _ s₁ (mkF m 5 _ [(.long (0 : Int64)), (.long ((x0.toUInt64 >>> ((48 : Int32) &&& 0x3f).toInt64.toUInt64).toInt64))])
  refine own_st (fun t k => XS.lcmp X0.here hx rfl (hb hby d_method_2_code_5) rfl k) ?_
  show own_Go _ _ _ _ s₁ (mkF m 6 _ [(.int (lcmpW ((x0.toUInt64 >>> ((48 : Int32) &&& 0x3f).toInt64.toUInt64).toInt64) (0 : Int64)))])
  have J4 : ∀ (Tj4 : State) (Lj4 : List Loc) (p5 : Int32), Stand p l e ({ frames := 0, cells := 0, slots := 0, locals := 0 } : Room) s m #[(.long x0)] below meth c Tj4 Lj4 0 0 → Tj4.heap = h0 → Fr n0 Lj4 → p5 = (if ((x0.toUInt64 >>> ((48 : Int32) &&& 0x3f).toInt64.toUInt64).toInt64) = (0 : Int64) then (1 : Int32) else (0 : Int32)) → own_Go p.tables e below Pq Tj4 (mkF m 14 #[.val (.long x0), .second] [(.int p5)]) := by
    intro Tj4 Lj4 p5 Xj4 ej4 Nj4 qp5
    show own_Go _ _ _ _ Tj4 (mkF m 14 _ [(.int p5)])
    have hb_p5 : p5 = 0 ∨ p5 = 1 := by rw [qp5]; (repeat' split) <;> first | exact Or.inl rfl | exact Or.inr rfl | assumption
    subst hPq
    refine own_out Xj4 (v := some (.int p5)) (fun h => by rw [Bd.returns] at h; cases h) Bd.notSynchronized (own_retZ Xj4 hx Bd.returns (hb hby d_method_2_code_14) hb_p5) (by decide) (by decide) ?_
    show Q2 Z x0 h0 n0 _ Tj4.heap _
    rw [ej4]
    exact ⟨by subst_vars; rfl, Nj4, rfl⟩
  by_cases c1 : ((x0.toUInt64 >>> ((48 : Int32) &&& 0x3f).toInt64.toUInt64).toInt64) = (0 : Int64)
  · skip
    refine own_st (fun t k => XS.ifNo X0.here hx rfl (hb hby d_method_2_code_6) rfl (own_lcF (cd := .ne) (not_not_intro c1)) k) ?_
    show own_Go _ _ _ _ s₁ (mkF m 9 _ [])
    refine own_st (fun t k => XS.iconst X0.here hx rfl (hb hby d_method_2_code_9) k) ?_
    show own_Go _ _ _ _ s₁ (mkF m 10 _ [(.int (1 : Int32))])
    refine own_st (fun t k => XS.goto X0.here hx rfl (pc0 := 10) (pc' := 14) rfl (hb hby d_method_2_code_10) (by decide) (by decide) k) ?_
    show own_Go _ _ _ _ s₁ (mkF m 14 _ [(.int (1 : Int32))])
    exact J4 s₁ _ _ X0 e0 N0 (by simp only [if_pos c1])
  · skip
    refine own_st (fun t k => XS.ifYes X0.here hx rfl (pc0 := 6) (pc' := 13) rfl (hb hby d_method_2_code_6) rfl (own_lcT (cd := .ne) c1) (by decide) (by decide) k) ?_
    show own_Go _ _ _ _ s₁ (mkF m 13 _ [])
    refine own_st (fun t k => XS.iconst X0.here hx rfl (hb hby d_method_2_code_13) k) ?_
    show own_Go _ _ _ _ s₁ (mkF m 14 _ [(.int (0 : Int32))])
    exact J4 s₁ _ _ X0 e0 N0 (by simp only [if_neg c1])
def own_check (x0 : Int64) : Int32 := (if (own_isValid x0) = (own_ref x0) then (1 : Int32) else (0 : Int32))
theorem own_check_b (x0 : Int64) : (own_check x0) = 0 ∨ (own_check x0) = 1 := by
  unfold own_check
  (repeat' split) <;> first | exact Or.inl rfl | exact Or.inr rfl | exact own_isValid_b _ | exact own_ref_b _
theorem d_method_3_code_0 : decode method_3_code 0 = .ok (.lload_n 0, 1) := by decide +kernel
theorem d_method_3_code_1 : decode method_3_code 1 = .ok (.invokestatic 7, 3) := by decide +kernel
theorem d_method_3_code_4 : decode method_3_code 4 = .ok (.lload_n 0, 1) := by decide +kernel
theorem d_method_3_code_5 : decode method_3_code 5 = .ok (.invokestatic 13, 3) := by decide +kernel
theorem d_method_3_code_8 : decode method_3_code 8 = .ok (.if_icmp .ne 7, 3) := by decide +kernel
theorem d_method_3_code_11 : decode method_3_code 11 = .ok (.iconst 1, 1) := by decide +kernel
theorem d_method_3_code_12 : decode method_3_code 12 = .ok (.goto 4, 3) := by decide +kernel
theorem d_method_3_code_15 : decode method_3_code 15 = .ok (.iconst 0, 1) := by decide +kernel
theorem d_method_3_code_16 : decode method_3_code 16 = .ok (.ireturn, 1) := by decide +kernel
theorem own_pn3 : plainName "com/example/adige/adige/SeedsIsValidPinLaw" = true := by first | (simp [plainName, overriddenIn]; done) | decide +kernel
theorem own_ef3 (m : MethodId) (x0 : Int64) : entryFrame m #[(.long x0)] 2 = mkF m 0 #[.val (.long x0), .second] [] := by first | (simp [entryFrame, mkF, argsToLocals, Value.category]; done) | rfl
def Q3 (Z : State) (x0 : Int64) (h0 : Heap) (n0 : Nat) (v : Option Value) (h : Heap) (L : List Loc) : Prop := v = some (.int (own_check x0)) ∧ Fr n0 L ∧ h = h0
set_option maxRecDepth 65536 in
set_option maxHeartbeats 40000000 in
theorem rm3 (l : Launch) (Z : State) (a0 : Array Value) (hw : ∀ d ∈ tables_1, d.before a0 Z = true) (ws : List Jvm.Cond) (x0 : Int64) (h0 : Heap) (n0 : Nat) (Z0 : n0 ≤ h0.size) :
    MetFree l (⟨"com/example/adige/adige/SeedsIsValidPinLaw", "check", "(J)Z"⟩ : MethodName) (head1 (Jvm.Cond.code (⟨"com/example/adige/adige/SeedsIsValidPinLaw", "check", "(J)Z"⟩ : MethodName) method_3_code 2 (some .boolean) :: ws) ({ frames := 1, cells := 0, slots := 0, locals := 14 } : Room)) (fun a U => a = #[(.long x0)] ∧ Z.Warmed39 U.vm ∧ U.heap = h0) (fun _ _ _ _ _ => True) (fun _ U o U' => ∃ v L, o = .returned v ∧ Q3 Z x0 h0 n0 v U'.heap L ∧ FrameEnd U o U' L ({ frames := 1, cells := 0, slots := 0, locals := 14 } : Room).cells ({ frames := 1, cells := 0, slots := 0, locals := 14 } : Room).slots) := by
  refine MetFree.of_bodySF (plainFor_of_name own_pn3) hisR ?_
  intro p e s m args below meth c s₁ Bd hml0 hP hK
  obtain ⟨rfl, hZ, hh⟩ := hP
  have hx := Bd.exec
  have hby := Bd.bytes
  have hml : c.maxLocals = 2 := hml0
  have hown : s.vm.findClass "com/example/adige/adige/SeedsIsValidPinLaw" = some m.cls := findClass_of_methodNamed Bd.named
  have hnm := (name_of_methodNamed Bd.named Bd.method).1
  have X0 : Stand p l e ({ frames := 1, cells := 0, slots := 0, locals := 14 } : Room) s m #[(.long x0)] below meth c s₁ [] 0 0 := Stand.of_body Bd
  have e0 : s₁.heap = h0 := by rw [← hh, Bd.state]; rfl
  have N0 := Fr.nil n0
  obtain ⟨Pq, hPq⟩ : ∃ P, P = own_P s below (fun v h L => Q3 Z x0 h0 n0 v h L) ({ frames := 1, cells := 0, slots := 0, locals := 14 } : Room).cells ({ frames := 1, cells := 0, slots := 0, locals := 14 } : Room).slots := ⟨_, rfl⟩
  suffices hgo : own_Go p.tables e below Pq s₁ (mkF m 0 #[.val (.long x0), .second] []) by
    subst hPq
    obtain ⟨t, k1, k2, o, k3, k4⟩ := hgo
    exact ⟨t, o, castTop (own_ef3 m x0) k1, k2, k3, k4⟩
  show own_Go _ _ _ _ s₁ (mkF m 0 #[.val (.long x0), .second] [])
  refine own_st (fun t k => XS.lloadN X0.here hx rfl (hb hby d_method_3_code_0) rfl k) ?_
  show own_Go _ _ _ _ s₁ (mkF m 1 _ [(.long x0)])
  obtain ⟨_, _, ⟨T1, L1, k1, n1⟩, -, X1, ⟨Lc1, hQ1, l1, y1, z1⟩, st1⟩ := Jvm.LawKit.callS X0 hx (y := (⟨"com/example/adige/adige/Seeds", "isValid", "(J)Z"⟩ : MethodName)) hown (mvT hZ (hw _ (List.mem_of_getElem? (i := 5) rfl))) (mvT hZ (hw _ (List.mem_of_getElem? (i := 6) rfl))) (mvT hZ (hw _ (List.mem_of_getElem? (i := 7) rfl))) (mvT hZ (hw _ (List.mem_of_getElem? (i := 8) rfl))) (by decide) (backOf (W := 0) (rm1 l Z a0 hw [] x0 h0 n0 Z0 ) hZ (hw _ (List.mem_of_getElem? (i := 8) rfl)) (hw _ (List.mem_of_getElem? (i := 7) rfl)) (by decide) (by decide)) (g := (mkF m 1 #[.val (.long x0), .second] [(.long x0)])) rfl (by rw [hml]; rfl) (argsL := [(.long x0)]) (rest := []) (lenOf own_pd__J_Z rfl) rfl (by show 2 * 0 + _ ≤ _; exact Nat.le_of_eq rfl) (hb hby d_method_3_code_1) (fun _ _ => ⟨rfl, e0, (by decide : 0 + 0 ≤ _), (by decide : 0 + 0 ≤ _)⟩)
  dsimp only [Pt.U, Pt.locs, Pt.cells, Pt.slots] at X1 l1 y1 z1 st1 hQ1
  subst l1 y1 z1
  obtain ⟨rfl, NQ1, eq1⟩ := hQ1
  have N2 := Fr.app N0 NQ1
  refine own_st st1 ?_
  show own_Go _ _ _ _ T1 (mkF m 4 _ [(.int (own_isValid x0))])
  refine own_st (fun t k => XS.lloadN X1.here hx rfl (hb hby d_method_3_code_4) rfl k) ?_
  show own_Go _ _ _ _ T1 (mkF m 5 _ [(.long x0), (.int (own_isValid x0))])
  obtain ⟨_, _, ⟨T3, L3, k3, n3⟩, -, X3, ⟨Lc3, hQ3, l3, y3, z3⟩, st3⟩ := Jvm.LawKit.callS X1 hx (y := (⟨"com/example/adige/adige/SeedsIsValidPinLaw", "ref", "(J)Z"⟩ : MethodName)) hown (mvT hZ (hw _ (List.mem_of_getElem? (i := 10) rfl))) (mvT hZ (hw _ (List.mem_of_getElem? (i := 11) rfl))) (mvT hZ (hw _ (List.mem_of_getElem? (i := 3) rfl))) (mvT hZ (hw _ (List.mem_of_getElem? (i := 12) rfl))) (by decide) (backOf (W := 1) (rm2 l Z a0 hw [] x0 h0 n0 Z0 ) hZ (hw _ (List.mem_of_getElem? (i := 12) rfl)) (hw _ (List.mem_of_getElem? (i := 3) rfl)) (by decide) (by decide)) (g := (mkF m 5 #[.val (.long x0), .second] [(.long x0), (.int (own_isValid x0))])) rfl (by rw [hml]; rfl) (argsL := [(.long x0)]) (rest := [(.int (own_isValid x0))]) (lenOf own_pd__J_Z rfl) rfl (by show 2 * 0 + _ ≤ _; exact Nat.le_of_eq rfl) (hb hby d_method_3_code_5) (fun _ _ => ⟨rfl, eq1, (by decide : 0 + 0 ≤ _), (by decide : 0 + 0 ≤ _)⟩)
  dsimp only [Pt.U, Pt.locs, Pt.cells, Pt.slots] at X3 l3 y3 z3 st3 hQ3
  subst l3 y3 z3
  obtain ⟨rfl, NQ3, eq3⟩ := hQ3
  have N4 := Fr.app N2 NQ3
  refine own_st st3 ?_
  show own_Go _ _ _ _ T3 (mkF m 8 _ [(.int (own_ref x0)), (.int (own_isValid x0))])
  have J8 : ∀ (Tj8 : State) (Lj8 : List Loc) (p9 : Int32), Stand p l e ({ frames := 1, cells := 0, slots := 0, locals := 14 } : Room) s m #[(.long x0)] below meth c Tj8 Lj8 0 0 → Tj8.heap = h0 → Fr n0 Lj8 → p9 = (if (own_isValid x0) = (own_ref x0) then (1 : Int32) else (0 : Int32)) → own_Go p.tables e below Pq Tj8 (mkF m 16 #[.val (.long x0), .second] [(.int p9)]) := by
    intro Tj8 Lj8 p9 Xj8 ej8 Nj8 qp9
    show own_Go _ _ _ _ Tj8 (mkF m 16 _ [(.int p9)])
    have hb_p9 : p9 = 0 ∨ p9 = 1 := by rw [qp9]; (repeat' split) <;> first | exact Or.inl rfl | exact Or.inr rfl | assumption | exact own_isValid_b _ | exact own_ref_b _
    subst hPq
    refine own_out Xj8 (v := some (.int p9)) (fun h => by rw [Bd.returns] at h; cases h) Bd.notSynchronized (own_retZ Xj8 hx Bd.returns (hb hby d_method_3_code_16) hb_p9) (by decide) (by decide) ?_
    show Q3 Z x0 h0 n0 _ Tj8.heap _
    rw [ej8]
    exact ⟨by subst_vars; rfl, Nj8, rfl⟩
  by_cases c5 : (own_isValid x0) = (own_ref x0)
  · skip
    refine own_st (fun t k => XS.icmpNo X3.here hx rfl (hb hby d_method_3_code_8) rfl (teq c5).2 k) ?_
    show own_Go _ _ _ _ T3 (mkF m 11 _ [])
    refine own_st (fun t k => XS.iconst X3.here hx rfl (hb hby d_method_3_code_11) k) ?_
    show own_Go _ _ _ _ T3 (mkF m 12 _ [(.int (1 : Int32))])
    refine own_st (fun t k => XS.goto X3.here hx rfl (pc0 := 12) (pc' := 16) rfl (hb hby d_method_3_code_12) (by decide) (by decide) k) ?_
    show own_Go _ _ _ _ T3 (mkF m 16 _ [(.int (1 : Int32))])
    exact J8 T3 _ _ X3 eq3 N4 (by simp only [if_pos c5])
  · skip
    refine own_st (fun t k => XS.icmpYes X3.here hx rfl (pc0 := 8) (pc' := 15) rfl (hb hby d_method_3_code_8) rfl (feq c5).2 (by decide) (by decide) k) ?_
    show own_Go _ _ _ _ T3 (mkF m 15 _ [])
    refine own_st (fun t k => XS.iconst X3.here hx rfl (hb hby d_method_3_code_15) k) ?_
    show own_Go _ _ _ _ T3 (mkF m 16 _ [(.int (0 : Int32))])
    exact J8 T3 _ _ X3 eq3 N4 (by simp only [if_neg c5])
def own_abs (x0 : Int64) : Int64 := (if x0 < (0 : Int64) then (-x0) else x0)
theorem d_jdk_29_method_61_code_0 : decode jdk_29_method_61_code 0 = .ok (.lload_n 0, 1) := by decide +kernel
theorem d_jdk_29_method_61_code_1 : decode jdk_29_method_61_code 1 = .ok (.lconst 0, 1) := by decide +kernel
theorem d_jdk_29_method_61_code_2 : decode jdk_29_method_61_code 2 = .ok (.lcmp, 1) := by decide +kernel
theorem d_jdk_29_method_61_code_3 : decode jdk_29_method_61_code 3 = .ok (.ifCond .ge 8, 3) := by decide +kernel
theorem d_jdk_29_method_61_code_6 : decode jdk_29_method_61_code 6 = .ok (.lload_n 0, 1) := by decide +kernel
theorem d_jdk_29_method_61_code_7 : decode jdk_29_method_61_code 7 = .ok (.lneg, 1) := by decide +kernel
theorem d_jdk_29_method_61_code_8 : decode jdk_29_method_61_code 8 = .ok (.goto 4, 3) := by decide +kernel
theorem d_jdk_29_method_61_code_11 : decode jdk_29_method_61_code 11 = .ok (.lload_n 0, 1) := by decide +kernel
theorem d_jdk_29_method_61_code_12 : decode jdk_29_method_61_code 12 = .ok (.lreturn, 1) := by decide +kernel
theorem own_ef4 (m : MethodId) (x0 : Int64) : entryFrame m #[(.long x0)] 2 = mkF m 0 #[.val (.long x0), .second] [] := by first | (simp [entryFrame, mkF, argsToLocals, Value.category]; done) | rfl
def Q4 (Z : State) (x0 : Int64) (h0 : Heap) (n0 : Nat) (v : Option Value) (h : Heap) (L : List Loc) : Prop := v = some (.long (own_abs x0)) ∧ Fr n0 L ∧ h = h0
set_option maxRecDepth 65536 in
set_option maxHeartbeats 40000000 in
theorem rm4 (l : Launch) (Z : State) (a0 : Array Value) (hw : ∀ d ∈ tables_1, d.before a0 Z = true) (ws : List Jvm.Cond) (x0 : Int64) (h0 : Heap) (n0 : Nat) (Z0 : n0 ≤ h0.size) :
    MetFree l (⟨"java/lang/Math", "abs", "(J)J"⟩ : MethodName) (head1 (Jvm.Cond.code (⟨"java/lang/Math", "abs", "(J)J"⟩ : MethodName) jdk_29_method_61_code 2 (some .long) :: ws) ({ frames := 0, cells := 0, slots := 0, locals := 0 } : Room)) (fun a U => a = #[(.long x0)] ∧ Z.Warmed39 U.vm ∧ U.heap = h0) (fun _ _ _ _ _ => True) (fun _ U o U' => ∃ v L, o = .returned v ∧ Q4 Z x0 h0 n0 v U'.heap L ∧ FrameEnd U o U' L ({ frames := 0, cells := 0, slots := 0, locals := 0 } : Room).cells ({ frames := 0, cells := 0, slots := 0, locals := 0 } : Room).slots) := by
  refine MetFree.of_bodySF (Jvm.Free.JP.mathPlain rfl (by decide +kernel)) hisR ?_
  intro p e s m args below meth c s₁ Bd hml0 hP hK
  obtain ⟨rfl, hZ, hh⟩ := hP
  have hx := Bd.exec
  have hby := Bd.bytes
  have hml : c.maxLocals = 2 := hml0
  have hown : s.vm.findClass "java/lang/Math" = some m.cls := findClass_of_methodNamed Bd.named
  have hnm := (name_of_methodNamed Bd.named Bd.method).1
  have X0 : Stand p l e ({ frames := 0, cells := 0, slots := 0, locals := 0 } : Room) s m #[(.long x0)] below meth c s₁ [] 0 0 := Stand.of_body Bd
  have e0 : s₁.heap = h0 := by rw [← hh, Bd.state]; rfl
  have N0 := Fr.nil n0
  obtain ⟨Pq, hPq⟩ : ∃ P, P = own_P s below (fun v h L => Q4 Z x0 h0 n0 v h L) ({ frames := 0, cells := 0, slots := 0, locals := 0 } : Room).cells ({ frames := 0, cells := 0, slots := 0, locals := 0 } : Room).slots := ⟨_, rfl⟩
  suffices hgo : own_Go p.tables e below Pq s₁ (mkF m 0 #[.val (.long x0), .second] []) by
    subst hPq
    obtain ⟨t, k1, k2, o, k3, k4⟩ := hgo
    exact ⟨t, o, castTop (own_ef4 m x0) k1, k2, k3, k4⟩
  show own_Go _ _ _ _ s₁ (mkF m 0 #[.val (.long x0), .second] [])
  refine own_st (fun t k => XS.lloadN X0.here hx rfl (hb hby d_jdk_29_method_61_code_0) rfl k) ?_
  show own_Go _ _ _ _ s₁ (mkF m 1 _ [(.long x0)])
  refine own_st (fun t k => XS.lconst X0.here hx rfl (hb hby d_jdk_29_method_61_code_1) k) ?_
  show own_Go _ _ _ _ s₁ (mkF m 2 _ [(.long (0 : Int64)), (.long x0)])
  refine own_st (fun t k => XS.lcmp X0.here hx rfl (hb hby d_jdk_29_method_61_code_2) rfl k) ?_
  show own_Go _ _ _ _ s₁ (mkF m 3 _ [(.int (lcmpW x0 (0 : Int64)))])
  have J4 : ∀ (Tj4 : State) (Lj4 : List Loc) (p5 : Int64), Stand p l e ({ frames := 0, cells := 0, slots := 0, locals := 0 } : Room) s m #[(.long x0)] below meth c Tj4 Lj4 0 0 → Tj4.heap = h0 → Fr n0 Lj4 → p5 = (if x0 < (0 : Int64) then (-x0) else x0) → own_Go p.tables e below Pq Tj4 (mkF m 12 #[.val (.long x0), .second] [(.long p5)]) := by
    intro Tj4 Lj4 p5 Xj4 ej4 Nj4 qp5
    show own_Go _ _ _ _ Tj4 (mkF m 12 _ [(.long p5)])
    subst hPq
    refine own_out Xj4 (v := some (.long p5)) (fun h => by rw [Bd.returns] at h; cases h) Bd.notSynchronized (own_retJ Xj4 hx Bd.returns (hb hby d_jdk_29_method_61_code_12)) (by decide) (by decide) ?_
    show Q4 Z x0 h0 n0 _ Tj4.heap _
    rw [ej4]
    exact ⟨by subst_vars; rfl, Nj4, rfl⟩
  by_cases c1 : x0 < (0 : Int64)
  · skip
    refine own_st (fun t k => XS.ifNo X0.here hx rfl (hb hby d_jdk_29_method_61_code_3) rfl (own_lcF (cd := .ge) (not_not_intro c1)) k) ?_
    show own_Go _ _ _ _ s₁ (mkF m 6 _ [])
    refine own_st (fun t k => XS.lloadN X0.here hx rfl (hb hby d_jdk_29_method_61_code_6) rfl k) ?_
    show own_Go _ _ _ _ s₁ (mkF m 7 _ [(.long x0)])
    refine own_st (fun t k => XS.lneg X0.here hx rfl (hb hby d_jdk_29_method_61_code_7) rfl k) ?_
    show own_Go _ _ _ _ s₁ (mkF m 8 _ [(.long (-x0))])
    refine own_st (fun t k => XS.goto X0.here hx rfl (pc0 := 8) (pc' := 12) rfl (hb hby d_jdk_29_method_61_code_8) (by decide) (by decide) k) ?_
    show own_Go _ _ _ _ s₁ (mkF m 12 _ [(.long (-x0))])
    exact J4 s₁ _ _ X0 e0 N0 (by simp only [if_pos c1])
  · skip
    refine own_st (fun t k => XS.ifYes X0.here hx rfl (pc0 := 3) (pc' := 11) rfl (hb hby d_jdk_29_method_61_code_3) rfl (own_lcT (cd := .ge) c1) (by decide) (by decide) k) ?_
    show own_Go _ _ _ _ s₁ (mkF m 11 _ [])
    refine own_st (fun t k => XS.lloadN X0.here hx rfl (hb hby d_jdk_29_method_61_code_11) rfl k) ?_
    show own_Go _ _ _ _ s₁ (mkF m 12 _ [(.long x0)])
    exact J4 s₁ _ _ X0 e0 N0 (by simp only [if_neg c1])
theorem own_chk (x : Int64) : own_check x = 1 := by
  have e : (((x.toUInt64 >>> ((48 : Int32) &&& 0x3f).toInt64.toUInt64).toInt64) = (0 : Int64)) ↔ (¬ x < 0 ∧ ¬ (281474976710655 : Int64) < x) := by
    have e1 : ((48 : Int32) &&& 0x3f).toInt64.toUInt64 = 48 := by decide
    rw [e1, ← Int64.toBitVec_inj, UInt64.toBitVec_toInt64, UInt64.toBitVec_shiftRight, Int64.toBitVec_toUInt64]
    rw [Int64.lt_iff_toInt_lt, Int64.lt_iff_toInt_lt, show (281474976710655 : Int64).toInt = 281474976710655 from rfl, show (0 : Int64).toInt = 0 from rfl]
    have e2 : x.toInt = x.toBitVec.toInt := rfl
    rw [e2, BitVec.toInt_eq_toNat_cond]
    generalize x.toBitVec = b
    have hb := b.isLt
    have e3 : (b >>> (UInt64.toBitVec 48 % 64) = (0 : Int64).toBitVec) ↔ b.toNat / 2 ^ 48 = 0 := by
      rw [← BitVec.toNat_inj]
      show (b >>> (UInt64.toBitVec 48 % 64)).toNat = 0 ↔ _
      rw [show b >>> (UInt64.toBitVec 48 % 64) = b >>> (48 : Nat) from rfl, BitVec.toNat_ushiftRight, Nat.shiftRight_eq_div_pow]
    rw [e3]
    split <;> omega
  unfold own_check own_isValid own_ref
  by_cases a : x < 0
  · rw [if_pos a, if_neg (fun q => (e.mp q).1 a)]; rfl
  · rw [if_neg a]
    by_cases b : (281474976710655 : Int64) < x
    · rw [if_pos b, if_neg (fun q => (e.mp q).2 b)]; rfl
    · rw [if_neg b, if_pos (e.mpr ⟨a, b⟩)]; rfl
theorem own_pn0 : plainName "com/example/adige/adige/SeedsIsValidPinLaw" = true := by first | (simp [plainName, overriddenIn]; done) | decide +kernel
theorem own_ef0 (m : MethodId) (x0 : Int64) (x1 : Int32) : entryFrame m #[(.long x0), (.int x1)] maxLocals = mkF m 0 #[.val (.long x0), .second, .val (.int x1), .unset, .unset, .unset, .unset, .unset, .unset, .unset, .unset, .unset] [] := by first | (simp [entryFrame, mkF, argsToLocals, Value.category, maxLocals]; done) | rfl
def Q0 (Z : State) (x0 : Int64) (x1 : Int32) (h0 : Heap) (n0 : Nat) (v : Option Value) (h : Heap) (L : List Loc) : Prop := v = some (.int 1) ∧ Fr n0 L
theorem own_law (x0 : Int64) (x1 : Int32) (v1 : Int64) (v4 : Int32) (v7 : Int32) (v10 : Int32) (v15 : Int32) (v20 : Int32) (p33 : Int32) (hv1 : (x1 >>> ((16 : Int32) &&& 31)).toInt64 = v1) (hv4 : (own_check x0) = v4) (hv7 : (own_check v1) = v7) (hv10 : (own_check ((281474976710655 : Int64) + v1)) = v10) (hv15 : (own_check ((-9223372036854775808 : Int64) + (own_abs v1))) = v15) (hv20 : (own_check ((9223372036854775807 : Int64) - (own_abs v1))) = v20) (qp33 : p33 = (if v4 = (0 : Int32) then (0 : Int32) else (if v7 = (0 : Int32) then (0 : Int32) else (if v10 = (0 : Int32) then (0 : Int32) else (if v15 = (0 : Int32) then (0 : Int32) else (if v20 = (0 : Int32) then (0 : Int32) else (1 : Int32))))))) : p33 = 1 := by
  rw [own_chk] at hv4 hv7 hv10 hv15 hv20
  subst hv4 hv7 hv10 hv15 hv20
  rw [qp33]; decide
set_option maxRecDepth 65536 in
set_option maxHeartbeats 40000000 in
theorem rm0 (l : Launch) (Z : State) (a0 : Array Value) (hw : ∀ d ∈ tables_1, d.before a0 Z = true) (ws : List Jvm.Cond) (x0 : Int64) (x1 : Int32) (h0 : Heap) (n0 : Nat) (Z0 : n0 ≤ h0.size) :
    MetFree l x (head1 (Jvm.Cond.code x code maxLocals ret :: ws) room_1) (fun a U => a = #[(.long x0), (.int x1)] ∧ Z.Warmed39 U.vm ∧ U.heap = h0) (fun _ _ _ _ _ => True) (fun _ U o U' => ∃ v L, o = .returned v ∧ Q0 Z x0 x1 h0 n0 v U'.heap L ∧ FrameEnd U o U' L 0 0) := by
  refine MetFree.of_bodySF (plainFor_of_name own_pn0) hisR ?_
  intro p e s m args below meth c s₁ Bd hml0 hP hK
  obtain ⟨rfl, hZ, hh⟩ := hP
  have hx := Bd.exec
  have hby := Bd.bytes
  have hml : c.maxLocals = 12 := hml0
  have hown : s.vm.findClass "com/example/adige/adige/SeedsIsValidPinLaw" = some m.cls := findClass_of_methodNamed Bd.named
  have hnm := (name_of_methodNamed Bd.named Bd.method).1
  have X0 : Stand p l e room_1 s m #[(.long x0), (.int x1)] below meth c s₁ [] 0 0 := Stand.of_body Bd
  have e0 : s₁.heap = h0 := by rw [← hh, Bd.state]; rfl
  have N0 := Fr.nil n0
  obtain ⟨Pq, hPq⟩ : ∃ P, P = own_P s below (fun v h L => Q0 Z x0 x1 h0 n0 v h L) 0 0 := ⟨_, rfl⟩
  suffices hgo : own_Go p.tables e below Pq s₁ (mkF m 0 #[.val (.long x0), .second, .val (.int x1), .unset, .unset, .unset, .unset, .unset, .unset, .unset, .unset, .unset] []) by
    subst hPq
    obtain ⟨t, k1, k2, o, k3, k4⟩ := hgo
    exact ⟨t, o, castTop (own_ef0 m x0 x1) k1, k2, k3, k4⟩
  show own_Go _ _ _ _ s₁ (mkF m 0 #[.val (.long x0), .second, .val (.int x1), .unset, .unset, .unset, .unset, .unset, .unset, .unset, .unset, .unset] [])
  refine own_st (fun t k => XS.iloadN X0.here hx rfl (hb hby at_0) rfl k) ?_
  show own_Go _ _ _ _ s₁ (mkF m 1 _ [(.int x1)])
  refine own_st (fun t k => XS.bipush X0.here hx rfl (hb hby at_1) k) ?_
  show own_Go _ _ _ _ s₁ (mkF m 3 _ [(.int (16 : Int32)), (.int x1)])
  refine own_st (fun t k => XS.ishr X0.here hx rfl (hb hby at_3) rfl k) ?_
  show own_Go _ _ _ _ s₁ (mkF m 4 _ [(.int (x1 >>> ((16 : Int32) &&& 31)))])
  refine own_st (fun t k => XS.i2l X0.here hx rfl (hb hby at_4) rfl k) ?_
  show own_Go _ _ _ _ s₁ (mkF m 5 _ [(.long (x1 >>> ((16 : Int32) &&& 31)).toInt64)])
  generalize hv1 : (x1 >>> ((16 : Int32) &&& 31)).toInt64 = v1
  refine own_st (fun t k => XS.lstoreN X0.here hx rfl (hb hby at_5) rfl (l' := #[.val (.long x0), .second, .val (.int x1), .val (.long v1), .second, .unset, .unset, .unset, .unset, .unset, .unset, .unset]) rfl k) ?_
  show own_Go _ _ _ _ s₁ (mkF m 6 #[.val (.long x0), .second, .val (.int x1), .val (.long v1), .second, .unset, .unset, .unset, .unset, .unset, .unset, .unset] [])
  refine own_st (fun t k => X0.ldc2Long hx hown (mvT hZ (hw _ (List.mem_of_getElem? (i := 0) rfl))) (g := (mkF m 6 #[.val (.long x0), .second, .val (.int x1), .val (.long v1), .second, .unset, .unset, .unset, .unset, .unset, .unset, .unset] [])) rfl (hb hby at_6) _ k) ?_
  show own_Go _ _ _ _ s₁ (mkF m 9 _ [(.long (281474976710655 : Int64))])
  refine own_st (fun t k => XS.lstore X0.here hx rfl (hb hby at_9) rfl (l' := #[.val (.long x0), .second, .val (.int x1), .val (.long v1), .second, .val (.long (281474976710655 : Int64)), .second, .unset, .unset, .unset, .unset, .unset]) rfl k) ?_
  show own_Go _ _ _ _ s₁ (mkF m 11 #[.val (.long x0), .second, .val (.int x1), .val (.long v1), .second, .val (.long (281474976710655 : Int64)), .second, .unset, .unset, .unset, .unset, .unset] [])
  refine own_st (fun t k => XS.lloadN X0.here hx rfl (hb hby at_11) rfl k) ?_
  show own_Go _ _ _ _ s₁ (mkF m 12 _ [(.long x0)])
  obtain ⟨_, _, ⟨T2, L2, k2, n2⟩, -, X2, ⟨Lc2, hQ2, l2, y2, z2⟩, st2⟩ := Jvm.LawKit.callS X0 hx (y := (⟨"com/example/adige/adige/SeedsIsValidPinLaw", "check", "(J)Z"⟩ : MethodName)) hown (mvT hZ (hw _ (List.mem_of_getElem? (i := 1) rfl))) (mvT hZ (hw _ (List.mem_of_getElem? (i := 2) rfl))) (mvT hZ (hw _ (List.mem_of_getElem? (i := 3) rfl))) (mvT hZ (hw _ (List.mem_of_getElem? (i := 4) rfl))) (by decide) (backOf (W := 0) (rm3 l Z a0 hw [] x0 h0 n0 Z0 ) hZ (hw _ (List.mem_of_getElem? (i := 4) rfl)) (hw _ (List.mem_of_getElem? (i := 3) rfl)) (by decide) (by decide)) (g := (mkF m 12 #[.val (.long x0), .second, .val (.int x1), .val (.long v1), .second, .val (.long (281474976710655 : Int64)), .second, .unset, .unset, .unset, .unset, .unset] [(.long x0)])) rfl (by rw [hml]; rfl) (argsL := [(.long x0)]) (rest := []) (lenOf own_pd__J_Z rfl) rfl (by show 2 * 0 + _ ≤ _; exact Nat.le_of_eq rfl) (hb hby at_12) (fun _ _ => ⟨rfl, e0, (by decide : 0 + 0 ≤ _), (by decide : 0 + 0 ≤ _)⟩)
  dsimp only [Pt.U, Pt.locs, Pt.cells, Pt.slots] at X2 l2 y2 z2 st2 hQ2
  subst l2 y2 z2
  obtain ⟨rfl, NQ2, eq2⟩ := hQ2
  have N3 := Fr.app N0 NQ2
  refine own_st st2 ?_
  show own_Go _ _ _ _ T2 (mkF m 15 _ [(.int (own_check x0))])
  generalize hv4 : (own_check x0) = v4
  refine own_st (fun t k => XS.istore X2.here hx rfl (hb hby at_15) rfl (l' := #[.val (.long x0), .second, .val (.int x1), .val (.long v1), .second, .val (.long (281474976710655 : Int64)), .second, .val (.int v4), .unset, .unset, .unset, .unset]) rfl k) ?_
  show own_Go _ _ _ _ T2 (mkF m 17 #[.val (.long x0), .second, .val (.int x1), .val (.long v1), .second, .val (.long (281474976710655 : Int64)), .second, .val (.int v4), .unset, .unset, .unset, .unset] [])
  refine own_st (fun t k => XS.lloadN X2.here hx rfl (hb hby at_17) rfl k) ?_
  show own_Go _ _ _ _ T2 (mkF m 18 _ [(.long v1)])
  obtain ⟨_, _, ⟨T5, L5, k5, n5⟩, -, X5, ⟨Lc5, hQ5, l5, y5, z5⟩, st5⟩ := Jvm.LawKit.callS X2 hx (y := (⟨"com/example/adige/adige/SeedsIsValidPinLaw", "check", "(J)Z"⟩ : MethodName)) hown (mvT hZ (hw _ (List.mem_of_getElem? (i := 1) rfl))) (mvT hZ (hw _ (List.mem_of_getElem? (i := 2) rfl))) (mvT hZ (hw _ (List.mem_of_getElem? (i := 3) rfl))) (mvT hZ (hw _ (List.mem_of_getElem? (i := 4) rfl))) (by decide) (backOf (W := 0) (rm3 l Z a0 hw [] v1 h0 n0 Z0 ) hZ (hw _ (List.mem_of_getElem? (i := 4) rfl)) (hw _ (List.mem_of_getElem? (i := 3) rfl)) (by decide) (by decide)) (g := (mkF m 18 #[.val (.long x0), .second, .val (.int x1), .val (.long v1), .second, .val (.long (281474976710655 : Int64)), .second, .val (.int v4), .unset, .unset, .unset, .unset] [(.long v1)])) rfl (by rw [hml]; rfl) (argsL := [(.long v1)]) (rest := []) (lenOf own_pd__J_Z rfl) rfl (by show 2 * 0 + _ ≤ _; exact Nat.le_of_eq rfl) (hb hby at_18) (fun _ _ => ⟨rfl, eq2, (by decide : 0 + 0 ≤ _), (by decide : 0 + 0 ≤ _)⟩)
  dsimp only [Pt.U, Pt.locs, Pt.cells, Pt.slots] at X5 l5 y5 z5 st5 hQ5
  subst l5 y5 z5
  obtain ⟨rfl, NQ5, eq5⟩ := hQ5
  have N6 := Fr.app N3 NQ5
  refine own_st st5 ?_
  show own_Go _ _ _ _ T5 (mkF m 21 _ [(.int (own_check v1))])
  generalize hv7 : (own_check v1) = v7
  refine own_st (fun t k => XS.istore X5.here hx rfl (hb hby at_21) rfl (l' := #[.val (.long x0), .second, .val (.int x1), .val (.long v1), .second, .val (.long (281474976710655 : Int64)), .second, .val (.int v4), .val (.int v7), .unset, .unset, .unset]) rfl k) ?_
  show own_Go _ _ _ _ T5 (mkF m 23 #[.val (.long x0), .second, .val (.int x1), .val (.long v1), .second, .val (.long (281474976710655 : Int64)), .second, .val (.int v4), .val (.int v7), .unset, .unset, .unset] [])
  refine own_st (fun t k => XS.lload X5.here hx rfl (hb hby at_23) rfl k) ?_
  show own_Go _ _ _ _ T5 (mkF m 25 _ [(.long (281474976710655 : Int64))])
  refine own_st (fun t k => XS.lloadN X5.here hx rfl (hb hby at_25) rfl k) ?_
  show own_Go _ _ _ _ T5 (mkF m 26 _ [(.long v1), (.long (281474976710655 : Int64))])
  refine own_st (fun t k => XS.ladd X5.here hx rfl (hb hby at_26) rfl k) ?_
  show own_Go _ _ _ _ T5 (mkF m 27 _ [(.long ((281474976710655 : Int64) + v1))])
  obtain ⟨_, _, ⟨T8, L8, k8, n8⟩, -, X8, ⟨Lc8, hQ8, l8, y8, z8⟩, st8⟩ := Jvm.LawKit.callS X5 hx (y := (⟨"com/example/adige/adige/SeedsIsValidPinLaw", "check", "(J)Z"⟩ : MethodName)) hown (mvT hZ (hw _ (List.mem_of_getElem? (i := 1) rfl))) (mvT hZ (hw _ (List.mem_of_getElem? (i := 2) rfl))) (mvT hZ (hw _ (List.mem_of_getElem? (i := 3) rfl))) (mvT hZ (hw _ (List.mem_of_getElem? (i := 4) rfl))) (by decide) (backOf (W := 0) (rm3 l Z a0 hw [] ((281474976710655 : Int64) + v1) h0 n0 Z0 ) hZ (hw _ (List.mem_of_getElem? (i := 4) rfl)) (hw _ (List.mem_of_getElem? (i := 3) rfl)) (by decide) (by decide)) (g := (mkF m 27 #[.val (.long x0), .second, .val (.int x1), .val (.long v1), .second, .val (.long (281474976710655 : Int64)), .second, .val (.int v4), .val (.int v7), .unset, .unset, .unset] [(.long ((281474976710655 : Int64) + v1))])) rfl (by rw [hml]; rfl) (argsL := [(.long ((281474976710655 : Int64) + v1))]) (rest := []) (lenOf own_pd__J_Z rfl) rfl (by show 2 * 0 + _ ≤ _; exact Nat.le_of_eq rfl) (hb hby at_27) (fun _ _ => ⟨rfl, eq5, (by decide : 0 + 0 ≤ _), (by decide : 0 + 0 ≤ _)⟩)
  dsimp only [Pt.U, Pt.locs, Pt.cells, Pt.slots] at X8 l8 y8 z8 st8 hQ8
  subst l8 y8 z8
  obtain ⟨rfl, NQ8, eq8⟩ := hQ8
  have N9 := Fr.app N6 NQ8
  refine own_st st8 ?_
  show own_Go _ _ _ _ T8 (mkF m 30 _ [(.int (own_check ((281474976710655 : Int64) + v1)))])
  generalize hv10 : (own_check ((281474976710655 : Int64) + v1)) = v10
  refine own_st (fun t k => XS.istore X8.here hx rfl (hb hby at_30) rfl (l' := #[.val (.long x0), .second, .val (.int x1), .val (.long v1), .second, .val (.long (281474976710655 : Int64)), .second, .val (.int v4), .val (.int v7), .val (.int v10), .unset, .unset]) rfl k) ?_
  show own_Go _ _ _ _ T8 (mkF m 32 #[.val (.long x0), .second, .val (.int x1), .val (.long v1), .second, .val (.long (281474976710655 : Int64)), .second, .val (.int v4), .val (.int v7), .val (.int v10), .unset, .unset] [])
  refine own_st (fun t k => X8.ldc2Long hx hown (mvT hZ (hw _ (List.mem_of_getElem? (i := 13) rfl))) (g := (mkF m 32 #[.val (.long x0), .second, .val (.int x1), .val (.long v1), .second, .val (.long (281474976710655 : Int64)), .second, .val (.int v4), .val (.int v7), .val (.int v10), .unset, .unset] [])) rfl (hb hby at_32) _ k) ?_
  show own_Go _ _ _ _ T8 (mkF m 35 _ [(.long (-9223372036854775808 : Int64))])
  refine own_st (fun t k => XS.lloadN X8.here hx rfl (hb hby at_35) rfl k) ?_
  show own_Go _ _ _ _ T8 (mkF m 36 _ [(.long v1), (.long (-9223372036854775808 : Int64))])
  obtain ⟨_, _, ⟨T11, L11, k11, n11⟩, -, X11, ⟨Lc11, hQ11, l11, y11, z11⟩, st11⟩ := Jvm.LawKit.callS X8 hx (y := (⟨"java/lang/Math", "abs", "(J)J"⟩ : MethodName)) hown (mvT hZ (hw _ (List.mem_of_getElem? (i := 14) rfl))) (mvT hZ (hw _ (List.mem_of_getElem? (i := 15) rfl))) (mvT hZ (hw _ (List.mem_of_getElem? (i := 16) rfl))) (mvT hZ (hw _ (List.mem_of_getElem? (i := 17) rfl))) (by decide) (backOf (W := 2) (rm4 l Z a0 hw [] v1 h0 n0 Z0 ) hZ (hw _ (List.mem_of_getElem? (i := 17) rfl)) (hw _ (List.mem_of_getElem? (i := 16) rfl)) (by decide) (by decide)) (g := (mkF m 36 #[.val (.long x0), .second, .val (.int x1), .val (.long v1), .second, .val (.long (281474976710655 : Int64)), .second, .val (.int v4), .val (.int v7), .val (.int v10), .unset, .unset] [(.long v1), (.long (-9223372036854775808 : Int64))])) rfl (by rw [hml]; rfl) (argsL := [(.long v1)]) (rest := [(.long (-9223372036854775808 : Int64))]) (lenOf own_pd__J_J rfl) rfl (by show 2 * 0 + _ ≤ _; exact Nat.le_of_eq rfl) (hb hby at_36) (fun _ _ => ⟨rfl, eq8, (by decide : 0 + 0 ≤ _), (by decide : 0 + 0 ≤ _)⟩)
  dsimp only [Pt.U, Pt.locs, Pt.cells, Pt.slots] at X11 l11 y11 z11 st11 hQ11
  subst l11 y11 z11
  obtain ⟨rfl, NQ11, eq11⟩ := hQ11
  have N12 := Fr.app N9 NQ11
  refine own_st st11 ?_
  show own_Go _ _ _ _ T11 (mkF m 39 _ [(.long (own_abs v1)), (.long (-9223372036854775808 : Int64))])
  refine own_st (fun t k => XS.ladd X11.here hx rfl (hb hby at_39) rfl k) ?_
  show own_Go _ _ _ _ T11 (mkF m 40 _ [(.long ((-9223372036854775808 : Int64) + (own_abs v1)))])
  obtain ⟨_, _, ⟨T13, L13, k13, n13⟩, -, X13, ⟨Lc13, hQ13, l13, y13, z13⟩, st13⟩ := Jvm.LawKit.callS X11 hx (y := (⟨"com/example/adige/adige/SeedsIsValidPinLaw", "check", "(J)Z"⟩ : MethodName)) hown (mvT hZ (hw _ (List.mem_of_getElem? (i := 1) rfl))) (mvT hZ (hw _ (List.mem_of_getElem? (i := 2) rfl))) (mvT hZ (hw _ (List.mem_of_getElem? (i := 3) rfl))) (mvT hZ (hw _ (List.mem_of_getElem? (i := 4) rfl))) (by decide) (backOf (W := 0) (rm3 l Z a0 hw [] ((-9223372036854775808 : Int64) + (own_abs v1)) h0 n0 Z0 ) hZ (hw _ (List.mem_of_getElem? (i := 4) rfl)) (hw _ (List.mem_of_getElem? (i := 3) rfl)) (by decide) (by decide)) (g := (mkF m 40 #[.val (.long x0), .second, .val (.int x1), .val (.long v1), .second, .val (.long (281474976710655 : Int64)), .second, .val (.int v4), .val (.int v7), .val (.int v10), .unset, .unset] [(.long ((-9223372036854775808 : Int64) + (own_abs v1)))])) rfl (by rw [hml]; rfl) (argsL := [(.long ((-9223372036854775808 : Int64) + (own_abs v1)))]) (rest := []) (lenOf own_pd__J_Z rfl) rfl (by show 2 * 0 + _ ≤ _; exact Nat.le_of_eq rfl) (hb hby at_40) (fun _ _ => ⟨rfl, eq11, (by decide : 0 + 0 ≤ _), (by decide : 0 + 0 ≤ _)⟩)
  dsimp only [Pt.U, Pt.locs, Pt.cells, Pt.slots] at X13 l13 y13 z13 st13 hQ13
  subst l13 y13 z13
  obtain ⟨rfl, NQ13, eq13⟩ := hQ13
  have N14 := Fr.app N12 NQ13
  refine own_st st13 ?_
  show own_Go _ _ _ _ T13 (mkF m 43 _ [(.int (own_check ((-9223372036854775808 : Int64) + (own_abs v1))))])
  generalize hv15 : (own_check ((-9223372036854775808 : Int64) + (own_abs v1))) = v15
  refine own_st (fun t k => XS.istore X13.here hx rfl (hb hby at_43) rfl (l' := #[.val (.long x0), .second, .val (.int x1), .val (.long v1), .second, .val (.long (281474976710655 : Int64)), .second, .val (.int v4), .val (.int v7), .val (.int v10), .val (.int v15), .unset]) rfl k) ?_
  show own_Go _ _ _ _ T13 (mkF m 45 #[.val (.long x0), .second, .val (.int x1), .val (.long v1), .second, .val (.long (281474976710655 : Int64)), .second, .val (.int v4), .val (.int v7), .val (.int v10), .val (.int v15), .unset] [])
  refine own_st (fun t k => X13.ldc2Long hx hown (mvT hZ (hw _ (List.mem_of_getElem? (i := 18) rfl))) (g := (mkF m 45 #[.val (.long x0), .second, .val (.int x1), .val (.long v1), .second, .val (.long (281474976710655 : Int64)), .second, .val (.int v4), .val (.int v7), .val (.int v10), .val (.int v15), .unset] [])) rfl (hb hby at_45) _ k) ?_
  show own_Go _ _ _ _ T13 (mkF m 48 _ [(.long (9223372036854775807 : Int64))])
  refine own_st (fun t k => XS.lloadN X13.here hx rfl (hb hby at_48) rfl k) ?_
  show own_Go _ _ _ _ T13 (mkF m 49 _ [(.long v1), (.long (9223372036854775807 : Int64))])
  obtain ⟨_, _, ⟨T16, L16, k16, n16⟩, -, X16, ⟨Lc16, hQ16, l16, y16, z16⟩, st16⟩ := Jvm.LawKit.callS X13 hx (y := (⟨"java/lang/Math", "abs", "(J)J"⟩ : MethodName)) hown (mvT hZ (hw _ (List.mem_of_getElem? (i := 14) rfl))) (mvT hZ (hw _ (List.mem_of_getElem? (i := 15) rfl))) (mvT hZ (hw _ (List.mem_of_getElem? (i := 16) rfl))) (mvT hZ (hw _ (List.mem_of_getElem? (i := 17) rfl))) (by decide) (backOf (W := 2) (rm4 l Z a0 hw [] v1 h0 n0 Z0 ) hZ (hw _ (List.mem_of_getElem? (i := 17) rfl)) (hw _ (List.mem_of_getElem? (i := 16) rfl)) (by decide) (by decide)) (g := (mkF m 49 #[.val (.long x0), .second, .val (.int x1), .val (.long v1), .second, .val (.long (281474976710655 : Int64)), .second, .val (.int v4), .val (.int v7), .val (.int v10), .val (.int v15), .unset] [(.long v1), (.long (9223372036854775807 : Int64))])) rfl (by rw [hml]; rfl) (argsL := [(.long v1)]) (rest := [(.long (9223372036854775807 : Int64))]) (lenOf own_pd__J_J rfl) rfl (by show 2 * 0 + _ ≤ _; exact Nat.le_of_eq rfl) (hb hby at_49) (fun _ _ => ⟨rfl, eq13, (by decide : 0 + 0 ≤ _), (by decide : 0 + 0 ≤ _)⟩)
  dsimp only [Pt.U, Pt.locs, Pt.cells, Pt.slots] at X16 l16 y16 z16 st16 hQ16
  subst l16 y16 z16
  obtain ⟨rfl, NQ16, eq16⟩ := hQ16
  have N17 := Fr.app N14 NQ16
  refine own_st st16 ?_
  show own_Go _ _ _ _ T16 (mkF m 52 _ [(.long (own_abs v1)), (.long (9223372036854775807 : Int64))])
  refine own_st (fun t k => XS.lsub X16.here hx rfl (hb hby at_52) rfl k) ?_
  show own_Go _ _ _ _ T16 (mkF m 53 _ [(.long ((9223372036854775807 : Int64) - (own_abs v1)))])
  obtain ⟨_, _, ⟨T18, L18, k18, n18⟩, -, X18, ⟨Lc18, hQ18, l18, y18, z18⟩, st18⟩ := Jvm.LawKit.callS X16 hx (y := (⟨"com/example/adige/adige/SeedsIsValidPinLaw", "check", "(J)Z"⟩ : MethodName)) hown (mvT hZ (hw _ (List.mem_of_getElem? (i := 1) rfl))) (mvT hZ (hw _ (List.mem_of_getElem? (i := 2) rfl))) (mvT hZ (hw _ (List.mem_of_getElem? (i := 3) rfl))) (mvT hZ (hw _ (List.mem_of_getElem? (i := 4) rfl))) (by decide) (backOf (W := 0) (rm3 l Z a0 hw [] ((9223372036854775807 : Int64) - (own_abs v1)) h0 n0 Z0 ) hZ (hw _ (List.mem_of_getElem? (i := 4) rfl)) (hw _ (List.mem_of_getElem? (i := 3) rfl)) (by decide) (by decide)) (g := (mkF m 53 #[.val (.long x0), .second, .val (.int x1), .val (.long v1), .second, .val (.long (281474976710655 : Int64)), .second, .val (.int v4), .val (.int v7), .val (.int v10), .val (.int v15), .unset] [(.long ((9223372036854775807 : Int64) - (own_abs v1)))])) rfl (by rw [hml]; rfl) (argsL := [(.long ((9223372036854775807 : Int64) - (own_abs v1)))]) (rest := []) (lenOf own_pd__J_Z rfl) rfl (by show 2 * 0 + _ ≤ _; exact Nat.le_of_eq rfl) (hb hby at_53) (fun _ _ => ⟨rfl, eq16, (by decide : 0 + 0 ≤ _), (by decide : 0 + 0 ≤ _)⟩)
  dsimp only [Pt.U, Pt.locs, Pt.cells, Pt.slots] at X18 l18 y18 z18 st18 hQ18
  subst l18 y18 z18
  obtain ⟨rfl, NQ18, eq18⟩ := hQ18
  have N19 := Fr.app N17 NQ18
  refine own_st st18 ?_
  show own_Go _ _ _ _ T18 (mkF m 56 _ [(.int (own_check ((9223372036854775807 : Int64) - (own_abs v1))))])
  generalize hv20 : (own_check ((9223372036854775807 : Int64) - (own_abs v1))) = v20
  refine own_st (fun t k => XS.istore X18.here hx rfl (hb hby at_56) rfl (l' := #[.val (.long x0), .second, .val (.int x1), .val (.long v1), .second, .val (.long (281474976710655 : Int64)), .second, .val (.int v4), .val (.int v7), .val (.int v10), .val (.int v15), .val (.int v20)]) rfl k) ?_
  show own_Go _ _ _ _ T18 (mkF m 58 #[.val (.long x0), .second, .val (.int x1), .val (.long v1), .second, .val (.long (281474976710655 : Int64)), .second, .val (.int v4), .val (.int v7), .val (.int v10), .val (.int v15), .val (.int v20)] [])
  refine own_st (fun t k => XS.iload X18.here hx rfl (hb hby at_58) rfl k) ?_
  show own_Go _ _ _ _ T18 (mkF m 60 _ [(.int v4)])
  have J32 : ∀ (Tj32 : State) (Lj32 : List Loc) (p33 : Int32), Stand p l e room_1 s m #[(.long x0), (.int x1)] below meth c Tj32 Lj32 0 0 → Tj32.heap = h0 → Fr n0 Lj32 → p33 = (if v4 = (0 : Int32) then (0 : Int32) else (if v7 = (0 : Int32) then (0 : Int32) else (if v10 = (0 : Int32) then (0 : Int32) else (if v15 = (0 : Int32) then (0 : Int32) else (if v20 = (0 : Int32) then (0 : Int32) else (1 : Int32)))))) → own_Go p.tables e below Pq Tj32 (mkF m 88 #[.val (.long x0), .second, .val (.int x1), .val (.long v1), .second, .val (.long (281474976710655 : Int64)), .second, .val (.int v4), .val (.int v7), .val (.int v10), .val (.int v15), .val (.int v20)] [(.int p33)]) := by
    intro Tj32 Lj32 p33 Xj32 ej32 Nj32 qp33
    show own_Go _ _ _ _ Tj32 (mkF m 88 _ [(.int p33)])
    subst hPq
    refine own_out Xj32 (v := some (.int (nar .boolean p33))) (fun h => by rw [Bd.returns] at h; cases h) Bd.notSynchronized (fun fs hr => retN Xj32 hx (t := .boolean) Bd.returns (by simp) (hb hby at_88) hr) (by decide) (by decide) ?_
    show Q0 Z x0 x1 h0 n0 _ Tj32.heap _
    rw [ej32]
    exact ⟨congrArg (fun z => some (Value.int (nar .boolean z))) (own_law x0 x1 v1 v4 v7 v10 v15 v20 p33 hv1 hv4 hv7 hv10 hv15 hv20 qp33), Nj32⟩
  by_cases c21 : v4 = (0 : Int32)
  · skip
    refine own_st (fun t k => XS.ifYes X18.here hx rfl (pc0 := 60) (pc' := 87) rfl (hb hby at_60) rfl ((if0 _ _).trans (teq c21).1) (by decide) (by decide) k) ?_
    show own_Go _ _ _ _ T18 (mkF m 87 _ [])
    refine own_st (fun t k => XS.iconst X18.here hx rfl (hb hby at_87) k) ?_
    show own_Go _ _ _ _ T18 (mkF m 88 _ [(.int (0 : Int32))])
    exact J32 T18 _ _ X18 eq18 N19 (by simp only [if_pos c21])
  · skip
    refine own_st (fun t k => XS.ifNo X18.here hx rfl (hb hby at_60) rfl ((if0 _ _).trans (feq c21).1) k) ?_
    show own_Go _ _ _ _ T18 (mkF m 63 _ [])
    refine own_st (fun t k => XS.iload X18.here hx rfl (hb hby at_63) rfl k) ?_
    show own_Go _ _ _ _ T18 (mkF m 65 _ [(.int v7)])
    by_cases c23 : v7 = (0 : Int32)
    · skip
      refine own_st (fun t k => XS.ifYes X18.here hx rfl (pc0 := 65) (pc' := 87) rfl (hb hby at_65) rfl ((if0 _ _).trans (teq c23).1) (by decide) (by decide) k) ?_
      show own_Go _ _ _ _ T18 (mkF m 87 _ [])
      refine own_st (fun t k => XS.iconst X18.here hx rfl (hb hby at_87) k) ?_
      show own_Go _ _ _ _ T18 (mkF m 88 _ [(.int (0 : Int32))])
      exact J32 T18 _ _ X18 eq18 N19 (by simp only [if_neg c21, if_pos c23])
    · skip
      refine own_st (fun t k => XS.ifNo X18.here hx rfl (hb hby at_65) rfl ((if0 _ _).trans (feq c23).1) k) ?_
      show own_Go _ _ _ _ T18 (mkF m 68 _ [])
      refine own_st (fun t k => XS.iload X18.here hx rfl (hb hby at_68) rfl k) ?_
      show own_Go _ _ _ _ T18 (mkF m 70 _ [(.int v10)])
      by_cases c25 : v10 = (0 : Int32)
      · skip
        refine own_st (fun t k => XS.ifYes X18.here hx rfl (pc0 := 70) (pc' := 87) rfl (hb hby at_70) rfl ((if0 _ _).trans (teq c25).1) (by decide) (by decide) k) ?_
        show own_Go _ _ _ _ T18 (mkF m 87 _ [])
        refine own_st (fun t k => XS.iconst X18.here hx rfl (hb hby at_87) k) ?_
        show own_Go _ _ _ _ T18 (mkF m 88 _ [(.int (0 : Int32))])
        exact J32 T18 _ _ X18 eq18 N19 (by simp only [if_neg c21, if_neg c23, if_pos c25])
      · skip
        refine own_st (fun t k => XS.ifNo X18.here hx rfl (hb hby at_70) rfl ((if0 _ _).trans (feq c25).1) k) ?_
        show own_Go _ _ _ _ T18 (mkF m 73 _ [])
        refine own_st (fun t k => XS.iload X18.here hx rfl (hb hby at_73) rfl k) ?_
        show own_Go _ _ _ _ T18 (mkF m 75 _ [(.int v15)])
        by_cases c27 : v15 = (0 : Int32)
        · skip
          refine own_st (fun t k => XS.ifYes X18.here hx rfl (pc0 := 75) (pc' := 87) rfl (hb hby at_75) rfl ((if0 _ _).trans (teq c27).1) (by decide) (by decide) k) ?_
          show own_Go _ _ _ _ T18 (mkF m 87 _ [])
          refine own_st (fun t k => XS.iconst X18.here hx rfl (hb hby at_87) k) ?_
          show own_Go _ _ _ _ T18 (mkF m 88 _ [(.int (0 : Int32))])
          exact J32 T18 _ _ X18 eq18 N19 (by simp only [if_neg c21, if_neg c23, if_neg c25, if_pos c27])
        · skip
          refine own_st (fun t k => XS.ifNo X18.here hx rfl (hb hby at_75) rfl ((if0 _ _).trans (feq c27).1) k) ?_
          show own_Go _ _ _ _ T18 (mkF m 78 _ [])
          refine own_st (fun t k => XS.iload X18.here hx rfl (hb hby at_78) rfl k) ?_
          show own_Go _ _ _ _ T18 (mkF m 80 _ [(.int v20)])
          by_cases c29 : v20 = (0 : Int32)
          · skip
            refine own_st (fun t k => XS.ifYes X18.here hx rfl (pc0 := 80) (pc' := 87) rfl (hb hby at_80) rfl ((if0 _ _).trans (teq c29).1) (by decide) (by decide) k) ?_
            show own_Go _ _ _ _ T18 (mkF m 87 _ [])
            refine own_st (fun t k => XS.iconst X18.here hx rfl (hb hby at_87) k) ?_
            show own_Go _ _ _ _ T18 (mkF m 88 _ [(.int (0 : Int32))])
            exact J32 T18 _ _ X18 eq18 N19 (by simp only [if_neg c21, if_neg c23, if_neg c25, if_neg c27, if_pos c29])
          · skip
            refine own_st (fun t k => XS.ifNo X18.here hx rfl (hb hby at_80) rfl ((if0 _ _).trans (feq c29).1) k) ?_
            show own_Go _ _ _ _ T18 (mkF m 83 _ [])
            refine own_st (fun t k => XS.iconst X18.here hx rfl (hb hby at_83) k) ?_
            show own_Go _ _ _ _ T18 (mkF m 84 _ [(.int (1 : Int32))])
            refine own_st (fun t k => XS.goto X18.here hx rfl (pc0 := 84) (pc' := 88) rfl (hb hby at_84) (by decide) (by decide) k) ?_
            show own_Go _ _ _ _ T18 (mkF m 88 _ [(.int (1 : Int32))])
            exact J32 T18 _ _ X18 eq18 N19 (by simp only [if_neg c21, if_neg c23, if_neg c25, if_neg c27, if_neg c29])
set_option maxRecDepth 65536 in
set_option maxHeartbeats 40000000 in
theorem own_comes {Post : Tables → Env → Array Value → State → Outcome → State → Prop} (hpost : ∀ tb e args s v u, (limb_1_1.after args s (.returned v) u = true ∧ limb_1_2.after args s (.returned v) u = true ∧ True) → FrameEnd s (.returned v) u (Jvm.fieldLocs frame_1_writes args s ++ Jvm.arrayLocs frame_1_arrays args s ++ Jvm.staticLocs frame_1_statics s) 0 0 → Post tb e args s (.returned v) u) :
    ArmFor flags0 classFile x code maxLocals ret World_1 tables_1 room_1 Calls_1 rest_1 Pre_1 Post := by
  intro l hfl _ _ p e ha hc hk s m args below hf hA hF happ hP
  obtain ⟨hcalls, hrest, hpre⟩ := hP
  obtain ⟨-, -, -, hnamed, -, -, -, hat⟩ := (Spec.applies_iff hf).mp happ
  obtain ⟨hg, hn⟩ := and_e (Cond.before_iff.mp (show (Jvm.Cond.and given_1 narrow_1).before args s = true from hpre))
  obtain ⟨g0, r0⟩ := and_e hg
  obtain ⟨g1, r1⟩ := and_e r0
  obtain ⟨w0, w1, rfl⟩ : ∃ w0 w1 : Value, args = #[w0, w1] := by
    have hs : args.size = 2 := by simpa [Cond.value, given_1] using g0
    obtain ⟨L⟩ := args
    match L, hs with
    | [w0, w1], _ => exact ⟨w0, w1, rfl⟩
  have hw := fun d (hd : d ∈ tables_1) => atoms_spec (ws := Jvm.Cond.code x code maxLocals ret :: tables_1) hat d (List.mem_cons_of_mem _ hd)
  obtain ⟨i0, ei0⟩ := isL_v g1
  obtain rfl : w0 = (.long i0) := Option.some.inj ei0
  obtain ⟨i1, ei1⟩ := is_v r1
  obtain rfl : w1 = (.int i1) := Option.some.inj ei1
  obtain ⟨n, o, h1, h2, h3, _, L, rfl, ⟨rfl, N⟩, hq⟩ := rm0 l s _ hw tables_1 i0 i1 s.heap s.heap.size (Nat.le_refl _) p e ha hc hk s m _ below hf ((Spec.applies_iff_loose hf).mp happ).1 ⟨rfl, State.Warmed39.refl s, rfl⟩ trivial
  refine ⟨n, _, h1, h2, h3, hpost _ _ _ _ _ _ ⟨Cond.after_iff.mpr rfl, Cond.after_iff.mpr (eq_i res_at (Term.int_eval (1)) rfl), trivial⟩ ⟨hq.1, hq.2.1, (hq.2.2.sift fun y hy => Or.inr (N y hy)).mono (by decide) (by decide)⟩⟩
theorem main_1_1 : Claimed_1_1 := own_comes fun _ _ _ _ _ _ h hF => ⟨h.1, hF⟩
theorem main_1_2 : Claimed_1_2 := own_comes fun _ _ _ _ _ _ h hF => ⟨h.2.1, hF⟩
end Jvm.Pilot.@@N@@
namespace Jvm.Pilot.@@N@@
open Jvm Jvm.ClassFile Sem Op Lib Jvm.Free Jvm.Stand Jvm.Pilot.@@N@@.Jvm.D
/-! MADE BY PROGRAM (witnessworld.py) out of the Statement's table words and the real class files: 10 classes; the members and pool entries that the words name. The judged class is class 1, her method 3. -/
namespace start1
open Jvm.ClassFile
def u (s : String) : CpInfo := .utf8 (stringToUtf16 s)
/-- a pool by its gaps: so many unusable entries, then the entry; so many at the end -/
def gap : Nat → List CpInfo → List CpInfo
  | 0, r => r
  | n + 1, r => .unusable :: gap n r
def poolList (es : List (Nat × CpInfo)) (last : Nat) : List CpInfo := es.foldr (fun e r => gap e.1 (e.2 :: r)) (gap last [])
def pool (es : List (Nat × CpInfo)) (last : Nat) : Array CpInfo := ⟨poolList es last⟩
def fileOf (pool : Array CpInfo) (this : Nat) (attrs : Array Attribute := #[]) (ms : Array MethodInfo := #[]) (fl : Nat := 33) (sup : Nat := 0) (ifs : Array Nat := #[]) (fds : Array FieldInfo := #[]) : ClassFile where
  minorVersion := 0
  majorVersion := 65
  constantPool := pool
  accessFlags := fl
  thisClass := this
  superClass := sup
  interfaces := ifs
  fields := fds
  methods := ms
  attributes := attrs
def plain (name : String) (sup : Option ClassId) : Class where
  name := name
  kind := .ordinary
  loader := none
  accessFlags := 33
  super := sup
  interfaces := #[]
  cf := none
  fields := #[]
  methods := #[]
  instanceTypes := #[]
  staticTypes := #[]
  resolved := #[]
  callSites := []
  init := .initialized
  statics := none
  mirror := none

def pool0 : Array CpInfo := pool [(5, u "<init>"), (0, u "()V"), (1, .class_ 10), (1, u "java/lang/Object")] 113

def k0m0 : Method := { name := "<init>", desc := "()V", sig := { parameters := [], returnType := none }, accessFlags := 1, code := none }
/-- java/lang/Object -/
def k0 : Class := { plain "java/lang/Object" none with
  accessFlags := 33
  interfaces := #[]
  cf := some (fileOf pool0 8 #[] #[{ accessFlags := 1, nameIndex := 5, descriptorIndex := 6, attributes := #[] }] 33 0 #[] #[])
  fields := #[]
  methods := #[k0m0]
  instanceTypes := #[]
  staticTypes := #[]
  resolved := Array.replicate 124 none
  statics := none }

def pool1 : Array CpInfo := pool [(2, .class_ 4), (1, u "java/lang/Object"), (0, u "<init>"), (0, u "()V"), (0, .methodref 8 9), (0, .class_ 10), (0, .nameAndType 11 12), (0, u "com/example/adige/adige/Seeds"), (0, u "isValid"), (0, u "(J)Z"), (0, .methodref 14 15), (0, .class_ 16), (0, .nameAndType 17 12), (0, u "com/example/adige/adige/SeedsIsValidPinLaw"), (0, u "ref"), (0, .long 281474976710655), (1, .methodref 14 21), (0, .nameAndType 22 12), (0, u "check"), (2, .long 9223372036854775808), (1, .methodref 28 29), (0, .class_ 30), (0, .nameAndType 31 32), (0, u "java/lang/Math"), (0, u "abs"), (0, u "(J)J"), (0, .long 9223372036854775807), (4, u "law"), (0, u "(JI)Z")] 2

def k1m0 : Method := { name := "<init>", desc := "()V", sig := { parameters := [], returnType := none }, accessFlags := 2, code := none }
def k1c1 : Code := { maxStack := 4, maxLocals := 2, code := method_2_code, exceptionTable := #[], attributes := #[] }
def k1m1 : Method := { name := "ref", desc := "(J)Z", sig := { parameters := [.long], returnType := some .boolean }, accessFlags := 10, code := some k1c1 }
def k1c2 : Code := { maxStack := 3, maxLocals := 2, code := method_3_code, exceptionTable := #[], attributes := #[] }
def k1m2 : Method := { name := "check", desc := "(J)Z", sig := { parameters := [.long], returnType := some .boolean }, accessFlags := 10, code := some k1c2 }
def k1c3 : Code := { maxStack := 4, maxLocals := 12, code := code, exceptionTable := #[], attributes := #[] }
def k1m3 : Method := { name := "law", desc := "(JI)Z", sig := { parameters := [.long, .int], returnType := some .boolean }, accessFlags := 9, code := some k1c3 }
/-- com/example/adige/adige/SeedsIsValidPinLaw -/
def k1 : Class := { plain "com/example/adige/adige/SeedsIsValidPinLaw" (some 0) with
  accessFlags := 49
  interfaces := #[]
  cf := some (fileOf pool1 14 #[] #[{ accessFlags := 2, nameIndex := 5, descriptorIndex := 6, attributes := #[] }, { accessFlags := 10, nameIndex := 17, descriptorIndex := 12, attributes := #[] }, { accessFlags := 10, nameIndex := 22, descriptorIndex := 12, attributes := #[] }, { accessFlags := 9, nameIndex := 38, descriptorIndex := 39, attributes := #[] }] 49 2 #[] #[])
  fields := #[]
  methods := #[k1m0, k1m1, k1m2, k1m3]
  instanceTypes := #[]
  staticTypes := #[]
  resolved := Array.replicate 42 none
  statics := none }

def pool2 : Array CpInfo := pool [(2, .class_ 4), (1, u "java/lang/Object"), (0, u "<init>"), (0, u "()V"), (0, .class_ 8), (0, u "com/example/adige/adige/Seeds"), (0, .long 281474976710655), (3, u "isValid"), (0, u "(J)Z"), (14, u "MAX"), (0, u "J")] 23

def k2m0 : Method := { name := "<init>", desc := "()V", sig := { parameters := [], returnType := none }, accessFlags := 2, code := none }
def k2c1 : Code := { maxStack := 4, maxLocals := 2, code := prog_54_method_2_code, exceptionTable := #[], attributes := #[] }
def k2m1 : Method := { name := "isValid", desc := "(J)Z", sig := { parameters := [.long], returnType := some .boolean }, accessFlags := 8, code := some k2c1 }
/-- com/example/adige/adige/Seeds -/
def k2 : Class := { plain "com/example/adige/adige/Seeds" (some 0) with
  accessFlags := 49
  interfaces := #[]
  cf := some (fileOf pool2 7 #[] #[{ accessFlags := 2, nameIndex := 5, descriptorIndex := 6, attributes := #[] }, { accessFlags := 8, nameIndex := 13, descriptorIndex := 14, attributes := #[] }] 49 2 #[] #[{ accessFlags := 25, nameIndex := 29, descriptorIndex := 30, attributes := #[] }])
  fields := #[{ name := "MAX", type := .long, accessFlags := 25, slot := 0, constantValue := 0 }]
  methods := #[k2m0, k2m1]
  instanceTypes := #[]
  staticTypes := #[.long]
  resolved := Array.replicate 54 none
  statics := none }

def pool3 : Array CpInfo := pool [(1, .class_ 2), (0, u "java/lang/Math"), (1, .class_ 6), (1, u "java/lang/Object"), (0, u "<init>"), (0, u "()V"), (89, .class_ 100), (1, u "java/lang/Math$RandomNumberGeneratorHolder"), (23, u "abs"), (0, u "(J)J"), (46, u "negativeZeroFloatBits"), (0, u "J"), (2, u "negativeZeroDoubleBits"), (68, u "$assertionsDisabled"), (0, u "Z"), (91, u "twoToTheDoubleScaleDown"), (0, u "D"), (4, u "twoToTheDoubleScaleUp"), (9, u "E"), (3, u "PI"), (2, u "TAU"), (2, u "DEGREES_TO_RADIANS"), (0, u "RADIANS_TO_DEGREES")] 94

def k3m0 : Method := { name := "<init>", desc := "()V", sig := { parameters := [], returnType := none }, accessFlags := 2, code := none }
def k3c1 : Code := { maxStack := 4, maxLocals := 2, code := jdk_29_method_61_code, exceptionTable := #[], attributes := #[] }
def k3m1 : Method := { name := "abs", desc := "(J)J", sig := { parameters := [.long], returnType := some .long }, accessFlags := 9, code := some k3c1 }
/-- java/lang/Math -/
def k3 : Class := { plain "java/lang/Math" (some 0) with
  accessFlags := 49
  interfaces := #[]
  cf := some (fileOf pool3 1 #[.nestMembers #[98]] #[{ accessFlags := 2, nameIndex := 7, descriptorIndex := 8, attributes := #[] }, { accessFlags := 9, nameIndex := 124, descriptorIndex := 125, attributes := #[] }] 49 4 #[] #[{ accessFlags := 25, nameIndex := 354, descriptorIndex := 339, attributes := #[] }, { accessFlags := 25, nameIndex := 358, descriptorIndex := 339, attributes := #[] }, { accessFlags := 25, nameIndex := 361, descriptorIndex := 339, attributes := #[] }, { accessFlags := 26, nameIndex := 364, descriptorIndex := 339, attributes := #[] }, { accessFlags := 26, nameIndex := 365, descriptorIndex := 339, attributes := #[] }, { accessFlags := 26, nameIndex := 172, descriptorIndex := 173, attributes := #[] }, { accessFlags := 26, nameIndex := 176, descriptorIndex := 173, attributes := #[] }, { accessFlags := 8, nameIndex := 344, descriptorIndex := 339, attributes := #[] }, { accessFlags := 8, nameIndex := 338, descriptorIndex := 339, attributes := #[] }, { accessFlags := 4120, nameIndex := 245, descriptorIndex := 246, attributes := #[] }])
  fields := #[{ name := "E", type := .double, accessFlags := 25, slot := 0, constantValue := 0 }, { name := "PI", type := .double, accessFlags := 25, slot := 1, constantValue := 0 }, { name := "TAU", type := .double, accessFlags := 25, slot := 2, constantValue := 0 }, { name := "DEGREES_TO_RADIANS", type := .double, accessFlags := 26, slot := 3, constantValue := 0 }, { name := "RADIANS_TO_DEGREES", type := .double, accessFlags := 26, slot := 4, constantValue := 0 }, { name := "negativeZeroFloatBits", type := .long, accessFlags := 26, slot := 5, constantValue := 0 }, { name := "negativeZeroDoubleBits", type := .long, accessFlags := 26, slot := 6, constantValue := 0 }, { name := "twoToTheDoubleScaleUp", type := .double, accessFlags := 8, slot := 7, constantValue := 0 }, { name := "twoToTheDoubleScaleDown", type := .double, accessFlags := 8, slot := 8, constantValue := 0 }, { name := "$assertionsDisabled", type := .boolean, accessFlags := 4120, slot := 9, constantValue := 0 }]
  methods := #[k3m0, k3m1]
  instanceTypes := #[]
  staticTypes := #[.double, .double, .double, .double, .double, .long, .long, .double, .double, .boolean]
  resolved := Array.replicate 460 none
  statics := none }

def pool4 : Array CpInfo := pool [(1, u "java/lang/Cloneable"), (0, .class_ 1), (0, u "java/lang/Object"), (0, .class_ 3)] 3

/-- java/lang/Cloneable -/
def k4 : Class := { plain "java/lang/Cloneable" (some 0) with
  accessFlags := 1537
  interfaces := #[]
  cf := some (fileOf pool4 2 #[] #[] 1537 4 #[] #[])
  fields := #[]
  methods := #[]
  instanceTypes := #[]
  staticTypes := #[]
  resolved := Array.replicate 8 none
  statics := none }

def pool5 : Array CpInfo := pool [(1, u "java/io/Serializable"), (0, .class_ 1), (0, u "java/lang/Object"), (0, .class_ 3)] 3

/-- java/io/Serializable -/
def k5 : Class := { plain "java/io/Serializable" (some 0) with
  accessFlags := 1537
  interfaces := #[]
  cf := some (fileOf pool5 2 #[] #[] 1537 4 #[] #[])
  fields := #[]
  methods := #[]
  instanceTypes := #[]
  staticTypes := #[]
  resolved := Array.replicate 8 none
  statics := none }

/-- the primitive byte -/
def k6 : Class := { plain "byte" none with kind := .primitive 'B', accessFlags := 0x411 }
/-- [B -/
def k7 : Class := { plain "[B" (some 0) with kind := .array 6 .byte, interfaces := #[4, 5], accessFlags := 1041 }

/-- the primitive int -/
def k8 : Class := { plain "int" none with kind := .primitive 'I', accessFlags := 0x411 }
/-- [I -/
def k9 : Class := { plain "[I" (some 0) with kind := .array 8 .int, interfaces := #[4, 5], accessFlags := 1041 }

def heap : Heap := #[]
def classes : Array Class := #[k0, k1, k2, k3, k4, k5, k6, k7, k8, k9]
def interned : List (Array UInt16 × Addr) := []
def slotsUsed : Nat := 0
def theMethod : MethodId := ⟨1, 3⟩
def args0 : Array Value := #[.long 5, .int 5]
def aboutOver (below : List Frame) : State where
  vm := { classes := classes, interned := interned.toArray }
  heap := heap
  slotsUsed := slotsUsed
  threads := #[{ frames := .invoking theMethod args0 :: below }]
def below0 : List Frame := [.native { method := ⟨0, 0⟩, args := #[] }]
def about1 : State := aboutOver below0
def p0 : Program := .bare "" "" ""
def e0 : Env := launch0.env 0 0 0
theorem w_frames : about1.frames = Frame.invoking theMethod args0 :: below0 := rfl
set_option maxRecDepth 65536 in
theorem w_args : argsFit about1.vm theMethod args0 = true := by decide +kernel
set_option maxRecDepth 65536 in
theorem w_heap : heapFits about1 = true := by decide +kernel
set_option maxRecDepth 65536 in
theorem w_runnable : about1.curStatus? = some .runnable := by decide +kernel
set_option maxRecDepth 65536 in
theorem w_alone : about1.alone = true := by decide +kernel
set_option maxRecDepth 65536 in
theorem w_named : about1.methodNamed? x = some theMethod := by decide +kernel
set_option maxRecDepth 65536 in
theorem w_hears : about1.hears theMethod below0 = true := by decide +kernel
set_option maxRecDepth 65536 in
theorem w_ripe : about1.ripe theMethod args0 below0 = true := by decide +kernel
theorem w_running : about1.status = .running := rfl
set_option maxRecDepth 65536 in
theorem w_room : about1.hasRoom e0.platform room_1 = true :=
  launch0.hasRoom_least _ room_1 (by decide +kernel) (by decide +kernel) (by decide +kernel) (by decide +kernel) (by decide +kernel) (by decide +kernel)
theorem allAtoms_all (ts : List Jvm.Cond) (a : Array Jvm.Value) (st : Jvm.State) : (allAtoms ts).before a st = ts.all (fun c => c.before a st) := by
  induction ts with
  | nil => rfl
  | cons c t ih =>
    show (Jvm.Cond.and c (allAtoms t)).before a st = _
    rw [Jvm.Cond.before_and, ih, List.all_cons]
def words1 : List Jvm.Cond := Jvm.Cond.code x code maxLocals ret :: tables_1
/-- a 'code' word, met by the world's own term for the bytes: nothing is compared byte by byte -/
theorem code_word {y : MethodName} {bytes : ByteArray} {mx : Nat} {rt : Option FieldType} {a : Array Value} {s : State} {m : MethodId} {meth : Method} {c : Code} (h1 : s.methodNamed? y = some m) (h2 : s.vm.method? m = some meth) (h3 : meth.code = some c) (h4 : c.code = bytes)
    (h5 : (c.maxLocals == mx && c.exceptionTable.isEmpty && decide (c.maxStack ≤ mostOperands) && decide (meth.sig.returnType = rt) && !meth.locks && decide (parseMethodDescriptor y.desc = some meth.sig)) = true) : (Jvm.Cond.code y bytes mx rt).before a s = true := by
  simp only [Bool.and_eq_true, beq_iff_eq, Bool.not_eq_true', decide_eq_true_eq] at h5
  obtain ⟨⟨⟨⟨⟨g1, g2⟩, g3⟩, g4⟩, g5⟩, g6⟩ := h5
  simp [Cond.before, Cond.holds, Cond.value, h1, h2, h3, h4, g1, g2, g3, g4, g5, g6]
def isCode : Jvm.Cond → Bool
  | .code _ _ _ _ => true
  | _ => false
theorem all_split {L : List Jvm.Cond} {P : Jvm.Cond → Bool} (h1 : L.all (fun c => isCode c || P c) = true) (h2 : ∀ c ∈ L.filter isCode, P c = true) : L.all P = true := by
  refine List.all_eq_true.mpr fun c hc => ?_
  have h := List.all_eq_true.mp h1 c hc
  rcases Bool.eq_false_or_eq_true (isCode c) with hi | hi
  · exact h2 c (List.mem_filter.mpr ⟨hc, hi⟩)
  · simpa [hi] using h
set_option maxRecDepth 65536 in
theorem w_c0 : (Jvm.Cond.code x code maxLocals ret).before args0 about1 = true := code_word (m := ⟨1, 3⟩) (meth := k1m3) (c := k1c3) (by decide +kernel) rfl rfl rfl (by decide +kernel)
set_option maxRecDepth 65536 in
theorem w_c1 : (Jvm.Cond.code ({ cls := "com/example/adige/adige/SeedsIsValidPinLaw", name := "check", desc := "(J)Z" } : Jvm.MethodName) method_3_code (2 : Nat) (Option.some Jvm.ClassFile.FieldType.boolean)).before args0 about1 = true := code_word (m := ⟨1, 2⟩) (meth := k1m2) (c := k1c2) (by decide +kernel) rfl rfl rfl (by decide +kernel)
set_option maxRecDepth 65536 in
theorem w_c2 : (Jvm.Cond.code ({ cls := "com/example/adige/adige/Seeds", name := "isValid", desc := "(J)Z" } : Jvm.MethodName) prog_54_method_2_code (2 : Nat) (Option.some Jvm.ClassFile.FieldType.boolean)).before args0 about1 = true := code_word (m := ⟨2, 1⟩) (meth := k2m1) (c := k2c1) (by decide +kernel) rfl rfl rfl (by decide +kernel)
set_option maxRecDepth 65536 in
theorem w_c3 : (Jvm.Cond.code ({ cls := "com/example/adige/adige/SeedsIsValidPinLaw", name := "ref", desc := "(J)Z" } : Jvm.MethodName) method_2_code (2 : Nat) (Option.some Jvm.ClassFile.FieldType.boolean)).before args0 about1 = true := code_word (m := ⟨1, 1⟩) (meth := k1m1) (c := k1c1) (by decide +kernel) rfl rfl rfl (by decide +kernel)
set_option maxRecDepth 65536 in
theorem w_c4 : (Jvm.Cond.code ({ cls := "java/lang/Math", name := "abs", desc := "(J)J" } : Jvm.MethodName) jdk_29_method_61_code (2 : Nat) (Option.some Jvm.ClassFile.FieldType.long)).before args0 about1 = true := code_word (m := ⟨3, 1⟩) (meth := k3m1) (c := k3c1) (by decide +kernel) rfl rfl rfl (by decide +kernel)
def codes1 : List Jvm.Cond := [Jvm.Cond.code x code maxLocals ret, Jvm.Cond.code ({ cls := "com/example/adige/adige/SeedsIsValidPinLaw", name := "check", desc := "(J)Z" } : Jvm.MethodName) method_3_code (2 : Nat) (Option.some Jvm.ClassFile.FieldType.boolean), Jvm.Cond.code ({ cls := "com/example/adige/adige/Seeds", name := "isValid", desc := "(J)Z" } : Jvm.MethodName) prog_54_method_2_code (2 : Nat) (Option.some Jvm.ClassFile.FieldType.boolean), Jvm.Cond.code ({ cls := "com/example/adige/adige/SeedsIsValidPinLaw", name := "ref", desc := "(J)Z" } : Jvm.MethodName) method_2_code (2 : Nat) (Option.some Jvm.ClassFile.FieldType.boolean), Jvm.Cond.code ({ cls := "java/lang/Math", name := "abs", desc := "(J)J" } : Jvm.MethodName) jdk_29_method_61_code (2 : Nat) (Option.some Jvm.ClassFile.FieldType.long)]
set_option maxRecDepth 65536 in
theorem codes_eq : words1.filter isCode = codes1 := rfl
theorem w_codes : ∀ c ∈ words1.filter isCode, c.before args0 about1 = true := by
  rw [codes_eq]
  intro c hc
  simp only [codes1, List.mem_cons, List.not_mem_nil, or_false] at hc
  rcases hc with rfl | rfl | rfl | rfl | rfl
  · exact w_c0
  · exact w_c1
  · exact w_c2
  · exact w_c3
  · exact w_c4
set_option maxRecDepth 65536 in
theorem w_t1 : words1.all (fun c => isCode c || c.before args0 about1) = true := by decide +kernel
theorem w_tables : (allAtoms (Jvm.Cond.code x code maxLocals ret :: tables_1)).before args0 about1 = true := by
  rw [allAtoms_all]
  show words1.all (fun c => c.before args0 about1) = true
  refine all_split ?_ w_codes
  rw [w_t1]
set_option maxRecDepth 65536 in
theorem w_case : (Jvm.Cond.and given_1 narrow_1).before args0 about1 = true := by decide +kernel
theorem w_applies : (headSpec (Jvm.Cond.code x code maxLocals ret :: tables_1) room_1).applies x e0.platform about1 = true :=
  (Spec.applies_iff w_frames).mpr ⟨w_running, w_runnable, w_alone, w_named, w_hears, w_ripe, w_room, w_tables⟩
theorem atStart : AtStart classFile x code maxLocals ret World_1 tables_1 room_1 Calls_1 rest_1 Pre_1 launch0 p0 e0 about1 theMethod args0 below0 :=
  ⟨lists_1, trivial, launch0.admits_env _ _ _, launch0.least_env, fairChoices_fair.cas, fairChoices_fair.clock, w_frames, w_args, w_heap, w_applies, trivial, trivial, w_case⟩
end start1
theorem witness_1 : WitnessClaimed_1 := ⟨start1.p0, start1.e0, start1.about1, start1.theMethod, start1.args0, start1.below0, start1.atStart⟩
end Jvm.Pilot.@@N@@
