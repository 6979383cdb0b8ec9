import JvmDerived
import JvmDerived.Pilot.@@N@@Statement
import JvmDerived.Pilot.@@N@@Code
set_option linter.unusedVariables false
set_option linter.unusedSimpArgs false
@@BLOCK:NumsL.lean.txt@@
namespace Jvm.Pilot.@@N@@
open Jvm Jvm.ClassFile Sem Op Lib Jvm.Free Jvm.Stand Jvm.LawKit Jvm.RoadKit Bundle Jvm.Pilot.@@N@@.Jvm.D
/-- from here the run comes to a state of which P holds -/
def own_Go (tb : Tables) (e : Env) (below : List Frame) (P : State → Prop) (T : State) (g : JFrame) : Prop := ∃ t, Steps tb e below (T.setTop g) t ∧ P t
theorem own_st {tb : Tables} {e : Env} {below : List Frame} {P : State → Prop} {T T' : State} {g g' : JFrame} (h : ∀ t, Steps tb e below (T'.setTop g') t → Steps tb e below (T.setTop g) t) (k : own_Go tb e below P T' g') : own_Go tb e below P T g := by
  obtain ⟨t, a, b⟩ := k; exact ⟨t, h t a, b⟩
/-- what the end of a body must be -/
def own_P (s : State) (below : List Frame) (Q : Option Value → Heap → List Loc → Prop) (C S : Nat) (t : State) : Prop := t.status = .running ∧ ∃ o, Ended t below o ∧ ∃ v L, o = .returned v ∧ Q v t.heap L ∧ FrameEnd s o t L C S
/-- .. of a body that may have interned -/
def own_PW (s : State) (below : List Frame) (Q : Option Value → Heap → List Loc → Prop) (C S : Nat) (t : State) : Prop := t.status = .running ∧ ∃ o, Ended t below o ∧ ∃ v L, o = .returned v ∧ Q v t.heap L ∧ ReturnedEndW s o t L C S
section own
variable {p : Program} {l : Launch} {e : Env} {R : Room} {s : State} {m : MethodId} {args : Array Value} {below : List Frame} {meth : Method} {c : Code} {T : State} {locs : List Loc} {cells slots : Nat} {Qo : Option Value → Heap → List Loc → Prop} {C' S' : Nat}
theorem own_out (X : Stand p l e R s m args below meth c T locs cells slots) {v : Option Value} {g : JFrame} (hv : meth.sig.returnType = none → v = none) (hlocks : meth.locks = false)
    (hst : ∀ fs, (∀ (f : JFrame) (acts : List Action), f.method = m → f.locked = none → f.entered = [] → (doReturn e (T.setTop f) acts v).1 = T.setFrames fs) → Steps p.tables e below (T.setTop g) (T.setFrames fs))
    (hc : cells ≤ C') (hs : slots ≤ S') (hq : Qo v T.heap locs) : own_Go p.tables e below (own_P s below Qo C' S') T g := by
  obtain ⟨fs, hr, hrun, hended, hW, hsame⟩ := X.leave (v := v) hv hlocks
  exact ⟨_, hst fs hr, hrun, _, hended, _, _, rfl, hq, ⟨_, rfl⟩, hW, hsame.mono hc hs⟩
theorem own_outW {vm0 : Vm} (X : Stand p l e R (s.setVm vm0) m args below meth c T locs cells slots) {k0 : Nat} (hS : s.Since vm0 k0) (hk : k0 ≤ T.heap.size) {v : Option Value} {g : JFrame} (hv : meth.sig.returnType = none → v = none) (hlocks : meth.locks = false)
    (hst : ∀ fs, (∀ (f : JFrame) (acts : List Action), f.method = m → f.locked = none → f.entered = [] → (doReturn e (T.setTop f) acts v).1 = T.setFrames fs) → Steps p.tables e below (T.setTop g) (T.setFrames fs))
    (hc : cells ≤ C') (hs : slots ≤ S') (hq : Qo v T.heap locs) : own_Go p.tables e below (own_PW s below Qo C' S') T g := by
  obtain ⟨fs, hr, hrun, hended, hW⟩ := X.leaveW hS hk (v := v) hv hlocks
  exact ⟨_, hst fs hr, hrun, _, hended, _, _, rfl, hq, hW.1, hW.2.1, hW.2.2.1, hW.2.2.2.mono hc hs⟩
theorem own_retI (X : Stand p l e R s m args below meth c T locs cells slots) (hx : p.tables.exec = Jvm.exec) {pc : Nat} {Ls : Array Slot} {z : Int32} {rest : List Value} (hret : meth.sig.returnType = some .int) (hd : decode c.code pc = .ok (.ireturn, 1)) (fs : List Frame)
    (hl : ∀ (f : JFrame) (acts : List Action), f.method = m → f.locked = none → f.entered = [] → (doReturn e (T.setTop f) acts (some (.int z))).1 = T.setFrames fs) : Steps p.tables e below (T.setTop (mkF m pc Ls (.int z :: rest))) (T.setFrames fs) :=
  retOut X hx hret rfl (Or.inl ⟨rfl, Or.inl rfl, _, rfl⟩) hd hl
theorem own_retZ (X : Stand p l e R s m args below meth c T locs cells slots) (hx : p.tables.exec = Jvm.exec) {pc : Nat} {Ls : Array Slot} {z : Int32} {rest : List Value} (hret : meth.sig.returnType = some .boolean) (hd : decode c.code pc = .ok (.ireturn, 1)) (hb : z = 0 ∨ z = 1) (fs : List Frame)
    (hl : ∀ (f : JFrame) (acts : List Action), f.method = m → f.locked = none → f.entered = [] → (doReturn e (T.setTop f) acts (some (.int z))).1 = T.setFrames fs) : Steps p.tables e below (T.setTop (mkF m pc Ls (.int z :: rest))) (T.setFrames fs) := by
  have e1 : nar .boolean z = z := by rcases hb with rfl | rfl <;> decide
  exact retN X hx hret (Or.inl rfl) hd (by rw [e1]; exact hl)
theorem own_retJ (X : Stand p l e R s m args below meth c T locs cells slots) (hx : p.tables.exec = Jvm.exec) {pc : Nat} {Ls : Array Slot} {z : Int64} {rest : List Value} (hret : meth.sig.returnType = some .long) (hd : decode c.code pc = .ok (.lreturn, 1)) (fs : List Frame)
    (hl : ∀ (f : JFrame) (acts : List Action), f.method = m → f.locked = none → f.entered = [] → (doReturn e (T.setTop f) acts (some (.long z))).1 = T.setFrames fs) : Steps p.tables e below (T.setTop (mkF m pc Ls (.long z :: rest))) (T.setFrames fs) :=
  retOut X hx hret rfl (Or.inr (Or.inl ⟨rfl, rfl, _, rfl⟩)) hd hl
theorem own_retR (X : Stand p l e R s m args below meth c T locs cells slots) (hx : p.tables.exec = Jvm.exec) {pc : Nat} {Ls : Array Slot} {w : Value} {t : FieldType} {rest : List Value} (hret : meth.sig.returnType = some t) (ht : t.isReference = true) (hw : w.isRef = true) (hn : narrow t w = w) (hd : decode c.code pc = .ok (.areturn, 1)) (fs : List Frame)
    (hl : ∀ (f : JFrame) (acts : List Action), f.method = m → f.locked = none → f.entered = [] → (doReturn e (T.setTop f) acts (some w)).1 = T.setFrames fs) : Steps p.tables e below (T.setTop (mkF m pc Ls (w :: rest))) (T.setFrames fs) :=
  retOut X hx hret hn (Or.inr (Or.inr (Or.inr (Or.inr ⟨rfl, ht, hw⟩)))) hd hl
end own
/-- a private method is the one that is picked -/
theorem own_selp {s : State} {args : Array Value} {y : MethodName} {n : Nat} (hi : (Jvm.Cond.instantiable y.cls n).before args s = true) (hp : s.PrivateAt y) (hm : (Jvm.Cond.instanceMethod y).before args s = true) (hy : y.cls ≠ "java/lang/invoke/MethodHandle" ∧ y.cls ≠ "java/lang/invoke/VarHandle") : (Jvm.Cond.selects y.cls y y).before args s = true := by
  obtain ⟨c, k, h1, h2, -, h4, -⟩ := Cond.instantiable_spec hi
  exact selects_self_of_private h1 h2 (Bool.or_eq_false_iff.mp h4).1 hp hm hy
theorem own_staK {Z : State} {h h' : Heap} {C n d : String} {v : Value} {ws : List Addr} (F : Sta Z h C n d v) (K : Keep h h' ws) (q : ∀ x ∈ ws, ∃ D, Exa Z h x D) : Sta Z h' C n d v := by
  obtain ⟨cf, i, k, f, st, cell, h1, h2, h3, h4, h5, h6, h7⟩ := F
  refine ⟨cf, i, k, f, st, cell, h1, h2, h3, h4, K.2.1 st cell h5 (fun hm => ?_), h6, h7⟩
  obtain ⟨D, c', k', e1, -, -, e4, -⟩ := q st hm
  cases h5.symm.trans e1
  rw [h6] at e4; cases e4
/-- a reference or null -/
theorem own_refOf {w : Value} (h : w.isRef = true) (c : ¬ w = Value.null) : ∃ a, w = .ref a := (ref_cases h).resolve_left c
theorem own_nW {t : FieldType} {w : Value} (ht : t.isReference = true) (h : w.isRef = true) : narrow t w = w := by
  rcases ref_cases h with rfl | ⟨a, rfl⟩ <;> cases t <;> first | rfl | simp [FieldType.isReference] at ht
theorem own_fW {t : FieldType} {w : Value} (ht : t.isReference = true) (h : w.isRef = true) : fits t w = true := by
  rcases ref_cases h with rfl | ⟨a, rfl⟩ <;> cases t <;> first | rfl | simp [FieldType.isReference] at ht
theorem own_nb {z : Int32} (h : z = 0 ∨ z = 1) : narrow .boolean (.int z) = .int z := by rcases h with rfl | rfl <;> rfl
theorem own_fb {z : Int32} (h : z = 0 ∨ z = 1) : fits .boolean (.int z) = true := by rcases h with rfl | rfl <;> rfl
/-- lcmp and a branch, in one -/
def own_lcv : ClassFile.Cond → Int64 → Int64 → Prop
  | .lt, x, y => x < y | .ge, x, y => ¬ x < y | .gt, x, y => y < x | .le, x, y => ¬ y < x | .eq, x, y => x = y | .ne, x, y => ¬ x = y
theorem own_lcT {cd : ClassFile.Cond} {x y : Int64} (h : own_lcv cd x y) : ifCond.holds cd (lcmpW x y) = true := by
  rw [if0]
  cases cd
  · exact (teq ((lw_eq x y).mpr h)).1
  · exact (feq (fun q => h ((lw_eq x y).mp q))).2
  · exact (tlt ((lw_lt x y).mpr h)).1
  · exact (flt (fun q => h ((lw_lt x y).mp q))).2.1
  · exact (tlt ((lw_gt x y).mpr h)).2.2.1
  · exact (flt (fun q => h ((lw_gt x y).mp q))).2.2.2
theorem own_lcF {cd : ClassFile.Cond} {x y : Int64} (h : ¬ own_lcv cd x y) : ifCond.holds cd (lcmpW x y) = false := by
  rw [if0]
  cases cd
  · exact (feq (fun q => h ((lw_eq x y).mp q))).1
  · exact (teq (Classical.byContradiction fun q => h (fun r => q ((lw_eq x y).mpr r)))).2
  · exact (flt (fun q => h ((lw_lt x y).mp q))).1
  · exact (tlt (Classical.byContradiction fun q => h (fun r => q ((lw_lt x y).mpr r)))).2.1
  · exact (flt (fun q => h ((lw_gt x y).mp q))).2.2.1
  · exact (tlt (Classical.byContradiction fun q => h (fun r => q ((lw_gt x y).mpr r)))).2.2.2

theorem own_pd__I_Z : parseMethodDescriptor "(I)Z" = some ⟨[.int], some .boolean⟩ := by decide +kernel
def own_isDigit (x0 : Int32) : Int32 := (if x0 < (48 : Int32) then (0 : Int32) else (if (57 : Int32) < x0 then (0 : Int32) else (1 : Int32)))
theorem own_isDigit_b (x0 : Int32) : (own_isDigit x0) = 0 ∨ (own_isDigit x0) = 1 := by
  unfold own_isDigit
  (repeat' split) <;> first | exact Or.inl rfl | exact Or.inr rfl
theorem d_prog_10_method_3_code_0 : decode prog_10_method_3_code 0 = .ok (.iload_n 0, 1) := by decide +kernel
theorem d_prog_10_method_3_code_1 : decode prog_10_method_3_code 1 = .ok (.bipush 48, 2) := by decide +kernel
theorem d_prog_10_method_3_code_3 : decode prog_10_method_3_code 3 = .ok (.if_icmp .lt 13, 3) := by decide +kernel
theorem d_prog_10_method_3_code_6 : decode prog_10_method_3_code 6 = .ok (.iload_n 0, 1) := by decide +kernel
theorem d_prog_10_method_3_code_7 : decode prog_10_method_3_code 7 = .ok (.bipush 57, 2) := by decide +kernel
theorem d_prog_10_method_3_code_9 : decode prog_10_method_3_code 9 = .ok (.if_icmp .gt 7, 3) := by decide +kernel
theorem d_prog_10_method_3_code_12 : decode prog_10_method_3_code 12 = .ok (.iconst 1, 1) := by decide +kernel
theorem d_prog_10_method_3_code_13 : decode prog_10_method_3_code 13 = .ok (.goto 4, 3) := by decide +kernel
theorem d_prog_10_method_3_code_16 : decode prog_10_method_3_code 16 = .ok (.iconst 0, 1) := by decide +kernel
theorem d_prog_10_method_3_code_17 : decode prog_10_method_3_code 17 = .ok (.ireturn, 1) := by decide +kernel
theorem own_pn1 : plainName "com/example/portcullis/portcullis/Entry" = true := by first | (simp [plainName, overriddenIn]; done) | decide +kernel
theorem own_ef1 (m : MethodId) (x0 : Int32) : entryFrame m #[(.int x0)] 1 = mkF m 0 #[.val (.int x0)] [] := by first | (simp [entryFrame, mkF, argsToLocals, Value.category]; done) | rfl
def Q1 (Z : State) (x0 : Int32) (h0 : Heap) (n0 : Nat) (v : Option Value) (h : Heap) (L : List Loc) : Prop := v = some (.int (own_isDigit x0)) ∧ Fr n0 L ∧ h = h0
set_option maxRecDepth 65536 in
set_option maxHeartbeats 40000000 in
theorem rm1 (l : Launch) (Z : State) (a0 : Array Value) (hw : ∀ d ∈ tables_1, d.before a0 Z = true) (ws : List Jvm.Cond) (x0 : Int32) (h0 : Heap) (n0 : Nat) (Z0 : n0 ≤ h0.size) :
    MetFree l (⟨"com/example/portcullis/portcullis/Entry", "isDigit", "(I)Z"⟩ : MethodName) (head1 (Jvm.Cond.code (⟨"com/example/portcullis/portcullis/Entry", "isDigit", "(I)Z"⟩ : MethodName) prog_10_method_3_code 1 (some .boolean) :: ws) ({ frames := 0, cells := 0, slots := 0, locals := 0 } : Room)) (fun a U => a = #[(.int x0)] ∧ Z.Warmed39 U.vm ∧ U.heap = h0) (fun _ _ _ _ _ => True) (fun _ U o U' => ∃ v L, o = .returned v ∧ Q1 Z x0 h0 n0 v U'.heap L ∧ FrameEnd U o U' L ({ frames := 0, cells := 0, slots := 0, locals := 0 } : Room).cells ({ frames := 0, cells := 0, slots := 0, locals := 0 } : Room).slots) := by
  refine MetFree.of_bodySF (plainFor_of_name own_pn1) hisR ?_
  intro p e s m args below meth c s₁ Bd hml0 hP hK
  obtain ⟨rfl, hZ, hh⟩ := hP
  have hx := Bd.exec
  have hby := Bd.bytes
  have hml : c.maxLocals = 1 := hml0
  have hown : s.vm.findClass "com/example/portcullis/portcullis/Entry" = some m.cls := findClass_of_methodNamed Bd.named
  have hnm := (name_of_methodNamed Bd.named Bd.method).1
  have X0 : Stand p l e ({ frames := 0, cells := 0, slots := 0, locals := 0 } : Room) s m #[(.int x0)] below meth c s₁ [] 0 0 := Stand.of_body Bd
  have e0 : s₁.heap = h0 := by rw [← hh, Bd.state]; rfl
  have N0 := Fr.nil n0
  obtain ⟨Pq, hPq⟩ : ∃ P, P = own_P s below (fun v h L => Q1 Z x0 h0 n0 v h L) ({ frames := 0, cells := 0, slots := 0, locals := 0 } : Room).cells ({ frames := 0, cells := 0, slots := 0, locals := 0 } : Room).slots := ⟨_, rfl⟩
  suffices hgo : own_Go p.tables e below Pq s₁ (mkF m 0 #[.val (.int x0)] []) by
    subst hPq
    obtain ⟨t, k1, k2, o, k3, k4⟩ := hgo
    exact ⟨t, o, castTop (own_ef1 m x0) k1, k2, k3, k4⟩
  show own_Go _ _ _ _ s₁ (mkF m 0 #[.val (.int x0)] [])
  refine own_st (fun t k => XS.iloadN X0.here hx rfl (hb hby d_prog_10_method_3_code_0) rfl k) ?_
  show own_Go _ _ _ _ s₁ (mkF m 1 _ [(.int x0)])
  refine own_st (fun t k => XS.bipush X0.here hx rfl (hb hby d_prog_10_method_3_code_1) k) ?_
  show own_Go _ _ _ _ s₁ (mkF m 3 _ [(.int (48 : Int32)), (.int x0)])
  have J6 : ∀ (Tj6 : State) (Lj6 : List Loc) (p7 : Int32), Stand p l e ({ frames := 0, cells := 0, slots := 0, locals := 0 } : Room) s m #[(.int x0)] below meth c Tj6 Lj6 0 0 → Tj6.heap = h0 → Fr n0 Lj6 → p7 = (if x0 < (48 : Int32) then (0 : Int32) else (if (57 : Int32) < x0 then (0 : Int32) else (1 : Int32))) → own_Go p.tables e below Pq Tj6 (mkF m 17 #[.val (.int x0)] [(.int p7)]) := by
    intro Tj6 Lj6 p7 Xj6 ej6 Nj6 qp7
    show own_Go _ _ _ _ Tj6 (mkF m 17 _ [(.int p7)])
    have hb_p7 : p7 = 0 ∨ p7 = 1 := by rw [qp7]; (repeat' split) <;> first | exact Or.inl rfl | exact Or.inr rfl | assumption
    subst hPq
    refine own_out Xj6 (v := some (.int p7)) (fun h => by rw [Bd.returns] at h; cases h) Bd.notSynchronized (own_retZ Xj6 hx Bd.returns (hb hby d_prog_10_method_3_code_17) hb_p7) (by decide) (by decide) ?_
    show Q1 Z x0 h0 n0 _ Tj6.heap _
    rw [ej6]
    exact ⟨by subst_vars; rfl, Nj6, rfl⟩
  by_cases c1 : x0 < (48 : Int32)
  · skip
    refine own_st (fun t k => XS.icmpYes X0.here hx rfl (pc0 := 3) (pc' := 16) rfl (hb hby d_prog_10_method_3_code_3) rfl (tlt c1).1 (by decide) (by decide) k) ?_
    show own_Go _ _ _ _ s₁ (mkF m 16 _ [])
    refine own_st (fun t k => XS.iconst X0.here hx rfl (hb hby d_prog_10_method_3_code_16) k) ?_
    show own_Go _ _ _ _ s₁ (mkF m 17 _ [(.int (0 : Int32))])
    exact J6 s₁ _ _ X0 e0 N0 (by simp only [if_pos c1])
  · skip
    refine own_st (fun t k => XS.icmpNo X0.here hx rfl (hb hby d_prog_10_method_3_code_3) rfl (flt c1).1 k) ?_
    show own_Go _ _ _ _ s₁ (mkF m 6 _ [])
    refine own_st (fun t k => XS.iloadN X0.here hx rfl (hb hby d_prog_10_method_3_code_6) rfl k) ?_
    show own_Go _ _ _ _ s₁ (mkF m 7 _ [(.int x0)])
    refine own_st (fun t k => XS.bipush X0.here hx rfl (hb hby d_prog_10_method_3_code_7) k) ?_
    show own_Go _ _ _ _ s₁ (mkF m 9 _ [(.int (57 : Int32)), (.int x0)])
    by_cases c3 : (57 : Int32) < x0
    · skip
      refine own_st (fun t k => XS.icmpYes X0.here hx rfl (pc0 := 9) (pc' := 16) rfl (hb hby d_prog_10_method_3_code_9) rfl (tlt c3).2.2.1 (by decide) (by decide) k) ?_
      show own_Go _ _ _ _ s₁ (mkF m 16 _ [])
      refine own_st (fun t k => XS.iconst X0.here hx rfl (hb hby d_prog_10_method_3_code_16) k) ?_
      show own_Go _ _ _ _ s₁ (mkF m 17 _ [(.int (0 : Int32))])
      exact J6 s₁ _ _ X0 e0 N0 (by simp only [if_neg c1, if_pos c3])
    · skip
      refine own_st (fun t k => XS.icmpNo X0.here hx rfl (hb hby d_prog_10_method_3_code_9) rfl (flt c3).2.2.1 k) ?_
      show own_Go _ _ _ _ s₁ (mkF m 12 _ [])
      refine own_st (fun t k => XS.iconst X0.here hx rfl (hb hby d_prog_10_method_3_code_12) k) ?_
      show own_Go _ _ _ _ s₁ (mkF m 13 _ [(.int (1 : Int32))])
      refine own_st (fun t k => XS.goto X0.here hx rfl (pc0 := 13) (pc' := 17) rfl (hb hby d_prog_10_method_3_code_13) (by decide) (by decide) k) ?_
      show own_Go _ _ _ _ s₁ (mkF m 17 _ [(.int (1 : Int32))])
      exact J6 s₁ _ _ X0 e0 N0 (by simp only [if_neg c1, if_neg c3])
def own_ref (x0 : Int32) : Int32 := (if x0 = (48 : Int32) then (1 : Int32) else (if x0 = (49 : Int32) then (1 : Int32) else (if x0 = (50 : Int32) then (1 : Int32) else (if x0 = (51 : Int32) then (1 : Int32) else (if x0 = (52 : Int32) then (1 : Int32) else (if x0 = (53 : Int32) then (1 : Int32) else (if x0 = (54 : Int32) then (1 : Int32) else (if x0 = (55 : Int32) then (1 : Int32) else (if x0 = (56 : Int32) then (1 : Int32) else (if x0 = (57 : Int32) then (1 : Int32) else (0 : Int32)))))))))))
theorem own_ref_b (x0 : Int32) : (own_ref x0) = 0 ∨ (own_ref x0) = 1 := by
  unfold own_ref
  (repeat' split) <;> first | exact Or.inl rfl | exact Or.inr rfl
theorem d_method_3_code_0 : decode method_3_code 0 = .ok (.iload_n 0, 1) := by decide +kernel
theorem d_method_3_code_1 : decode method_3_code 1 = .ok (.bipush 48, 2) := by decide +kernel
theorem d_method_3_code_3 : decode method_3_code 3 = .ok (.if_icmp .eq 57, 3) := by decide +kernel
theorem d_method_3_code_6 : decode method_3_code 6 = .ok (.iload_n 0, 1) := by decide +kernel
theorem d_method_3_code_7 : decode method_3_code 7 = .ok (.bipush 49, 2) := by decide +kernel
theorem d_method_3_code_9 : decode method_3_code 9 = .ok (.if_icmp .eq 51, 3) := by decide +kernel
theorem d_method_3_code_12 : decode method_3_code 12 = .ok (.iload_n 0, 1) := by decide +kernel
theorem d_method_3_code_13 : decode method_3_code 13 = .ok (.bipush 50, 2) := by decide +kernel
theorem d_method_3_code_15 : decode method_3_code 15 = .ok (.if_icmp .eq 45, 3) := by decide +kernel
theorem d_method_3_code_18 : decode method_3_code 18 = .ok (.iload_n 0, 1) := by decide +kernel
theorem d_method_3_code_19 : decode method_3_code 19 = .ok (.bipush 51, 2) := by decide +kernel
theorem d_method_3_code_21 : decode method_3_code 21 = .ok (.if_icmp .eq 39, 3) := by decide +kernel
theorem d_method_3_code_24 : decode method_3_code 24 = .ok (.iload_n 0, 1) := by decide +kernel
theorem d_method_3_code_25 : decode method_3_code 25 = .ok (.bipush 52, 2) := by decide +kernel
theorem d_method_3_code_27 : decode method_3_code 27 = .ok (.if_icmp .eq 33, 3) := by decide +kernel
theorem d_method_3_code_30 : decode method_3_code 30 = .ok (.iload_n 0, 1) := by decide +kernel
theorem d_method_3_code_31 : decode method_3_code 31 = .ok (.bipush 53, 2) := by decide +kernel
theorem d_method_3_code_33 : decode method_3_code 33 = .ok (.if_icmp .eq 27, 3) := by decide +kernel
theorem d_method_3_code_36 : decode method_3_code 36 = .ok (.iload_n 0, 1) := by decide +kernel
theorem d_method_3_code_37 : decode method_3_code 37 = .ok (.bipush 54, 2) := by decide +kernel
theorem d_method_3_code_39 : decode method_3_code 39 = .ok (.if_icmp .eq 21, 3) := by decide +kernel
theorem d_method_3_code_42 : decode method_3_code 42 = .ok (.iload_n 0, 1) := by decide +kernel
theorem d_method_3_code_43 : decode method_3_code 43 = .ok (.bipush 55, 2) := by decide +kernel
theorem d_method_3_code_45 : decode method_3_code 45 = .ok (.if_icmp .eq 15, 3) := by decide +kernel
theorem d_method_3_code_48 : decode method_3_code 48 = .ok (.iload_n 0, 1) := by decide +kernel
theorem d_method_3_code_49 : decode method_3_code 49 = .ok (.bipush 56, 2) := by decide +kernel
theorem d_method_3_code_51 : decode method_3_code 51 = .ok (.if_icmp .eq 9, 3) := by decide +kernel
theorem d_method_3_code_54 : decode method_3_code 54 = .ok (.iload_n 0, 1) := by decide +kernel
theorem d_method_3_code_55 : decode method_3_code 55 = .ok (.bipush 57, 2) := by decide +kernel
theorem d_method_3_code_57 : decode method_3_code 57 = .ok (.if_icmp .ne 7, 3) := by decide +kernel
theorem d_method_3_code_60 : decode method_3_code 60 = .ok (.iconst 1, 1) := by decide +kernel
theorem d_method_3_code_61 : decode method_3_code 61 = .ok (.goto 4, 3) := by decide +kernel
theorem d_method_3_code_64 : decode method_3_code 64 = .ok (.iconst 0, 1) := by decide +kernel
theorem d_method_3_code_65 : decode method_3_code 65 = .ok (.ireturn, 1) := by decide +kernel
theorem own_pn2 : plainName "com/example/portcullis/portcullis/EntryIsDigitPinLaw" = true := by first | (simp [plainName, overriddenIn]; done) | decide +kernel
theorem own_ef2 (m : MethodId) (x0 : Int32) : entryFrame m #[(.int x0)] 1 = mkF m 0 #[.val (.int x0)] [] := by first | (simp [entryFrame, mkF, argsToLocals, Value.category]; done) | rfl
def Q2 (Z : State) (x0 : Int32) (h0 : Heap) (n0 : Nat) (v : Option Value) (h : Heap) (L : List Loc) : Prop := v = some (.int (own_ref x0)) ∧ Fr n0 L ∧ h = h0
set_option maxRecDepth 65536 in
set_option maxHeartbeats 40000000 in
theorem rm2 (l : Launch) (Z : State) (a0 : Array Value) (hw : ∀ d ∈ tables_1, d.before a0 Z = true) (ws : List Jvm.Cond) (x0 : Int32) (h0 : Heap) (n0 : Nat) (Z0 : n0 ≤ h0.size) :
    MetFree l (⟨"com/example/portcullis/portcullis/EntryIsDigitPinLaw", "ref", "(I)Z"⟩ : MethodName) (head1 (Jvm.Cond.code (⟨"com/example/portcullis/portcullis/EntryIsDigitPinLaw", "ref", "(I)Z"⟩ : MethodName) method_3_code 1 (some .boolean) :: ws) ({ frames := 0, cells := 0, slots := 0, locals := 0 } : Room)) (fun a U => a = #[(.int x0)] ∧ Z.Warmed39 U.vm ∧ U.heap = h0) (fun _ _ _ _ _ => True) (fun _ U o U' => ∃ v L, o = .returned v ∧ Q2 Z x0 h0 n0 v U'.heap L ∧ FrameEnd U o U' L ({ frames := 0, cells := 0, slots := 0, locals := 0 } : Room).cells ({ frames := 0, cells := 0, slots := 0, locals := 0 } : Room).slots) := by
  refine MetFree.of_bodySF (plainFor_of_name own_pn2) hisR ?_
  intro p e s m args below meth c s₁ Bd hml0 hP hK
  obtain ⟨rfl, hZ, hh⟩ := hP
  have hx := Bd.exec
  have hby := Bd.bytes
  have hml : c.maxLocals = 1 := hml0
  have hown : s.vm.findClass "com/example/portcullis/portcullis/EntryIsDigitPinLaw" = some m.cls := findClass_of_methodNamed Bd.named
  have hnm := (name_of_methodNamed Bd.named Bd.method).1
  have X0 : Stand p l e ({ frames := 0, cells := 0, slots := 0, locals := 0 } : Room) s m #[(.int x0)] below meth c s₁ [] 0 0 := Stand.of_body Bd
  have e0 : s₁.heap = h0 := by rw [← hh, Bd.state]; rfl
  have N0 := Fr.nil n0
  obtain ⟨Pq, hPq⟩ : ∃ P, P = own_P s below (fun v h L => Q2 Z x0 h0 n0 v h L) ({ frames := 0, cells := 0, slots := 0, locals := 0 } : Room).cells ({ frames := 0, cells := 0, slots := 0, locals := 0 } : Room).slots := ⟨_, rfl⟩
  suffices hgo : own_Go p.tables e below Pq s₁ (mkF m 0 #[.val (.int x0)] []) by
    subst hPq
    obtain ⟨t, k1, k2, o, k3, k4⟩ := hgo
    exact ⟨t, o, castTop (own_ef2 m x0) k1, k2, k3, k4⟩
  show own_Go _ _ _ _ s₁ (mkF m 0 #[.val (.int x0)] [])
  refine own_st (fun t k => XS.iloadN X0.here hx rfl (hb hby d_method_3_code_0) rfl k) ?_
  show own_Go _ _ _ _ s₁ (mkF m 1 _ [(.int x0)])
  refine own_st (fun t k => XS.bipush X0.here hx rfl (hb hby d_method_3_code_1) k) ?_
  show own_Go _ _ _ _ s₁ (mkF m 3 _ [(.int (48 : Int32)), (.int x0)])
  have J22 : ∀ (Tj22 : State) (Lj22 : List Loc) (p23 : Int32), Stand p l e ({ frames := 0, cells := 0, slots := 0, locals := 0 } : Room) s m #[(.int x0)] below meth c Tj22 Lj22 0 0 → Tj22.heap = h0 → Fr n0 Lj22 → p23 = (if x0 = (48 : Int32) then (1 : Int32) else (if x0 = (49 : Int32) then (1 : Int32) else (if x0 = (50 : Int32) then (1 : Int32) else (if x0 = (51 : Int32) then (1 : Int32) else (if x0 = (52 : Int32) then (1 : Int32) else (if x0 = (53 : Int32) then (1 : Int32) else (if x0 = (54 : Int32) then (1 : Int32) else (if x0 = (55 : Int32) then (1 : Int32) else (if x0 = (56 : Int32) then (1 : Int32) else (if x0 = (57 : Int32) then (1 : Int32) else (0 : Int32))))))))))) → own_Go p.tables e below Pq Tj22 (mkF m 65 #[.val (.int x0)] [(.int p23)]) := by
    intro Tj22 Lj22 p23 Xj22 ej22 Nj22 qp23
    show own_Go _ _ _ _ Tj22 (mkF m 65 _ [(.int p23)])
    have hb_p23 : p23 = 0 ∨ p23 = 1 := by rw [qp23]; (repeat' split) <;> first | exact Or.inl rfl | exact Or.inr rfl | assumption
    subst hPq
    refine own_out Xj22 (v := some (.int p23)) (fun h => by rw [Bd.returns] at h; cases h) Bd.notSynchronized (own_retZ Xj22 hx Bd.returns (hb hby d_method_3_code_65) hb_p23) (by decide) (by decide) ?_
    show Q2 Z x0 h0 n0 _ Tj22.heap _
    rw [ej22]
    exact ⟨by subst_vars; rfl, Nj22, rfl⟩
  by_cases c1 : x0 = (48 : Int32)
  · skip
    refine own_st (fun t k => XS.icmpYes X0.here hx rfl (pc0 := 3) (pc' := 60) rfl (hb hby d_method_3_code_3) rfl (teq c1).1 (by decide) (by decide) k) ?_
    show own_Go _ _ _ _ s₁ (mkF m 60 _ [])
    refine own_st (fun t k => XS.iconst X0.here hx rfl (hb hby d_method_3_code_60) k) ?_
    show own_Go _ _ _ _ s₁ (mkF m 61 _ [(.int (1 : Int32))])
    refine own_st (fun t k => XS.goto X0.here hx rfl (pc0 := 61) (pc' := 65) rfl (hb hby d_method_3_code_61) (by decide) (by decide) k) ?_
    show own_Go _ _ _ _ s₁ (mkF m 65 _ [(.int (1 : Int32))])
    exact J22 s₁ _ _ X0 e0 N0 (by simp only [if_pos c1])
  · skip
    refine own_st (fun t k => XS.icmpNo X0.here hx rfl (hb hby d_method_3_code_3) rfl (feq c1).1 k) ?_
    show own_Go _ _ _ _ s₁ (mkF m 6 _ [])
    refine own_st (fun t k => XS.iloadN X0.here hx rfl (hb hby d_method_3_code_6) rfl k) ?_
    show own_Go _ _ _ _ s₁ (mkF m 7 _ [(.int x0)])
    refine own_st (fun t k => XS.bipush X0.here hx rfl (hb hby d_method_3_code_7) k) ?_
    show own_Go _ _ _ _ s₁ (mkF m 9 _ [(.int (49 : Int32)), (.int x0)])
    by_cases c3 : x0 = (49 : Int32)
    · skip
      refine own_st (fun t k => XS.icmpYes X0.here hx rfl (pc0 := 9) (pc' := 60) rfl (hb hby d_method_3_code_9) rfl (teq c3).1 (by decide) (by decide) k) ?_
      show own_Go _ _ _ _ s₁ (mkF m 60 _ [])
      refine own_st (fun t k => XS.iconst X0.here hx rfl (hb hby d_method_3_code_60) k) ?_
      show own_Go _ _ _ _ s₁ (mkF m 61 _ [(.int (1 : Int32))])
      refine own_st (fun t k => XS.goto X0.here hx rfl (pc0 := 61) (pc' := 65) rfl (hb hby d_method_3_code_61) (by decide) (by decide) k) ?_
      show own_Go _ _ _ _ s₁ (mkF m 65 _ [(.int (1 : Int32))])
      exact J22 s₁ _ _ X0 e0 N0 (by simp only [if_neg c1, if_pos c3])
    · skip
      refine own_st (fun t k => XS.icmpNo X0.here hx rfl (hb hby d_method_3_code_9) rfl (feq c3).1 k) ?_
      show own_Go _ _ _ _ s₁ (mkF m 12 _ [])
      refine own_st (fun t k => XS.iloadN X0.here hx rfl (hb hby d_method_3_code_12) rfl k) ?_
      show own_Go _ _ _ _ s₁ (mkF m 13 _ [(.int x0)])
      refine own_st (fun t k => XS.bipush X0.here hx rfl (hb hby d_method_3_code_13) k) ?_
      show own_Go _ _ _ _ s₁ (mkF m 15 _ [(.int (50 : Int32)), (.int x0)])
      by_cases c5 : x0 = (50 : Int32)
      · skip
        refine own_st (fun t k => XS.icmpYes X0.here hx rfl (pc0 := 15) (pc' := 60) rfl (hb hby d_method_3_code_15) rfl (teq c5).1 (by decide) (by decide) k) ?_
        show own_Go _ _ _ _ s₁ (mkF m 60 _ [])
        refine own_st (fun t k => XS.iconst X0.here hx rfl (hb hby d_method_3_code_60) k) ?_
        show own_Go _ _ _ _ s₁ (mkF m 61 _ [(.int (1 : Int32))])
        refine own_st (fun t k => XS.goto X0.here hx rfl (pc0 := 61) (pc' := 65) rfl (hb hby d_method_3_code_61) (by decide) (by decide) k) ?_
        show own_Go _ _ _ _ s₁ (mkF m 65 _ [(.int (1 : Int32))])
        exact J22 s₁ _ _ X0 e0 N0 (by simp only [if_neg c1, if_neg c3, if_pos c5])
      · skip
        refine own_st (fun t k => XS.icmpNo X0.here hx rfl (hb hby d_method_3_code_15) rfl (feq c5).1 k) ?_
        show own_Go _ _ _ _ s₁ (mkF m 18 _ [])
        refine own_st (fun t k => XS.iloadN X0.here hx rfl (hb hby d_method_3_code_18) rfl k) ?_
        show own_Go _ _ _ _ s₁ (mkF m 19 _ [(.int x0)])
        refine own_st (fun t k => XS.bipush X0.here hx rfl (hb hby d_method_3_code_19) k) ?_
        show own_Go _ _ _ _ s₁ (mkF m 21 _ [(.int (51 : Int32)), (.int x0)])
        by_cases c7 : x0 = (51 : Int32)
        · skip
          refine own_st (fun t k => XS.icmpYes X0.here hx rfl (pc0 := 21) (pc' := 60) rfl (hb hby d_method_3_code_21) rfl (teq c7).1 (by decide) (by decide) k) ?_
          show own_Go _ _ _ _ s₁ (mkF m 60 _ [])
          refine own_st (fun t k => XS.iconst X0.here hx rfl (hb hby d_method_3_code_60) k) ?_
          show own_Go _ _ _ _ s₁ (mkF m 61 _ [(.int (1 : Int32))])
          refine own_st (fun t k => XS.goto X0.here hx rfl (pc0 := 61) (pc' := 65) rfl (hb hby d_method_3_code_61) (by decide) (by decide) k) ?_
          show own_Go _ _ _ _ s₁ (mkF m 65 _ [(.int (1 : Int32))])
          exact J22 s₁ _ _ X0 e0 N0 (by simp only [if_neg c1, if_neg c3, if_neg c5, if_pos c7])
        · skip
          refine own_st (fun t k => XS.icmpNo X0.here hx rfl (hb hby d_method_3_code_21) rfl (feq c7).1 k) ?_
          show own_Go _ _ _ _ s₁ (mkF m 24 _ [])
          refine own_st (fun t k => XS.iloadN X0.here hx rfl (hb hby d_method_3_code_24) rfl k) ?_
          show own_Go _ _ _ _ s₁ (mkF m 25 _ [(.int x0)])
          refine own_st (fun t k => XS.bipush X0.here hx rfl (hb hby d_method_3_code_25) k) ?_
          show own_Go _ _ _ _ s₁ (mkF m 27 _ [(.int (52 : Int32)), (.int x0)])
          by_cases c9 : x0 = (52 : Int32)
          · skip
            refine own_st (fun t k => XS.icmpYes X0.here hx rfl (pc0 := 27) (pc' := 60) rfl (hb hby d_method_3_code_27) rfl (teq c9).1 (by decide) (by decide) k) ?_
            show own_Go _ _ _ _ s₁ (mkF m 60 _ [])
            refine own_st (fun t k => XS.iconst X0.here hx rfl (hb hby d_method_3_code_60) k) ?_
            show own_Go _ _ _ _ s₁ (mkF m 61 _ [(.int (1 : Int32))])
            refine own_st (fun t k => XS.goto X0.here hx rfl (pc0 := 61) (pc' := 65) rfl (hb hby d_method_3_code_61) (by decide) (by decide) k) ?_
            show own_Go _ _ _ _ s₁ (mkF m 65 _ [(.int (1 : Int32))])
            exact J22 s₁ _ _ X0 e0 N0 (by simp only [if_neg c1, if_neg c3, if_neg c5, if_neg c7, if_pos c9])
          · skip
            refine own_st (fun t k => XS.icmpNo X0.here hx rfl (hb hby d_method_3_code_27) rfl (feq c9).1 k) ?_
            show own_Go _ _ _ _ s₁ (mkF m 30 _ [])
            refine own_st (fun t k => XS.iloadN X0.here hx rfl (hb hby d_method_3_code_30) rfl k) ?_
            show own_Go _ _ _ _ s₁ (mkF m 31 _ [(.int x0)])
            refine own_st (fun t k => XS.bipush X0.here hx rfl (hb hby d_method_3_code_31) k) ?_
            show own_Go _ _ _ _ s₁ (mkF m 33 _ [(.int (53 : Int32)), (.int x0)])
            by_cases c11 : x0 = (53 : Int32)
            · skip
              refine own_st (fun t k => XS.icmpYes X0.here hx rfl (pc0 := 33) (pc' := 60) rfl (hb hby d_method_3_code_33) rfl (teq c11).1 (by decide) (by decide) k) ?_
              show own_Go _ _ _ _ s₁ (mkF m 60 _ [])
              refine own_st (fun t k => XS.iconst X0.here hx rfl (hb hby d_method_3_code_60) k) ?_
              show own_Go _ _ _ _ s₁ (mkF m 61 _ [(.int (1 : Int32))])
              refine own_st (fun t k => XS.goto X0.here hx rfl (pc0 := 61) (pc' := 65) rfl (hb hby d_method_3_code_61) (by decide) (by decide) k) ?_
              show own_Go _ _ _ _ s₁ (mkF m 65 _ [(.int (1 : Int32))])
              exact J22 s₁ _ _ X0 e0 N0 (by simp only [if_neg c1, if_neg c3, if_neg c5, if_neg c7, if_neg c9, if_pos c11])
            · skip
              refine own_st (fun t k => XS.icmpNo X0.here hx rfl (hb hby d_method_3_code_33) rfl (feq c11).1 k) ?_
              show own_Go _ _ _ _ s₁ (mkF m 36 _ [])
              refine own_st (fun t k => XS.iloadN X0.here hx rfl (hb hby d_method_3_code_36) rfl k) ?_
              show own_Go _ _ _ _ s₁ (mkF m 37 _ [(.int x0)])
              refine own_st (fun t k => XS.bipush X0.here hx rfl (hb hby d_method_3_code_37) k) ?_
              show own_Go _ _ _ _ s₁ (mkF m 39 _ [(.int (54 : Int32)), (.int x0)])
              by_cases c13 : x0 = (54 : Int32)
              · skip
                refine own_st (fun t k => XS.icmpYes X0.here hx rfl (pc0 := 39) (pc' := 60) rfl (hb hby d_method_3_code_39) rfl (teq c13).1 (by decide) (by decide) k) ?_
                show own_Go _ _ _ _ s₁ (mkF m 60 _ [])
                refine own_st (fun t k => XS.iconst X0.here hx rfl (hb hby d_method_3_code_60) k) ?_
                show own_Go _ _ _ _ s₁ (mkF m 61 _ [(.int (1 : Int32))])
                refine own_st (fun t k => XS.goto X0.here hx rfl (pc0 := 61) (pc' := 65) rfl (hb hby d_method_3_code_61) (by decide) (by decide) k) ?_
                show own_Go _ _ _ _ s₁ (mkF m 65 _ [(.int (1 : Int32))])
                exact J22 s₁ _ _ X0 e0 N0 (by simp only [if_neg c1, if_neg c3, if_neg c5, if_neg c7, if_neg c9, if_neg c11, if_pos c13])
              · skip
                refine own_st (fun t k => XS.icmpNo X0.here hx rfl (hb hby d_method_3_code_39) rfl (feq c13).1 k) ?_
                show own_Go _ _ _ _ s₁ (mkF m 42 _ [])
                refine own_st (fun t k => XS.iloadN X0.here hx rfl (hb hby d_method_3_code_42) rfl k) ?_
                show own_Go _ _ _ _ s₁ (mkF m 43 _ [(.int x0)])
                refine own_st (fun t k => XS.bipush X0.here hx rfl (hb hby d_method_3_code_43) k) ?_
                show own_Go _ _ _ _ s₁ (mkF m 45 _ [(.int (55 : Int32)), (.int x0)])
                by_cases c15 : x0 = (55 : Int32)
                · skip
                  refine own_st (fun t k => XS.icmpYes X0.here hx rfl (pc0 := 45) (pc' := 60) rfl (hb hby d_method_3_code_45) rfl (teq c15).1 (by decide) (by decide) k) ?_
                  show own_Go _ _ _ _ s₁ (mkF m 60 _ [])
                  refine own_st (fun t k => XS.iconst X0.here hx rfl (hb hby d_method_3_code_60) k) ?_
                  show own_Go _ _ _ _ s₁ (mkF m 61 _ [(.int (1 : Int32))])
                  refine own_st (fun t k => XS.goto X0.here hx rfl (pc0 := 61) (pc' := 65) rfl (hb hby d_method_3_code_61) (by decide) (by decide) k) ?_
                  show own_Go _ _ _ _ s₁ (mkF m 65 _ [(.int (1 : Int32))])
                  exact J22 s₁ _ _ X0 e0 N0 (by simp only [if_neg c1, if_neg c3, if_neg c5, if_neg c7, if_neg c9, if_neg c11, if_neg c13, if_pos c15])
                · skip
                  refine own_st (fun t k => XS.icmpNo X0.here hx rfl (hb hby d_method_3_code_45) rfl (feq c15).1 k) ?_
                  show own_Go _ _ _ _ s₁ (mkF m 48 _ [])
                  refine own_st (fun t k => XS.iloadN X0.here hx rfl (hb hby d_method_3_code_48) rfl k) ?_
                  show own_Go _ _ _ _ s₁ (mkF m 49 _ [(.int x0)])
                  refine own_st (fun t k => XS.bipush X0.here hx rfl (hb hby d_method_3_code_49) k) ?_
                  show own_Go _ _ _ _ s₁ (mkF m 51 _ [(.int (56 : Int32)), (.int x0)])
                  by_cases c17 : x0 = (56 : Int32)
                  · skip
                    refine own_st (fun t k => XS.icmpYes X0.here hx rfl (pc0 := 51) (pc' := 60) rfl (hb hby d_method_3_code_51) rfl (teq c17).1 (by decide) (by decide) k) ?_
                    show own_Go _ _ _ _ s₁ (mkF m 60 _ [])
                    refine own_st (fun t k => XS.iconst X0.here hx rfl (hb hby d_method_3_code_60) k) ?_
                    show own_Go _ _ _ _ s₁ (mkF m 61 _ [(.int (1 : Int32))])
                    refine own_st (fun t k => XS.goto X0.here hx rfl (pc0 := 61) (pc' := 65) rfl (hb hby d_method_3_code_61) (by decide) (by decide) k) ?_
                    show own_Go _ _ _ _ s₁ (mkF m 65 _ [(.int (1 : Int32))])
                    exact J22 s₁ _ _ X0 e0 N0 (by simp only [if_neg c1, if_neg c3, if_neg c5, if_neg c7, if_neg c9, if_neg c11, if_neg c13, if_neg c15, if_pos c17])
                  · skip
                    refine own_st (fun t k => XS.icmpNo X0.here hx rfl (hb hby d_method_3_code_51) rfl (feq c17).1 k) ?_
                    show own_Go _ _ _ _ s₁ (mkF m 54 _ [])
                    refine own_st (fun t k => XS.iloadN X0.here hx rfl (hb hby d_method_3_code_54) rfl k) ?_
                    show own_Go _ _ _ _ s₁ (mkF m 55 _ [(.int x0)])
                    refine own_st (fun t k => XS.bipush X0.here hx rfl (hb hby d_method_3_code_55) k) ?_
                    show own_Go _ _ _ _ s₁ (mkF m 57 _ [(.int (57 : Int32)), (.int x0)])
                    by_cases c19 : x0 = (57 : Int32)
                    · skip
                      refine own_st (fun t k => XS.icmpNo X0.here hx rfl (hb hby d_method_3_code_57) rfl (teq c19).2 k) ?_
                      show own_Go _ _ _ _ s₁ (mkF m 60 _ [])
                      refine own_st (fun t k => XS.iconst X0.here hx rfl (hb hby d_method_3_code_60) k) ?_
                      show own_Go _ _ _ _ s₁ (mkF m 61 _ [(.int (1 : Int32))])
                      refine own_st (fun t k => XS.goto X0.here hx rfl (pc0 := 61) (pc' := 65) rfl (hb hby d_method_3_code_61) (by decide) (by decide) k) ?_
                      show own_Go _ _ _ _ s₁ (mkF m 65 _ [(.int (1 : Int32))])
                      exact J22 s₁ _ _ X0 e0 N0 (by simp only [if_neg c1, if_neg c3, if_neg c5, if_neg c7, if_neg c9, if_neg c11, if_neg c13, if_neg c15, if_neg c17, if_pos c19])
                    · skip
                      refine own_st (fun t k => XS.icmpYes X0.here hx rfl (pc0 := 57) (pc' := 64) rfl (hb hby d_method_3_code_57) rfl (feq c19).2 (by decide) (by decide) k) ?_
                      show own_Go _ _ _ _ s₁ (mkF m 64 _ [])
                      refine own_st (fun t k => XS.iconst X0.here hx rfl (hb hby d_method_3_code_64) k) ?_
                      show own_Go _ _ _ _ s₁ (mkF m 65 _ [(.int (0 : Int32))])
                      exact J22 s₁ _ _ X0 e0 N0 (by simp only [if_neg c1, if_neg c3, if_neg c5, if_neg c7, if_neg c9, if_neg c11, if_neg c13, if_neg c15, if_neg c17, if_neg c19])
theorem own_same (x : Int32) : own_isDigit x = own_ref x := by
  unfold own_isDigit own_ref
  by_cases a : x < 48
  · rw [if_pos a]
    have n : ∀ k : Int32, ¬ k < 48 → ¬ x = k := fun k hk h => hk (h ▸ a)
    rw [if_neg (n 48 (by decide)), if_neg (n 49 (by decide)), if_neg (n 50 (by decide)), if_neg (n 51 (by decide)), if_neg (n 52 (by decide)), if_neg (n 53 (by decide)), if_neg (n 54 (by decide)), if_neg (n 55 (by decide)), if_neg (n 56 (by decide)), if_neg (n 57 (by decide))]
  · rw [if_neg a]
    by_cases b : 57 < x
    · rw [if_pos b]
      have n : ∀ k : Int32, ¬ 57 < k → ¬ x = k := fun k hk h => hk (h ▸ b)
      rw [if_neg (n 48 (by decide)), if_neg (n 49 (by decide)), if_neg (n 50 (by decide)), if_neg (n 51 (by decide)), if_neg (n 52 (by decide)), if_neg (n 53 (by decide)), if_neg (n 54 (by decide)), if_neg (n 55 (by decide)), if_neg (n 56 (by decide)), if_neg (n 57 (by decide))]
    · rw [if_neg b]
      rw [Int32.lt_iff_toInt_lt, show (48 : Int32).toInt = 48 from rfl] at a
      rw [Int32.lt_iff_toInt_lt, show (57 : Int32).toInt = 57 from rfl] at b
      have h : x.toInt = 48 ∨ x.toInt = 49 ∨ x.toInt = 50 ∨ x.toInt = 51 ∨ x.toInt = 52 ∨ x.toInt = 53 ∨ x.toInt = 54 ∨ x.toInt = 55 ∨ x.toInt = 56 ∨ x.toInt = 57 := by omega
      have n : ∀ k : Int32, x.toInt = k.toInt → x = k := fun k hk => Int32.toInt_inj.mp hk
      rcases h with h | h | h | h | h | h | h | h | h | h
      · rw [n 48 h]; rfl
      · rw [n 49 h]; rfl
      · rw [n 50 h]; rfl
      · rw [n 51 h]; rfl
      · rw [n 52 h]; rfl
      · rw [n 53 h]; rfl
      · rw [n 54 h]; rfl
      · rw [n 55 h]; rfl
      · rw [n 56 h]; rfl
      · rw [n 57 h]; rfl
theorem own_pn0 : plainName "com/example/portcullis/portcullis/EntryIsDigitPinLaw" = true := by first | (simp [plainName, overriddenIn]; done) | decide +kernel
theorem own_ef0 (m : MethodId) (x0 : Int32) (x1 : Int32) : entryFrame m #[(.int x0), (.int x1)] maxLocals = mkF m 0 #[.val (.int x0), .val (.int x1), .unset, .unset, .unset] [] := by first | (simp [entryFrame, mkF, argsToLocals, Value.category, maxLocals]; done) | rfl
def Q0 (Z : State) (x0 : Int32) (x1 : Int32) (h0 : Heap) (n0 : Nat) (v : Option Value) (h : Heap) (L : List Loc) : Prop := v = some (.int 1) ∧ Fr n0 L
theorem own_law (x0 : Int32) (x1 : Int32) (v1 : Int32) (p10 : Int32) (p19 : Int32) (p26 : Int32) (hv1 : ((45 : Int32) + ((x1 &&& (2147483647 : Int32)) % (16 : Int32))) = v1) (qp10 : p10 = (if (own_isDigit x0) = (own_ref x0) then (1 : Int32) else (0 : Int32))) (qp19 : p19 = (if (own_isDigit v1) = (own_ref v1) then (1 : Int32) else (0 : Int32))) (qp26 : p26 = (if p10 = (0 : Int32) then (0 : Int32) else (if p19 = (0 : Int32) then (0 : Int32) else (1 : Int32)))) : p26 = 1 := by
  rw [if_pos (own_same _)] at qp10 qp19
  subst qp10 qp19
  rw [qp26]; decide
set_option maxRecDepth 65536 in
set_option maxHeartbeats 40000000 in
theorem rm0 (l : Launch) (Z : State) (a0 : Array Value) (hw : ∀ d ∈ tables_1, d.before a0 Z = true) (ws : List Jvm.Cond) (x0 : Int32) (x1 : Int32) (h0 : Heap) (n0 : Nat) (Z0 : n0 ≤ h0.size) :
    MetFree l x (head1 (Jvm.Cond.code x code maxLocals ret :: ws) room_1) (fun a U => a = #[(.int x0), (.int x1)] ∧ Z.Warmed39 U.vm ∧ U.heap = h0) (fun _ _ _ _ _ => True) (fun _ U o U' => ∃ v L, o = .returned v ∧ Q0 Z x0 x1 h0 n0 v U'.heap L ∧ FrameEnd U o U' L 0 0) := by
  refine MetFree.of_bodySF (plainFor_of_name own_pn0) hisR ?_
  intro p e s m args below meth c s₁ Bd hml0 hP hK
  obtain ⟨rfl, hZ, hh⟩ := hP
  have hx := Bd.exec
  have hby := Bd.bytes
  have hml : c.maxLocals = 5 := hml0
  have hown : s.vm.findClass "com/example/portcullis/portcullis/EntryIsDigitPinLaw" = some m.cls := findClass_of_methodNamed Bd.named
  have hnm := (name_of_methodNamed Bd.named Bd.method).1
  have X0 : Stand p l e room_1 s m #[(.int x0), (.int x1)] below meth c s₁ [] 0 0 := Stand.of_body Bd
  have e0 : s₁.heap = h0 := by rw [← hh, Bd.state]; rfl
  have N0 := Fr.nil n0
  obtain ⟨Pq, hPq⟩ : ∃ P, P = own_P s below (fun v h L => Q0 Z x0 x1 h0 n0 v h L) 0 0 := ⟨_, rfl⟩
  suffices hgo : own_Go p.tables e below Pq s₁ (mkF m 0 #[.val (.int x0), .val (.int x1), .unset, .unset, .unset] []) by
    subst hPq
    obtain ⟨t, k1, k2, o, k3, k4⟩ := hgo
    exact ⟨t, o, castTop (own_ef0 m x0 x1) k1, k2, k3, k4⟩
  show own_Go _ _ _ _ s₁ (mkF m 0 #[.val (.int x0), .val (.int x1), .unset, .unset, .unset] [])
  refine own_st (fun t k => XS.bipush X0.here hx rfl (hb hby at_0) k) ?_
  show own_Go _ _ _ _ s₁ (mkF m 2 _ [(.int (45 : Int32))])
  refine own_st (fun t k => XS.iloadN X0.here hx rfl (hb hby at_2) rfl k) ?_
  show own_Go _ _ _ _ s₁ (mkF m 3 _ [(.int x1), (.int (45 : Int32))])
  refine own_st (fun t k => X0.ldcInt hx hown (mvT hZ (hw _ (List.mem_of_getElem? (i := 0) rfl))) (g := (mkF m 3 #[.val (.int x0), .val (.int x1), .unset, .unset, .unset] [(.int x1), (.int (45 : Int32))])) rfl (hb hby at_3) _ k) ?_
  show own_Go _ _ _ _ s₁ (mkF m 5 _ [(.int (2147483647 : Int32)), (.int x1), (.int (45 : Int32))])
  refine own_st (fun t k => XS.iand X0.here hx rfl (hb hby at_5) rfl k) ?_
  show own_Go _ _ _ _ s₁ (mkF m 6 _ [(.int (x1 &&& (2147483647 : Int32))), (.int (45 : Int32))])
  refine own_st (fun t k => XS.bipush X0.here hx rfl (hb hby at_6) k) ?_
  show own_Go _ _ _ _ s₁ (mkF m 8 _ [(.int (16 : Int32)), (.int (x1 &&& (2147483647 : Int32))), (.int (45 : Int32))])
  refine own_st (fun t k => iremM X0 hx rfl (hb hby at_8) rfl (by decide) k) ?_
  show own_Go _ _ _ _ s₁ (mkF m 9 _ [(.int ((x1 &&& (2147483647 : Int32)) % (16 : Int32))), (.int (45 : Int32))])
  refine own_st (fun t k => XS.iadd X0.here hx rfl (hb hby at_9) rfl k) ?_
  show own_Go _ _ _ _ s₁ (mkF m 10 _ [(.int ((45 : Int32) + ((x1 &&& (2147483647 : Int32)) % (16 : Int32))))])
  generalize hv1 : ((45 : Int32) + ((x1 &&& (2147483647 : Int32)) % (16 : Int32))) = v1
  refine own_st (fun t k => XS.istoreN X0.here hx rfl (hb hby at_10) rfl (l' := #[.val (.int x0), .val (.int x1), .val (.int v1), .unset, .unset]) rfl k) ?_
  show own_Go _ _ _ _ s₁ (mkF m 11 #[.val (.int x0), .val (.int x1), .val (.int v1), .unset, .unset] [])
  refine own_st (fun t k => XS.iloadN X0.here hx rfl (hb hby at_11) rfl k) ?_
  show own_Go _ _ _ _ s₁ (mkF m 12 _ [(.int x0)])
  obtain ⟨_, _, ⟨T2, L2, k2, n2⟩, -, X2, ⟨Lc2, hQ2, l2, y2, z2⟩, st2⟩ := Jvm.LawKit.callS X0 hx (y := (⟨"com/example/portcullis/portcullis/Entry", "isDigit", "(I)Z"⟩ : MethodName)) hown (mvT hZ (hw _ (List.mem_of_getElem? (i := 1) rfl))) (mvT hZ (hw _ (List.mem_of_getElem? (i := 2) rfl))) (mvT hZ (hw _ (List.mem_of_getElem? (i := 3) rfl))) (mvT hZ (hw _ (List.mem_of_getElem? (i := 4) rfl))) (by decide) (backOf (W := 0) (rm1 l Z a0 hw [] x0 h0 n0 Z0 ) hZ (hw _ (List.mem_of_getElem? (i := 4) rfl)) (hw _ (List.mem_of_getElem? (i := 3) rfl)) (by decide) (by decide)) (g := (mkF m 12 #[.val (.int x0), .val (.int x1), .val (.int v1), .unset, .unset] [(.int x0)])) rfl (by rw [hml]; rfl) (argsL := [(.int x0)]) (rest := []) (lenOf own_pd__I_Z rfl) rfl (by show 2 * 0 + _ ≤ _; exact Nat.le_of_eq rfl) (hb hby at_12) (fun _ _ => ⟨rfl, e0, (by decide : 0 + 0 ≤ _), (by decide : 0 + 0 ≤ _)⟩)
  dsimp only [Pt.U, Pt.locs, Pt.cells, Pt.slots] at X2 l2 y2 z2 st2 hQ2
  subst l2 y2 z2
  obtain ⟨rfl, NQ2, eq2⟩ := hQ2
  have N3 := Fr.app N0 NQ2
  refine own_st st2 ?_
  show own_Go _ _ _ _ T2 (mkF m 15 _ [(.int (own_isDigit x0))])
  refine own_st (fun t k => XS.iloadN X2.here hx rfl (hb hby at_15) rfl k) ?_
  show own_Go _ _ _ _ T2 (mkF m 16 _ [(.int x0), (.int (own_isDigit x0))])
  obtain ⟨_, _, ⟨T4, L4, k4, n4⟩, -, X4, ⟨Lc4, hQ4, l4, y4, z4⟩, st4⟩ := Jvm.LawKit.callS X2 hx (y := (⟨"com/example/portcullis/portcullis/EntryIsDigitPinLaw", "ref", "(I)Z"⟩ : MethodName)) hown (mvT hZ (hw _ (List.mem_of_getElem? (i := 5) rfl))) (mvT hZ (hw _ (List.mem_of_getElem? (i := 6) rfl))) (mvT hZ (hw _ (List.mem_of_getElem? (i := 7) rfl))) (mvT hZ (hw _ (List.mem_of_getElem? (i := 8) rfl))) (by decide) (backOf (W := 1) (rm2 l Z a0 hw [] x0 h0 n0 Z0 ) hZ (hw _ (List.mem_of_getElem? (i := 8) rfl)) (hw _ (List.mem_of_getElem? (i := 7) rfl)) (by decide) (by decide)) (g := (mkF m 16 #[.val (.int x0), .val (.int x1), .val (.int v1), .unset, .unset] [(.int x0), (.int (own_isDigit x0))])) rfl (by rw [hml]; rfl) (argsL := [(.int x0)]) (rest := [(.int (own_isDigit x0))]) (lenOf own_pd__I_Z rfl) rfl (by show 2 * 0 + _ ≤ _; exact Nat.le_of_eq rfl) (hb hby at_16) (fun _ _ => ⟨rfl, eq2, (by decide : 0 + 0 ≤ _), (by decide : 0 + 0 ≤ _)⟩)
  dsimp only [Pt.U, Pt.locs, Pt.cells, Pt.slots] at X4 l4 y4 z4 st4 hQ4
  subst l4 y4 z4
  obtain ⟨rfl, NQ4, eq4⟩ := hQ4
  have N5 := Fr.app N3 NQ4
  refine own_st st4 ?_
  show own_Go _ _ _ _ T4 (mkF m 19 _ [(.int (own_ref x0)), (.int (own_isDigit x0))])
  have J9 : ∀ (Tj9 : State) (Lj9 : List Loc) (p10 : Int32), Stand p l e room_1 s m #[(.int x0), (.int x1)] below meth c Tj9 Lj9 0 0 → Tj9.heap = h0 → Fr n0 Lj9 → p10 = (if (own_isDigit x0) = (own_ref x0) then (1 : Int32) else (0 : Int32)) → own_Go p.tables e below Pq Tj9 (mkF m 27 #[.val (.int x0), .val (.int x1), .val (.int v1), .unset, .unset] [(.int p10)]) := by
    intro Tj9 Lj9 p10 Xj9 ej9 Nj9 qp10
    show own_Go _ _ _ _ Tj9 (mkF m 27 _ [(.int p10)])
    refine own_st (fun t k => XS.istoreN Xj9.here hx rfl (hb hby at_27) rfl (l' := #[.val (.int x0), .val (.int x1), .val (.int v1), .val (.int p10), .unset]) rfl k) ?_
    show own_Go _ _ _ _ Tj9 (mkF m 28 #[.val (.int x0), .val (.int x1), .val (.int v1), .val (.int p10), .unset] [])
    refine own_st (fun t k => XS.iloadN Xj9.here hx rfl (hb hby at_28) rfl k) ?_
    show own_Go _ _ _ _ Tj9 (mkF m 29 _ [(.int v1)])
    obtain ⟨_, _, ⟨T11, L11, k11, n11⟩, -, X11, ⟨Lc11, hQ11, l11, y11, z11⟩, st11⟩ := Jvm.LawKit.callS Xj9 hx (y := (⟨"com/example/portcullis/portcullis/Entry", "isDigit", "(I)Z"⟩ : MethodName)) hown (mvT hZ (hw _ (List.mem_of_getElem? (i := 1) rfl))) (mvT hZ (hw _ (List.mem_of_getElem? (i := 2) rfl))) (mvT hZ (hw _ (List.mem_of_getElem? (i := 3) rfl))) (mvT hZ (hw _ (List.mem_of_getElem? (i := 4) rfl))) (by decide) (backOf (W := 0) (rm1 l Z a0 hw [] v1 h0 n0 Z0 ) hZ (hw _ (List.mem_of_getElem? (i := 4) rfl)) (hw _ (List.mem_of_getElem? (i := 3) rfl)) (by decide) (by decide)) (g := (mkF m 29 #[.val (.int x0), .val (.int x1), .val (.int v1), .val (.int p10), .unset] [(.int v1)])) rfl (by rw [hml]; rfl) (argsL := [(.int v1)]) (rest := []) (lenOf own_pd__I_Z rfl) rfl (by show 2 * 0 + _ ≤ _; exact Nat.le_of_eq rfl) (hb hby at_29) (fun _ _ => ⟨rfl, ej9, (by decide : 0 + 0 ≤ _), (by decide : 0 + 0 ≤ _)⟩)
    dsimp only [Pt.U, Pt.locs, Pt.cells, Pt.slots] at X11 l11 y11 z11 st11 hQ11
    subst l11 y11 z11
    obtain ⟨rfl, NQ11, eq11⟩ := hQ11
    have N12 := Fr.app Nj9 NQ11
    refine own_st st11 ?_
    show own_Go _ _ _ _ T11 (mkF m 32 _ [(.int (own_isDigit v1))])
    refine own_st (fun t k => XS.iloadN X11.here hx rfl (hb hby at_32) rfl k) ?_
    show own_Go _ _ _ _ T11 (mkF m 33 _ [(.int v1), (.int (own_isDigit v1))])
    obtain ⟨_, _, ⟨T13, L13, k13, n13⟩, -, X13, ⟨Lc13, hQ13, l13, y13, z13⟩, st13⟩ := Jvm.LawKit.callS X11 hx (y := (⟨"com/example/portcullis/portcullis/EntryIsDigitPinLaw", "ref", "(I)Z"⟩ : MethodName)) hown (mvT hZ (hw _ (List.mem_of_getElem? (i := 5) rfl))) (mvT hZ (hw _ (List.mem_of_getElem? (i := 6) rfl))) (mvT hZ (hw _ (List.mem_of_getElem? (i := 7) rfl))) (mvT hZ (hw _ (List.mem_of_getElem? (i := 8) rfl))) (by decide) (backOf (W := 1) (rm2 l Z a0 hw [] v1 h0 n0 Z0 ) hZ (hw _ (List.mem_of_getElem? (i := 8) rfl)) (hw _ (List.mem_of_getElem? (i := 7) rfl)) (by decide) (by decide)) (g := (mkF m 33 #[.val (.int x0), .val (.int x1), .val (.int v1), .val (.int p10), .unset] [(.int v1), (.int (own_isDigit v1))])) rfl (by rw [hml]; rfl) (argsL := [(.int v1)]) (rest := [(.int (own_isDigit v1))]) (lenOf own_pd__I_Z rfl) rfl (by show 2 * 0 + _ ≤ _; exact Nat.le_of_eq rfl) (hb hby at_33) (fun _ _ => ⟨rfl, eq11, (by decide : 0 + 0 ≤ _), (by decide : 0 + 0 ≤ _)⟩)
    dsimp only [Pt.U, Pt.locs, Pt.cells, Pt.slots] at X13 l13 y13 z13 st13 hQ13
    subst l13 y13 z13
    obtain ⟨rfl, NQ13, eq13⟩ := hQ13
    have N14 := Fr.app N12 NQ13
    refine own_st st13 ?_
    show own_Go _ _ _ _ T13 (mkF m 36 _ [(.int (own_ref v1)), (.int (own_isDigit v1))])
    have J18 : ∀ (Tj18 : State) (Lj18 : List Loc) (p19 : Int32), Stand p l e room_1 s m #[(.int x0), (.int x1)] below meth c Tj18 Lj18 0 0 → Tj18.heap = h0 → Fr n0 Lj18 → p19 = (if (own_isDigit v1) = (own_ref v1) then (1 : Int32) else (0 : Int32)) → own_Go p.tables e below Pq Tj18 (mkF m 44 #[.val (.int x0), .val (.int x1), .val (.int v1), .val (.int p10), .unset] [(.int p19)]) := by
      intro Tj18 Lj18 p19 Xj18 ej18 Nj18 qp19
      show own_Go _ _ _ _ Tj18 (mkF m 44 _ [(.int p19)])
      refine own_st (fun t k => XS.istore Xj18.here hx rfl (hb hby at_44) rfl (l' := #[.val (.int x0), .val (.int x1), .val (.int v1), .val (.int p10), .val (.int p19)]) rfl k) ?_
      show own_Go _ _ _ _ Tj18 (mkF m 46 #[.val (.int x0), .val (.int x1), .val (.int v1), .val (.int p10), .val (.int p19)] [])
      refine own_st (fun t k => XS.iloadN Xj18.here hx rfl (hb hby at_46) rfl k) ?_
      show own_Go _ _ _ _ Tj18 (mkF m 47 _ [(.int p10)])
      have J25 : ∀ (Tj25 : State) (Lj25 : List Loc) (p26 : Int32), Stand p l e room_1 s m #[(.int x0), (.int x1)] below meth c Tj25 Lj25 0 0 → Tj25.heap = h0 → Fr n0 Lj25 → p26 = (if p10 = (0 : Int32) then (0 : Int32) else (if p19 = (0 : Int32) then (0 : Int32) else (1 : Int32))) → own_Go p.tables e below Pq Tj25 (mkF m 60 #[.val (.int x0), .val (.int x1), .val (.int v1), .val (.int p10), .val (.int p19)] [(.int p26)]) := by
        intro Tj25 Lj25 p26 Xj25 ej25 Nj25 qp26
        show own_Go _ _ _ _ Tj25 (mkF m 60 _ [(.int p26)])
        subst hPq
        refine own_out Xj25 (v := some (.int (nar .boolean p26))) (fun h => by rw [Bd.returns] at h; cases h) Bd.notSynchronized (fun fs hr => retN Xj25 hx (t := .boolean) Bd.returns (by simp) (hb hby at_60) hr) (by decide) (by decide) ?_
        show Q0 Z x0 x1 h0 n0 _ Tj25.heap _
        rw [ej25]
        exact ⟨congrArg (fun z => some (Value.int (nar .boolean z))) (own_law x0 x1 v1 p10 p19 p26 hv1 qp10 qp19 qp26), Nj25⟩
      by_cases c20 : p10 = (0 : Int32)
      · skip
        refine own_st (fun t k => XS.ifYes Xj18.here hx rfl (pc0 := 47) (pc' := 59) rfl (hb hby at_47) rfl ((if0 _ _).trans (teq c20).1) (by decide) (by decide) k) ?_
        show own_Go _ _ _ _ Tj18 (mkF m 59 _ [])
        refine own_st (fun t k => XS.iconst Xj18.here hx rfl (hb hby at_59) k) ?_
        show own_Go _ _ _ _ Tj18 (mkF m 60 _ [(.int (0 : Int32))])
        exact J25 Tj18 _ _ Xj18 ej18 Nj18 (by simp only [if_pos c20])
      · skip
        refine own_st (fun t k => XS.ifNo Xj18.here hx rfl (hb hby at_47) rfl ((if0 _ _).trans (feq c20).1) k) ?_
        show own_Go _ _ _ _ Tj18 (mkF m 50 _ [])
        refine own_st (fun t k => XS.iload Xj18.here hx rfl (hb hby at_50) rfl k) ?_
        show own_Go _ _ _ _ Tj18 (mkF m 52 _ [(.int p19)])
        by_cases c22 : p19 = (0 : Int32)
        · skip
          refine own_st (fun t k => XS.ifYes Xj18.here hx rfl (pc0 := 52) (pc' := 59) rfl (hb hby at_52) rfl ((if0 _ _).trans (teq c22).1) (by decide) (by decide) k) ?_
          show own_Go _ _ _ _ Tj18 (mkF m 59 _ [])
          refine own_st (fun t k => XS.iconst Xj18.here hx rfl (hb hby at_59) k) ?_
          show own_Go _ _ _ _ Tj18 (mkF m 60 _ [(.int (0 : Int32))])
          exact J25 Tj18 _ _ Xj18 ej18 Nj18 (by simp only [if_neg c20, if_pos c22])
        · skip
          refine own_st (fun t k => XS.ifNo Xj18.here hx rfl (hb hby at_52) rfl ((if0 _ _).trans (feq c22).1) k) ?_
          show own_Go _ _ _ _ Tj18 (mkF m 55 _ [])
          refine own_st (fun t k => XS.iconst Xj18.here hx rfl (hb hby at_55) k) ?_
          show own_Go _ _ _ _ Tj18 (mkF m 56 _ [(.int (1 : Int32))])
          refine own_st (fun t k => XS.goto Xj18.here hx rfl (pc0 := 56) (pc' := 60) rfl (hb hby at_56) (by decide) (by decide) k) ?_
          show own_Go _ _ _ _ Tj18 (mkF m 60 _ [(.int (1 : Int32))])
          exact J25 Tj18 _ _ Xj18 ej18 Nj18 (by simp only [if_neg c20, if_neg c22])
    by_cases c15 : (own_isDigit v1) = (own_ref v1)
    · skip
      refine own_st (fun t k => XS.icmpNo X13.here hx rfl (hb hby at_36) rfl (teq c15).2 k) ?_
      show own_Go _ _ _ _ T13 (mkF m 39 _ [])
      refine own_st (fun t k => XS.iconst X13.here hx rfl (hb hby at_39) k) ?_
      show own_Go _ _ _ _ T13 (mkF m 40 _ [(.int (1 : Int32))])
      refine own_st (fun t k => XS.goto X13.here hx rfl (pc0 := 40) (pc' := 44) rfl (hb hby at_40) (by decide) (by decide) k) ?_
      show own_Go _ _ _ _ T13 (mkF m 44 _ [(.int (1 : Int32))])
      exact J18 T13 _ _ X13 eq13 N14 (by simp only [if_pos c15])
    · skip
      refine own_st (fun t k => XS.icmpYes X13.here hx rfl (pc0 := 36) (pc' := 43) rfl (hb hby at_36) rfl (feq c15).2 (by decide) (by decide) k) ?_
      show own_Go _ _ _ _ T13 (mkF m 43 _ [])
      refine own_st (fun t k => XS.iconst X13.here hx rfl (hb hby at_43) k) ?_
      show own_Go _ _ _ _ T13 (mkF m 44 _ [(.int (0 : Int32))])
      exact J18 T13 _ _ X13 eq13 N14 (by simp only [if_neg c15])
  by_cases c6 : (own_isDigit x0) = (own_ref x0)
  · skip
    refine own_st (fun t k => XS.icmpNo X4.here hx rfl (hb hby at_19) rfl (teq c6).2 k) ?_
    show own_Go _ _ _ _ T4 (mkF m 22 _ [])
    refine own_st (fun t k => XS.iconst X4.here hx rfl (hb hby at_22) k) ?_
    show own_Go _ _ _ _ T4 (mkF m 23 _ [(.int (1 : Int32))])
    refine own_st (fun t k => XS.goto X4.here hx rfl (pc0 := 23) (pc' := 27) rfl (hb hby at_23) (by decide) (by decide) k) ?_
    show own_Go _ _ _ _ T4 (mkF m 27 _ [(.int (1 : Int32))])
    exact J9 T4 _ _ X4 eq4 N5 (by simp only [if_pos c6])
  · skip
    refine own_st (fun t k => XS.icmpYes X4.here hx rfl (pc0 := 19) (pc' := 26) rfl (hb hby at_19) rfl (feq c6).2 (by decide) (by decide) k) ?_
    show own_Go _ _ _ _ T4 (mkF m 26 _ [])
    refine own_st (fun t k => XS.iconst X4.here hx rfl (hb hby at_26) k) ?_
    show own_Go _ _ _ _ T4 (mkF m 27 _ [(.int (0 : Int32))])
    exact J9 T4 _ _ X4 eq4 N5 (by simp only [if_neg c6])
set_option maxRecDepth 65536 in
set_option maxHeartbeats 40000000 in
theorem own_comes {Post : Tables → Env → Array Value → State → Outcome → State → Prop} (hpost : ∀ tb e args s v u, (limb_1_1.after args s (.returned v) u = true ∧ limb_1_2.after args s (.returned v) u = true ∧ True) → FrameEnd s (.returned v) u (Jvm.fieldLocs frame_1_writes args s ++ Jvm.arrayLocs frame_1_arrays args s ++ Jvm.staticLocs frame_1_statics s) 0 0 → Post tb e args s (.returned v) u) :
    ArmFor flags0 classFile x code maxLocals ret World_1 tables_1 room_1 Calls_1 rest_1 Pre_1 Post := by
  intro l hfl _ _ p e ha hc hk s m args below hf hA hF happ hP
  obtain ⟨hcalls, hrest, hpre⟩ := hP
  obtain ⟨-, -, -, hnamed, -, -, -, hat⟩ := (Spec.applies_iff hf).mp happ
  obtain ⟨hg, hn⟩ := and_e (Cond.before_iff.mp (show (Jvm.Cond.and given_1 narrow_1).before args s = true from hpre))
  obtain ⟨g0, r0⟩ := and_e hg
  obtain ⟨g1, r1⟩ := and_e r0
  obtain ⟨w0, w1, rfl⟩ : ∃ w0 w1 : Value, args = #[w0, w1] := by
    have hs : args.size = 2 := by simpa [Cond.value, given_1] using g0
    obtain ⟨L⟩ := args
    match L, hs with
    | [w0, w1], _ => exact ⟨w0, w1, rfl⟩
  have hw := fun d (hd : d ∈ tables_1) => atoms_spec (ws := Jvm.Cond.code x code maxLocals ret :: tables_1) hat d (List.mem_cons_of_mem _ hd)
  obtain ⟨i0, ei0⟩ := is_v g1
  obtain rfl : w0 = (.int i0) := Option.some.inj ei0
  obtain ⟨i1, ei1⟩ := is_v r1
  obtain rfl : w1 = (.int i1) := Option.some.inj ei1
  obtain ⟨n, o, h1, h2, h3, _, L, rfl, ⟨rfl, N⟩, hq⟩ := rm0 l s _ hw tables_1 i0 i1 s.heap s.heap.size (Nat.le_refl _) p e ha hc hk s m _ below hf ((Spec.applies_iff_loose hf).mp happ).1 ⟨rfl, State.Warmed39.refl s, rfl⟩ trivial
  refine ⟨n, _, h1, h2, h3, hpost _ _ _ _ _ _ ⟨Cond.after_iff.mpr rfl, Cond.after_iff.mpr (eq_i res_at (Term.int_eval (1)) rfl), trivial⟩ ⟨hq.1, hq.2.1, (hq.2.2.sift fun y hy => Or.inr (N y hy)).mono (by decide) (by decide)⟩⟩
theorem main_1_1 : Claimed_1_1 := own_comes fun _ _ _ _ _ _ h hF => ⟨h.1, hF⟩
theorem main_1_2 : Claimed_1_2 := own_comes fun _ _ _ _ _ _ h hF => ⟨h.2.1, hF⟩
end Jvm.Pilot.@@N@@
namespace Jvm.Pilot.@@N@@
open Jvm Jvm.ClassFile Sem Op Lib Jvm.Free Jvm.Stand Jvm.Pilot.@@N@@.Jvm.D
/-! MADE BY PROGRAM (witnessworld.py) out of the Statement's table words and the real class files: 9 classes; the members and pool entries that the words name. The judged class is class 1, her method 1. -/
namespace start1
open Jvm.ClassFile
def u (s : String) : CpInfo := .utf8 (stringToUtf16 s)
/-- a pool by its gaps: so many unusable entries, then the entry; so many at the end -/
def gap : Nat → List CpInfo → List CpInfo
  | 0, r => r
  | n + 1, r => .unusable :: gap n r
def poolList (es : List (Nat × CpInfo)) (last : Nat) : List CpInfo := es.foldr (fun e r => gap e.1 (e.2 :: r)) (gap last [])
def pool (es : List (Nat × CpInfo)) (last : Nat) : Array CpInfo := ⟨poolList es last⟩
def fileOf (pool : Array CpInfo) (this : Nat) (attrs : Array Attribute := #[]) (ms : Array MethodInfo := #[]) (fl : Nat := 33) (sup : Nat := 0) (ifs : Array Nat := #[]) (fds : Array FieldInfo := #[]) : ClassFile where
  minorVersion := 0
  majorVersion := 65
  constantPool := pool
  accessFlags := fl
  thisClass := this
  superClass := sup
  interfaces := ifs
  fields := fds
  methods := ms
  attributes := attrs
def plain (name : String) (sup : Option ClassId) : Class where
  name := name
  kind := .ordinary
  loader := none
  accessFlags := 33
  super := sup
  interfaces := #[]
  cf := none
  fields := #[]
  methods := #[]
  instanceTypes := #[]
  staticTypes := #[]
  resolved := #[]
  callSites := []
  init := .initialized
  statics := none
  mirror := none

def pool0 : Array CpInfo := pool [(5, u "<init>"), (0, u "()V"), (1, .class_ 10), (1, u "java/lang/Object")] 113

def k0m0 : Method := { name := "<init>", desc := "()V", sig := { parameters := [], returnType := none }, accessFlags := 1, code := none }
/-- java/lang/Object -/
def k0 : Class := { plain "java/lang/Object" none with
  accessFlags := 33
  interfaces := #[]
  cf := some (fileOf pool0 8 #[] #[{ accessFlags := 1, nameIndex := 5, descriptorIndex := 6, attributes := #[] }] 33 0 #[] #[])
  fields := #[]
  methods := #[k0m0]
  instanceTypes := #[]
  staticTypes := #[]
  resolved := Array.replicate 124 none
  statics := none }

def pool1 : Array CpInfo := pool [(2, .class_ 4), (1, u "java/lang/Object"), (0, u "<init>"), (0, u "()V"), (0, .integer 2147483647), (0, .interfaceMethodref 9 10), (0, .class_ 11), (0, .nameAndType 12 13), (0, u "com/example/portcullis/portcullis/Entry"), (0, u "isDigit"), (0, u "(I)Z"), (0, .methodref 15 16), (0, .class_ 17), (0, .nameAndType 18 13), (0, u "com/example/portcullis/portcullis/EntryIsDigitPinLaw"), (0, u "ref"), (2, u "law"), (0, u "(II)Z")] 3

def k1m0 : Method := { name := "<init>", desc := "()V", sig := { parameters := [], returnType := none }, accessFlags := 2, code := none }
def k1c1 : Code := { maxStack := 3, maxLocals := 5, code := code, exceptionTable := #[], attributes := #[] }
def k1m1 : Method := { name := "law", desc := "(II)Z", sig := { parameters := [.int, .int], returnType := some .boolean }, accessFlags := 9, code := some k1c1 }
def k1c2 : Code := { maxStack := 2, maxLocals := 1, code := method_3_code, exceptionTable := #[], attributes := #[] }
def k1m2 : Method := { name := "ref", desc := "(I)Z", sig := { parameters := [.int], returnType := some .boolean }, accessFlags := 10, code := some k1c2 }
/-- com/example/portcullis/portcullis/EntryIsDigitPinLaw -/
def k1 : Class := { plain "com/example/portcullis/portcullis/EntryIsDigitPinLaw" (some 0) with
  accessFlags := 49
  interfaces := #[]
  cf := some (fileOf pool1 15 #[] #[{ accessFlags := 2, nameIndex := 5, descriptorIndex := 6, attributes := #[] }, { accessFlags := 9, nameIndex := 21, descriptorIndex := 22, attributes := #[] }, { accessFlags := 10, nameIndex := 18, descriptorIndex := 13, attributes := #[] }] 49 2 #[] #[])
  fields := #[]
  methods := #[k1m0, k1m1, k1m2]
  instanceTypes := #[]
  staticTypes := #[]
  resolved := Array.replicate 26 none
  statics := none }

def pool2 : Array CpInfo := pool [(62, .class_ 64), (1, u "com/example/portcullis/portcullis/Entry"), (21, u "isDigit"), (0, u "(I)Z"), (0, .class_ 89), (0, u "java/lang/Object")] 28

def k2c0 : Code := { maxStack := 2, maxLocals := 1, code := prog_10_method_3_code, exceptionTable := #[], attributes := #[] }
def k2m0 : Method := { name := "isDigit", desc := "(I)Z", sig := { parameters := [.int], returnType := some .boolean }, accessFlags := 9, code := some k2c0 }
/-- com/example/portcullis/portcullis/Entry -/
def k2 : Class := { plain "com/example/portcullis/portcullis/Entry" (some 0) with
  accessFlags := 1536
  interfaces := #[]
  cf := some (fileOf pool2 62 #[] #[{ accessFlags := 9, nameIndex := 86, descriptorIndex := 87, attributes := #[] }] 1536 88 #[] #[])
  fields := #[]
  methods := #[k2m0]
  instanceTypes := #[]
  staticTypes := #[]
  resolved := Array.replicate 118 none
  statics := none }

def pool3 : Array CpInfo := pool [(1, u "java/lang/Cloneable"), (0, .class_ 1), (0, u "java/lang/Object"), (0, .class_ 3)] 3

/-- java/lang/Cloneable -/
def k3 : Class := { plain "java/lang/Cloneable" (some 0) with
  accessFlags := 1537
  interfaces := #[]
  cf := some (fileOf pool3 2 #[] #[] 1537 4 #[] #[])
  fields := #[]
  methods := #[]
  instanceTypes := #[]
  staticTypes := #[]
  resolved := Array.replicate 8 none
  statics := none }

def pool4 : Array CpInfo := pool [(1, u "java/io/Serializable"), (0, .class_ 1), (0, u "java/lang/Object"), (0, .class_ 3)] 3

/-- java/io/Serializable -/
def k4 : Class := { plain "java/io/Serializable" (some 0) with
  accessFlags := 1537
  interfaces := #[]
  cf := some (fileOf pool4 2 #[] #[] 1537 4 #[] #[])
  fields := #[]
  methods := #[]
  instanceTypes := #[]
  staticTypes := #[]
  resolved := Array.replicate 8 none
  statics := none }

/-- the primitive byte -/
def k5 : Class := { plain "byte" none with kind := .primitive 'B', accessFlags := 0x411 }
/-- [B -/
def k6 : Class := { plain "[B" (some 0) with kind := .array 5 .byte, interfaces := #[3, 4], accessFlags := 1041 }

/-- the primitive int -/
def k7 : Class := { plain "int" none with kind := .primitive 'I', accessFlags := 0x411 }
/-- [I -/
def k8 : Class := { plain "[I" (some 0) with kind := .array 7 .int, interfaces := #[3, 4], accessFlags := 1041 }

def heap : Heap := #[]
def classes : Array Class := #[k0, k1, k2, k3, k4, k5, k6, k7, k8]
def interned : List (Array UInt16 × Addr) := []
def slotsUsed : Nat := 0
def theMethod : MethodId := ⟨1, 1⟩
def args0 : Array Value := #[.int 5, .int 5]
def aboutOver (below : List Frame) : State where
  vm := { classes := classes, interned := interned.toArray }
  heap := heap
  slotsUsed := slotsUsed
  threads := #[{ frames := .invoking theMethod args0 :: below }]
def below0 : List Frame := [.native { method := ⟨0, 0⟩, args := #[] }]
def about1 : State := aboutOver below0
def p0 : Program := .bare "" "" ""
def e0 : Env := launch0.env 0 0 0
theorem w_frames : about1.frames = Frame.invoking theMethod args0 :: below0 := rfl
set_option maxRecDepth 65536 in
theorem w_args : argsFit about1.vm theMethod args0 = true := by decide +kernel
set_option maxRecDepth 65536 in
theorem w_heap : heapFits about1 = true := by decide +kernel
set_option maxRecDepth 65536 in
theorem w_runnable : about1.curStatus? = some .runnable := by decide +kernel
set_option maxRecDepth 65536 in
theorem w_alone : about1.alone = true := by decide +kernel
set_option maxRecDepth 65536 in
theorem w_named : about1.methodNamed? x = some theMethod := by decide +kernel
set_option maxRecDepth 65536 in
theorem w_hears : about1.hears theMethod below0 = true := by decide +kernel
set_option maxRecDepth 65536 in
theorem w_ripe : about1.ripe theMethod args0 below0 = true := by decide +kernel
theorem w_running : about1.status = .running := rfl
set_option maxRecDepth 65536 in
theorem w_room : about1.hasRoom e0.platform room_1 = true :=
  launch0.hasRoom_least _ room_1 (by decide +kernel) (by decide +kernel) (by decide +kernel) (by decide +kernel) (by decide +kernel) (by decide +kernel)
theorem allAtoms_all (ts : List Jvm.Cond) (a : Array Jvm.Value) (st : Jvm.State) : (allAtoms ts).before a st = ts.all (fun c => c.before a st) := by
  induction ts with
  | nil => rfl
  | cons c t ih =>
    show (Jvm.Cond.and c (allAtoms t)).before a st = _
    rw [Jvm.Cond.before_and, ih, List.all_cons]
def words1 : List Jvm.Cond := Jvm.Cond.code x code maxLocals ret :: tables_1
/-- a 'code' word, met by the world's own term for the bytes: nothing is compared byte by byte -/
theorem code_word {y : MethodName} {bytes : ByteArray} {mx : Nat} {rt : Option FieldType} {a : Array Value} {s : State} {m : MethodId} {meth : Method} {c : Code} (h1 : s.methodNamed? y = some m) (h2 : s.vm.method? m = some meth) (h3 : meth.code = some c) (h4 : c.code = bytes)
    (h5 : (c.maxLocals == mx && c.exceptionTable.isEmpty && decide (c.maxStack ≤ mostOperands) && decide (meth.sig.returnType = rt) && !meth.locks && decide (parseMethodDescriptor y.desc = some meth.sig)) = true) : (Jvm.Cond.code y bytes mx rt).before a s = true := by
  simp only [Bool.and_eq_true, beq_iff_eq, Bool.not_eq_true', decide_eq_true_eq] at h5
  obtain ⟨⟨⟨⟨⟨g1, g2⟩, g3⟩, g4⟩, g5⟩, g6⟩ := h5
  simp [Cond.before, Cond.holds, Cond.value, h1, h2, h3, h4, g1, g2, g3, g4, g5, g6]
def isCode : Jvm.Cond → Bool
  | .code _ _ _ _ => true
  | _ => false
theorem all_split {L : List Jvm.Cond} {P : Jvm.Cond → Bool} (h1 : L.all (fun c => isCode c || P c) = true) (h2 : ∀ c ∈ L.filter isCode, P c = true) : L.all P = true := by
  refine List.all_eq_true.mpr fun c hc => ?_
  have h := List.all_eq_true.mp h1 c hc
  rcases Bool.eq_false_or_eq_true (isCode c) with hi | hi
  · exact h2 c (List.mem_filter.mpr ⟨hc, hi⟩)
  · simpa [hi] using h
set_option maxRecDepth 65536 in
theorem w_c0 : (Jvm.Cond.code x code maxLocals ret).before args0 about1 = true := code_word (m := ⟨1, 1⟩) (meth := k1m1) (c := k1c1) (by decide +kernel) rfl rfl rfl (by decide +kernel)
set_option maxRecDepth 65536 in
theorem w_c1 : (Jvm.Cond.code ({ cls := "com/example/portcullis/portcullis/Entry", name := "isDigit", desc := "(I)Z" } : Jvm.MethodName) prog_10_method_3_code (1 : Nat) (Option.some Jvm.ClassFile.FieldType.boolean)).before args0 about1 = true := code_word (m := ⟨2, 0⟩) (meth := k2m0) (c := k2c0) (by decide +kernel) rfl rfl rfl (by decide +kernel)
set_option maxRecDepth 65536 in
theorem w_c2 : (Jvm.Cond.code ({ cls := "com/example/portcullis/portcullis/EntryIsDigitPinLaw", name := "ref", desc := "(I)Z" } : Jvm.MethodName) method_3_code (1 : Nat) (Option.some Jvm.ClassFile.FieldType.boolean)).before args0 about1 = true := code_word (m := ⟨1, 2⟩) (meth := k1m2) (c := k1c2) (by decide +kernel) rfl rfl rfl (by decide +kernel)
def codes1 : List Jvm.Cond := [Jvm.Cond.code x code maxLocals ret, Jvm.Cond.code ({ cls := "com/example/portcullis/portcullis/Entry", name := "isDigit", desc := "(I)Z" } : Jvm.MethodName) prog_10_method_3_code (1 : Nat) (Option.some Jvm.ClassFile.FieldType.boolean), Jvm.Cond.code ({ cls := "com/example/portcullis/portcullis/EntryIsDigitPinLaw", name := "ref", desc := "(I)Z" } : Jvm.MethodName) method_3_code (1 : Nat) (Option.some Jvm.ClassFile.FieldType.boolean)]
set_option maxRecDepth 65536 in
theorem codes_eq : words1.filter isCode = codes1 := rfl
theorem w_codes : ∀ c ∈ words1.filter isCode, c.before args0 about1 = true := by
  rw [codes_eq]
  intro c hc
  simp only [codes1, List.mem_cons, List.not_mem_nil, or_false] at hc
  rcases hc with rfl | rfl | rfl
  · exact w_c0
  · exact w_c1
  · exact w_c2
set_option maxRecDepth 65536 in
theorem w_t1 : words1.all (fun c => isCode c || c.before args0 about1) = true := by decide +kernel
theorem w_tables : (allAtoms (Jvm.Cond.code x code maxLocals ret :: tables_1)).before args0 about1 = true := by
  rw [allAtoms_all]
  show words1.all (fun c => c.before args0 about1) = true
  refine all_split ?_ w_codes
  rw [w_t1]
set_option maxRecDepth 65536 in
theorem w_case : (Jvm.Cond.and given_1 narrow_1).before args0 about1 = true := by decide +kernel
theorem w_applies : (headSpec (Jvm.Cond.code x code maxLocals ret :: tables_1) room_1).applies x e0.platform about1 = true :=
  (Spec.applies_iff w_frames).mpr ⟨w_running, w_runnable, w_alone, w_named, w_hears, w_ripe, w_room, w_tables⟩
theorem atStart : AtStart classFile x code maxLocals ret World_1 tables_1 room_1 Calls_1 rest_1 Pre_1 launch0 p0 e0 about1 theMethod args0 below0 :=
  ⟨lists_1, trivial, launch0.admits_env _ _ _, launch0.least_env, fairChoices_fair.cas, fairChoices_fair.clock, w_frames, w_args, w_heap, w_applies, trivial, trivial, w_case⟩
end start1
theorem witness_1 : WitnessClaimed_1 := ⟨start1.p0, start1.e0, start1.about1, start1.theMethod, start1.args0, start1.below0, start1.atStart⟩
end Jvm.Pilot.@@N@@
