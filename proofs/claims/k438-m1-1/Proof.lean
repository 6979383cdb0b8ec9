import JvmDerived
import JvmDerived.Pilot.@@N@@Statement
import JvmDerived.Pilot.@@N@@Code
set_option linter.unusedVariables false
set_option linter.unusedSimpArgs false
@@BLOCK:NumsL.lean.txt@@
namespace Jvm.Pilot.@@N@@
open Jvm Jvm.ClassFile Sem Op Lib Jvm.Free Jvm.Stand Jvm.LawKit Jvm.RoadKit Bundle Jvm.Pilot.@@N@@.Jvm.D
/-- from here the run comes to a state of which P holds -/
def own_Go (tb : Tables) (e : Env) (below : List Frame) (P : State → Prop) (T : State) (g : JFrame) : Prop := ∃ t, Steps tb e below (T.setTop g) t ∧ P t
theorem own_st {tb : Tables} {e : Env} {below : List Frame} {P : State → Prop} {T T' : State} {g g' : JFrame} (h : ∀ t, Steps tb e below (T'.setTop g') t → Steps tb e below (T.setTop g) t) (k : own_Go tb e below P T' g') : own_Go tb e below P T g := by
  obtain ⟨t, a, b⟩ := k; exact ⟨t, h t a, b⟩
/-- what the end of a body must be -/
def own_P (s : State) (below : List Frame) (Q : Option Value → Heap → List Loc → Prop) (C S : Nat) (t : State) : Prop := t.status = .running ∧ ∃ o, Ended t below o ∧ ∃ v L, o = .returned v ∧ Q v t.heap L ∧ FrameEnd s o t L C S
/-- .. of a body that may have interned -/
def own_PW (s : State) (below : List Frame) (Q : Option Value → Heap → List Loc → Prop) (C S : Nat) (t : State) : Prop := t.status = .running ∧ ∃ o, Ended t below o ∧ ∃ v L, o = .returned v ∧ Q v t.heap L ∧ ReturnedEndW s o t L C S
section own
variable {p : Program} {l : Launch} {e : Env} {R : Room} {s : State} {m : MethodId} {args : Array Value} {below : List Frame} {meth : Method} {c : Code} {T : State} {locs : List Loc} {cells slots : Nat} {Qo : Option Value → Heap → List Loc → Prop} {C' S' : Nat}
theorem own_out (X : Stand p l e R s m args below meth c T locs cells slots) {v : Option Value} {g : JFrame} (hv : meth.sig.returnType = none → v = none) (hlocks : meth.locks = false)
    (hst : ∀ fs, (∀ (f : JFrame) (acts : List Action), f.method = m → f.locked = none → f.entered = [] → (doReturn e (T.setTop f) acts v).1 = T.setFrames fs) → Steps p.tables e below (T.setTop g) (T.setFrames fs))
    (hc : cells ≤ C') (hs : slots ≤ S') (hq : Qo v T.heap locs) : own_Go p.tables e below (own_P s below Qo C' S') T g := by
  obtain ⟨fs, hr, hrun, hended, hW, hsame⟩ := X.leave (v := v) hv hlocks
  exact ⟨_, hst fs hr, hrun, _, hended, _, _, rfl, hq, ⟨_, rfl⟩, hW, hsame.mono hc hs⟩
theorem own_outW {vm0 : Vm} (X : Stand p l e R (s.setVm vm0) m args below meth c T locs cells slots) {k0 : Nat} (hS : s.Since vm0 k0) (hk : k0 ≤ T.heap.size) {v : Option Value} {g : JFrame} (hv : meth.sig.returnType = none → v = none) (hlocks : meth.locks = false)
    (hst : ∀ fs, (∀ (f : JFrame) (acts : List Action), f.method = m → f.locked = none → f.entered = [] → (doReturn e (T.setTop f) acts v).1 = T.setFrames fs) → Steps p.tables e below (T.setTop g) (T.setFrames fs))
    (hc : cells ≤ C') (hs : slots ≤ S') (hq : Qo v T.heap locs) : own_Go p.tables e below (own_PW s below Qo C' S') T g := by
  obtain ⟨fs, hr, hrun, hended, hW⟩ := X.leaveW hS hk (v := v) hv hlocks
  exact ⟨_, hst fs hr, hrun, _, hended, _, _, rfl, hq, hW.1, hW.2.1, hW.2.2.1, hW.2.2.2.mono hc hs⟩
theorem own_retI (X : Stand p l e R s m args below meth c T locs cells slots) (hx : p.tables.exec = Jvm.exec) {pc : Nat} {Ls : Array Slot} {z : Int32} {rest : List Value} (hret : meth.sig.returnType = some .int) (hd : decode c.code pc = .ok (.ireturn, 1)) (fs : List Frame)
    (hl : ∀ (f : JFrame) (acts : List Action), f.method = m → f.locked = none → f.entered = [] → (doReturn e (T.setTop f) acts (some (.int z))).1 = T.setFrames fs) : Steps p.tables e below (T.setTop (mkF m pc Ls (.int z :: rest))) (T.setFrames fs) :=
  retOut X hx hret rfl (Or.inl ⟨rfl, Or.inl rfl, _, rfl⟩) hd hl
theorem own_retZ (X : Stand p l e R s m args below meth c T locs cells slots) (hx : p.tables.exec = Jvm.exec) {pc : Nat} {Ls : Array Slot} {z : Int32} {rest : List Value} (hret : meth.sig.returnType = some .boolean) (hd : decode c.code pc = .ok (.ireturn, 1)) (hb : z = 0 ∨ z = 1) (fs : List Frame)
    (hl : ∀ (f : JFrame) (acts : List Action), f.method = m → f.locked = none → f.entered = [] → (doReturn e (T.setTop f) acts (some (.int z))).1 = T.setFrames fs) : Steps p.tables e below (T.setTop (mkF m pc Ls (.int z :: rest))) (T.setFrames fs) := by
  have e1 : nar .boolean z = z := by rcases hb with rfl | rfl <;> decide
  exact retN X hx hret (Or.inl rfl) hd (by rw [e1]; exact hl)
theorem own_retJ (X : Stand p l e R s m args below meth c T locs cells slots) (hx : p.tables.exec = Jvm.exec) {pc : Nat} {Ls : Array Slot} {z : Int64} {rest : List Value} (hret : meth.sig.returnType = some .long) (hd : decode c.code pc = .ok (.lreturn, 1)) (fs : List Frame)
    (hl : ∀ (f : JFrame) (acts : List Action), f.method = m → f.locked = none → f.entered = [] → (doReturn e (T.setTop f) acts (some (.long z))).1 = T.setFrames fs) : Steps p.tables e below (T.setTop (mkF m pc Ls (.long z :: rest))) (T.setFrames fs) :=
  retOut X hx hret rfl (Or.inr (Or.inl ⟨rfl, rfl, _, rfl⟩)) hd hl
theorem own_retR (X : Stand p l e R s m args below meth c T locs cells slots) (hx : p.tables.exec = Jvm.exec) {pc : Nat} {Ls : Array Slot} {w : Value} {t : FieldType} {rest : List Value} (hret : meth.sig.returnType = some t) (ht : t.isReference = true) (hw : w.isRef = true) (hn : narrow t w = w) (hd : decode c.code pc = .ok (.areturn, 1)) (fs : List Frame)
    (hl : ∀ (f : JFrame) (acts : List Action), f.method = m → f.locked = none → f.entered = [] → (doReturn e (T.setTop f) acts (some w)).1 = T.setFrames fs) : Steps p.tables e below (T.setTop (mkF m pc Ls (w :: rest))) (T.setFrames fs) :=
  retOut X hx hret hn (Or.inr (Or.inr (Or.inr (Or.inr ⟨rfl, ht, hw⟩)))) hd hl
end own
/-- a private method is the one that is picked -/
theorem own_selp {s : State} {args : Array Value} {y : MethodName} {n : Nat} (hi : (Jvm.Cond.instantiable y.cls n).before args s = true) (hp : s.PrivateAt y) (hm : (Jvm.Cond.instanceMethod y).before args s = true) (hy : y.cls ≠ "java/lang/invoke/MethodHandle" ∧ y.cls ≠ "java/lang/invoke/VarHandle") : (Jvm.Cond.selects y.cls y y).before args s = true := by
  obtain ⟨c, k, h1, h2, -, h4, -⟩ := Cond.instantiable_spec hi
  exact selects_self_of_private h1 h2 (Bool.or_eq_false_iff.mp h4).1 hp hm hy
theorem own_staK {Z : State} {h h' : Heap} {C n d : String} {v : Value} {ws : List Addr} (F : Sta Z h C n d v) (K : Keep h h' ws) (q : ∀ x ∈ ws, ∃ D, Exa Z h x D) : Sta Z h' C n d v := by
  obtain ⟨cf, i, k, f, st, cell, h1, h2, h3, h4, h5, h6, h7⟩ := F
  refine ⟨cf, i, k, f, st, cell, h1, h2, h3, h4, K.2.1 st cell h5 (fun hm => ?_), h6, h7⟩
  obtain ⟨D, c', k', e1, -, -, e4, -⟩ := q st hm
  cases h5.symm.trans e1
  rw [h6] at e4; cases e4
/-- a reference or null -/
theorem own_refOf {w : Value} (h : w.isRef = true) (c : ¬ w = Value.null) : ∃ a, w = .ref a := (ref_cases h).resolve_left c
theorem own_nW {t : FieldType} {w : Value} (ht : t.isReference = true) (h : w.isRef = true) : narrow t w = w := by
  rcases ref_cases h with rfl | ⟨a, rfl⟩ <;> cases t <;> first | rfl | simp [FieldType.isReference] at ht
theorem own_fW {t : FieldType} {w : Value} (ht : t.isReference = true) (h : w.isRef = true) : fits t w = true := by
  rcases ref_cases h with rfl | ⟨a, rfl⟩ <;> cases t <;> first | rfl | simp [FieldType.isReference] at ht
theorem own_nb {z : Int32} (h : z = 0 ∨ z = 1) : narrow .boolean (.int z) = .int z := by rcases h with rfl | rfl <;> rfl
theorem own_fb {z : Int32} (h : z = 0 ∨ z = 1) : fits .boolean (.int z) = true := by rcases h with rfl | rfl <;> rfl
/-- lcmp and a branch, in one -/
def own_lcv : ClassFile.Cond → Int64 → Int64 → Prop
  | .lt, x, y => x < y | .ge, x, y => ¬ x < y | .gt, x, y => y < x | .le, x, y => ¬ y < x | .eq, x, y => x = y | .ne, x, y => ¬ x = y
theorem own_lcT {cd : ClassFile.Cond} {x y : Int64} (h : own_lcv cd x y) : ifCond.holds cd (lcmpW x y) = true := by
  rw [if0]
  cases cd
  · exact (teq ((lw_eq x y).mpr h)).1
  · exact (feq (fun q => h ((lw_eq x y).mp q))).2
  · exact (tlt ((lw_lt x y).mpr h)).1
  · exact (flt (fun q => h ((lw_lt x y).mp q))).2.1
  · exact (tlt ((lw_gt x y).mpr h)).2.2.1
  · exact (flt (fun q => h ((lw_gt x y).mp q))).2.2.2
theorem own_lcF {cd : ClassFile.Cond} {x y : Int64} (h : ¬ own_lcv cd x y) : ifCond.holds cd (lcmpW x y) = false := by
  rw [if0]
  cases cd
  · exact (feq (fun q => h ((lw_eq x y).mp q))).1
  · exact (teq (Classical.byContradiction fun q => h (fun r => q ((lw_eq x y).mpr r)))).2
  · exact (flt (fun q => h ((lw_lt x y).mp q))).1
  · exact (tlt (Classical.byContradiction fun q => h (fun r => q ((lw_lt x y).mpr r)))).2.1
  · exact (flt (fun q => h ((lw_gt x y).mp q))).2.2.1
  · exact (tlt (Classical.byContradiction fun q => h (fun r => q ((lw_gt x y).mpr r)))).2.2.2

theorem own_pd__JJ_J : parseMethodDescriptor "(JJ)J" = some ⟨[.long, .long], some .long⟩ := by decide +kernel
def own_plus (x0 : Int64) (x1 : Int64) : Int64 := (if (x0 + x1) < x0 then (9223372036854775807 : Int64) else (x0 + x1))
theorem d_prog_11_method_4_code_0 : decode prog_11_method_4_code 0 = .ok (.lload_n 0, 1) := by decide +kernel
theorem d_prog_11_method_4_code_1 : decode prog_11_method_4_code 1 = .ok (.lload_n 2, 1) := by decide +kernel
theorem d_prog_11_method_4_code_2 : decode prog_11_method_4_code 2 = .ok (.ladd, 1) := by decide +kernel
theorem d_prog_11_method_4_code_3 : decode prog_11_method_4_code 3 = .ok (.lstore 4, 2) := by decide +kernel
theorem d_prog_11_method_4_code_5 : decode prog_11_method_4_code 5 = .ok (.lload 4, 2) := by decide +kernel
theorem d_prog_11_method_4_code_7 : decode prog_11_method_4_code 7 = .ok (.lload_n 0, 1) := by decide +kernel
theorem d_prog_11_method_4_code_8 : decode prog_11_method_4_code 8 = .ok (.lcmp, 1) := by decide +kernel
theorem d_prog_11_method_4_code_9 : decode prog_11_method_4_code 9 = .ok (.ifCond .ge 9, 3) := by decide +kernel
theorem d_prog_11_method_4_code_12 : decode prog_11_method_4_code 12 = .ok (.ldc2_w 19, 3) := by decide +kernel
theorem d_prog_11_method_4_code_15 : decode prog_11_method_4_code 15 = .ok (.goto 5, 3) := by decide +kernel
theorem d_prog_11_method_4_code_18 : decode prog_11_method_4_code 18 = .ok (.lload 4, 2) := by decide +kernel
theorem d_prog_11_method_4_code_20 : decode prog_11_method_4_code 20 = .ok (.lreturn, 1) := by decide +kernel
theorem own_pn1 : plainName "com/example/refill/refill/Micros" = true := by first | (simp [plainName, overriddenIn]; done) | decide +kernel
theorem own_ef1 (m : MethodId) (x0 : Int64) (x1 : Int64) : entryFrame m #[(.long x0), (.long x1)] 6 = mkF m 0 #[.val (.long x0), .second, .val (.long x1), .second, .unset, .unset] [] := by first | (simp [entryFrame, mkF, argsToLocals, Value.category]; done) | rfl
def Q1 (Z : State) (x0 : Int64) (x1 : Int64) (h0 : Heap) (n0 : Nat) (v : Option Value) (h : Heap) (L : List Loc) : Prop := v = some (.long (own_plus x0 x1)) ∧ Fr n0 L ∧ h = h0
set_option maxRecDepth 65536 in
set_option maxHeartbeats 40000000 in
theorem rm1 (l : Launch) (Z : State) (a0 : Array Value) (hw : ∀ d ∈ tables_1, d.before a0 Z = true) (ws : List Jvm.Cond) (x0 : Int64) (x1 : Int64) (h0 : Heap) (n0 : Nat) (Z0 : n0 ≤ h0.size) :
    MetFree l (⟨"com/example/refill/refill/Micros", "plus", "(JJ)J"⟩ : MethodName) (head1 (Jvm.Cond.code (⟨"com/example/refill/refill/Micros", "plus", "(JJ)J"⟩ : MethodName) prog_11_method_4_code 6 (some .long) :: ws) ({ frames := 0, cells := 0, slots := 0, locals := 0 } : Room)) (fun a U => a = #[(.long x0), (.long x1)] ∧ Z.Warmed39 U.vm ∧ U.heap = h0) (fun _ _ _ _ _ => True) (fun _ U o U' => ∃ v L, o = .returned v ∧ Q1 Z x0 x1 h0 n0 v U'.heap L ∧ FrameEnd U o U' L ({ frames := 0, cells := 0, slots := 0, locals := 0 } : Room).cells ({ frames := 0, cells := 0, slots := 0, locals := 0 } : Room).slots) := by
  refine MetFree.of_bodySF (plainFor_of_name own_pn1) hisR ?_
  intro p e s m args below meth c s₁ Bd hml0 hP hK
  obtain ⟨rfl, hZ, hh⟩ := hP
  have hx := Bd.exec
  have hby := Bd.bytes
  have hml : c.maxLocals = 6 := hml0
  have hown : s.vm.findClass "com/example/refill/refill/Micros" = some m.cls := findClass_of_methodNamed Bd.named
  have hnm := (name_of_methodNamed Bd.named Bd.method).1
  have X0 : Stand p l e ({ frames := 0, cells := 0, slots := 0, locals := 0 } : Room) s m #[(.long x0), (.long x1)] below meth c s₁ [] 0 0 := Stand.of_body Bd
  have e0 : s₁.heap = h0 := by rw [← hh, Bd.state]; rfl
  have N0 := Fr.nil n0
  obtain ⟨Pq, hPq⟩ : ∃ P, P = own_P s below (fun v h L => Q1 Z x0 x1 h0 n0 v h L) ({ frames := 0, cells := 0, slots := 0, locals := 0 } : Room).cells ({ frames := 0, cells := 0, slots := 0, locals := 0 } : Room).slots := ⟨_, rfl⟩
  suffices hgo : own_Go p.tables e below Pq s₁ (mkF m 0 #[.val (.long x0), .second, .val (.long x1), .second, .unset, .unset] []) by
    subst hPq
    obtain ⟨t, k1, k2, o, k3, k4⟩ := hgo
    exact ⟨t, o, castTop (own_ef1 m x0 x1) k1, k2, k3, k4⟩
  show own_Go _ _ _ _ s₁ (mkF m 0 #[.val (.long x0), .second, .val (.long x1), .second, .unset, .unset] [])
  refine own_st (fun t k => XS.lloadN X0.here hx rfl (hb hby d_prog_11_method_4_code_0) rfl k) ?_
  show own_Go _ _ _ _ s₁ (mkF m 1 _ [(.long x0)])
  refine own_st (fun t k => XS.lloadN X0.here hx rfl (hb hby d_prog_11_method_4_code_1) rfl k) ?_
  show own_Go _ _ _ _ s₁ (mkF m 2 _ [(.long x1), (.long x0)])
  refine own_st (fun t k => XS.ladd X0.here hx rfl (hb hby d_prog_11_method_4_code_2) rfl k) ?_
  show own_Go _ _ _ _ s₁ (mkF m 3 _ [(.long (x0 + x1))])
  generalize hv1 : (x0 + x1) = v1
  refine own_st (fun t k => XS.lstore X0.here hx rfl (hb hby d_prog_11_method_4_code_3) rfl (l' := #[.val (.long x0), .second, .val (.long x1), .second, .val (.long v1), .second]) rfl k) ?_
  show own_Go _ _ _ _ s₁ (mkF m 5 #[.val (.long x0), .second, .val (.long x1), .second, .val (.long v1), .second] [])
  refine own_st (fun t k => XS.lload X0.here hx rfl (hb hby d_prog_11_method_4_code_5) rfl k) ?_
  show own_Go _ _ _ _ s₁ (mkF m 7 _ [(.long v1)])
  refine own_st (fun t k => XS.lloadN X0.here hx rfl (hb hby d_prog_11_method_4_code_7) rfl k) ?_
  show own_Go _ _ _ _ s₁ (mkF m 8 _ [(.long x0), (.long v1)])
  refine own_st (fun t k => XS.lcmp X0.here hx rfl (hb hby d_prog_11_method_4_code_8) rfl k) ?_
  show own_Go _ _ _ _ s₁ (mkF m 9 _ [(.int (lcmpW v1 x0))])
  have J5 : ∀ (Tj5 : State) (Lj5 : List Loc) (p6 : Int64), Stand p l e ({ frames := 0, cells := 0, slots := 0, locals := 0 } : Room) s m #[(.long x0), (.long x1)] below meth c Tj5 Lj5 0 0 → Tj5.heap = h0 → Fr n0 Lj5 → p6 = (if v1 < x0 then (9223372036854775807 : Int64) else v1) → own_Go p.tables e below Pq Tj5 (mkF m 20 #[.val (.long x0), .second, .val (.long x1), .second, .val (.long v1), .second] [(.long p6)]) := by
    intro Tj5 Lj5 p6 Xj5 ej5 Nj5 qp6
    show own_Go _ _ _ _ Tj5 (mkF m 20 _ [(.long p6)])
    subst hPq
    refine own_out Xj5 (v := some (.long p6)) (fun h => by rw [Bd.returns] at h; cases h) Bd.notSynchronized (own_retJ Xj5 hx Bd.returns (hb hby d_prog_11_method_4_code_20)) (by decide) (by decide) ?_
    show Q1 Z x0 x1 h0 n0 _ Tj5.heap _
    rw [ej5]
    exact ⟨by subst_vars; rfl, Nj5, rfl⟩
  by_cases c2 : v1 < x0
  · skip
    refine own_st (fun t k => XS.ifNo X0.here hx rfl (hb hby d_prog_11_method_4_code_9) rfl (own_lcF (cd := .ge) (not_not_intro c2)) k) ?_
    show own_Go _ _ _ _ s₁ (mkF m 12 _ [])
    refine own_st (fun t k => X0.ldc2Long hx hown (mvT hZ (hw _ (List.mem_of_getElem? (i := 5) rfl))) (g := (mkF m 12 #[.val (.long x0), .second, .val (.long x1), .second, .val (.long v1), .second] [])) rfl (hb hby d_prog_11_method_4_code_12) _ k) ?_
    show own_Go _ _ _ _ s₁ (mkF m 15 _ [(.long (9223372036854775807 : Int64))])
    refine own_st (fun t k => XS.goto X0.here hx rfl (pc0 := 15) (pc' := 20) rfl (hb hby d_prog_11_method_4_code_15) (by decide) (by decide) k) ?_
    show own_Go _ _ _ _ s₁ (mkF m 20 _ [(.long (9223372036854775807 : Int64))])
    exact J5 s₁ _ _ X0 e0 N0 (by simp only [if_pos c2])
  · skip
    refine own_st (fun t k => XS.ifYes X0.here hx rfl (pc0 := 9) (pc' := 18) rfl (hb hby d_prog_11_method_4_code_9) rfl (own_lcT (cd := .ge) c2) (by decide) (by decide) k) ?_
    show own_Go _ _ _ _ s₁ (mkF m 18 _ [])
    refine own_st (fun t k => XS.lload X0.here hx rfl (hb hby d_prog_11_method_4_code_18) rfl k) ?_
    show own_Go _ _ _ _ s₁ (mkF m 20 _ [(.long v1)])
    exact J5 s₁ _ _ X0 e0 N0 (by simp only [if_neg c2])
theorem own_pn0 : plainName "com/example/refill/refill/MicrosPlusPinLaw" = true := by first | (simp [plainName, overriddenIn]; done) | decide +kernel
theorem own_ef0 (m : MethodId) (x0 : Int64) (x1 : Int64) : entryFrame m #[(.long x0), (.long x1)] maxLocals = mkF m 0 #[.val (.long x0), .second, .val (.long x1), .second, .unset, .unset, .unset, .unset, .unset, .unset, .unset, .unset] [] := by first | (simp [entryFrame, mkF, argsToLocals, Value.category, maxLocals]; done) | rfl
def Q0 (Z : State) (x0 : Int64) (x1 : Int64) (h0 : Heap) (n0 : Nat) (v : Option Value) (h : Heap) (L : List Loc) : Prop := v = some (.int 1) ∧ Fr n0 L
theorem own_law (x0 : Int64) (x1 : Int64) (v1 : Int64) (v4 : Int64) (v5 : Int64) (p10 : Int64) (p15 : Int32) (hv1 : (x1 &&& (9223372036854775807 : Int64)) = v1) (hv4 : (own_plus x0 v1) = v4) (hv5 : ((9223372036854775807 : Int64) - v1) = v5) (qp10 : p10 = (if v5 < x0 then (9223372036854775807 : Int64) else (x0 + v1))) (qp15 : p15 = (if v4 = p10 then (1 : Int32) else (0 : Int32))) : p15 = 1 := by
  have e1 : v1.toInt = x1.toInt % 2 ^ 63 := by rw [← hv1]; exact Jvm.Kit.i64_mask x1 9223372036854775807 (k := 63) (by decide) (by decide)
  have e2 := c_lsub 9223372036854775807 v1
  rw [hv5, show (9223372036854775807 : Int64).toInt = 9223372036854775807 from rfl] at e2
  have e3 := c_ladd x0 v1
  have r1 := rng64 x0; have r2 := rng64 v1; have r3 := rng64 v5; have r4 := rng64 (x0 + v1)
  rw [qp15, if_pos]
  rw [← hv4, qp10]
  unfold own_plus
  simp only [Int64.lt_iff_toInt_lt]
  by_cases c : v5.toInt < x0.toInt
  · rw [if_pos c, if_pos (by omega)]
  · rw [if_neg c, if_neg (by omega)]
set_option maxRecDepth 65536 in
set_option maxHeartbeats 40000000 in
theorem rm0 (l : Launch) (Z : State) (a0 : Array Value) (hw : ∀ d ∈ tables_1, d.before a0 Z = true) (ws : List Jvm.Cond) (x0 : Int64) (x1 : Int64) (h0 : Heap) (n0 : Nat) (Z0 : n0 ≤ h0.size) :
    MetFree l x (head1 (Jvm.Cond.code x code maxLocals ret :: ws) room_1) (fun a U => a = #[(.long x0), (.long x1)] ∧ Z.Warmed39 U.vm ∧ U.heap = h0) (fun _ _ _ _ _ => True) (fun _ U o U' => ∃ v L, o = .returned v ∧ Q0 Z x0 x1 h0 n0 v U'.heap L ∧ FrameEnd U o U' L 0 0) := by
  refine MetFree.of_bodySF (plainFor_of_name own_pn0) hisR ?_
  intro p e s m args below meth c s₁ Bd hml0 hP hK
  obtain ⟨rfl, hZ, hh⟩ := hP
  have hx := Bd.exec
  have hby := Bd.bytes
  have hml : c.maxLocals = 12 := hml0
  have hown : s.vm.findClass "com/example/refill/refill/MicrosPlusPinLaw" = some m.cls := findClass_of_methodNamed Bd.named
  have hnm := (name_of_methodNamed Bd.named Bd.method).1
  have X0 : Stand p l e room_1 s m #[(.long x0), (.long x1)] below meth c s₁ [] 0 0 := Stand.of_body Bd
  have e0 : s₁.heap = h0 := by rw [← hh, Bd.state]; rfl
  have N0 := Fr.nil n0
  obtain ⟨Pq, hPq⟩ : ∃ P, P = own_P s below (fun v h L => Q0 Z x0 x1 h0 n0 v h L) 0 0 := ⟨_, rfl⟩
  suffices hgo : own_Go p.tables e below Pq s₁ (mkF m 0 #[.val (.long x0), .second, .val (.long x1), .second, .unset, .unset, .unset, .unset, .unset, .unset, .unset, .unset] []) by
    subst hPq
    obtain ⟨t, k1, k2, o, k3, k4⟩ := hgo
    exact ⟨t, o, castTop (own_ef0 m x0 x1) k1, k2, k3, k4⟩
  show own_Go _ _ _ _ s₁ (mkF m 0 #[.val (.long x0), .second, .val (.long x1), .second, .unset, .unset, .unset, .unset, .unset, .unset, .unset, .unset] [])
  refine own_st (fun t k => XS.lloadN X0.here hx rfl (hb hby at_0) rfl k) ?_
  show own_Go _ _ _ _ s₁ (mkF m 1 _ [(.long x1)])
  refine own_st (fun t k => X0.ldc2Long hx hown (mvT hZ (hw _ (List.mem_of_getElem? (i := 0) rfl))) (g := (mkF m 1 #[.val (.long x0), .second, .val (.long x1), .second, .unset, .unset, .unset, .unset, .unset, .unset, .unset, .unset] [(.long x1)])) rfl (hb hby at_1) _ k) ?_
  show own_Go _ _ _ _ s₁ (mkF m 4 _ [(.long (9223372036854775807 : Int64)), (.long x1)])
  refine own_st (fun t k => XS.land X0.here hx rfl (hb hby at_4) rfl k) ?_
  show own_Go _ _ _ _ s₁ (mkF m 5 _ [(.long (x1 &&& (9223372036854775807 : Int64)))])
  generalize hv1 : (x1 &&& (9223372036854775807 : Int64)) = v1
  refine own_st (fun t k => XS.lstore X0.here hx rfl (hb hby at_5) rfl (l' := #[.val (.long x0), .second, .val (.long x1), .second, .val (.long v1), .second, .unset, .unset, .unset, .unset, .unset, .unset]) rfl k) ?_
  show own_Go _ _ _ _ s₁ (mkF m 7 #[.val (.long x0), .second, .val (.long x1), .second, .val (.long v1), .second, .unset, .unset, .unset, .unset, .unset, .unset] [])
  refine own_st (fun t k => XS.lloadN X0.here hx rfl (hb hby at_7) rfl k) ?_
  show own_Go _ _ _ _ s₁ (mkF m 8 _ [(.long x0)])
  refine own_st (fun t k => XS.lload X0.here hx rfl (hb hby at_8) rfl k) ?_
  show own_Go _ _ _ _ s₁ (mkF m 10 _ [(.long v1), (.long x0)])
  obtain ⟨_, _, ⟨T2, L2, k2, n2⟩, -, X2, ⟨Lc2, hQ2, l2, y2, z2⟩, st2⟩ := Jvm.LawKit.callS X0 hx (y := (⟨"com/example/refill/refill/Micros", "plus", "(JJ)J"⟩ : MethodName)) hown (mvT hZ (hw _ (List.mem_of_getElem? (i := 1) rfl))) (mvT hZ (hw _ (List.mem_of_getElem? (i := 2) rfl))) (mvT hZ (hw _ (List.mem_of_getElem? (i := 3) rfl))) (mvT hZ (hw _ (List.mem_of_getElem? (i := 4) rfl))) (by decide) (backOf (W := 0) (rm1 l Z a0 hw [] x0 v1 h0 n0 Z0 ) hZ (hw _ (List.mem_of_getElem? (i := 4) rfl)) (hw _ (List.mem_of_getElem? (i := 3) rfl)) (by decide) (by decide)) (g := (mkF m 10 #[.val (.long x0), .second, .val (.long x1), .second, .val (.long v1), .second, .unset, .unset, .unset, .unset, .unset, .unset] [(.long v1), (.long x0)])) rfl (by rw [hml]; rfl) (argsL := [(.long x0), (.long v1)]) (rest := []) (lenOf own_pd__JJ_J rfl) rfl (by show 2 * 0 + _ ≤ _; exact Nat.le_of_eq rfl) (hb hby at_10) (fun _ _ => ⟨rfl, e0, (by decide : 0 + 0 ≤ _), (by decide : 0 + 0 ≤ _)⟩)
  dsimp only [Pt.U, Pt.locs, Pt.cells, Pt.slots] at X2 l2 y2 z2 st2 hQ2
  subst l2 y2 z2
  obtain ⟨rfl, NQ2, eq2⟩ := hQ2
  have N3 := Fr.app N0 NQ2
  refine own_st st2 ?_
  show own_Go _ _ _ _ T2 (mkF m 13 _ [(.long (own_plus x0 v1))])
  generalize hv4 : (own_plus x0 v1) = v4
  refine own_st (fun t k => XS.lstore X2.here hx rfl (hb hby at_13) rfl (l' := #[.val (.long x0), .second, .val (.long x1), .second, .val (.long v1), .second, .val (.long v4), .second, .unset, .unset, .unset, .unset]) rfl k) ?_
  show own_Go _ _ _ _ T2 (mkF m 15 #[.val (.long x0), .second, .val (.long x1), .second, .val (.long v1), .second, .val (.long v4), .second, .unset, .unset, .unset, .unset] [])
  refine own_st (fun t k => X2.ldc2Long hx hown (mvT hZ (hw _ (List.mem_of_getElem? (i := 0) rfl))) (g := (mkF m 15 #[.val (.long x0), .second, .val (.long x1), .second, .val (.long v1), .second, .val (.long v4), .second, .unset, .unset, .unset, .unset] [])) rfl (hb hby at_15) _ k) ?_
  show own_Go _ _ _ _ T2 (mkF m 18 _ [(.long (9223372036854775807 : Int64))])
  refine own_st (fun t k => XS.lload X2.here hx rfl (hb hby at_18) rfl k) ?_
  show own_Go _ _ _ _ T2 (mkF m 20 _ [(.long v1), (.long (9223372036854775807 : Int64))])
  refine own_st (fun t k => XS.lsub X2.here hx rfl (hb hby at_20) rfl k) ?_
  show own_Go _ _ _ _ T2 (mkF m 21 _ [(.long ((9223372036854775807 : Int64) - v1))])
  generalize hv5 : ((9223372036854775807 : Int64) - v1) = v5
  refine own_st (fun t k => XS.lstore X2.here hx rfl (hb hby at_21) rfl (l' := #[.val (.long x0), .second, .val (.long x1), .second, .val (.long v1), .second, .val (.long v4), .second, .val (.long v5), .second, .unset, .unset]) rfl k) ?_
  show own_Go _ _ _ _ T2 (mkF m 23 #[.val (.long x0), .second, .val (.long x1), .second, .val (.long v1), .second, .val (.long v4), .second, .val (.long v5), .second, .unset, .unset] [])
  refine own_st (fun t k => XS.lloadN X2.here hx rfl (hb hby at_23) rfl k) ?_
  show own_Go _ _ _ _ T2 (mkF m 24 _ [(.long x0)])
  refine own_st (fun t k => XS.lload X2.here hx rfl (hb hby at_24) rfl k) ?_
  show own_Go _ _ _ _ T2 (mkF m 26 _ [(.long v5), (.long x0)])
  refine own_st (fun t k => XS.lcmp X2.here hx rfl (hb hby at_26) rfl k) ?_
  show own_Go _ _ _ _ T2 (mkF m 27 _ [(.int (lcmpW x0 v5))])
  have J9 : ∀ (Tj9 : State) (Lj9 : List Loc) (p10 : Int64), Stand p l e room_1 s m #[(.long x0), (.long x1)] below meth c Tj9 Lj9 0 0 → Tj9.heap = h0 → Fr n0 Lj9 → p10 = (if v5 < x0 then (9223372036854775807 : Int64) else (x0 + v1)) → own_Go p.tables e below Pq Tj9 (mkF m 44 #[.val (.long x0), .second, .val (.long x1), .second, .val (.long v1), .second, .val (.long v4), .second, .val (.long v5), .second, .val (.long p10), .second] []) := by
    intro Tj9 Lj9 p10 Xj9 ej9 Nj9 qp10
    show own_Go _ _ _ _ Tj9 (mkF m 44 #[.val (.long x0), .second, .val (.long x1), .second, .val (.long v1), .second, .val (.long v4), .second, .val (.long v5), .second, .val (.long p10), .second] [])
    refine own_st (fun t k => XS.lload Xj9.here hx rfl (hb hby at_44) rfl k) ?_
    show own_Go _ _ _ _ Tj9 (mkF m 46 _ [(.long v4)])
    refine own_st (fun t k => XS.lload Xj9.here hx rfl (hb hby at_46) rfl k) ?_
    show own_Go _ _ _ _ Tj9 (mkF m 48 _ [(.long p10), (.long v4)])
    refine own_st (fun t k => XS.lcmp Xj9.here hx rfl (hb hby at_48) rfl k) ?_
    show own_Go _ _ _ _ Tj9 (mkF m 49 _ [(.int (lcmpW v4 p10))])
    have J14 : ∀ (Tj14 : State) (Lj14 : List Loc) (p15 : Int32), Stand p l e room_1 s m #[(.long x0), (.long x1)] below meth c Tj14 Lj14 0 0 → Tj14.heap = h0 → Fr n0 Lj14 → p15 = (if v4 = p10 then (1 : Int32) else (0 : Int32)) → own_Go p.tables e below Pq Tj14 (mkF m 57 #[.val (.long x0), .second, .val (.long x1), .second, .val (.long v1), .second, .val (.long v4), .second, .val (.long v5), .second, .val (.long p10), .second] [(.int p15)]) := by
      intro Tj14 Lj14 p15 Xj14 ej14 Nj14 qp15
      show own_Go _ _ _ _ Tj14 (mkF m 57 _ [(.int p15)])
      subst hPq
      refine own_out Xj14 (v := some (.int (nar .boolean p15))) (fun h => by rw [Bd.returns] at h; cases h) Bd.notSynchronized (fun fs hr => retN Xj14 hx (t := .boolean) Bd.returns (by simp) (hb hby at_57) hr) (by decide) (by decide) ?_
      show Q0 Z x0 x1 h0 n0 _ Tj14.heap _
      rw [ej14]
      exact ⟨congrArg (fun z => some (Value.int (nar .boolean z))) (own_law x0 x1 v1 v4 v5 p10 p15 hv1 hv4 hv5 qp10 qp15), Nj14⟩
    by_cases c11 : v4 = p10
    · skip
      refine own_st (fun t k => XS.ifNo Xj9.here hx rfl (hb hby at_49) rfl (own_lcF (cd := .ne) (not_not_intro c11)) k) ?_
      show own_Go _ _ _ _ Tj9 (mkF m 52 _ [])
      refine own_st (fun t k => XS.iconst Xj9.here hx rfl (hb hby at_52) k) ?_
      show own_Go _ _ _ _ Tj9 (mkF m 53 _ [(.int (1 : Int32))])
      refine own_st (fun t k => XS.goto Xj9.here hx rfl (pc0 := 53) (pc' := 57) rfl (hb hby at_53) (by decide) (by decide) k) ?_
      show own_Go _ _ _ _ Tj9 (mkF m 57 _ [(.int (1 : Int32))])
      exact J14 Tj9 _ _ Xj9 ej9 Nj9 (by simp only [if_pos c11])
    · skip
      refine own_st (fun t k => XS.ifYes Xj9.here hx rfl (pc0 := 49) (pc' := 56) rfl (hb hby at_49) rfl (own_lcT (cd := .ne) c11) (by decide) (by decide) k) ?_
      show own_Go _ _ _ _ Tj9 (mkF m 56 _ [])
      refine own_st (fun t k => XS.iconst Xj9.here hx rfl (hb hby at_56) k) ?_
      show own_Go _ _ _ _ Tj9 (mkF m 57 _ [(.int (0 : Int32))])
      exact J14 Tj9 _ _ Xj9 ej9 Nj9 (by simp only [if_neg c11])
  by_cases c6 : v5 < x0
  · skip
    refine own_st (fun t k => XS.ifNo X2.here hx rfl (hb hby at_27) rfl (own_lcF (cd := .le) (not_not_intro c6)) k) ?_
    show own_Go _ _ _ _ T2 (mkF m 30 _ [])
    refine own_st (fun t k => X2.ldc2Long hx hown (mvT hZ (hw _ (List.mem_of_getElem? (i := 0) rfl))) (g := (mkF m 30 #[.val (.long x0), .second, .val (.long x1), .second, .val (.long v1), .second, .val (.long v4), .second, .val (.long v5), .second, .unset, .unset] [])) rfl (hb hby at_30) _ k) ?_
    show own_Go _ _ _ _ T2 (mkF m 33 _ [(.long (9223372036854775807 : Int64))])
    refine own_st (fun t k => XS.lstore X2.here hx rfl (hb hby at_33) rfl (l' := #[.val (.long x0), .second, .val (.long x1), .second, .val (.long v1), .second, .val (.long v4), .second, .val (.long v5), .second, .val (.long (9223372036854775807 : Int64)), .second]) rfl k) ?_
    show own_Go _ _ _ _ T2 (mkF m 35 #[.val (.long x0), .second, .val (.long x1), .second, .val (.long v1), .second, .val (.long v4), .second, .val (.long v5), .second, .val (.long (9223372036854775807 : Int64)), .second] [])
    refine own_st (fun t k => XS.goto X2.here hx rfl (pc0 := 35) (pc' := 44) rfl (hb hby at_35) (by decide) (by decide) k) ?_
    show own_Go _ _ _ _ T2 (mkF m 44 _ [])
    exact J9 T2 _ _ X2 eq2 N3 (by simp only [if_pos c6])
  · skip
    refine own_st (fun t k => XS.ifYes X2.here hx rfl (pc0 := 27) (pc' := 38) rfl (hb hby at_27) rfl (own_lcT (cd := .le) c6) (by decide) (by decide) k) ?_
    show own_Go _ _ _ _ T2 (mkF m 38 _ [])
    refine own_st (fun t k => XS.lloadN X2.here hx rfl (hb hby at_38) rfl k) ?_
    show own_Go _ _ _ _ T2 (mkF m 39 _ [(.long x0)])
    refine own_st (fun t k => XS.lload X2.here hx rfl (hb hby at_39) rfl k) ?_
    show own_Go _ _ _ _ T2 (mkF m 41 _ [(.long v1), (.long x0)])
    refine own_st (fun t k => XS.ladd X2.here hx rfl (hb hby at_41) rfl k) ?_
    show own_Go _ _ _ _ T2 (mkF m 42 _ [(.long (x0 + v1))])
    refine own_st (fun t k => XS.lstore X2.here hx rfl (hb hby at_42) rfl (l' := #[.val (.long x0), .second, .val (.long x1), .second, .val (.long v1), .second, .val (.long v4), .second, .val (.long v5), .second, .val (.long (x0 + v1)), .second]) rfl k) ?_
    show own_Go _ _ _ _ T2 (mkF m 44 #[.val (.long x0), .second, .val (.long x1), .second, .val (.long v1), .second, .val (.long v4), .second, .val (.long v5), .second, .val (.long (x0 + v1)), .second] [])
    exact J9 T2 _ _ X2 eq2 N3 (by simp only [if_neg c6])
set_option maxRecDepth 65536 in
set_option maxHeartbeats 40000000 in
theorem own_comes {Post : Tables → Env → Array Value → State → Outcome → State → Prop} (hpost : ∀ tb e args s v u, (limb_1_1.after args s (.returned v) u = true ∧ limb_1_2.after args s (.returned v) u = true ∧ True) → FrameEnd s (.returned v) u (Jvm.fieldLocs frame_1_writes args s ++ Jvm.arrayLocs frame_1_arrays args s ++ Jvm.staticLocs frame_1_statics s) 0 0 → Post tb e args s (.returned v) u) :
    ArmFor flags0 classFile x code maxLocals ret World_1 tables_1 room_1 Calls_1 rest_1 Pre_1 Post := by
  intro l hfl _ _ p e ha hc hk s m args below hf hA hF happ hP
  obtain ⟨hcalls, hrest, hpre⟩ := hP
  obtain ⟨-, -, -, hnamed, -, -, -, hat⟩ := (Spec.applies_iff hf).mp happ
  obtain ⟨hg, hn⟩ := and_e (Cond.before_iff.mp (show (Jvm.Cond.and given_1 narrow_1).before args s = true from hpre))
  obtain ⟨g0, r0⟩ := and_e hg
  obtain ⟨g1, r1⟩ := and_e r0
  obtain ⟨w0, w1, rfl⟩ : ∃ w0 w1 : Value, args = #[w0, w1] := by
    have hs : args.size = 2 := by simpa [Cond.value, given_1] using g0
    obtain ⟨L⟩ := args
    match L, hs with
    | [w0, w1], _ => exact ⟨w0, w1, rfl⟩
  have hw := fun d (hd : d ∈ tables_1) => atoms_spec (ws := Jvm.Cond.code x code maxLocals ret :: tables_1) hat d (List.mem_cons_of_mem _ hd)
  obtain ⟨i0, ei0⟩ := isL_v g1
  obtain rfl : w0 = (.long i0) := Option.some.inj ei0
  obtain ⟨i1, ei1⟩ := isL_v r1
  obtain rfl : w1 = (.long i1) := Option.some.inj ei1
  obtain ⟨n, o, h1, h2, h3, _, L, rfl, ⟨rfl, N⟩, hq⟩ := rm0 l s _ hw tables_1 i0 i1 s.heap s.heap.size (Nat.le_refl _) p e ha hc hk s m _ below hf ((Spec.applies_iff_loose hf).mp happ).1 ⟨rfl, State.Warmed39.refl s, rfl⟩ trivial
  refine ⟨n, _, h1, h2, h3, hpost _ _ _ _ _ _ ⟨Cond.after_iff.mpr rfl, Cond.after_iff.mpr (eq_i res_at (Term.int_eval (1)) rfl), trivial⟩ ⟨hq.1, hq.2.1, (hq.2.2.sift fun y hy => Or.inr (N y hy)).mono (by decide) (by decide)⟩⟩
theorem main_1_1 : Claimed_1_1 := own_comes fun _ _ _ _ _ _ h hF => ⟨h.1, hF⟩
theorem main_1_2 : Claimed_1_2 := own_comes fun _ _ _ _ _ _ h hF => ⟨h.2.1, hF⟩
end Jvm.Pilot.@@N@@
namespace Jvm.Pilot.@@N@@
open Jvm Jvm.ClassFile Sem Op Lib Jvm.Free Jvm.Stand Jvm.Pilot.@@N@@.Jvm.D
/-! MADE BY PROGRAM (witnessworld.py) out of the Statement's table words and the real class files: 9 classes; the members and pool entries that the words name. The judged class is class 1, her method 1. -/
namespace start1
open Jvm.ClassFile
def u (s : String) : CpInfo := .utf8 (stringToUtf16 s)
/-- a pool by its gaps: so many unusable entries, then the entry; so many at the end -/
def gap : Nat → List CpInfo → List CpInfo
  | 0, r => r
  | n + 1, r => .unusable :: gap n r
def poolList (es : List (Nat × CpInfo)) (last : Nat) : List CpInfo := es.foldr (fun e r => gap e.1 (e.2 :: r)) (gap last [])
def pool (es : List (Nat × CpInfo)) (last : Nat) : Array CpInfo := ⟨poolList es last⟩
def fileOf (pool : Array CpInfo) (this : Nat) (attrs : Array Attribute := #[]) (ms : Array MethodInfo := #[]) (fl : Nat := 33) (sup : Nat := 0) (ifs : Array Nat := #[]) (fds : Array FieldInfo := #[]) : ClassFile where
  minorVersion := 0
  majorVersion := 65
  constantPool := pool
  accessFlags := fl
  thisClass := this
  superClass := sup
  interfaces := ifs
  fields := fds
  methods := ms
  attributes := attrs
def plain (name : String) (sup : Option ClassId) : Class where
  name := name
  kind := .ordinary
  loader := none
  accessFlags := 33
  super := sup
  interfaces := #[]
  cf := none
  fields := #[]
  methods := #[]
  instanceTypes := #[]
  staticTypes := #[]
  resolved := #[]
  callSites := []
  init := .initialized
  statics := none
  mirror := none

def pool0 : Array CpInfo := pool [(5, u "<init>"), (0, u "()V"), (1, .class_ 10), (1, u "java/lang/Object")] 113

def k0m0 : Method := { name := "<init>", desc := "()V", sig := { parameters := [], returnType := none }, accessFlags := 1, code := none }
/-- java/lang/Object -/
def k0 : Class := { plain "java/lang/Object" none with
  accessFlags := 33
  interfaces := #[]
  cf := some (fileOf pool0 8 #[] #[{ accessFlags := 1, nameIndex := 5, descriptorIndex := 6, attributes := #[] }] 33 0 #[] #[])
  fields := #[]
  methods := #[k0m0]
  instanceTypes := #[]
  staticTypes := #[]
  resolved := Array.replicate 124 none
  statics := none }

def pool1 : Array CpInfo := pool [(2, .class_ 4), (1, u "java/lang/Object"), (0, u "<init>"), (0, u "()V"), (2, .long 9223372036854775807), (1, .methodref 12 13), (0, .class_ 14), (0, .nameAndType 15 16), (0, u "com/example/refill/refill/Micros"), (0, u "plus"), (0, u "(JJ)J"), (0, .class_ 18), (0, u "com/example/refill/refill/MicrosPlusPinLaw"), (2, u "law"), (0, u "(JJ)Z")] 3

def k1m0 : Method := { name := "<init>", desc := "()V", sig := { parameters := [], returnType := none }, accessFlags := 2, code := none }
def k1c1 : Code := { maxStack := 4, maxLocals := 12, code := code, exceptionTable := #[], attributes := #[] }
def k1m1 : Method := { name := "law", desc := "(JJ)Z", sig := { parameters := [.long, .long], returnType := some .boolean }, accessFlags := 9, code := some k1c1 }
/-- com/example/refill/refill/MicrosPlusPinLaw -/
def k1 : Class := { plain "com/example/refill/refill/MicrosPlusPinLaw" (some 0) with
  accessFlags := 49
  interfaces := #[]
  cf := some (fileOf pool1 17 #[] #[{ accessFlags := 2, nameIndex := 5, descriptorIndex := 6, attributes := #[] }, { accessFlags := 9, nameIndex := 21, descriptorIndex := 22, attributes := #[] }] 49 2 #[] #[])
  fields := #[]
  methods := #[k1m0, k1m1]
  instanceTypes := #[]
  staticTypes := #[]
  resolved := Array.replicate 26 none
  statics := none }

def pool2 : Array CpInfo := pool [(2, .class_ 4), (1, u "java/lang/Object"), (0, u "<init>"), (0, u "()V"), (12, .long 9223372036854775807), (14, .class_ 36), (1, u "com/example/refill/refill/Micros"), (22, u "plus"), (0, u "(JJ)J")] 17

def k2m0 : Method := { name := "<init>", desc := "()V", sig := { parameters := [], returnType := none }, accessFlags := 2, code := none }
def k2c1 : Code := { maxStack := 4, maxLocals := 6, code := prog_11_method_4_code, exceptionTable := #[], attributes := #[] }
def k2m1 : Method := { name := "plus", desc := "(JJ)J", sig := { parameters := [.long, .long], returnType := some .long }, accessFlags := 8, code := some k2c1 }
/-- com/example/refill/refill/Micros -/
def k2 : Class := { plain "com/example/refill/refill/Micros" (some 0) with
  accessFlags := 32
  interfaces := #[]
  cf := some (fileOf pool2 34 #[] #[{ accessFlags := 2, nameIndex := 5, descriptorIndex := 6, attributes := #[] }, { accessFlags := 8, nameIndex := 59, descriptorIndex := 60, attributes := #[] }] 32 2 #[] #[])
  fields := #[]
  methods := #[k2m0, k2m1]
  instanceTypes := #[]
  staticTypes := #[]
  resolved := Array.replicate 78 none
  statics := none }

def pool3 : Array CpInfo := pool [(1, u "java/lang/Cloneable"), (0, .class_ 1), (0, u "java/lang/Object"), (0, .class_ 3)] 3

/-- java/lang/Cloneable -/
def k3 : Class := { plain "java/lang/Cloneable" (some 0) with
  accessFlags := 1537
  interfaces := #[]
  cf := some (fileOf pool3 2 #[] #[] 1537 4 #[] #[])
  fields := #[]
  methods := #[]
  instanceTypes := #[]
  staticTypes := #[]
  resolved := Array.replicate 8 none
  statics := none }

def pool4 : Array CpInfo := pool [(1, u "java/io/Serializable"), (0, .class_ 1), (0, u "java/lang/Object"), (0, .class_ 3)] 3

/-- java/io/Serializable -/
def k4 : Class := { plain "java/io/Serializable" (some 0) with
  accessFlags := 1537
  interfaces := #[]
  cf := some (fileOf pool4 2 #[] #[] 1537 4 #[] #[])
  fields := #[]
  methods := #[]
  instanceTypes := #[]
  staticTypes := #[]
  resolved := Array.replicate 8 none
  statics := none }

/-- the primitive byte -/
def k5 : Class := { plain "byte" none with kind := .primitive 'B', accessFlags := 0x411 }
/-- [B -/
def k6 : Class := { plain "[B" (some 0) with kind := .array 5 .byte, interfaces := #[3, 4], accessFlags := 1041 }

/-- the primitive int -/
def k7 : Class := { plain "int" none with kind := .primitive 'I', accessFlags := 0x411 }
/-- [I -/
def k8 : Class := { plain "[I" (some 0) with kind := .array 7 .int, interfaces := #[3, 4], accessFlags := 1041 }

def heap : Heap := #[]
def classes : Array Class := #[k0, k1, k2, k3, k4, k5, k6, k7, k8]
def interned : List (Array UInt16 × Addr) := []
def slotsUsed : Nat := 0
def theMethod : MethodId := ⟨1, 1⟩
def args0 : Array Value := #[.long 5, .long 3]
def aboutOver (below : List Frame) : State where
  vm := { classes := classes, interned := interned.toArray }
  heap := heap
  slotsUsed := slotsUsed
  threads := #[{ frames := .invoking theMethod args0 :: below }]
def below0 : List Frame := [.native { method := ⟨0, 0⟩, args := #[] }]
def about1 : State := aboutOver below0
def p0 : Program := .bare "" "" ""
def e0 : Env := launch0.env 0 0 0
theorem w_frames : about1.frames = Frame.invoking theMethod args0 :: below0 := rfl
set_option maxRecDepth 65536 in
theorem w_args : argsFit about1.vm theMethod args0 = true := by decide +kernel
set_option maxRecDepth 65536 in
theorem w_heap : heapFits about1 = true := by decide +kernel
set_option maxRecDepth 65536 in
theorem w_runnable : about1.curStatus? = some .runnable := by decide +kernel
set_option maxRecDepth 65536 in
theorem w_alone : about1.alone = true := by decide +kernel
set_option maxRecDepth 65536 in
theorem w_named : about1.methodNamed? x = some theMethod := by decide +kernel
set_option maxRecDepth 65536 in
theorem w_hears : about1.hears theMethod below0 = true := by decide +kernel
set_option maxRecDepth 65536 in
theorem w_ripe : about1.ripe theMethod args0 below0 = true := by decide +kernel
theorem w_running : about1.status = .running := rfl
set_option maxRecDepth 65536 in
theorem w_room : about1.hasRoom e0.platform room_1 = true :=
  launch0.hasRoom_least _ room_1 (by decide +kernel) (by decide +kernel) (by decide +kernel) (by decide +kernel) (by decide +kernel) (by decide +kernel)
theorem allAtoms_all (ts : List Jvm.Cond) (a : Array Jvm.Value) (st : Jvm.State) : (allAtoms ts).before a st = ts.all (fun c => c.before a st) := by
  induction ts with
  | nil => rfl
  | cons c t ih =>
    show (Jvm.Cond.and c (allAtoms t)).before a st = _
    rw [Jvm.Cond.before_and, ih, List.all_cons]
def words1 : List Jvm.Cond := Jvm.Cond.code x code maxLocals ret :: tables_1
/-- a 'code' word, met by the world's own term for the bytes: nothing is compared byte by byte -/
theorem code_word {y : MethodName} {bytes : ByteArray} {mx : Nat} {rt : Option FieldType} {a : Array Value} {s : State} {m : MethodId} {meth : Method} {c : Code} (h1 : s.methodNamed? y = some m) (h2 : s.vm.method? m = some meth) (h3 : meth.code = some c) (h4 : c.code = bytes)
    (h5 : (c.maxLocals == mx && c.exceptionTable.isEmpty && decide (c.maxStack ≤ mostOperands) && decide (meth.sig.returnType = rt) && !meth.locks && decide (parseMethodDescriptor y.desc = some meth.sig)) = true) : (Jvm.Cond.code y bytes mx rt).before a s = true := by
  simp only [Bool.and_eq_true, beq_iff_eq, Bool.not_eq_true', decide_eq_true_eq] at h5
  obtain ⟨⟨⟨⟨⟨g1, g2⟩, g3⟩, g4⟩, g5⟩, g6⟩ := h5
  simp [Cond.before, Cond.holds, Cond.value, h1, h2, h3, h4, g1, g2, g3, g4, g5, g6]
def isCode : Jvm.Cond → Bool
  | .code _ _ _ _ => true
  | _ => false
theorem all_split {L : List Jvm.Cond} {P : Jvm.Cond → Bool} (h1 : L.all (fun c => isCode c || P c) = true) (h2 : ∀ c ∈ L.filter isCode, P c = true) : L.all P = true := by
  refine List.all_eq_true.mpr fun c hc => ?_
  have h := List.all_eq_true.mp h1 c hc
  rcases Bool.eq_false_or_eq_true (isCode c) with hi | hi
  · exact h2 c (List.mem_filter.mpr ⟨hc, hi⟩)
  · simpa [hi] using h
set_option maxRecDepth 65536 in
theorem w_c0 : (Jvm.Cond.code x code maxLocals ret).before args0 about1 = true := code_word (m := ⟨1, 1⟩) (meth := k1m1) (c := k1c1) (by decide +kernel) rfl rfl rfl (by decide +kernel)
set_option maxRecDepth 65536 in
theorem w_c1 : (Jvm.Cond.code ({ cls := "com/example/refill/refill/Micros", name := "plus", desc := "(JJ)J" } : Jvm.MethodName) prog_11_method_4_code (6 : Nat) (Option.some Jvm.ClassFile.FieldType.long)).before args0 about1 = true := code_word (m := ⟨2, 1⟩) (meth := k2m1) (c := k2c1) (by decide +kernel) rfl rfl rfl (by decide +kernel)
def codes1 : List Jvm.Cond := [Jvm.Cond.code x code maxLocals ret, Jvm.Cond.code ({ cls := "com/example/refill/refill/Micros", name := "plus", desc := "(JJ)J" } : Jvm.MethodName) prog_11_method_4_code (6 : Nat) (Option.some Jvm.ClassFile.FieldType.long)]
set_option maxRecDepth 65536 in
theorem codes_eq : words1.filter isCode = codes1 := rfl
theorem w_codes : ∀ c ∈ words1.filter isCode, c.before args0 about1 = true := by
  rw [codes_eq]
  intro c hc
  simp only [codes1, List.mem_cons, List.not_mem_nil, or_false] at hc
  rcases hc with rfl | rfl
  · exact w_c0
  · exact w_c1
set_option maxRecDepth 65536 in
theorem w_t1 : words1.all (fun c => isCode c || c.before args0 about1) = true := by decide +kernel
theorem w_tables : (allAtoms (Jvm.Cond.code x code maxLocals ret :: tables_1)).before args0 about1 = true := by
  rw [allAtoms_all]
  show words1.all (fun c => c.before args0 about1) = true
  refine all_split ?_ w_codes
  rw [w_t1]
set_option maxRecDepth 65536 in
theorem w_case : (Jvm.Cond.and given_1 narrow_1).before args0 about1 = true := by decide +kernel
theorem w_applies : (headSpec (Jvm.Cond.code x code maxLocals ret :: tables_1) room_1).applies x e0.platform about1 = true :=
  (Spec.applies_iff w_frames).mpr ⟨w_running, w_runnable, w_alone, w_named, w_hears, w_ripe, w_room, w_tables⟩
theorem atStart : AtStart classFile x code maxLocals ret World_1 tables_1 room_1 Calls_1 rest_1 Pre_1 launch0 p0 e0 about1 theMethod args0 below0 :=
  ⟨lists_1, trivial, launch0.admits_env _ _ _, launch0.least_env, fairChoices_fair.cas, fairChoices_fair.clock, w_frames, w_args, w_heap, w_applies, trivial, trivial, w_case⟩
end start1
theorem witness_1 : WitnessClaimed_1 := ⟨start1.p0, start1.e0, start1.about1, start1.theMethod, start1.args0, start1.below0, start1.atStart⟩
end Jvm.Pilot.@@N@@
