import JvmDerived
import JvmDerived.Pilot.@@N@@Statement
import JvmDerived.Pilot.@@N@@Code
set_option linter.unusedVariables false
set_option linter.unusedSimpArgs false
@@BLOCK:NumsL.lean.txt@@
namespace Jvm.Pilot.@@N@@
open Jvm Jvm.ClassFile Sem Op Lib Jvm.Free Jvm.Stand Jvm.LawKit Jvm.RoadKit Bundle Jvm.Pilot.@@N@@.Jvm.D
/-- from here the run comes to a state of which P holds -/
def own_Go (tb : Tables) (e : Env) (below : List Frame) (P : State → Prop) (T : State) (g : JFrame) : Prop := ∃ t, Steps tb e below (T.setTop g) t ∧ P t
theorem own_st {tb : Tables} {e : Env} {below : List Frame} {P : State → Prop} {T T' : State} {g g' : JFrame} (h : ∀ t, Steps tb e below (T'.setTop g') t → Steps tb e below (T.setTop g) t) (k : own_Go tb e below P T' g') : own_Go tb e below P T g := by
  obtain ⟨t, a, b⟩ := k; exact ⟨t, h t a, b⟩
/-- what the end of a body must be -/
def own_P (s : State) (below : List Frame) (Q : Option Value → Heap → List Loc → Prop) (C S : Nat) (t : State) : Prop := t.status = .running ∧ ∃ o, Ended t below o ∧ ∃ v L, o = .returned v ∧ Q v t.heap L ∧ FrameEnd s o t L C S
/-- .. of a body that may have interned -/
def own_PW (s : State) (below : List Frame) (Q : Option Value → Heap → List Loc → Prop) (C S : Nat) (t : State) : Prop := t.status = .running ∧ ∃ o, Ended t below o ∧ ∃ v L, o = .returned v ∧ Q v t.heap L ∧ ReturnedEndW s o t L C S
section own
variable {p : Program} {l : Launch} {e : Env} {R : Room} {s : State} {m : MethodId} {args : Array Value} {below : List Frame} {meth : Method} {c : Code} {T : State} {locs : List Loc} {cells slots : Nat} {Qo : Option Value → Heap → List Loc → Prop} {C' S' : Nat}
theorem own_out (X : Stand p l e R s m args below meth c T locs cells slots) {v : Option Value} {g : JFrame} (hv : meth.sig.returnType = none → v = none) (hlocks : meth.locks = false)
    (hst : ∀ fs, (∀ (f : JFrame) (acts : List Action), f.method = m → f.locked = none → f.entered = [] → (doReturn e (T.setTop f) acts v).1 = T.setFrames fs) → Steps p.tables e below (T.setTop g) (T.setFrames fs))
    (hc : cells ≤ C') (hs : slots ≤ S') (hq : Qo v T.heap locs) : own_Go p.tables e below (own_P s below Qo C' S') T g := by
  obtain ⟨fs, hr, hrun, hended, hW, hsame⟩ := X.leave (v := v) hv hlocks
  exact ⟨_, hst fs hr, hrun, _, hended, _, _, rfl, hq, ⟨_, rfl⟩, hW, hsame.mono hc hs⟩
theorem own_outW {vm0 : Vm} (X : Stand p l e R (s.setVm vm0) m args below meth c T locs cells slots) {k0 : Nat} (hS : s.Since vm0 k0) (hk : k0 ≤ T.heap.size) {v : Option Value} {g : JFrame} (hv : meth.sig.returnType = none → v = none) (hlocks : meth.locks = false)
    (hst : ∀ fs, (∀ (f : JFrame) (acts : List Action), f.method = m → f.locked = none → f.entered = [] → (doReturn e (T.setTop f) acts v).1 = T.setFrames fs) → Steps p.tables e below (T.setTop g) (T.setFrames fs))
    (hc : cells ≤ C') (hs : slots ≤ S') (hq : Qo v T.heap locs) : own_Go p.tables e below (own_PW s below Qo C' S') T g := by
  obtain ⟨fs, hr, hrun, hended, hW⟩ := X.leaveW hS hk (v := v) hv hlocks
  exact ⟨_, hst fs hr, hrun, _, hended, _, _, rfl, hq, hW.1, hW.2.1, hW.2.2.1, hW.2.2.2.mono hc hs⟩
theorem own_retI (X : Stand p l e R s m args below meth c T locs cells slots) (hx : p.tables.exec = Jvm.exec) {pc : Nat} {Ls : Array Slot} {z : Int32} {rest : List Value} (hret : meth.sig.returnType = some .int) (hd : decode c.code pc = .ok (.ireturn, 1)) (fs : List Frame)
    (hl : ∀ (f : JFrame) (acts : List Action), f.method = m → f.locked = none → f.entered = [] → (doReturn e (T.setTop f) acts (some (.int z))).1 = T.setFrames fs) : Steps p.tables e below (T.setTop (mkF m pc Ls (.int z :: rest))) (T.setFrames fs) :=
  retOut X hx hret rfl (Or.inl ⟨rfl, Or.inl rfl, _, rfl⟩) hd hl
theorem own_retZ (X : Stand p l e R s m args below meth c T locs cells slots) (hx : p.tables.exec = Jvm.exec) {pc : Nat} {Ls : Array Slot} {z : Int32} {rest : List Value} (hret : meth.sig.returnType = some .boolean) (hd : decode c.code pc = .ok (.ireturn, 1)) (hb : z = 0 ∨ z = 1) (fs : List Frame)
    (hl : ∀ (f : JFrame) (acts : List Action), f.method = m → f.locked = none → f.entered = [] → (doReturn e (T.setTop f) acts (some (.int z))).1 = T.setFrames fs) : Steps p.tables e below (T.setTop (mkF m pc Ls (.int z :: rest))) (T.setFrames fs) := by
  have e1 : nar .boolean z = z := by rcases hb with rfl | rfl <;> decide
  exact retN X hx hret (Or.inl rfl) hd (by rw [e1]; exact hl)
theorem own_retJ (X : Stand p l e R s m args below meth c T locs cells slots) (hx : p.tables.exec = Jvm.exec) {pc : Nat} {Ls : Array Slot} {z : Int64} {rest : List Value} (hret : meth.sig.returnType = some .long) (hd : decode c.code pc = .ok (.lreturn, 1)) (fs : List Frame)
    (hl : ∀ (f : JFrame) (acts : List Action), f.method = m → f.locked = none → f.entered = [] → (doReturn e (T.setTop f) acts (some (.long z))).1 = T.setFrames fs) : Steps p.tables e below (T.setTop (mkF m pc Ls (.long z :: rest))) (T.setFrames fs) :=
  retOut X hx hret rfl (Or.inr (Or.inl ⟨rfl, rfl, _, rfl⟩)) hd hl
theorem own_retR (X : Stand p l e R s m args below meth c T locs cells slots) (hx : p.tables.exec = Jvm.exec) {pc : Nat} {Ls : Array Slot} {w : Value} {t : FieldType} {rest : List Value} (hret : meth.sig.returnType = some t) (ht : t.isReference = true) (hw : w.isRef = true) (hn : narrow t w = w) (hd : decode c.code pc = .ok (.areturn, 1)) (fs : List Frame)
    (hl : ∀ (f : JFrame) (acts : List Action), f.method = m → f.locked = none → f.entered = [] → (doReturn e (T.setTop f) acts (some w)).1 = T.setFrames fs) : Steps p.tables e below (T.setTop (mkF m pc Ls (w :: rest))) (T.setFrames fs) :=
  retOut X hx hret hn (Or.inr (Or.inr (Or.inr (Or.inr ⟨rfl, ht, hw⟩)))) hd hl
end own
/-- a private method is the one that is picked -/
theorem own_selp {s : State} {args : Array Value} {y : MethodName} {n : Nat} (hi : (Jvm.Cond.instantiable y.cls n).before args s = true) (hp : s.PrivateAt y) (hm : (Jvm.Cond.instanceMethod y).before args s = true) (hy : y.cls ≠ "java/lang/invoke/MethodHandle" ∧ y.cls ≠ "java/lang/invoke/VarHandle") : (Jvm.Cond.selects y.cls y y).before args s = true := by
  obtain ⟨c, k, h1, h2, -, h4, -⟩ := Cond.instantiable_spec hi
  exact selects_self_of_private h1 h2 (Bool.or_eq_false_iff.mp h4).1 hp hm hy
theorem own_staK {Z : State} {h h' : Heap} {C n d : String} {v : Value} {ws : List Addr} (F : Sta Z h C n d v) (K : Keep h h' ws) (q : ∀ x ∈ ws, ∃ D, Exa Z h x D) : Sta Z h' C n d v := by
  obtain ⟨cf, i, k, f, st, cell, h1, h2, h3, h4, h5, h6, h7⟩ := F
  refine ⟨cf, i, k, f, st, cell, h1, h2, h3, h4, K.2.1 st cell h5 (fun hm => ?_), h6, h7⟩
  obtain ⟨D, c', k', e1, -, -, e4, -⟩ := q st hm
  cases h5.symm.trans e1
  rw [h6] at e4; cases e4
/-- a reference or null -/
theorem own_refOf {w : Value} (h : w.isRef = true) (c : ¬ w = Value.null) : ∃ a, w = .ref a := (ref_cases h).resolve_left c
theorem own_nW {t : FieldType} {w : Value} (ht : t.isReference = true) (h : w.isRef = true) : narrow t w = w := by
  rcases ref_cases h with rfl | ⟨a, rfl⟩ <;> cases t <;> first | rfl | simp [FieldType.isReference] at ht
theorem own_fW {t : FieldType} {w : Value} (ht : t.isReference = true) (h : w.isRef = true) : fits t w = true := by
  rcases ref_cases h with rfl | ⟨a, rfl⟩ <;> cases t <;> first | rfl | simp [FieldType.isReference] at ht
theorem own_nb {z : Int32} (h : z = 0 ∨ z = 1) : narrow .boolean (.int z) = .int z := by rcases h with rfl | rfl <;> rfl
theorem own_fb {z : Int32} (h : z = 0 ∨ z = 1) : fits .boolean (.int z) = true := by rcases h with rfl | rfl <;> rfl
/-- lcmp and a branch, in one -/
def own_lcv : ClassFile.Cond → Int64 → Int64 → Prop
  | .lt, x, y => x < y | .ge, x, y => ¬ x < y | .gt, x, y => y < x | .le, x, y => ¬ y < x | .eq, x, y => x = y | .ne, x, y => ¬ x = y
theorem own_lcT {cd : ClassFile.Cond} {x y : Int64} (h : own_lcv cd x y) : ifCond.holds cd (lcmpW x y) = true := by
  rw [if0]
  cases cd
  · exact (teq ((lw_eq x y).mpr h)).1
  · exact (feq (fun q => h ((lw_eq x y).mp q))).2
  · exact (tlt ((lw_lt x y).mpr h)).1
  · exact (flt (fun q => h ((lw_lt x y).mp q))).2.1
  · exact (tlt ((lw_gt x y).mpr h)).2.2.1
  · exact (flt (fun q => h ((lw_gt x y).mp q))).2.2.2
theorem own_lcF {cd : ClassFile.Cond} {x y : Int64} (h : ¬ own_lcv cd x y) : ifCond.holds cd (lcmpW x y) = false := by
  rw [if0]
  cases cd
  · exact (feq (fun q => h ((lw_eq x y).mp q))).1
  · exact (teq (Classical.byContradiction fun q => h (fun r => q ((lw_eq x y).mpr r)))).2
  · exact (flt (fun q => h ((lw_lt x y).mp q))).1
  · exact (tlt (Classical.byContradiction fun q => h (fun r => q ((lw_lt x y).mpr r)))).2.1
  · exact (flt (fun q => h ((lw_gt x y).mp q))).2.2.1
  · exact (tlt (Classical.byContradiction fun q => h (fun r => q ((lw_gt x y).mpr r)))).2.2.2

theorem own_pd__C_Z : parseMethodDescriptor "(C)Z" = some ⟨[.char], some .boolean⟩ := by decide +kernel
theorem own_pd__C__B : parseMethodDescriptor "(C)[B" = some ⟨[.char], some (.array .byte)⟩ := by decide +kernel
theorem own_pd___BB_V : parseMethodDescriptor "([BB)V" = some ⟨[(.array .byte), .byte], none⟩ := by decide +kernel
theorem own_pd___V : parseMethodDescriptor "()V" = some ⟨[], none⟩ := by decide +kernel
theorem own_pd__JJ_J : parseMethodDescriptor "(JJ)J" = some ⟨[.long, .long], some .long⟩ := by decide +kernel
theorem own_pd__C_Ljava_lang_String_ : parseMethodDescriptor "(C)Ljava/lang/String;" = some ⟨[.char], some (.object "java/lang/String")⟩ := by decide +kernel
theorem own_pd__Ljava_lang_String_JJ_V : parseMethodDescriptor "(Ljava/lang/String;JJ)V" = some ⟨[(.object "java/lang/String"), .long, .long], none⟩ := by decide +kernel
theorem own_pd__JI_Z : parseMethodDescriptor "(JI)Z" = some ⟨[.long, .int], some .boolean⟩ := by decide +kernel
def own_max (x0 : Int64) (x1 : Int64) : Int64 := (if x0 < x1 then x1 else x0)
theorem d1_0 : decode jdk_29_method_66_code 0 = .ok (.lload_n 0, 1) := by decide +kernel
theorem d1_1 : decode jdk_29_method_66_code 1 = .ok (.lload_n 2, 1) := by decide +kernel
theorem d1_2 : decode jdk_29_method_66_code 2 = .ok (.lcmp, 1) := by decide +kernel
theorem d1_3 : decode jdk_29_method_66_code 3 = .ok (.ifCond .lt 7, 3) := by decide +kernel
theorem d1_6 : decode jdk_29_method_66_code 6 = .ok (.lload_n 0, 1) := by decide +kernel
theorem d1_7 : decode jdk_29_method_66_code 7 = .ok (.goto 4, 3) := by decide +kernel
theorem d1_10 : decode jdk_29_method_66_code 10 = .ok (.lload_n 2, 1) := by decide +kernel
theorem d1_11 : decode jdk_29_method_66_code 11 = .ok (.lreturn, 1) := by decide +kernel
theorem own_ef1 (m : MethodId) (x0 : Int64) (x1 : Int64) : entryFrame m #[(.long x0), (.long x1)] 4 = mkF m 0 #[.val (.long x0), .second, .val (.long x1), .second] [] := by first | (simp [entryFrame, mkF, argsToLocals, Value.category]; done) | rfl
def Q1 (Z : State) (x0 : Int64) (x1 : Int64) (h0 : Heap) (n0 : Nat) (v : Option Value) (h : Heap) (L : List Loc) : Prop := v = some (.long (own_max x0 x1)) ∧ Fr n0 L ∧ h = h0
set_option maxRecDepth 65536 in
set_option maxHeartbeats 4000000 in
theorem rm1 (l : Launch) (Z : State) (a0 : Array Value) (hw : ∀ d ∈ tables_1, d.before a0 Z = true) (ws : List Jvm.Cond) (x0 : Int64) (x1 : Int64) (h0 : Heap) (n0 : Nat) (Z0 : n0 ≤ h0.size) :
    MetFree l (⟨"java/lang/Math", "max", "(JJ)J"⟩ : MethodName) (head1 (Jvm.Cond.code (⟨"java/lang/Math", "max", "(JJ)J"⟩ : MethodName) jdk_29_method_66_code 4 (some .long) :: ws) ({ frames := 0, cells := 0, slots := 0, locals := 0 } : Room)) (fun aW U => aW = #[(.long x0), (.long x1)] ∧ Z.Warmed39 U.vm ∧ U.heap = h0) (fun _ _ _ _ _ => True) (fun _ U o U' => ∃ v L, o = .returned v ∧ Q1 Z x0 x1 h0 n0 v U'.heap L ∧ FrameEnd U o U' L ({ frames := 0, cells := 0, slots := 0, locals := 0 } : Room).cells ({ frames := 0, cells := 0, slots := 0, locals := 0 } : Room).slots) := by
  refine MetFree.of_bodySF (Jvm.Free.JP.mathPlain rfl (by decide +kernel)) hisR ?_
  intro p e s m args below meth c s₁ Bd hml0 hP hK
  obtain ⟨rfl, hZ, hh⟩ := hP
  have hx := Bd.exec
  have hby := Bd.bytes
  have hml : c.maxLocals = 4 := hml0
  have hown : s.vm.findClass "java/lang/Math" = some m.cls := findClass_of_methodNamed Bd.named
  have hnm := (name_of_methodNamed Bd.named Bd.method).1
  have X0 : Stand p l e ({ frames := 0, cells := 0, slots := 0, locals := 0 } : Room) s m #[(.long x0), (.long x1)] below meth c s₁ [] 0 0 := Stand.of_body Bd
  have e0 : s₁.heap = h0 := by rw [← hh, Bd.state]; rfl
  have N0 := Fr.nil n0
  obtain ⟨Pq, hPq⟩ : ∃ P, P = own_P s below (fun v h L => Q1 Z x0 x1 h0 n0 v h L) ({ frames := 0, cells := 0, slots := 0, locals := 0 } : Room).cells ({ frames := 0, cells := 0, slots := 0, locals := 0 } : Room).slots := ⟨_, rfl⟩
  suffices hgo : own_Go p.tables e below Pq s₁ (mkF m 0 #[.val (.long x0), .second, .val (.long x1), .second] []) by
    subst hPq
    obtain ⟨t, k1, k2, o, k3, k4⟩ := hgo
    exact ⟨t, o, castTop (own_ef1 m x0 x1) k1, k2, k3, k4⟩
  show own_Go _ _ _ _ s₁ (mkF m 0 #[.val (.long x0), .second, .val (.long x1), .second] [])
  refine own_st (fun t k => XS.lloadN X0.here hx rfl (hb hby d1_0) rfl k) ?_
  show own_Go _ _ _ _ s₁ (mkF m 1 _ [(.long x0)])
  refine own_st (fun t k => XS.lloadN X0.here hx rfl (hb hby d1_1) rfl k) ?_
  show own_Go _ _ _ _ s₁ (mkF m 2 _ [(.long x1), (.long x0)])
  refine own_st (fun t k => XS.lcmp X0.here hx rfl (hb hby d1_2) rfl k) ?_
  show own_Go _ _ _ _ s₁ (mkF m 3 _ [(.int (lcmpW x0 x1))])
  have J4 : ∀ (Tj4 : State) (Lj4 : List Loc) (p5 : Int64), Stand p l e ({ frames := 0, cells := 0, slots := 0, locals := 0 } : Room) s m #[(.long x0), (.long x1)] below meth c Tj4 Lj4 0 0 → Tj4.heap = h0 → Fr n0 Lj4 → p5 = (if x0 < x1 then x1 else x0) → own_Go p.tables e below Pq Tj4 (mkF m 11 #[.val (.long x0), .second, .val (.long x1), .second] [(.long p5)]) := by
    intro Tj4 Lj4 p5 Xj4 ej4 Nj4 qp5
    show own_Go _ _ _ _ Tj4 (mkF m 11 _ [(.long p5)])
    subst hPq
    refine own_out Xj4 (v := some (.long p5)) (fun h => by rw [Bd.returns] at h; cases h) Bd.notSynchronized (own_retJ Xj4 hx Bd.returns (hb hby d1_11)) (by decide) (by decide) ?_
    show Q1 Z x0 x1 h0 n0 _ Tj4.heap _
    rw [ej4]
    exact ⟨by subst_vars; rfl, Nj4, rfl⟩
  by_cases c1 : x0 < x1
  · skip
    refine own_st (fun t k => XS.ifYes X0.here hx rfl (pc0 := 3) (pc' := 10) rfl (hb hby d1_3) rfl (own_lcT (cd := .lt) c1) (by decide) (by decide) k) ?_
    show own_Go _ _ _ _ s₁ (mkF m 10 _ [])
    refine own_st (fun t k => XS.lloadN X0.here hx rfl (hb hby d1_10) rfl k) ?_
    show own_Go _ _ _ _ s₁ (mkF m 11 _ [(.long x1)])
    exact J4 s₁ _ _ X0 e0 N0 (by simp only [if_pos c1])
  · skip
    refine own_st (fun t k => XS.ifNo X0.here hx rfl (hb hby d1_3) rfl (own_lcF (cd := .lt) c1) k) ?_
    show own_Go _ _ _ _ s₁ (mkF m 6 _ [])
    refine own_st (fun t k => XS.lloadN X0.here hx rfl (hb hby d1_6) rfl k) ?_
    show own_Go _ _ _ _ s₁ (mkF m 7 _ [(.long x0)])
    refine own_st (fun t k => XS.goto X0.here hx rfl (pc0 := 7) (pc' := 11) rfl (hb hby d1_7) (by decide) (by decide) k) ?_
    show own_Go _ _ _ _ s₁ (mkF m 11 _ [(.long x0)])
    exact J4 s₁ _ _ X0 e0 N0 (by simp only [if_neg c1])
def own_min (x0 : Int64) (x1 : Int64) : Int64 := (if x1 < x0 then x1 else x0)
theorem d2_0 : decode jdk_29_method_70_code 0 = .ok (.lload_n 0, 1) := by decide +kernel
theorem d2_1 : decode jdk_29_method_70_code 1 = .ok (.lload_n 2, 1) := by decide +kernel
theorem d2_2 : decode jdk_29_method_70_code 2 = .ok (.lcmp, 1) := by decide +kernel
theorem d2_3 : decode jdk_29_method_70_code 3 = .ok (.ifCond .gt 7, 3) := by decide +kernel
theorem d2_6 : decode jdk_29_method_70_code 6 = .ok (.lload_n 0, 1) := by decide +kernel
theorem d2_7 : decode jdk_29_method_70_code 7 = .ok (.goto 4, 3) := by decide +kernel
theorem d2_10 : decode jdk_29_method_70_code 10 = .ok (.lload_n 2, 1) := by decide +kernel
theorem d2_11 : decode jdk_29_method_70_code 11 = .ok (.lreturn, 1) := by decide +kernel
theorem own_ef2 (m : MethodId) (x0 : Int64) (x1 : Int64) : entryFrame m #[(.long x0), (.long x1)] 4 = mkF m 0 #[.val (.long x0), .second, .val (.long x1), .second] [] := by first | (simp [entryFrame, mkF, argsToLocals, Value.category]; done) | rfl
def Q2 (Z : State) (x0 : Int64) (x1 : Int64) (h0 : Heap) (n0 : Nat) (v : Option Value) (h : Heap) (L : List Loc) : Prop := v = some (.long (own_min x0 x1)) ∧ Fr n0 L ∧ h = h0
set_option maxRecDepth 65536 in
set_option maxHeartbeats 4000000 in
theorem rm2 (l : Launch) (Z : State) (a0 : Array Value) (hw : ∀ d ∈ tables_1, d.before a0 Z = true) (ws : List Jvm.Cond) (x0 : Int64) (x1 : Int64) (h0 : Heap) (n0 : Nat) (Z0 : n0 ≤ h0.size) :
    MetFree l (⟨"java/lang/Math", "min", "(JJ)J"⟩ : MethodName) (head1 (Jvm.Cond.code (⟨"java/lang/Math", "min", "(JJ)J"⟩ : MethodName) jdk_29_method_70_code 4 (some .long) :: ws) ({ frames := 0, cells := 0, slots := 0, locals := 0 } : Room)) (fun aW U => aW = #[(.long x0), (.long x1)] ∧ Z.Warmed39 U.vm ∧ U.heap = h0) (fun _ _ _ _ _ => True) (fun _ U o U' => ∃ v L, o = .returned v ∧ Q2 Z x0 x1 h0 n0 v U'.heap L ∧ FrameEnd U o U' L ({ frames := 0, cells := 0, slots := 0, locals := 0 } : Room).cells ({ frames := 0, cells := 0, slots := 0, locals := 0 } : Room).slots) := by
  refine MetFree.of_bodySF (Jvm.Free.JP.mathPlain rfl (by decide +kernel)) hisR ?_
  intro p e s m args below meth c s₁ Bd hml0 hP hK
  obtain ⟨rfl, hZ, hh⟩ := hP
  have hx := Bd.exec
  have hby := Bd.bytes
  have hml : c.maxLocals = 4 := hml0
  have hown : s.vm.findClass "java/lang/Math" = some m.cls := findClass_of_methodNamed Bd.named
  have hnm := (name_of_methodNamed Bd.named Bd.method).1
  have X0 : Stand p l e ({ frames := 0, cells := 0, slots := 0, locals := 0 } : Room) s m #[(.long x0), (.long x1)] below meth c s₁ [] 0 0 := Stand.of_body Bd
  have e0 : s₁.heap = h0 := by rw [← hh, Bd.state]; rfl
  have N0 := Fr.nil n0
  obtain ⟨Pq, hPq⟩ : ∃ P, P = own_P s below (fun v h L => Q2 Z x0 x1 h0 n0 v h L) ({ frames := 0, cells := 0, slots := 0, locals := 0 } : Room).cells ({ frames := 0, cells := 0, slots := 0, locals := 0 } : Room).slots := ⟨_, rfl⟩
  suffices hgo : own_Go p.tables e below Pq s₁ (mkF m 0 #[.val (.long x0), .second, .val (.long x1), .second] []) by
    subst hPq
    obtain ⟨t, k1, k2, o, k3, k4⟩ := hgo
    exact ⟨t, o, castTop (own_ef2 m x0 x1) k1, k2, k3, k4⟩
  show own_Go _ _ _ _ s₁ (mkF m 0 #[.val (.long x0), .second, .val (.long x1), .second] [])
  refine own_st (fun t k => XS.lloadN X0.here hx rfl (hb hby d2_0) rfl k) ?_
  show own_Go _ _ _ _ s₁ (mkF m 1 _ [(.long x0)])
  refine own_st (fun t k => XS.lloadN X0.here hx rfl (hb hby d2_1) rfl k) ?_
  show own_Go _ _ _ _ s₁ (mkF m 2 _ [(.long x1), (.long x0)])
  refine own_st (fun t k => XS.lcmp X0.here hx rfl (hb hby d2_2) rfl k) ?_
  show own_Go _ _ _ _ s₁ (mkF m 3 _ [(.int (lcmpW x0 x1))])
  have J4 : ∀ (Tj4 : State) (Lj4 : List Loc) (p5 : Int64), Stand p l e ({ frames := 0, cells := 0, slots := 0, locals := 0 } : Room) s m #[(.long x0), (.long x1)] below meth c Tj4 Lj4 0 0 → Tj4.heap = h0 → Fr n0 Lj4 → p5 = (if x1 < x0 then x1 else x0) → own_Go p.tables e below Pq Tj4 (mkF m 11 #[.val (.long x0), .second, .val (.long x1), .second] [(.long p5)]) := by
    intro Tj4 Lj4 p5 Xj4 ej4 Nj4 qp5
    show own_Go _ _ _ _ Tj4 (mkF m 11 _ [(.long p5)])
    subst hPq
    refine own_out Xj4 (v := some (.long p5)) (fun h => by rw [Bd.returns] at h; cases h) Bd.notSynchronized (own_retJ Xj4 hx Bd.returns (hb hby d2_11)) (by decide) (by decide) ?_
    show Q2 Z x0 x1 h0 n0 _ Tj4.heap _
    rw [ej4]
    exact ⟨by subst_vars; rfl, Nj4, rfl⟩
  by_cases c1 : x1 < x0
  · skip
    refine own_st (fun t k => XS.ifYes X0.here hx rfl (pc0 := 3) (pc' := 10) rfl (hb hby d2_3) rfl (own_lcT (cd := .gt) c1) (by decide) (by decide) k) ?_
    show own_Go _ _ _ _ s₁ (mkF m 10 _ [])
    refine own_st (fun t k => XS.lloadN X0.here hx rfl (hb hby d2_10) rfl k) ?_
    show own_Go _ _ _ _ s₁ (mkF m 11 _ [(.long x1)])
    exact J4 s₁ _ _ X0 e0 N0 (by simp only [if_pos c1])
  · skip
    refine own_st (fun t k => XS.ifNo X0.here hx rfl (hb hby d2_3) rfl (own_lcF (cd := .gt) c1) k) ?_
    show own_Go _ _ _ _ s₁ (mkF m 6 _ [])
    refine own_st (fun t k => XS.lloadN X0.here hx rfl (hb hby d2_6) rfl k) ?_
    show own_Go _ _ _ _ s₁ (mkF m 7 _ [(.long x0)])
    refine own_st (fun t k => XS.goto X0.here hx rfl (pc0 := 7) (pc' := 11) rfl (hb hby d2_7) (by decide) (by decide) k) ?_
    show own_Go _ _ _ _ s₁ (mkF m 11 _ [(.long x0)])
    exact J4 s₁ _ _ X0 e0 N0 (by simp only [if_neg c1])
def own_can (x0 : Int32) : Int32 := (if (255 : Int32) < x0 then (0 : Int32) else (1 : Int32))
theorem own_can_b (x0 : Int32) : (own_can x0) = 0 ∨ (own_can x0) = 1 := by
  unfold own_can
  (repeat' split) <;> first | exact Or.inl rfl | exact Or.inr rfl
theorem d3_0 : decode jdk_43_method_3_code 0 = .ok (.iload_n 0, 1) := by decide +kernel
theorem d3_1 : decode jdk_43_method_3_code 1 = .ok (.sipush 255, 3) := by decide +kernel
theorem d3_4 : decode jdk_43_method_3_code 4 = .ok (.if_icmp .gt 7, 3) := by decide +kernel
theorem d3_7 : decode jdk_43_method_3_code 7 = .ok (.iconst 1, 1) := by decide +kernel
theorem d3_8 : decode jdk_43_method_3_code 8 = .ok (.goto 4, 3) := by decide +kernel
theorem d3_11 : decode jdk_43_method_3_code 11 = .ok (.iconst 0, 1) := by decide +kernel
theorem d3_12 : decode jdk_43_method_3_code 12 = .ok (.ireturn, 1) := by decide +kernel
theorem own_pn3 : plainName "java/lang/StringLatin1" = true := by first | (simp [plainName, overriddenIn]; done) | decide +kernel
theorem own_ef3 (m : MethodId) (x0 : Int32) : entryFrame m #[(.int x0)] 1 = mkF m 0 #[.val (.int x0)] [] := by first | (simp [entryFrame, mkF, argsToLocals, Value.category]; done) | rfl
def Q3 (Z : State) (x0 : Int32) (h0 : Heap) (n0 : Nat) (v : Option Value) (h : Heap) (L : List Loc) : Prop := v = some (.int (own_can x0)) ∧ Fr n0 L ∧ h = h0
set_option maxRecDepth 65536 in
set_option maxHeartbeats 4000000 in
theorem rm3 (l : Launch) (Z : State) (a0 : Array Value) (hw : ∀ d ∈ tables_1, d.before a0 Z = true) (ws : List Jvm.Cond) (x0 : Int32) (h0 : Heap) (n0 : Nat) (Z0 : n0 ≤ h0.size) :
    MetFree l (⟨"java/lang/StringLatin1", "canEncode", "(C)Z"⟩ : MethodName) (head1 (Jvm.Cond.code (⟨"java/lang/StringLatin1", "canEncode", "(C)Z"⟩ : MethodName) jdk_43_method_3_code 1 (some .boolean) :: ws) ({ frames := 0, cells := 0, slots := 0, locals := 0 } : Room)) (fun aW U => aW = #[(.int x0)] ∧ Z.Warmed39 U.vm ∧ U.heap = h0) (fun _ _ _ _ _ => True) (fun _ U o U' => ∃ v L, o = .returned v ∧ Q3 Z x0 h0 n0 v U'.heap L ∧ FrameEnd U o U' L ({ frames := 0, cells := 0, slots := 0, locals := 0 } : Room).cells ({ frames := 0, cells := 0, slots := 0, locals := 0 } : Room).slots) := by
  refine MetFree.of_bodySF (plainFor_of_name own_pn3) hisR ?_
  intro p e s m args below meth c s₁ Bd hml0 hP hK
  obtain ⟨rfl, hZ, hh⟩ := hP
  have hx := Bd.exec
  have hby := Bd.bytes
  have hml : c.maxLocals = 1 := hml0
  have hown : s.vm.findClass "java/lang/StringLatin1" = some m.cls := findClass_of_methodNamed Bd.named
  have hnm := (name_of_methodNamed Bd.named Bd.method).1
  have X0 : Stand p l e ({ frames := 0, cells := 0, slots := 0, locals := 0 } : Room) s m #[(.int x0)] below meth c s₁ [] 0 0 := Stand.of_body Bd
  have e0 : s₁.heap = h0 := by rw [← hh, Bd.state]; rfl
  have N0 := Fr.nil n0
  obtain ⟨Pq, hPq⟩ : ∃ P, P = own_P s below (fun v h L => Q3 Z x0 h0 n0 v h L) ({ frames := 0, cells := 0, slots := 0, locals := 0 } : Room).cells ({ frames := 0, cells := 0, slots := 0, locals := 0 } : Room).slots := ⟨_, rfl⟩
  suffices hgo : own_Go p.tables e below Pq s₁ (mkF m 0 #[.val (.int x0)] []) by
    subst hPq
    obtain ⟨t, k1, k2, o, k3, k4⟩ := hgo
    exact ⟨t, o, castTop (own_ef3 m x0) k1, k2, k3, k4⟩
  show own_Go _ _ _ _ s₁ (mkF m 0 #[.val (.int x0)] [])
  refine own_st (fun t k => XS.iloadN X0.here hx rfl (hb hby d3_0) rfl k) ?_
  show own_Go _ _ _ _ s₁ (mkF m 1 _ [(.int x0)])
  refine own_st (fun t k => XS.sipush X0.here hx rfl (hb hby d3_1) k) ?_
  show own_Go _ _ _ _ s₁ (mkF m 4 _ [(.int (255 : Int32)), (.int x0)])
  have J4 : ∀ (Tj4 : State) (Lj4 : List Loc) (p5 : Int32), Stand p l e ({ frames := 0, cells := 0, slots := 0, locals := 0 } : Room) s m #[(.int x0)] below meth c Tj4 Lj4 0 0 → Tj4.heap = h0 → Fr n0 Lj4 → p5 = (if (255 : Int32) < x0 then (0 : Int32) else (1 : Int32)) → own_Go p.tables e below Pq Tj4 (mkF m 12 #[.val (.int x0)] [(.int p5)]) := by
    intro Tj4 Lj4 p5 Xj4 ej4 Nj4 qp5
    show own_Go _ _ _ _ Tj4 (mkF m 12 _ [(.int p5)])
    have hb_p5 : p5 = 0 ∨ p5 = 1 := by rw [qp5]; (repeat' split) <;> first | exact Or.inl rfl | exact Or.inr rfl | assumption
    subst hPq
    refine own_out Xj4 (v := some (.int p5)) (fun h => by rw [Bd.returns] at h; cases h) Bd.notSynchronized (own_retZ Xj4 hx Bd.returns (hb hby d3_12) hb_p5) (by decide) (by decide) ?_
    show Q3 Z x0 h0 n0 _ Tj4.heap _
    rw [ej4]
    exact ⟨by subst_vars; rfl, Nj4, rfl⟩
  by_cases c1 : (255 : Int32) < x0
  · skip
    refine own_st (fun t k => XS.icmpYes X0.here hx rfl (pc0 := 4) (pc' := 11) rfl (hb hby d3_4) rfl (tlt c1).2.2.1 (by decide) (by decide) k) ?_
    show own_Go _ _ _ _ s₁ (mkF m 11 _ [])
    refine own_st (fun t k => XS.iconst X0.here hx rfl (hb hby d3_11) k) ?_
    show own_Go _ _ _ _ s₁ (mkF m 12 _ [(.int (0 : Int32))])
    exact J4 s₁ _ _ X0 e0 N0 (by simp only [if_pos c1])
  · skip
    refine own_st (fun t k => XS.icmpNo X0.here hx rfl (hb hby d3_4) rfl (flt c1).2.2.1 k) ?_
    show own_Go _ _ _ _ s₁ (mkF m 7 _ [])
    refine own_st (fun t k => XS.iconst X0.here hx rfl (hb hby d3_7) k) ?_
    show own_Go _ _ _ _ s₁ (mkF m 8 _ [(.int (1 : Int32))])
    refine own_st (fun t k => XS.goto X0.here hx rfl (pc0 := 8) (pc' := 12) rfl (hb hby d3_8) (by decide) (by decide) k) ?_
    show own_Go _ _ _ _ s₁ (mkF m 12 _ [(.int (1 : Int32))])
    exact J4 s₁ _ _ X0 e0 N0 (by simp only [if_neg c1])
theorem d4_0 : decode jdk_43_method_46_code 0 = .ok (.iconst 1, 1) := by decide +kernel
theorem d4_1 : decode jdk_43_method_46_code 1 = .ok (.newarray .byte, 2) := by decide +kernel
theorem d4_3 : decode jdk_43_method_46_code 3 = .ok (.dup, 1) := by decide +kernel
theorem d4_4 : decode jdk_43_method_46_code 4 = .ok (.iconst 0, 1) := by decide +kernel
theorem d4_5 : decode jdk_43_method_46_code 5 = .ok (.iload_n 0, 1) := by decide +kernel
theorem d4_6 : decode jdk_43_method_46_code 6 = .ok (.i2b, 1) := by decide +kernel
theorem d4_7 : decode jdk_43_method_46_code 7 = .ok (.bastore, 1) := by decide +kernel
theorem d4_8 : decode jdk_43_method_46_code 8 = .ok (.areturn, 1) := by decide +kernel
theorem own_pn4 : plainName "java/lang/StringLatin1" = true := by first | (simp [plainName, overriddenIn]; done) | decide +kernel
theorem own_ef4 (m : MethodId) (x0 : Int32) : entryFrame m #[(.int x0)] 1 = mkF m 0 #[.val (.int x0)] [] := by first | (simp [entryFrame, mkF, argsToLocals, Value.category]; done) | rfl
def Q4 (Z : State) (x0 : Int32) (h0 : Heap) (n0 : Nat) (v : Option Value) (h : Heap) (L : List Loc) : Prop := ∃ (b : Addr), v = some (.ref b) ∧ Fr n0 L ∧ Keep h0 h [] ∧ n0 ≤ b ∧ h0.size ≤ b
set_option maxRecDepth 65536 in
set_option maxHeartbeats 4000000 in
theorem rm4 (l : Launch) (Z : State) (a0 : Array Value) (hw : ∀ d ∈ tables_1, d.before a0 Z = true) (ws : List Jvm.Cond) (x0 : Int32) (h0 : Heap) (n0 : Nat) (Z0 : n0 ≤ h0.size) :
    MetFree l (⟨"java/lang/StringLatin1", "toBytes", "(C)[B"⟩ : MethodName) (head1 (Jvm.Cond.code (⟨"java/lang/StringLatin1", "toBytes", "(C)[B"⟩ : MethodName) jdk_43_method_46_code 1 (some (.array .byte)) :: ws) ({ frames := 0, cells := 1, slots := 1, locals := 0 } : Room)) (fun aW U => aW = #[(.int x0)] ∧ Z.Warmed39 U.vm ∧ U.heap = h0) (fun _ _ _ _ _ => True) (fun _ U o U' => ∃ v L, o = .returned v ∧ Q4 Z x0 h0 n0 v U'.heap L ∧ FrameEnd U o U' L ({ frames := 0, cells := 1, slots := 1, locals := 0 } : Room).cells ({ frames := 0, cells := 1, slots := 1, locals := 0 } : Room).slots) := by
  refine MetFree.of_bodySF (plainFor_of_name own_pn4) hisR ?_
  intro p e s m args below meth c s₁ Bd hml0 hP hK
  obtain ⟨rfl, hZ, hh⟩ := hP
  have hx := Bd.exec
  have hby := Bd.bytes
  have hml : c.maxLocals = 1 := hml0
  have hown : s.vm.findClass "java/lang/StringLatin1" = some m.cls := findClass_of_methodNamed Bd.named
  have hnm := (name_of_methodNamed Bd.named Bd.method).1
  have X0 : Stand p l e ({ frames := 0, cells := 1, slots := 1, locals := 0 } : Room) s m #[(.int x0)] below meth c s₁ [] 0 0 := Stand.of_body Bd
  have e0 : s₁.heap = h0 := by rw [← hh, Bd.state]; rfl
  have N0 := Fr.nil n0
  have K0 : Keep h0 h0 [] := Keep.refl _ _
  obtain ⟨Pq, hPq⟩ : ∃ P, P = own_P s below (fun v h L => Q4 Z x0 h0 n0 v h L) ({ frames := 0, cells := 1, slots := 1, locals := 0 } : Room).cells ({ frames := 0, cells := 1, slots := 1, locals := 0 } : Room).slots := ⟨_, rfl⟩
  suffices hgo : own_Go p.tables e below Pq s₁ (mkF m 0 #[.val (.int x0)] []) by
    subst hPq
    obtain ⟨t, k1, k2, o, k3, k4⟩ := hgo
    exact ⟨t, o, castTop (own_ef4 m x0) k1, k2, k3, k4⟩
  show own_Go _ _ _ _ s₁ (mkF m 0 #[.val (.int x0)] [])
  refine own_st (fun t k => XS.iconst X0.here hx rfl (hb hby d4_0) k) ?_
  show own_Go _ _ _ _ s₁ (mkF m 1 _ [(.int (1 : Int32))])
  obtain ⟨T1, h1, k1, X1, e1, E1, A1, st1⟩ := newP X0 hx hZ (hw _ (List.mem_of_getElem? (i := 24) rfl)) e0 (g := (mkF m 1 #[.val (.int x0)] [(.int (1 : Int32))])) rfl (hb hby d4_1) rfl (by decide) (cap := 1) (by decide) (by decide) (by decide) (by decide)
  obtain ⟨b1, g1⟩ : ∃ z, z = h0.size := ⟨_, rfl⟩
  rw [← g1] at A1 st1
  refine own_st st1 ?_
  have gx2 : n0 ≤ b1 := Nat.le_trans Z0 (Nat.le_of_eq g1.symm)
  have Z3 : n0 ≤ h1.size := Nat.le_trans Z0 E1.1
  have sz5 : h0.size ≤ b1 := Nat.le_trans K0.1 (Nat.le_of_eq g1.symm)
  have K4 : Keep h0 h1 [] := K0.ext E1
  have V1 : Arv Z h1 b1 k1 .byte (1 : Int32) [(.int (0 : Int32))] (.int (0 : Int32)) := (Arv.new A1 (by decide)).pad (pad_rep [] (.int (0 : Int32)) 1)
  show own_Go _ _ _ _ T1 (mkF m 3 _ [(.ref b1)])
  refine own_st (fun t k => XS.dup X1.here hx rfl (hb hby d4_3) rfl rfl k) ?_
  show own_Go _ _ _ _ T1 (mkF m 4 _ [(.ref b1), (.ref b1)])
  refine own_st (fun t k => XS.iconst X1.here hx rfl (hb hby d4_4) k) ?_
  show own_Go _ _ _ _ T1 (mkF m 5 _ [(.int (0 : Int32)), (.ref b1), (.ref b1)])
  refine own_st (fun t k => XS.iloadN X1.here hx rfl (hb hby d4_5) rfl k) ?_
  show own_Go _ _ _ _ T1 (mkF m 6 _ [(.int x0), (.int (0 : Int32)), (.ref b1), (.ref b1)])
  refine own_st (fun t k => XS.i2b X1.here hx rfl (hb hby d4_6) rfl k) ?_
  show own_Go _ _ _ _ T1 (mkF m 7 _ [(.int x0.toInt8.toInt32), (.int (0 : Int32)), (.ref b1), (.ref b1)])
  obtain ⟨c6, Ar6, q6, S6, N6, H6, G6⟩ := id V1
  obtain ⟨T6, h6, X6, e6, W6, st6⟩ := stB X1 hx hZ e1 Ar6 (j := (0 : Int32)) (inb_of S6 ⟨by decide, by decide⟩) (g := (mkF m 7 #[.val (.int x0)] [(.int x0.toInt8.toInt32), (.int (0 : Int32)), (.ref b1), (.ref b1)])) rfl rfl (hb hby d4_7)
  refine own_st st6 ?_
  have f7 := Arv.set Ar6 q6 S6 N6 H6 G6 (fits_nar_byte _) W6 0 rfl (Nat.le_of_ble_eq_true rfl)
  have N8 := Fr.snoc X6 N0 gx2
  have Z9 : n0 ≤ h6.size := Nat.le_trans Z3 (Nat.le_of_eq W6.size.symm)
  have K10 : Keep h0 h6 [] := K4.wr W6 (Or.inr sz5)
  show own_Go _ _ _ _ T6 (mkF m 8 _ [(.ref b1)])
  subst hPq
  refine own_out X6 (v := some (.ref b1)) (fun h => by rw [Bd.returns] at h; cases h) Bd.notSynchronized (own_retR X6 hx (t := (.array .byte)) Bd.returns rfl rfl rfl (hb hby d4_8)) (by decide) (by decide) ?_
  show Q4 Z x0 h0 n0 _ T6.heap _
  rw [e6]
  exact ⟨b1, rfl, N8, K10, gx2, sz5⟩
theorem d5_0 : decode jdk_42_method_151_code 0 = .ok (.aload_n 0, 1) := by decide +kernel
theorem d5_1 : decode jdk_42_method_151_code 1 = .ok (.invokespecial 1, 3) := by decide +kernel
theorem d5_4 : decode jdk_42_method_151_code 4 = .ok (.aload_n 0, 1) := by decide +kernel
theorem d5_5 : decode jdk_42_method_151_code 5 = .ok (.aload_n 1, 1) := by decide +kernel
theorem d5_6 : decode jdk_42_method_151_code 6 = .ok (.putfield 9, 3) := by decide +kernel
theorem d5_9 : decode jdk_42_method_151_code 9 = .ok (.aload_n 0, 1) := by decide +kernel
theorem d5_10 : decode jdk_42_method_151_code 10 = .ok (.iload_n 2, 1) := by decide +kernel
theorem d5_11 : decode jdk_42_method_151_code 11 = .ok (.putfield 15, 3) := by decide +kernel
theorem d5_14 : decode jdk_42_method_151_code 14 = .ok (.return_, 1) := by decide +kernel
theorem own_pn5 : plainName "java/lang/String" = true := by first | (simp [plainName, overriddenIn]; done) | decide +kernel
theorem own_ef5 (m : MethodId) (a : Addr) (x0 : Addr) : entryFrame m #[(.ref a), (.ref x0), (.int (0 : Int32))] 3 = mkF m 0 #[.val (.ref a), .val (.ref x0), .val (.int (0 : Int32))] [] := by first | (simp [entryFrame, mkF, argsToLocals, Value.category]; done) | rfl
def Q5 (Z : State) (a : Addr) (x0 : Addr) (u0 : Value) (u1 : Value) (h0 : Heap) (n0 : Nat) (v : Option Value) (h : Heap) (L : List Loc) : Prop := v = none ∧ Fr n0 L ∧ Keep h0 h [a] ∧ Exa Z h a "java/lang/String"
set_option maxRecDepth 65536 in
set_option maxHeartbeats 4000000 in
theorem rm5 (l : Launch) (Z : State) (a0 : Array Value) (hw : ∀ d ∈ tables_1, d.before a0 Z = true) (ws : List Jvm.Cond) (a : Addr) (x0 : Addr) (u0 : Value) (u1 : Value) (h0 : Heap) (n0 : Nat) (Z0 : n0 ≤ h0.size) (F0 : Exa Z h0 a "java/lang/String") (F1 : Fld Z h0 a "java/lang/String" "value" "[B" u0) (F2 : Fld Z h0 a "java/lang/String" "coder" "B" u1) (g_a : n0 ≤ a) :
    MetFree l (⟨"java/lang/String", "<init>", "([BB)V"⟩ : MethodName) (head1 (Jvm.Cond.code (⟨"java/lang/String", "<init>", "([BB)V"⟩ : MethodName) jdk_42_method_151_code 3 none :: ws) ({ frames := 1, cells := 0, slots := 0, locals := 12 } : Room)) (fun aW U => aW = #[(.ref a), (.ref x0), (.int (0 : Int32))] ∧ Z.Warmed39 U.vm ∧ U.heap = h0) (fun _ _ _ _ _ => True) (fun _ U o U' => ∃ v L, o = .returned v ∧ Q5 Z a x0 u0 u1 h0 n0 v U'.heap L ∧ FrameEnd U o U' L ({ frames := 1, cells := 0, slots := 0, locals := 12 } : Room).cells ({ frames := 1, cells := 0, slots := 0, locals := 12 } : Room).slots) := by
  refine MetFree.of_bodySF (plainFor_of_name own_pn5) hisR ?_
  intro p e s m args below meth c s₁ Bd hml0 hP hK
  obtain ⟨rfl, hZ, hh⟩ := hP
  have hx := Bd.exec
  have hby := Bd.bytes
  have hml : c.maxLocals = 3 := hml0
  have hown : s.vm.findClass "java/lang/String" = some m.cls := findClass_of_methodNamed Bd.named
  have hnm := (name_of_methodNamed Bd.named Bd.method).1
  have X0 : Stand p l e ({ frames := 1, cells := 0, slots := 0, locals := 12 } : Room) s m #[(.ref a), (.ref x0), (.int (0 : Int32))] below meth c s₁ [] 0 0 := Stand.of_body Bd
  have e0 : s₁.heap = h0 := by rw [← hh, Bd.state]; rfl
  have N0 := Fr.nil n0
  have K0 : Keep h0 h0 [a] := Keep.refl _ _
  obtain ⟨Pq, hPq⟩ : ∃ P, P = own_P s below (fun v h L => Q5 Z a x0 u0 u1 h0 n0 v h L) ({ frames := 1, cells := 0, slots := 0, locals := 12 } : Room).cells ({ frames := 1, cells := 0, slots := 0, locals := 12 } : Room).slots := ⟨_, rfl⟩
  suffices hgo : own_Go p.tables e below Pq s₁ (mkF m 0 #[.val (.ref a), .val (.ref x0), .val (.int (0 : Int32))] []) by
    subst hPq
    obtain ⟨t, k1, k2, o, k3, k4⟩ := hgo
    exact ⟨t, o, castTop (own_ef5 m a x0) k1, k2, k3, k4⟩
  show own_Go _ _ _ _ s₁ (mkF m 0 #[.val (.ref a), .val (.ref x0), .val (.int (0 : Int32))] [])
  refine own_st (fun t k => XS.aloadN X0.here hx rfl (hb hby d5_0) rfl rfl k) ?_
  show own_Go _ _ _ _ s₁ (mkF m 1 _ [(.ref a)])
  obtain ⟨T1, X1, e1, st1⟩ := initO X0 hx hZ hown (hw _ (List.mem_of_getElem? (i := 29) rfl)) (hw _ (List.mem_of_getElem? (i := 30) rfl)) (hw _ (List.mem_of_getElem? (i := 31) rfl)) e0 (g := (mkF m 1 #[.val (.ref a), .val (.ref x0), .val (.int (0 : Int32))] [(.ref a)])) rfl (by rw [hml]; rfl) rfl (hb hby d5_1) (by decide) (W := 0) (by show 2 * 0 + _ ≤ _; exact Nat.le_of_eq rfl) (by decide)
  refine own_st st1 ?_
  show own_Go _ _ _ _ T1 (mkF m 4 _ [])
  refine own_st (fun t k => XS.aloadN X1.here hx rfl (hb hby d5_4) rfl rfl k) ?_
  show own_Go _ _ _ _ T1 (mkF m 5 _ [(.ref a)])
  refine own_st (fun t k => XS.aloadN X1.here hx rfl (hb hby d5_5) rfl rfl k) ?_
  show own_Go _ _ _ _ T1 (mkF m 6 _ [(.ref x0), (.ref a)])
  obtain ⟨T2, h2, X2, e2, W2, st2⟩ := putF X1 hx hZ hown (host := "") (Or.inl (hw _ (List.mem_of_getElem? (i := 32) rfl))) Via.refl e1 F1 F0 (Or.inr ⟨(hw _ (List.mem_of_getElem? (i := 33) rfl)), rfl, hnm⟩) (hw _ (List.mem_of_getElem? (i := 20) rfl)) (ty := (.array .byte)) (by decide) rfl rfl (g := (mkF m 6 #[.val (.ref a), .val (.ref x0), .val (.int (0 : Int32))] [(.ref x0), (.ref a)])) rfl rfl (hb hby d5_6)
  refine own_st st2 ?_
  have f3 := F0.wr W2
  have f4 := F2.other W2 (Or.inr (slot_ne (Or.inr (hw _ (List.mem_of_getElem? (i := 35) rfl))) (Or.inr (hw _ (List.mem_of_getElem? (i := 33) rfl))) (by decide) (t := .byte) (t' := (.array .byte)) (by decide) (by decide)))
  have N5 := Fr.snoc X2 N0 g_a
  have Z6 : n0 ≤ h2.size := Nat.le_trans Z0 (Nat.le_of_eq W2.size.symm)
  have K7 : Keep h0 h2 [a] := K0.wr W2 (Or.inl (List.mem_of_getElem? (i := 0) rfl))
  have f8 := F1.same W2
  show own_Go _ _ _ _ T2 (mkF m 9 _ [])
  refine own_st (fun t k => XS.aloadN X2.here hx rfl (hb hby d5_9) rfl rfl k) ?_
  show own_Go _ _ _ _ T2 (mkF m 10 _ [(.ref a)])
  refine own_st (fun t k => XS.iloadN X2.here hx rfl (hb hby d5_10) rfl k) ?_
  show own_Go _ _ _ _ T2 (mkF m 11 _ [(.int (0 : Int32)), (.ref a)])
  obtain ⟨T9, h9, X9, e9, W9, st9⟩ := putF X2 hx hZ hown (host := "") (Or.inl (hw _ (List.mem_of_getElem? (i := 34) rfl))) Via.refl e2 f4 f3 (Or.inr ⟨(hw _ (List.mem_of_getElem? (i := 35) rfl)), rfl, hnm⟩) (hw _ (List.mem_of_getElem? (i := 20) rfl)) (ty := .byte) (by decide) rfl rfl (g := (mkF m 11 #[.val (.ref a), .val (.ref x0), .val (.int (0 : Int32))] [(.int (0 : Int32)), (.ref a)])) rfl rfl (hb hby d5_11)
  refine own_st st9 ?_
  have f10 := f3.wr W9
  have f11 := f8.other W9 (Or.inr (slot_ne (Or.inr (hw _ (List.mem_of_getElem? (i := 33) rfl))) (Or.inr (hw _ (List.mem_of_getElem? (i := 35) rfl))) (by decide) (t := (.array .byte)) (t' := .byte) (by decide) (by decide)))
  have N12 := Fr.snoc X9 N5 g_a
  have Z13 : n0 ≤ h9.size := Nat.le_trans Z6 (Nat.le_of_eq W9.size.symm)
  have K14 : Keep h0 h9 [a] := K7.wr W9 (Or.inl (List.mem_of_getElem? (i := 0) rfl))
  have f15 := f4.same W9
  show own_Go _ _ _ _ T9 (mkF m 14 _ [])
  subst hPq
  refine own_out X9 (v := none) (fun _ => rfl) Bd.notSynchronized (fun fs hr => X9.returnOut hx Bd.returns (hb hby d5_14) hr) (by decide) (by decide) ?_
  show Q5 Z a x0 u0 u1 h0 n0 _ T9.heap _
  rw [e9]
  exact ⟨rfl, N12, K14, f10⟩
theorem d6_0 : decode jdk_42_method_139_code 0 = .ok (.getstatic 38, 3) := by decide +kernel
theorem d6_3 : decode jdk_42_method_139_code 3 = .ok (.ifCond .eq 23, 3) := by decide +kernel
theorem d6_6 : decode jdk_42_method_139_code 6 = .ok (.iload_n 0, 1) := by decide +kernel
theorem d6_7 : decode jdk_42_method_139_code 7 = .ok (.invokestatic 1015, 3) := by decide +kernel
theorem d6_10 : decode jdk_42_method_139_code 10 = .ok (.ifCond .eq 16, 3) := by decide +kernel
theorem d6_13 : decode jdk_42_method_139_code 13 = .ok (.new 10, 3) := by decide +kernel
theorem d6_16 : decode jdk_42_method_139_code 16 = .ok (.dup, 1) := by decide +kernel
theorem d6_17 : decode jdk_42_method_139_code 17 = .ok (.iload_n 0, 1) := by decide +kernel
theorem d6_18 : decode jdk_42_method_139_code 18 = .ok (.invokestatic 1018, 3) := by decide +kernel
theorem d6_21 : decode jdk_42_method_139_code 21 = .ok (.iconst 0, 1) := by decide +kernel
theorem d6_22 : decode jdk_42_method_139_code 22 = .ok (.invokespecial 209, 3) := by decide +kernel
theorem d6_25 : decode jdk_42_method_139_code 25 = .ok (.areturn, 1) := by decide +kernel
theorem own_pn6 : plainName "java/lang/String" = true := by first | (simp [plainName, overriddenIn]; done) | decide +kernel
theorem own_ef6 (m : MethodId) (x0 : Int32) : entryFrame m #[(.int x0)] 1 = mkF m 0 #[.val (.int x0)] [] := by first | (simp [entryFrame, mkF, argsToLocals, Value.category]; done) | rfl
def Q6 (Z : State) (x0 : Int32) (cs : Int32) (h0 : Heap) (n0 : Nat) (v : Option Value) (h : Heap) (L : List Loc) : Prop := ∃ (b : Addr), v = some (.ref b) ∧ Fr n0 L ∧ Keep h0 h [] ∧ n0 ≤ b ∧ h0.size ≤ b ∧ Exa Z h b "java/lang/String"
set_option maxRecDepth 65536 in
set_option maxHeartbeats 4000000 in
theorem rm6 (l : Launch) (Z : State) (a0 : Array Value) (hw : ∀ d ∈ tables_1, d.before a0 Z = true) (ws : List Jvm.Cond) (x0 : Int32) (cs : Int32) (h0 : Heap) (n0 : Nat) (Z0 : n0 ≤ h0.size) (F0 : Sta Z h0 "java/lang/String" "COMPACT_STRINGS" "Z" (.int cs)) (hcs : ¬ cs = 0) (hch : ¬ (255 : Int32) < x0) :
    MetFree l (⟨"java/lang/String", "valueOf", "(C)Ljava/lang/String;"⟩ : MethodName) (head1 (Jvm.Cond.code (⟨"java/lang/String", "valueOf", "(C)Ljava/lang/String;"⟩ : MethodName) jdk_42_method_139_code 1 (some (.object "java/lang/String")) :: ws) ({ frames := 2, cells := 2, slots := 5, locals := 27 } : Room)) (fun aW U => aW = #[(.int x0)] ∧ Z.Warmed39 U.vm ∧ U.heap = h0) (fun _ _ _ _ _ => True) (fun _ U o U' => ∃ v L, o = .returned v ∧ Q6 Z x0 cs h0 n0 v U'.heap L ∧ FrameEnd U o U' L ({ frames := 2, cells := 2, slots := 5, locals := 27 } : Room).cells ({ frames := 2, cells := 2, slots := 5, locals := 27 } : Room).slots) := by
  refine MetFree.of_bodySF (plainFor_of_name own_pn6) hisR ?_
  intro p e s m args below meth c s₁ Bd hml0 hP hK
  obtain ⟨rfl, hZ, hh⟩ := hP
  have hx := Bd.exec
  have hby := Bd.bytes
  have hml : c.maxLocals = 1 := hml0
  have hown : s.vm.findClass "java/lang/String" = some m.cls := findClass_of_methodNamed Bd.named
  have hnm := (name_of_methodNamed Bd.named Bd.method).1
  have X0 : Stand p l e ({ frames := 2, cells := 2, slots := 5, locals := 27 } : Room) s m #[(.int x0)] below meth c s₁ [] 0 0 := Stand.of_body Bd
  have e0 : s₁.heap = h0 := by rw [← hh, Bd.state]; rfl
  have N0 := Fr.nil n0
  have K0 : Keep h0 h0 [] := Keep.refl _ _
  obtain ⟨Pq, hPq⟩ : ∃ P, P = own_P s below (fun v h L => Q6 Z x0 cs h0 n0 v h L) ({ frames := 2, cells := 2, slots := 5, locals := 27 } : Room).cells ({ frames := 2, cells := 2, slots := 5, locals := 27 } : Room).slots := ⟨_, rfl⟩
  suffices hgo : own_Go p.tables e below Pq s₁ (mkF m 0 #[.val (.int x0)] []) by
    subst hPq
    obtain ⟨t, k1, k2, o, k3, k4⟩ := hgo
    exact ⟨t, o, castTop (own_ef6 m x0) k1, k2, k3, k4⟩
  show own_Go _ _ _ _ s₁ (mkF m 0 #[.val (.int x0)] [])
  obtain ⟨T1, X1, e1, st1⟩ := getS2 X0 hx hZ hown (host := "") (Or.inl (hw _ (List.mem_of_getElem? (i := 14) rfl))) Via.refl e0 F0 (g := (mkF m 0 #[.val (.int x0)] [])) rfl (hb hby d6_0)
  refine own_st st1 ?_
  show own_Go _ _ _ _ T1 (mkF m 3 _ [(.int cs)])
  refine own_st (fun t k => XS.ifNo X1.here hx rfl (hb hby d6_3) rfl ((if0 _ _).trans (feq hcs).1) k) ?_
  show own_Go _ _ _ _ T1 (mkF m 6 _ [])
  refine own_st (fun t k => XS.iloadN X1.here hx rfl (hb hby d6_6) rfl k) ?_
  show own_Go _ _ _ _ T1 (mkF m 7 _ [(.int x0)])
  obtain ⟨_, _, ⟨T2, L2, k2, n2⟩, -, X2, ⟨Lc2, hQ2, l2, y2, z2⟩, st2⟩ := Jvm.LawKit.callS X1 hx (y := (⟨"java/lang/StringLatin1", "canEncode", "(C)Z"⟩ : MethodName)) hown (mvT hZ (hw _ (List.mem_of_getElem? (i := 15) rfl))) (mvT hZ (hw _ (List.mem_of_getElem? (i := 16) rfl))) (mvT hZ (hw _ (List.mem_of_getElem? (i := 17) rfl))) (mvT hZ (hw _ (List.mem_of_getElem? (i := 18) rfl))) (by decide) (backOf (W := 0) (rm3 l Z a0 hw [] x0 h0 n0 Z0 ) hZ (hw _ (List.mem_of_getElem? (i := 18) rfl)) (hw _ (List.mem_of_getElem? (i := 17) rfl)) (by decide) (by decide)) (g := (mkF m 7 #[.val (.int x0)] [(.int x0)])) rfl (by rw [hml]; rfl) (argsL := [(.int x0)]) (rest := []) (lenOf own_pd__C_Z rfl) rfl (by show 2 * 0 + _ ≤ _; exact Nat.le_of_eq rfl) (hb hby d6_7) (fun _ _ => ⟨rfl, e1, (by decide : 0 + 0 ≤ _), (by decide : 0 + 0 ≤ _)⟩)
  dsimp only [Pt.U, Pt.locs, Pt.cells, Pt.slots] at X2 l2 y2 z2 st2 hQ2
  subst l2 y2 z2
  obtain ⟨rfl, NQ2, eq2⟩ := hQ2
  have N3 := Fr.app N0 NQ2
  refine own_st st2 ?_
  show own_Go _ _ _ _ T2 (mkF m 10 _ [(.int (own_can x0))])
  refine own_st (fun t k => XS.ifNo X2.here hx rfl (hb hby d6_10) rfl ((if0 _ _).trans (feq (by unfold own_can; rw [if_neg hch]; decide)).1) k) ?_
  show own_Go _ _ _ _ T2 (mkF m 13 _ [])
  obtain ⟨T4, h4, X4, e4, E4, A4, D4, -, st4⟩ := newO X2 hx hZ hown (hw _ (List.mem_of_getElem? (i := 19) rfl)) (hw _ (List.mem_of_getElem? (i := 20) rfl)) (hw _ (List.mem_of_getElem? (i := 12) rfl)) eq2 (g := (mkF m 13 #[.val (.int x0)] [])) rfl (hb hby d6_13) (by decide) (by decide)
  obtain ⟨b4, g4⟩ : ∃ z, z = h0.size := ⟨_, rfl⟩
  rw [← g4] at A4 D4 st4
  refine own_st st4 ?_
  have f5 := F0.ext E4
  have gx6 : n0 ≤ b4 := Nat.le_trans Z0 (Nat.le_of_eq g4.symm)
  have Z7 : n0 ≤ h4.size := Nat.le_trans Z0 E4.1
  have sz9 : h0.size ≤ b4 := Nat.le_trans K0.1 (Nat.le_of_eq g4.symm)
  have K8 : Keep h0 h4 [] := K0.ext E4
  have f10 : Fld Z h4 b4 "java/lang/String" "value" "[B" .null := D4 (Or.inr (hw _ (List.mem_of_getElem? (i := 33) rfl))) (ty := (.array .byte)) (by decide)
  have f11 : Fld Z h4 b4 "java/lang/String" "coder" "B" (.int (0 : Int32)) := D4 (Or.inr (hw _ (List.mem_of_getElem? (i := 35) rfl))) (ty := .byte) (by decide)
  show own_Go _ _ _ _ T4 (mkF m 16 _ [(.ref b4)])
  refine own_st (fun t k => XS.dup X4.here hx rfl (hb hby d6_16) rfl rfl k) ?_
  show own_Go _ _ _ _ T4 (mkF m 17 _ [(.ref b4), (.ref b4)])
  refine own_st (fun t k => XS.iloadN X4.here hx rfl (hb hby d6_17) rfl k) ?_
  show own_Go _ _ _ _ T4 (mkF m 18 _ [(.int x0), (.ref b4), (.ref b4)])
  obtain ⟨_, _, ⟨T12, L12, k12, n12⟩, -, X12, ⟨Lc12, hQ12, l12, y12, z12⟩, st12⟩ := Jvm.LawKit.callS X4 hx (y := (⟨"java/lang/StringLatin1", "toBytes", "(C)[B"⟩ : MethodName)) hown (mvT hZ (hw _ (List.mem_of_getElem? (i := 21) rfl))) (mvT hZ (hw _ (List.mem_of_getElem? (i := 22) rfl))) (mvT hZ (hw _ (List.mem_of_getElem? (i := 17) rfl))) (mvT hZ (hw _ (List.mem_of_getElem? (i := 23) rfl))) (by decide) (backOf (W := 2) (rm4 l Z a0 hw [] x0 h4 n0 Z7 ) hZ (hw _ (List.mem_of_getElem? (i := 23) rfl)) (hw _ (List.mem_of_getElem? (i := 17) rfl)) (by decide) (by decide)) (g := (mkF m 18 #[.val (.int x0)] [(.int x0), (.ref b4), (.ref b4)])) rfl (by rw [hml]; rfl) (argsL := [(.int x0)]) (rest := [(.ref b4), (.ref b4)]) (lenOf own_pd__C__B rfl) rfl (by show 2 * 0 + _ ≤ _; exact Nat.le_of_eq rfl) (hb hby d6_18) (fun _ _ => ⟨rfl, e4, (by decide : 1 + 1 ≤ _), (by decide : 4 + 1 ≤ _)⟩)
  dsimp only [Pt.U, Pt.locs, Pt.cells, Pt.slots] at X12 l12 y12 z12 st12 hQ12
  subst l12 y12 z12
  obtain ⟨b12_b, rfl, NQ12, K12, gx_b12_b, sz_b12_b⟩ := hQ12
  have N13 := Fr.app N3 NQ12
  refine own_st st12 ?_
  have f14 := own_staK f5 K12 all0
  have f15 := A4.keep K12
  have f16 := f10.keep K12 nin0
  have f17 := f11.keep K12 nin0
  have Z18 : n0 ≤ T12.heap.size := Nat.le_trans Z7 K12.1
  have ne19 : b4 ≠ b12_b := Nat.ne_of_lt (Nat.lt_of_lt_of_le A4.lt sz_b12_b)
  have sz21 : h0.size ≤ b12_b := Nat.le_trans K8.1 sz_b12_b
  have K20 : Keep h0 T12.heap [] := K8.trans K12 all0
  show own_Go _ _ _ _ T12 (mkF m 21 _ [(.ref b12_b), (.ref b4), (.ref b4)])
  refine own_st (fun t k => XS.iconst X12.here hx rfl (hb hby d6_21) k) ?_
  show own_Go _ _ _ _ T12 (mkF m 22 _ [(.int (0 : Int32)), (.ref b12_b), (.ref b4), (.ref b4)])
  obtain ⟨_, _, ⟨T22, L22, k22, n22⟩, -, X22, ⟨Lc22, hQ22, l22, y22, z22⟩, st22⟩ := X12.specialBack hx (y := (⟨"java/lang/String", "<init>", "([BB)V"⟩ : MethodName)) rfl hown (mvT hZ (hw _ (List.mem_of_getElem? (i := 25) rfl))) (mvT hZ (hw _ (List.mem_of_getElem? (i := 26) rfl))) (mvT hZ (hw _ (List.mem_of_getElem? (i := 28) rfl))) (by decide) (backOf (W := 1) (rm5 l Z a0 hw [] b4 b12_b (.null) (.int (0 : Int32)) T12.heap n0 Z18 f15 f16 f17 gx6) hZ (hw _ (List.mem_of_getElem? (i := 28) rfl)) (hw _ (List.mem_of_getElem? (i := 12) rfl)) (by decide) (by decide)) (g := (mkF m 22 #[.val (.int x0)] [(.int (0 : Int32)), (.ref b12_b), (.ref b4), (.ref b4)])) rfl (by rw [hml]; rfl) (Steps.refl _) (a := b4) (argsL := [(.ref b12_b), (.int (0 : Int32))]) (rest := [(.ref b4)]) (lenOf own_pd___BB_V rfl) rfl (by show 2 * 0 + _ ≤ _; exact Nat.le_of_eq rfl) (hb hby d6_22) (fun _ _ => ⟨rfl, rfl, (by decide : 2 + 0 ≤ _), (by decide : 5 + 0 ≤ _)⟩)
  dsimp only [Pt.U, Pt.locs, Pt.cells, Pt.slots] at X22 l22 y22 z22 st22 hQ22
  subst l22 y22 z22
  obtain ⟨rfl, NQ22, K22, fq22_0⟩ := hQ22
  have N23 := Fr.app N13 NQ22
  refine own_st (fun t k => st22.trans k) ?_
  have f24 := own_staK f14 K22 (allS ⟨_, f15⟩ all0)
  have f25 := f15.keep K22
  have Z26 : n0 ≤ T22.heap.size := Nat.le_trans Z18 K22.1
  have K27 : Keep h0 T22.heap [] := K20.trans K22 (allS (Or.inr sz9) all0)
  show own_Go _ _ _ _ T22 (mkF m 25 _ [(.ref b4)])
  subst hPq
  refine own_out X22 (v := some (.ref b4)) (fun h => by rw [Bd.returns] at h; cases h) Bd.notSynchronized (own_retR X22 hx (t := (.object "java/lang/String")) Bd.returns rfl rfl rfl (hb hby d6_25)) (by decide) (by decide) ?_
  show Q6 Z x0 cs h0 n0 _ T22.heap _
  exact ⟨b4, rfl, N23, K27, gx6, sz9, fq22_0⟩
theorem d7_0 : decode jdk_30_method_1_code 0 = .ok (.aload_n 0, 1) := by decide +kernel
theorem d7_1 : decode jdk_30_method_1_code 1 = .ok (.invokespecial 1, 3) := by decide +kernel
theorem d7_4 : decode jdk_30_method_1_code 4 = .ok (.return_, 1) := by decide +kernel
theorem own_pn7 : plainName "java/lang/Record" = true := by first | (simp [plainName, overriddenIn]; done) | decide +kernel
theorem own_ef7 (m : MethodId) (a : Addr) : entryFrame m #[(.ref a)] 1 = mkF m 0 #[.val (.ref a)] [] := by first | (simp [entryFrame, mkF, argsToLocals, Value.category]; done) | rfl
def Q7 (Z : State) (a : Addr) (h0 : Heap) (n0 : Nat) (v : Option Value) (h : Heap) (L : List Loc) : Prop := v = none ∧ Fr n0 L ∧ h = h0
set_option maxRecDepth 65536 in
set_option maxHeartbeats 4000000 in
theorem rm7 (l : Launch) (Z : State) (a0 : Array Value) (hw : ∀ d ∈ tables_1, d.before a0 Z = true) (ws : List Jvm.Cond) (a : Addr) (h0 : Heap) (n0 : Nat) (Z0 : n0 ≤ h0.size) :
    MetFree l (⟨"java/lang/Record", "<init>", "()V"⟩ : MethodName) (head1 (Jvm.Cond.code (⟨"java/lang/Record", "<init>", "()V"⟩ : MethodName) jdk_30_method_1_code 1 none :: ws) ({ frames := 1, cells := 0, slots := 0, locals := 12 } : Room)) (fun aW U => aW = #[(.ref a)] ∧ Z.Warmed39 U.vm ∧ U.heap = h0) (fun _ _ _ _ _ => True) (fun _ U o U' => ∃ v L, o = .returned v ∧ Q7 Z a h0 n0 v U'.heap L ∧ FrameEnd U o U' L ({ frames := 1, cells := 0, slots := 0, locals := 12 } : Room).cells ({ frames := 1, cells := 0, slots := 0, locals := 12 } : Room).slots) := by
  refine MetFree.of_bodySF (plainFor_of_name own_pn7) hisR ?_
  intro p e s m args below meth c s₁ Bd hml0 hP hK
  obtain ⟨rfl, hZ, hh⟩ := hP
  have hx := Bd.exec
  have hby := Bd.bytes
  have hml : c.maxLocals = 1 := hml0
  have hown : s.vm.findClass "java/lang/Record" = some m.cls := findClass_of_methodNamed Bd.named
  have hnm := (name_of_methodNamed Bd.named Bd.method).1
  have X0 : Stand p l e ({ frames := 1, cells := 0, slots := 0, locals := 12 } : Room) s m #[(.ref a)] below meth c s₁ [] 0 0 := Stand.of_body Bd
  have e0 : s₁.heap = h0 := by rw [← hh, Bd.state]; rfl
  have N0 := Fr.nil n0
  obtain ⟨Pq, hPq⟩ : ∃ P, P = own_P s below (fun v h L => Q7 Z a h0 n0 v h L) ({ frames := 1, cells := 0, slots := 0, locals := 12 } : Room).cells ({ frames := 1, cells := 0, slots := 0, locals := 12 } : Room).slots := ⟨_, rfl⟩
  suffices hgo : own_Go p.tables e below Pq s₁ (mkF m 0 #[.val (.ref a)] []) by
    subst hPq
    obtain ⟨t, k1, k2, o, k3, k4⟩ := hgo
    exact ⟨t, o, castTop (own_ef7 m a) k1, k2, k3, k4⟩
  show own_Go _ _ _ _ s₁ (mkF m 0 #[.val (.ref a)] [])
  refine own_st (fun t k => XS.aloadN X0.here hx rfl (hb hby d7_0) rfl rfl k) ?_
  show own_Go _ _ _ _ s₁ (mkF m 1 _ [(.ref a)])
  obtain ⟨T1, X1, e1, st1⟩ := initO X0 hx hZ hown (hw _ (List.mem_of_getElem? (i := 47) rfl)) (hw _ (List.mem_of_getElem? (i := 30) rfl)) (hw _ (List.mem_of_getElem? (i := 31) rfl)) e0 (g := (mkF m 1 #[.val (.ref a)] [(.ref a)])) rfl (by rw [hml]; rfl) rfl (hb hby d7_1) (by decide) (W := 0) (by show 2 * 0 + _ ≤ _; exact Nat.le_of_eq rfl) (by decide)
  refine own_st st1 ?_
  show own_Go _ _ _ _ T1 (mkF m 4 _ [])
  subst hPq
  refine own_out X1 (v := none) (fun _ => rfl) Bd.notSynchronized (fun fs hr => X1.returnOut hx Bd.returns (hb hby d7_4) hr) (by decide) (by decide) ?_
  show Q7 Z a h0 n0 _ T1.heap _
  rw [e1]
  exact ⟨rfl, N0, rfl⟩
theorem d8_0 : decode prog_18_method_1_code 0 = .ok (.aload_n 0, 1) := by decide +kernel
theorem d8_1 : decode prog_18_method_1_code 1 = .ok (.invokespecial 1, 3) := by decide +kernel
theorem d8_4 : decode prog_18_method_1_code 4 = .ok (.aload_n 0, 1) := by decide +kernel
theorem d8_5 : decode prog_18_method_1_code 5 = .ok (.aload_n 1, 1) := by decide +kernel
theorem d8_6 : decode prog_18_method_1_code 6 = .ok (.putfield 7, 3) := by decide +kernel
theorem d8_9 : decode prog_18_method_1_code 9 = .ok (.aload_n 0, 1) := by decide +kernel
theorem d8_10 : decode prog_18_method_1_code 10 = .ok (.lload_n 2, 1) := by decide +kernel
theorem d8_11 : decode prog_18_method_1_code 11 = .ok (.putfield 13, 3) := by decide +kernel
theorem d8_14 : decode prog_18_method_1_code 14 = .ok (.aload_n 0, 1) := by decide +kernel
theorem d8_15 : decode prog_18_method_1_code 15 = .ok (.lload 4, 2) := by decide +kernel
theorem d8_17 : decode prog_18_method_1_code 17 = .ok (.putfield 17, 3) := by decide +kernel
theorem d8_20 : decode prog_18_method_1_code 20 = .ok (.return_, 1) := by decide +kernel
theorem own_pn8 : plainName "com/example/refill/refill/SlidingLog$Rule" = true := by first | (simp [plainName, overriddenIn]; done) | decide +kernel
theorem own_ef8 (m : MethodId) (a : Addr) (x0 : Addr) (x1 : Int64) (x2 : Int64) : entryFrame m #[(.ref a), (.ref x0), (.long x1), (.long x2)] 6 = mkF m 0 #[.val (.ref a), .val (.ref x0), .val (.long x1), .second, .val (.long x2), .second] [] := by first | (simp [entryFrame, mkF, argsToLocals, Value.category]; done) | rfl
def Q8 (Z : State) (a : Addr) (x0 : Addr) (x1 : Int64) (x2 : Int64) (u0 : Value) (u1 : Value) (u2 : Value) (h0 : Heap) (n0 : Nat) (v : Option Value) (h : Heap) (L : List Loc) : Prop := v = none ∧ Fr n0 L ∧ Keep h0 h [a] ∧ Exa Z h a "com/example/refill/refill/SlidingLog$Rule" ∧ Fld Z h a "com/example/refill/refill/SlidingLog$Rule" "name" "Ljava/lang/String;" (.ref x0) ∧ Fld Z h a "com/example/refill/refill/SlidingLog$Rule" "limit" "J" (.long x1) ∧ Fld Z h a "com/example/refill/refill/SlidingLog$Rule" "windowMicros" "J" (.long x2)
set_option maxRecDepth 65536 in
set_option maxHeartbeats 4000000 in
theorem rm8 (l : Launch) (Z : State) (a0 : Array Value) (hw : ∀ d ∈ tables_1, d.before a0 Z = true) (ws : List Jvm.Cond) (a : Addr) (x0 : Addr) (x1 : Int64) (x2 : Int64) (u0 : Value) (u1 : Value) (u2 : Value) (h0 : Heap) (n0 : Nat) (Z0 : n0 ≤ h0.size) (F0 : Exa Z h0 a "com/example/refill/refill/SlidingLog$Rule") (F1 : Fld Z h0 a "com/example/refill/refill/SlidingLog$Rule" "name" "Ljava/lang/String;" u0) (F2 : Fld Z h0 a "com/example/refill/refill/SlidingLog$Rule" "limit" "J" u1) (F3 : Fld Z h0 a "com/example/refill/refill/SlidingLog$Rule" "windowMicros" "J" u2) (g_a : n0 ≤ a) :
    MetFree l (⟨"com/example/refill/refill/SlidingLog$Rule", "<init>", "(Ljava/lang/String;JJ)V"⟩ : MethodName) (head1 (Jvm.Cond.code (⟨"com/example/refill/refill/SlidingLog$Rule", "<init>", "(Ljava/lang/String;JJ)V"⟩ : MethodName) prog_18_method_1_code 6 none :: ws) ({ frames := 2, cells := 0, slots := 0, locals := 24 } : Room)) (fun aW U => aW = #[(.ref a), (.ref x0), (.long x1), (.long x2)] ∧ Z.Warmed39 U.vm ∧ U.heap = h0) (fun _ _ _ _ _ => True) (fun _ U o U' => ∃ v L, o = .returned v ∧ Q8 Z a x0 x1 x2 u0 u1 u2 h0 n0 v U'.heap L ∧ FrameEnd U o U' L ({ frames := 2, cells := 0, slots := 0, locals := 24 } : Room).cells ({ frames := 2, cells := 0, slots := 0, locals := 24 } : Room).slots) := by
  refine MetFree.of_bodySF (plainFor_of_name own_pn8) hisR ?_
  intro p e s m args below meth c s₁ Bd hml0 hP hK
  obtain ⟨rfl, hZ, hh⟩ := hP
  have hx := Bd.exec
  have hby := Bd.bytes
  have hml : c.maxLocals = 6 := hml0
  have hown : s.vm.findClass "com/example/refill/refill/SlidingLog$Rule" = some m.cls := findClass_of_methodNamed Bd.named
  have hnm := (name_of_methodNamed Bd.named Bd.method).1
  have X0 : Stand p l e ({ frames := 2, cells := 0, slots := 0, locals := 24 } : Room) s m #[(.ref a), (.ref x0), (.long x1), (.long x2)] below meth c s₁ [] 0 0 := Stand.of_body Bd
  have e0 : s₁.heap = h0 := by rw [← hh, Bd.state]; rfl
  have N0 := Fr.nil n0
  have K0 : Keep h0 h0 [a] := Keep.refl _ _
  obtain ⟨Pq, hPq⟩ : ∃ P, P = own_P s below (fun v h L => Q8 Z a x0 x1 x2 u0 u1 u2 h0 n0 v h L) ({ frames := 2, cells := 0, slots := 0, locals := 24 } : Room).cells ({ frames := 2, cells := 0, slots := 0, locals := 24 } : Room).slots := ⟨_, rfl⟩
  suffices hgo : own_Go p.tables e below Pq s₁ (mkF m 0 #[.val (.ref a), .val (.ref x0), .val (.long x1), .second, .val (.long x2), .second] []) by
    subst hPq
    obtain ⟨t, k1, k2, o, k3, k4⟩ := hgo
    exact ⟨t, o, castTop (own_ef8 m a x0 x1 x2) k1, k2, k3, k4⟩
  show own_Go _ _ _ _ s₁ (mkF m 0 #[.val (.ref a), .val (.ref x0), .val (.long x1), .second, .val (.long x2), .second] [])
  refine own_st (fun t k => XS.aloadN X0.here hx rfl (hb hby d8_0) rfl rfl k) ?_
  show own_Go _ _ _ _ s₁ (mkF m 1 _ [(.ref a)])
  obtain ⟨_, _, ⟨T1, L1, k1, n1⟩, -, X1, ⟨Lc1, hQ1, l1, y1, z1⟩, st1⟩ := X0.specialBack hx (y := (⟨"java/lang/Record", "<init>", "()V"⟩ : MethodName)) rfl hown (mvT hZ (hw _ (List.mem_of_getElem? (i := 42) rfl))) (mvT hZ (hw _ (List.mem_of_getElem? (i := 43) rfl))) (mvT hZ (hw _ (List.mem_of_getElem? (i := 46) rfl))) (by decide) (backOf (W := 0) (rm7 l Z a0 hw [] a h0 n0 Z0 ) hZ (hw _ (List.mem_of_getElem? (i := 46) rfl)) (hw _ (List.mem_of_getElem? (i := 45) rfl)) (by decide) (by decide)) (g := (mkF m 1 #[.val (.ref a), .val (.ref x0), .val (.long x1), .second, .val (.long x2), .second] [(.ref a)])) rfl (by rw [hml]; rfl) (Steps.refl _) (a := a) (argsL := []) (rest := []) (lenOf own_pd___V rfl) rfl (by show 2 * 0 + _ ≤ _; exact Nat.le_of_eq rfl) (hb hby d8_1) (fun _ _ => ⟨rfl, e0, (by decide : 0 + 0 ≤ _), (by decide : 0 + 0 ≤ _)⟩)
  dsimp only [Pt.U, Pt.locs, Pt.cells, Pt.slots] at X1 l1 y1 z1 st1 hQ1
  subst l1 y1 z1
  obtain ⟨rfl, NQ1, eq1⟩ := hQ1
  have N2 := Fr.app N0 NQ1
  refine own_st (fun t k => st1.trans k) ?_
  show own_Go _ _ _ _ T1 (mkF m 4 _ [])
  refine own_st (fun t k => XS.aloadN X1.here hx rfl (hb hby d8_4) rfl rfl k) ?_
  show own_Go _ _ _ _ T1 (mkF m 5 _ [(.ref a)])
  refine own_st (fun t k => XS.aloadN X1.here hx rfl (hb hby d8_5) rfl rfl k) ?_
  show own_Go _ _ _ _ T1 (mkF m 6 _ [(.ref x0), (.ref a)])
  obtain ⟨T3, h3, X3, e3, W3, st3⟩ := putF X1 hx hZ hown (host := "") (Or.inl (hw _ (List.mem_of_getElem? (i := 48) rfl))) Via.refl eq1 F1 F0 (Or.inr ⟨(hw _ (List.mem_of_getElem? (i := 49) rfl)), rfl, hnm⟩) (hw _ (List.mem_of_getElem? (i := 37) rfl)) (ty := (.object "java/lang/String")) (by decide) rfl rfl (g := (mkF m 6 #[.val (.ref a), .val (.ref x0), .val (.long x1), .second, .val (.long x2), .second] [(.ref x0), (.ref a)])) rfl rfl (hb hby d8_6)
  refine own_st st3 ?_
  have f4 := F0.wr W3
  have f5 := F2.other W3 (Or.inr (slot_ne (Or.inr (hw _ (List.mem_of_getElem? (i := 51) rfl))) (Or.inr (hw _ (List.mem_of_getElem? (i := 49) rfl))) (by decide) (t := .long) (t' := (.object "java/lang/String")) (by decide) (by decide)))
  have f6 := F3.other W3 (Or.inr (slot_ne (Or.inr (hw _ (List.mem_of_getElem? (i := 53) rfl))) (Or.inr (hw _ (List.mem_of_getElem? (i := 49) rfl))) (by decide) (t := .long) (t' := (.object "java/lang/String")) (by decide) (by decide)))
  have N7 := Fr.snoc X3 N2 g_a
  have Z8 : n0 ≤ h3.size := Nat.le_trans Z0 (Nat.le_of_eq W3.size.symm)
  have K9 : Keep h0 h3 [a] := K0.wr W3 (Or.inl (List.mem_of_getElem? (i := 0) rfl))
  have f10 := F1.same W3
  show own_Go _ _ _ _ T3 (mkF m 9 _ [])
  refine own_st (fun t k => XS.aloadN X3.here hx rfl (hb hby d8_9) rfl rfl k) ?_
  show own_Go _ _ _ _ T3 (mkF m 10 _ [(.ref a)])
  refine own_st (fun t k => XS.lloadN X3.here hx rfl (hb hby d8_10) rfl k) ?_
  show own_Go _ _ _ _ T3 (mkF m 11 _ [(.long x1), (.ref a)])
  obtain ⟨T11, h11, X11, e11, W11, st11⟩ := putF X3 hx hZ hown (host := "") (Or.inl (hw _ (List.mem_of_getElem? (i := 50) rfl))) Via.refl e3 f5 f4 (Or.inr ⟨(hw _ (List.mem_of_getElem? (i := 51) rfl)), rfl, hnm⟩) (hw _ (List.mem_of_getElem? (i := 37) rfl)) (ty := .long) (by decide) rfl rfl (g := (mkF m 11 #[.val (.ref a), .val (.ref x0), .val (.long x1), .second, .val (.long x2), .second] [(.long x1), (.ref a)])) rfl rfl (hb hby d8_11)
  refine own_st st11 ?_
  have f12 := f4.wr W11
  have f13 := f6.other W11 (Or.inr (slot_ne (Or.inr (hw _ (List.mem_of_getElem? (i := 53) rfl))) (Or.inr (hw _ (List.mem_of_getElem? (i := 51) rfl))) (by decide) (t := .long) (t' := .long) (by decide) (by decide)))
  have f14 := f10.other W11 (Or.inr (slot_ne (Or.inr (hw _ (List.mem_of_getElem? (i := 49) rfl))) (Or.inr (hw _ (List.mem_of_getElem? (i := 51) rfl))) (by decide) (t := (.object "java/lang/String")) (t' := .long) (by decide) (by decide)))
  have N15 := Fr.snoc X11 N7 g_a
  have Z16 : n0 ≤ h11.size := Nat.le_trans Z8 (Nat.le_of_eq W11.size.symm)
  have K17 : Keep h0 h11 [a] := K9.wr W11 (Or.inl (List.mem_of_getElem? (i := 0) rfl))
  have f18 := f5.same W11
  show own_Go _ _ _ _ T11 (mkF m 14 _ [])
  refine own_st (fun t k => XS.aloadN X11.here hx rfl (hb hby d8_14) rfl rfl k) ?_
  show own_Go _ _ _ _ T11 (mkF m 15 _ [(.ref a)])
  refine own_st (fun t k => XS.lload X11.here hx rfl (hb hby d8_15) rfl k) ?_
  show own_Go _ _ _ _ T11 (mkF m 17 _ [(.long x2), (.ref a)])
  obtain ⟨T19, h19, X19, e19, W19, st19⟩ := putF X11 hx hZ hown (host := "") (Or.inl (hw _ (List.mem_of_getElem? (i := 52) rfl))) Via.refl e11 f13 f12 (Or.inr ⟨(hw _ (List.mem_of_getElem? (i := 53) rfl)), rfl, hnm⟩) (hw _ (List.mem_of_getElem? (i := 37) rfl)) (ty := .long) (by decide) rfl rfl (g := (mkF m 17 #[.val (.ref a), .val (.ref x0), .val (.long x1), .second, .val (.long x2), .second] [(.long x2), (.ref a)])) rfl rfl (hb hby d8_17)
  refine own_st st19 ?_
  have f20 := f12.wr W19
  have f21 := f14.other W19 (Or.inr (slot_ne (Or.inr (hw _ (List.mem_of_getElem? (i := 49) rfl))) (Or.inr (hw _ (List.mem_of_getElem? (i := 53) rfl))) (by decide) (t := (.object "java/lang/String")) (t' := .long) (by decide) (by decide)))
  have f22 := f18.other W19 (Or.inr (slot_ne (Or.inr (hw _ (List.mem_of_getElem? (i := 51) rfl))) (Or.inr (hw _ (List.mem_of_getElem? (i := 53) rfl))) (by decide) (t := .long) (t' := .long) (by decide) (by decide)))
  have N23 := Fr.snoc X19 N15 g_a
  have Z24 : n0 ≤ h19.size := Nat.le_trans Z16 (Nat.le_of_eq W19.size.symm)
  have K25 : Keep h0 h19 [a] := K17.wr W19 (Or.inl (List.mem_of_getElem? (i := 0) rfl))
  have f26 := f13.same W19
  show own_Go _ _ _ _ T19 (mkF m 20 _ [])
  subst hPq
  refine own_out X19 (v := none) (fun _ => rfl) Bd.notSynchronized (fun fs hr => X19.returnOut hx Bd.returns (hb hby d8_20) hr) (by decide) (by decide) ?_
  show Q8 Z a x0 x1 x2 u0 u1 u2 h0 n0 _ T19.heap _
  rw [e19]
  exact ⟨rfl, N23, K25, f20, f21, f22, f26⟩
def own_fits (x0 : Int64) (x1 : Int32) (lim : Int64) : Int32 := (if (lim - x1.toInt64) < x0 then (0 : Int32) else (1 : Int32))
theorem own_fits_b (x0 : Int64) (x1 : Int32) (lim : Int64) : (own_fits x0 x1 lim) = 0 ∨ (own_fits x0 x1 lim) = 1 := by
  unfold own_fits
  (repeat' split) <;> first | exact Or.inl rfl | exact Or.inr rfl
theorem d9_0 : decode prog_18_method_2_code 0 = .ok (.lload_n 1, 1) := by decide +kernel
theorem d9_1 : decode prog_18_method_2_code 1 = .ok (.aload_n 0, 1) := by decide +kernel
theorem d9_2 : decode prog_18_method_2_code 2 = .ok (.getfield 13, 3) := by decide +kernel
theorem d9_5 : decode prog_18_method_2_code 5 = .ok (.iload_n 3, 1) := by decide +kernel
theorem d9_6 : decode prog_18_method_2_code 6 = .ok (.i2l, 1) := by decide +kernel
theorem d9_7 : decode prog_18_method_2_code 7 = .ok (.lsub, 1) := by decide +kernel
theorem d9_8 : decode prog_18_method_2_code 8 = .ok (.lcmp, 1) := by decide +kernel
theorem d9_9 : decode prog_18_method_2_code 9 = .ok (.ifCond .gt 7, 3) := by decide +kernel
theorem d9_12 : decode prog_18_method_2_code 12 = .ok (.iconst 1, 1) := by decide +kernel
theorem d9_13 : decode prog_18_method_2_code 13 = .ok (.goto 4, 3) := by decide +kernel
theorem d9_16 : decode prog_18_method_2_code 16 = .ok (.iconst 0, 1) := by decide +kernel
theorem d9_17 : decode prog_18_method_2_code 17 = .ok (.ireturn, 1) := by decide +kernel
theorem own_pn9 : plainName "com/example/refill/refill/SlidingLog$Rule" = true := by first | (simp [plainName, overriddenIn]; done) | decide +kernel
theorem own_ef9 (m : MethodId) (a : Addr) (x0 : Int64) (x1 : Int32) : entryFrame m #[(.ref a), (.long x0), (.int x1)] 4 = mkF m 0 #[.val (.ref a), .val (.long x0), .second, .val (.int x1)] [] := by first | (simp [entryFrame, mkF, argsToLocals, Value.category]; done) | rfl
def Q9 (Z : State) (a : Addr) (x0 : Int64) (x1 : Int32) (lim : Int64) (h0 : Heap) (n0 : Nat) (v : Option Value) (h : Heap) (L : List Loc) : Prop := v = some (.int (own_fits x0 x1 lim)) ∧ Fr n0 L ∧ h = h0
set_option maxRecDepth 65536 in
set_option maxHeartbeats 4000000 in
theorem rm9 (l : Launch) (Z : State) (a0 : Array Value) (hw : ∀ d ∈ tables_1, d.before a0 Z = true) (ws : List Jvm.Cond) (a : Addr) (x0 : Int64) (x1 : Int32) (lim : Int64) (h0 : Heap) (n0 : Nat) (Z0 : n0 ≤ h0.size) (F0 : Exa Z h0 a "com/example/refill/refill/SlidingLog$Rule") (F1 : Fld Z h0 a "com/example/refill/refill/SlidingLog$Rule" "limit" "J" (.long lim)) :
    MetFree l (⟨"com/example/refill/refill/SlidingLog$Rule", "fits", "(JI)Z"⟩ : MethodName) (head1 (Jvm.Cond.code (⟨"com/example/refill/refill/SlidingLog$Rule", "fits", "(JI)Z"⟩ : MethodName) prog_18_method_2_code 4 (some .boolean) :: ws) ({ frames := 0, cells := 0, slots := 0, locals := 0 } : Room)) (fun aW U => aW = #[(.ref a), (.long x0), (.int x1)] ∧ Z.Warmed39 U.vm ∧ U.heap = h0) (fun _ _ _ _ _ => True) (fun _ U o U' => ∃ v L, o = .returned v ∧ Q9 Z a x0 x1 lim h0 n0 v U'.heap L ∧ FrameEnd U o U' L ({ frames := 0, cells := 0, slots := 0, locals := 0 } : Room).cells ({ frames := 0, cells := 0, slots := 0, locals := 0 } : Room).slots) := by
  refine MetFree.of_bodySF (plainFor_of_name own_pn9) hisR ?_
  intro p e s m args below meth c s₁ Bd hml0 hP hK
  obtain ⟨rfl, hZ, hh⟩ := hP
  have hx := Bd.exec
  have hby := Bd.bytes
  have hml : c.maxLocals = 4 := hml0
  have hown : s.vm.findClass "com/example/refill/refill/SlidingLog$Rule" = some m.cls := findClass_of_methodNamed Bd.named
  have hnm := (name_of_methodNamed Bd.named Bd.method).1
  have X0 : Stand p l e ({ frames := 0, cells := 0, slots := 0, locals := 0 } : Room) s m #[(.ref a), (.long x0), (.int x1)] below meth c s₁ [] 0 0 := Stand.of_body Bd
  have e0 : s₁.heap = h0 := by rw [← hh, Bd.state]; rfl
  have N0 := Fr.nil n0
  obtain ⟨Pq, hPq⟩ : ∃ P, P = own_P s below (fun v h L => Q9 Z a x0 x1 lim h0 n0 v h L) ({ frames := 0, cells := 0, slots := 0, locals := 0 } : Room).cells ({ frames := 0, cells := 0, slots := 0, locals := 0 } : Room).slots := ⟨_, rfl⟩
  suffices hgo : own_Go p.tables e below Pq s₁ (mkF m 0 #[.val (.ref a), .val (.long x0), .second, .val (.int x1)] []) by
    subst hPq
    obtain ⟨t, k1, k2, o, k3, k4⟩ := hgo
    exact ⟨t, o, castTop (own_ef9 m a x0 x1) k1, k2, k3, k4⟩
  show own_Go _ _ _ _ s₁ (mkF m 0 #[.val (.ref a), .val (.long x0), .second, .val (.int x1)] [])
  refine own_st (fun t k => XS.lloadN X0.here hx rfl (hb hby d9_0) rfl k) ?_
  show own_Go _ _ _ _ s₁ (mkF m 1 _ [(.long x0)])
  refine own_st (fun t k => XS.aloadN X0.here hx rfl (hb hby d9_1) rfl rfl k) ?_
  show own_Go _ _ _ _ s₁ (mkF m 2 _ [(.ref a), (.long x0)])
  obtain ⟨T1, X1, e1, st1⟩ := getF X0 hx hZ hown (host := "") (Or.inl (hw _ (List.mem_of_getElem? (i := 50) rfl))) Via.refl e0 F1 (g := (mkF m 2 #[.val (.ref a), .val (.long x0), .second, .val (.int x1)] [(.ref a), (.long x0)])) rfl rfl (hb hby d9_2)
  refine own_st st1 ?_
  show own_Go _ _ _ _ T1 (mkF m 5 _ [(.long lim), (.long x0)])
  refine own_st (fun t k => XS.iloadN X1.here hx rfl (hb hby d9_5) rfl k) ?_
  show own_Go _ _ _ _ T1 (mkF m 6 _ [(.int x1), (.long lim), (.long x0)])
  refine own_st (fun t k => XS.i2l X1.here hx rfl (hb hby d9_6) rfl k) ?_
  show own_Go _ _ _ _ T1 (mkF m 7 _ [(.long x1.toInt64), (.long lim), (.long x0)])
  refine own_st (fun t k => XS.lsub X1.here hx rfl (hb hby d9_7) rfl k) ?_
  show own_Go _ _ _ _ T1 (mkF m 8 _ [(.long (lim - x1.toInt64)), (.long x0)])
  refine own_st (fun t k => XS.lcmp X1.here hx rfl (hb hby d9_8) rfl k) ?_
  show own_Go _ _ _ _ T1 (mkF m 9 _ [(.int (lcmpW x0 (lim - x1.toInt64)))])
  have J5 : ∀ (Tj5 : State) (Lj5 : List Loc) (p6 : Int32), Stand p l e ({ frames := 0, cells := 0, slots := 0, locals := 0 } : Room) s m #[(.ref a), (.long x0), (.int x1)] below meth c Tj5 Lj5 0 0 → Tj5.heap = h0 → Fr n0 Lj5 → p6 = (if (lim - x1.toInt64) < x0 then (0 : Int32) else (1 : Int32)) → own_Go p.tables e below Pq Tj5 (mkF m 17 #[.val (.ref a), .val (.long x0), .second, .val (.int x1)] [(.int p6)]) := by
    intro Tj5 Lj5 p6 Xj5 ej5 Nj5 qp6
    show own_Go _ _ _ _ Tj5 (mkF m 17 _ [(.int p6)])
    have hb_p6 : p6 = 0 ∨ p6 = 1 := by rw [qp6]; (repeat' split) <;> first | exact Or.inl rfl | exact Or.inr rfl | assumption
    subst hPq
    refine own_out Xj5 (v := some (.int p6)) (fun h => by rw [Bd.returns] at h; cases h) Bd.notSynchronized (own_retZ Xj5 hx Bd.returns (hb hby d9_17) hb_p6) (by decide) (by decide) ?_
    show Q9 Z a x0 x1 lim h0 n0 _ Tj5.heap _
    rw [ej5]
    exact ⟨by subst_vars; rfl, Nj5, rfl⟩
  by_cases c2 : (lim - x1.toInt64) < x0
  · skip
    refine own_st (fun t k => XS.ifYes X1.here hx rfl (pc0 := 9) (pc' := 16) rfl (hb hby d9_9) rfl (own_lcT (cd := .gt) c2) (by decide) (by decide) k) ?_
    show own_Go _ _ _ _ T1 (mkF m 16 _ [])
    refine own_st (fun t k => XS.iconst X1.here hx rfl (hb hby d9_16) k) ?_
    show own_Go _ _ _ _ T1 (mkF m 17 _ [(.int (0 : Int32))])
    exact J5 T1 _ _ X1 e1 N0 (by simp only [if_pos c2])
  · skip
    refine own_st (fun t k => XS.ifNo X1.here hx rfl (hb hby d9_9) rfl (own_lcF (cd := .gt) c2) k) ?_
    show own_Go _ _ _ _ T1 (mkF m 12 _ [])
    refine own_st (fun t k => XS.iconst X1.here hx rfl (hb hby d9_12) k) ?_
    show own_Go _ _ _ _ T1 (mkF m 13 _ [(.int (1 : Int32))])
    refine own_st (fun t k => XS.goto X1.here hx rfl (pc0 := 13) (pc' := 17) rfl (hb hby d9_13) (by decide) (by decide) k) ?_
    show own_Go _ _ _ _ T1 (mkF m 17 _ [(.int (1 : Int32))])
    exact J5 T1 _ _ X1 e1 N0 (by simp only [if_neg c2])
theorem own_one (x v : Int64) (h : (own_max (1 : Int64) (x &&& (9223372036854775807 : Int64))) = v) : 1 ≤ v.toInt := by
  rw [← h]; unfold own_max
  split
  · rename_i q; rw [Int64.lt_iff_toInt_lt, show (1 : Int64).toInt = 1 from rfl] at q; omega
  · decide
theorem own_cap (v w : Int64) (h1 : 1 ≤ v.toInt) (h : (own_min v (2147483647 : Int64)) = w) : 1 ≤ w.toInt ∧ w.toInt ≤ v.toInt ∧ w.toInt ≤ 2147483647 := by
  rw [← h]; unfold own_min
  split
  · rename_i q; rw [Int64.lt_iff_toInt_lt, show (2147483647 : Int64).toInt = 2147483647 from rfl] at q; rw [show (2147483647 : Int64).toInt = 2147483647 from rfl]; omega
  · rename_i q; rw [Int64.lt_iff_toInt_lt, show (2147483647 : Int64).toInt = 2147483647 from rfl] at q; omega
theorem own_nz {w : Int64} (h : 1 ≤ w.toInt) : w ≠ 0 := fun q => by rw [q, show (0 : Int64).toInt = 0 from rfl] at h; omega
theorem own_nz1 {w : Int64} (h : 1 ≤ w.toInt) (c : ¬ w = (9223372036854775807 : Int64)) : w + 1 ≠ 0 := fun q => by
  have e := c_ladd w 1
  rw [q, show (0 : Int64).toInt = 0 from rfl, show (1 : Int64).toInt = 1 from rfl] at e
  have r := rng64 w
  omega
theorem own_ch (x : Int32) : ¬ (255 : Int32) < (x &&& (255 : Int32)).toUInt32.toUInt16.toUInt32.toInt32 := by
  have e := c_mask x 255 8 (by decide) (by decide)
  have q := c_i2c (x &&& 255)
  rw [Int32.lt_iff_toInt_lt, show (255 : Int32).toInt = 255 from rfl]
  omega
theorem own_pm (x : Int32) (v6 : Int64) (v7 : Int32) (h1 : 1 ≤ v6.toInt) (h2 : v6.toInt ≤ 2147483647) (h : ((1 : Int32) + ((x &&& (2147483647 : Int32)).toInt64 - ((x &&& (2147483647 : Int32)).toInt64 / v6) * v6).toInt32) = v7) : 1 ≤ v7.toInt ∧ v7.toInt ≤ v6.toInt := by
  have e1 := c_mask x 2147483647 31 (by decide) (by decide)
  have e2 := c_i2l (x &&& 2147483647)
  generalize (x &&& 2147483647) = u at *
  generalize u.toInt64 = q at *
  have e3 := (c_lrem q v6 v6.toInt rfl).1 (by omega)
  generalize q - q / v6 * v6 = r at *
  have m1 := Int.emod_nonneg q.toInt (show v6.toInt ≠ 0 by omega)
  have m2 := Int.emod_lt_of_pos q.toInt (show 0 < v6.toInt by omega)
  rw [← e3] at m1 m2
  have e4 := c_l2i r
  have r4 := rng32 r.toInt32
  generalize r.toInt32 = w at *
  have f4 : w.toInt = r.toInt := by omega
  have e5 := c_iadd 1 w
  rw [h, show (1 : Int32).toInt = 1 from rfl] at e5
  have r5 := rng32 v7
  omega
theorem own_in0 (x1 v3 : Int64) (v7 x5 : Int32) (p : Int64) (h3 : 1 ≤ v3.toInt) (h7 : 1 ≤ v7.toInt ∧ v7.toInt ≤ v3.toInt) (q : p = (if (x5 &&& (1 : Int32)) = (0 : Int32) then (if v3 = (9223372036854775807 : Int64) then (x1 &&& (9223372036854775807 : Int64)) else ((x1 &&& (9223372036854775807 : Int64)) - ((x1 &&& (9223372036854775807 : Int64)) / (v3 + (1 : Int64))) * (v3 + (1 : Int64)))) else (own_min v3 (own_max (0 : Int64) ((v3 - v7.toInt64) + (((x5 >>> ((1 : Int32) &&& 31)) &&& (3 : Int32)) - (2 : Int32)).toInt64))))) : 0 ≤ p.toInt ∧ p.toInt ≤ v3.toInt := by
  have e1 := c_maskL x1 9223372036854775807 63 (by decide) (by decide)
  generalize (x1 &&& 9223372036854775807) = u at *
  have r3 := rng64 v3
  have ru := rng64 u
  by_cases c : (x5 &&& 1) = 0
  · rw [if_pos c] at q
    by_cases d : v3 = 9223372036854775807
    · rw [if_pos d] at q
      rw [q, d, show (9223372036854775807 : Int64).toInt = 9223372036854775807 from rfl]
      omega
    · rw [if_neg d] at q
      rw [← Int64.toInt_inj, show (9223372036854775807 : Int64).toInt = 9223372036854775807 from rfl] at d
      have e2 := c_ladd v3 1
      have r2 := rng64 (v3 + 1)
      generalize v3 + 1 = w at *
      rw [show (1 : Int64).toInt = 1 from rfl] at e2
      have f2 : w.toInt = v3.toInt + 1 := by omega
      have e3 := (c_lrem u w w.toInt rfl).1 (by omega)
      have m1 := Int.emod_nonneg u.toInt (show w.toInt ≠ 0 by omega)
      have m2 := Int.emod_lt_of_pos u.toInt (show 0 < w.toInt by omega)
      rw [q]; omega
  · rw [if_neg c] at q
    rw [q]; unfold own_min
    have k : 0 ≤ (own_max (0 : Int64) ((v3 - v7.toInt64) + (((x5 >>> ((1 : Int32) &&& 31)) &&& (3 : Int32)) - (2 : Int32)).toInt64)).toInt := by
      unfold own_max; split
      · rename_i z; rw [Int64.lt_iff_toInt_lt, show (0 : Int64).toInt = 0 from rfl] at z; omega
      · decide
    split
    · rename_i z; rw [Int64.lt_iff_toInt_lt] at z; omega
    · omega
theorem own_pn0 : plainName "com/example/refill/refill/RuleFitsPinLaw" = true := by first | (simp [plainName, overriddenIn]; done) | decide +kernel
theorem own_ef0 (m : MethodId) (x0 : Int64) (x1 : Int64) (x2 : Int32) (x3 : Int64) (x4 : Int32) (x5 : Int32) : entryFrame m #[(.long x0), (.long x1), (.int x2), (.long x3), (.int x4), (.int x5)] maxLocals = mkF m 0 #[.val (.long x0), .second, .val (.long x1), .second, .val (.int x2), .val (.long x3), .second, .val (.int x4), .val (.int x5), .unset, .unset, .unset, .unset, .unset, .unset, .unset, .unset, .unset, .unset, .unset, .unset] [] := by first | (simp [entryFrame, mkF, argsToLocals, Value.category, maxLocals]; done) | rfl
def Q0 (Z : State) (x0 : Int64) (x1 : Int64) (x2 : Int32) (x3 : Int64) (x4 : Int32) (x5 : Int32) (cs : Int32) (h0 : Heap) (n0 : Nat) (v : Option Value) (h : Heap) (L : List Loc) : Prop := v = some (.int 1) ∧ Fr n0 L
theorem own_law (x0 : Int64) (x1 : Int64) (x2 : Int32) (x3 : Int64) (x4 : Int32) (x5 : Int32) (cs : Int32) (v3 : Int64) (v6 : Int64) (v7 : Int32) (p21 : Int64) (p22 : Int64) (v27 : Int64) (p53 : Int32) (p60 : Int32) (hcs : ¬ cs = 0) (hv3 : (own_max (1 : Int64) (x0 &&& (9223372036854775807 : Int64))) = v3) (hv6 : (own_min v3 (2147483647 : Int64)) = v6) (hv7 : ((1 : Int32) + ((x2 &&& (2147483647 : Int32)).toInt64 - ((x2 &&& (2147483647 : Int32)).toInt64 / v6) * v6).toInt32) = v7) (qp21 : p21 = (if (x5 &&& (1 : Int32)) = (0 : Int32) then (if v3 = (9223372036854775807 : Int64) then (x1 &&& (9223372036854775807 : Int64)) else ((x1 &&& (9223372036854775807 : Int64)) - ((x1 &&& (9223372036854775807 : Int64)) / (v3 + (1 : Int64))) * (v3 + (1 : Int64)))) else (own_min v3 (own_max (0 : Int64) ((v3 - v7.toInt64) + (((x5 >>> ((1 : Int32) &&& 31)) &&& (3 : Int32)) - (2 : Int32)).toInt64))))) (qp22 : p22 = (if (x5 &&& (1 : Int32)) = (0 : Int32) then (x1 &&& (9223372036854775807 : Int64)) else (((x5 >>> ((1 : Int32) &&& 31)) &&& (3 : Int32)) - (2 : Int32)).toInt64)) (hv27 : (own_max (1 : Int64) (x3 &&& (9223372036854775807 : Int64))) = v27) (qp53 : p53 = (if (v3 - p21) < v7.toInt64 then (0 : Int32) else (1 : Int32))) (qp60 : p60 = (if (own_fits p21 v7 v3) = p53 then (1 : Int32) else (0 : Int32))) : p60 = 1 := by
  have h3 := own_one x0 v3 hv3
  have h6 := own_cap v3 v6 h3 hv6
  have h7 := own_pm x2 v6 v7 h6.1 h6.2.2 hv7
  have h21 := own_in0 x1 v3 v7 x5 p21 h3 ⟨h7.1, by omega⟩ qp21
  clear qp21 qp22
  have e1 := c_i2l v7
  have e2 := c_lsub v3 p21
  have e3 := c_lsub v3 v7.toInt64
  have r2 := rng64 (v3 - p21); have r3 := rng64 (v3 - v7.toInt64); have r := rng64 v3
  have f2 : (v3 - p21).toInt = v3.toInt - p21.toInt := by omega
  have f3 : (v3 - v7.toInt64).toInt = v3.toInt - v7.toInt := by omega
  rw [qp60, if_pos]
  rw [qp53]; unfold own_fits
  by_cases c : (v3 - p21) < v7.toInt64
  · rw [if_pos c, if_pos]
    rw [Int64.lt_iff_toInt_lt] at c ⊢
    omega
  · rw [if_neg c, if_neg]
    rw [Int64.lt_iff_toInt_lt] at c ⊢
    omega
set_option maxRecDepth 65536 in
set_option maxHeartbeats 4000000 in
theorem rm0 (l : Launch) (Z : State) (a0 : Array Value) (hw : ∀ d ∈ tables_1, d.before a0 Z = true) (ws : List Jvm.Cond) (x0 : Int64) (x1 : Int64) (x2 : Int32) (x3 : Int64) (x4 : Int32) (x5 : Int32) (cs : Int32) (h0 : Heap) (n0 : Nat) (Z0 : n0 ≤ h0.size) (F0 : Sta Z h0 "java/lang/String" "COMPACT_STRINGS" "Z" (.int cs)) (hcs : ¬ cs = 0) :
    MetFree l x (head1 (Jvm.Cond.code x code maxLocals ret :: ws) room_1) (fun aW U => aW = #[(.long x0), (.long x1), (.int x2), (.long x3), (.int x4), (.int x5)] ∧ Z.Warmed39 U.vm ∧ U.heap = h0) (fun _ _ _ _ _ => True) (fun _ U o U' => ∃ v L, o = .returned v ∧ Q0 Z x0 x1 x2 x3 x4 x5 cs h0 n0 v U'.heap L ∧ FrameEnd U o U' L 16 128) := by
  refine MetFree.of_bodySF (plainFor_of_name own_pn0) hisR ?_
  intro p e s m args below meth c s₁ Bd hml0 hP hK
  obtain ⟨rfl, hZ, hh⟩ := hP
  have hx := Bd.exec
  have hby := Bd.bytes
  have hml : c.maxLocals = 21 := hml0
  have hown : s.vm.findClass "com/example/refill/refill/RuleFitsPinLaw" = some m.cls := findClass_of_methodNamed Bd.named
  have hnm := (name_of_methodNamed Bd.named Bd.method).1
  have X0 : Stand p l e room_1 s m #[(.long x0), (.long x1), (.int x2), (.long x3), (.int x4), (.int x5)] below meth c s₁ [] 0 0 := Stand.of_body Bd
  have e0 : s₁.heap = h0 := by rw [← hh, Bd.state]; rfl
  have N0 := Fr.nil n0
  obtain ⟨Pq, hPq⟩ : ∃ P, P = own_P s below (fun v h L => Q0 Z x0 x1 x2 x3 x4 x5 cs h0 n0 v h L) 16 128 := ⟨_, rfl⟩
  suffices hgo : own_Go p.tables e below Pq s₁ (mkF m 0 #[.val (.long x0), .second, .val (.long x1), .second, .val (.int x2), .val (.long x3), .second, .val (.int x4), .val (.int x5), .unset, .unset, .unset, .unset, .unset, .unset, .unset, .unset, .unset, .unset, .unset, .unset] []) by
    subst hPq
    obtain ⟨t, k1, k2, o, k3, k4⟩ := hgo
    exact ⟨t, o, castTop (own_ef0 m x0 x1 x2 x3 x4 x5) k1, k2, k3, k4⟩
  show own_Go _ _ _ _ s₁ (mkF m 0 #[.val (.long x0), .second, .val (.long x1), .second, .val (.int x2), .val (.long x3), .second, .val (.int x4), .val (.int x5), .unset, .unset, .unset, .unset, .unset, .unset, .unset, .unset, .unset, .unset, .unset, .unset] [])
  refine own_st (fun t k => XS.lconst X0.here hx rfl (hb hby at_0) k) ?_
  show own_Go _ _ _ _ s₁ (mkF m 1 _ [(.long (1 : Int64))])
  refine own_st (fun t k => XS.lloadN X0.here hx rfl (hb hby at_1) rfl k) ?_
  show own_Go _ _ _ _ s₁ (mkF m 2 _ [(.long x0), (.long (1 : Int64))])
  refine own_st (fun t k => X0.ldc2Long hx hown (mvT hZ (hw _ (List.mem_of_getElem? (i := 0) rfl))) (g := (mkF m 2 #[.val (.long x0), .second, .val (.long x1), .second, .val (.int x2), .val (.long x3), .second, .val (.int x4), .val (.int x5), .unset, .unset, .unset, .unset, .unset, .unset, .unset, .unset, .unset, .unset, .unset, .unset] [(.long x0), (.long (1 : Int64))])) rfl (hb hby at_2) _ k) ?_
  show own_Go _ _ _ _ s₁ (mkF m 5 _ [(.long (9223372036854775807 : Int64)), (.long x0), (.long (1 : Int64))])
  refine own_st (fun t k => XS.land X0.here hx rfl (hb hby at_5) rfl k) ?_
  show own_Go _ _ _ _ s₁ (mkF m 6 _ [(.long (x0 &&& (9223372036854775807 : Int64))), (.long (1 : Int64))])
  obtain ⟨_, _, ⟨T1, L1, k1, n1⟩, -, X1, ⟨Lc1, hQ1, l1, y1, z1⟩, st1⟩ := Jvm.LawKit.callS X0 hx (y := (⟨"java/lang/Math", "max", "(JJ)J"⟩ : MethodName)) hown (mvT hZ (hw _ (List.mem_of_getElem? (i := 1) rfl))) (mvT hZ (hw _ (List.mem_of_getElem? (i := 2) rfl))) (mvT hZ (hw _ (List.mem_of_getElem? (i := 3) rfl))) (mvT hZ (hw _ (List.mem_of_getElem? (i := 4) rfl))) (by decide) (backOf (W := 0) (rm1 l Z a0 hw [] (1 : Int64) (x0 &&& (9223372036854775807 : Int64)) h0 n0 Z0 ) hZ (hw _ (List.mem_of_getElem? (i := 4) rfl)) (hw _ (List.mem_of_getElem? (i := 3) rfl)) (by decide) (by decide)) (g := (mkF m 6 #[.val (.long x0), .second, .val (.long x1), .second, .val (.int x2), .val (.long x3), .second, .val (.int x4), .val (.int x5), .unset, .unset, .unset, .unset, .unset, .unset, .unset, .unset, .unset, .unset, .unset, .unset] [(.long (x0 &&& (9223372036854775807 : Int64))), (.long (1 : Int64))])) rfl (by rw [hml]; rfl) (argsL := [(.long (1 : Int64)), (.long (x0 &&& (9223372036854775807 : Int64)))]) (rest := []) (lenOf own_pd__JJ_J rfl) rfl (by show 2 * 0 + _ ≤ _; exact Nat.le_of_eq rfl) (hb hby at_6) (fun _ _ => ⟨rfl, e0, (by decide : 0 + 0 ≤ _), (by decide : 0 + 0 ≤ _)⟩)
  dsimp only [Pt.U, Pt.locs, Pt.cells, Pt.slots] at X1 l1 y1 z1 st1 hQ1
  subst l1 y1 z1
  obtain ⟨rfl, NQ1, eq1⟩ := hQ1
  have N2 := Fr.app N0 NQ1
  refine own_st st1 ?_
  show own_Go _ _ _ _ T1 (mkF m 9 _ [(.long (own_max (1 : Int64) (x0 &&& (9223372036854775807 : Int64))))])
  generalize hv3 : (own_max (1 : Int64) (x0 &&& (9223372036854775807 : Int64))) = v3
  refine own_st (fun t k => XS.lstore X1.here hx rfl (hb hby at_9) rfl (l' := #[.val (.long x0), .second, .val (.long x1), .second, .val (.int x2), .val (.long x3), .second, .val (.int x4), .val (.int x5), .val (.long v3), .second, .unset, .unset, .unset, .unset, .unset, .unset, .unset, .unset, .unset, .unset]) rfl k) ?_
  show own_Go _ _ _ _ T1 (mkF m 11 #[.val (.long x0), .second, .val (.long x1), .second, .val (.int x2), .val (.long x3), .second, .val (.int x4), .val (.int x5), .val (.long v3), .second, .unset, .unset, .unset, .unset, .unset, .unset, .unset, .unset, .unset, .unset] [])
  refine own_st (fun t k => XS.lload X1.here hx rfl (hb hby at_11) rfl k) ?_
  show own_Go _ _ _ _ T1 (mkF m 13 _ [(.long v3)])
  refine own_st (fun t k => X1.ldc2Long hx hown (mvT hZ (hw _ (List.mem_of_getElem? (i := 5) rfl))) (g := (mkF m 13 #[.val (.long x0), .second, .val (.long x1), .second, .val (.int x2), .val (.long x3), .second, .val (.int x4), .val (.int x5), .val (.long v3), .second, .unset, .unset, .unset, .unset, .unset, .unset, .unset, .unset, .unset, .unset] [(.long v3)])) rfl (hb hby at_13) _ k) ?_
  show own_Go _ _ _ _ T1 (mkF m 16 _ [(.long (2147483647 : Int64)), (.long v3)])
  obtain ⟨_, _, ⟨T4, L4, k4, n4⟩, -, X4, ⟨Lc4, hQ4, l4, y4, z4⟩, st4⟩ := Jvm.LawKit.callS X1 hx (y := (⟨"java/lang/Math", "min", "(JJ)J"⟩ : MethodName)) hown (mvT hZ (hw _ (List.mem_of_getElem? (i := 6) rfl))) (mvT hZ (hw _ (List.mem_of_getElem? (i := 7) rfl))) (mvT hZ (hw _ (List.mem_of_getElem? (i := 3) rfl))) (mvT hZ (hw _ (List.mem_of_getElem? (i := 8) rfl))) (by decide) (backOf (W := 0) (rm2 l Z a0 hw [] v3 (2147483647 : Int64) h0 n0 Z0 ) hZ (hw _ (List.mem_of_getElem? (i := 8) rfl)) (hw _ (List.mem_of_getElem? (i := 3) rfl)) (by decide) (by decide)) (g := (mkF m 16 #[.val (.long x0), .second, .val (.long x1), .second, .val (.int x2), .val (.long x3), .second, .val (.int x4), .val (.int x5), .val (.long v3), .second, .unset, .unset, .unset, .unset, .unset, .unset, .unset, .unset, .unset, .unset] [(.long (2147483647 : Int64)), (.long v3)])) rfl (by rw [hml]; rfl) (argsL := [(.long v3), (.long (2147483647 : Int64))]) (rest := []) (lenOf own_pd__JJ_J rfl) rfl (by show 2 * 0 + _ ≤ _; exact Nat.le_of_eq rfl) (hb hby at_16) (fun _ _ => ⟨rfl, eq1, (by decide : 0 + 0 ≤ _), (by decide : 0 + 0 ≤ _)⟩)
  dsimp only [Pt.U, Pt.locs, Pt.cells, Pt.slots] at X4 l4 y4 z4 st4 hQ4
  subst l4 y4 z4
  obtain ⟨rfl, NQ4, eq4⟩ := hQ4
  have N5 := Fr.app N2 NQ4
  refine own_st st4 ?_
  show own_Go _ _ _ _ T4 (mkF m 19 _ [(.long (own_min v3 (2147483647 : Int64)))])
  generalize hv6 : (own_min v3 (2147483647 : Int64)) = v6
  refine own_st (fun t k => XS.lstore X4.here hx rfl (hb hby at_19) rfl (l' := #[.val (.long x0), .second, .val (.long x1), .second, .val (.int x2), .val (.long x3), .second, .val (.int x4), .val (.int x5), .val (.long v3), .second, .val (.long v6), .second, .unset, .unset, .unset, .unset, .unset, .unset, .unset, .unset]) rfl k) ?_
  show own_Go _ _ _ _ T4 (mkF m 21 #[.val (.long x0), .second, .val (.long x1), .second, .val (.int x2), .val (.long x3), .second, .val (.int x4), .val (.int x5), .val (.long v3), .second, .val (.long v6), .second, .unset, .unset, .unset, .unset, .unset, .unset, .unset, .unset] [])
  refine own_st (fun t k => XS.iconst X4.here hx rfl (hb hby at_21) k) ?_
  show own_Go _ _ _ _ T4 (mkF m 22 _ [(.int (1 : Int32))])
  refine own_st (fun t k => XS.iload X4.here hx rfl (hb hby at_22) rfl k) ?_
  show own_Go _ _ _ _ T4 (mkF m 24 _ [(.int x2), (.int (1 : Int32))])
  refine own_st (fun t k => X4.ldcInt hx hown (mvT hZ (hw _ (List.mem_of_getElem? (i := 9) rfl))) (g := (mkF m 24 #[.val (.long x0), .second, .val (.long x1), .second, .val (.int x2), .val (.long x3), .second, .val (.int x4), .val (.int x5), .val (.long v3), .second, .val (.long v6), .second, .unset, .unset, .unset, .unset, .unset, .unset, .unset, .unset] [(.int x2), (.int (1 : Int32))])) rfl (hb hby at_24) _ k) ?_
  show own_Go _ _ _ _ T4 (mkF m 26 _ [(.int (2147483647 : Int32)), (.int x2), (.int (1 : Int32))])
  refine own_st (fun t k => XS.iand X4.here hx rfl (hb hby at_26) rfl k) ?_
  show own_Go _ _ _ _ T4 (mkF m 27 _ [(.int (x2 &&& (2147483647 : Int32))), (.int (1 : Int32))])
  refine own_st (fun t k => XS.i2l X4.here hx rfl (hb hby at_27) rfl k) ?_
  show own_Go _ _ _ _ T4 (mkF m 28 _ [(.long (x2 &&& (2147483647 : Int32)).toInt64), (.int (1 : Int32))])
  refine own_st (fun t k => XS.lload X4.here hx rfl (hb hby at_28) rfl k) ?_
  show own_Go _ _ _ _ T4 (mkF m 30 _ [(.long v6), (.long (x2 &&& (2147483647 : Int32)).toInt64), (.int (1 : Int32))])
  refine own_st (fun t k => XS.lrem X4.here hx rfl (hb hby at_30) rfl (own_nz (own_cap _ _ (own_one _ _ hv3) hv6).1) k) ?_
  show own_Go _ _ _ _ T4 (mkF m 31 _ [(.long ((x2 &&& (2147483647 : Int32)).toInt64 - ((x2 &&& (2147483647 : Int32)).toInt64 / v6) * v6)), (.int (1 : Int32))])
  refine own_st (fun t k => XS.l2i X4.here hx rfl (hb hby at_31) rfl k) ?_
  show own_Go _ _ _ _ T4 (mkF m 32 _ [(.int ((x2 &&& (2147483647 : Int32)).toInt64 - ((x2 &&& (2147483647 : Int32)).toInt64 / v6) * v6).toInt32), (.int (1 : Int32))])
  refine own_st (fun t k => XS.iadd X4.here hx rfl (hb hby at_32) rfl k) ?_
  show own_Go _ _ _ _ T4 (mkF m 33 _ [(.int ((1 : Int32) + ((x2 &&& (2147483647 : Int32)).toInt64 - ((x2 &&& (2147483647 : Int32)).toInt64 / v6) * v6).toInt32))])
  generalize hv7 : ((1 : Int32) + ((x2 &&& (2147483647 : Int32)).toInt64 - ((x2 &&& (2147483647 : Int32)).toInt64 / v6) * v6).toInt32) = v7
  refine own_st (fun t k => XS.istore X4.here hx rfl (hb hby at_33) rfl (l' := #[.val (.long x0), .second, .val (.long x1), .second, .val (.int x2), .val (.long x3), .second, .val (.int x4), .val (.int x5), .val (.long v3), .second, .val (.long v6), .second, .val (.int v7), .unset, .unset, .unset, .unset, .unset, .unset, .unset]) rfl k) ?_
  show own_Go _ _ _ _ T4 (mkF m 35 #[.val (.long x0), .second, .val (.long x1), .second, .val (.int x2), .val (.long x3), .second, .val (.int x4), .val (.int x5), .val (.long v3), .second, .val (.long v6), .second, .val (.int v7), .unset, .unset, .unset, .unset, .unset, .unset, .unset] [])
  refine own_st (fun t k => XS.iload X4.here hx rfl (hb hby at_35) rfl k) ?_
  show own_Go _ _ _ _ T4 (mkF m 37 _ [(.int x5)])
  refine own_st (fun t k => XS.iconst X4.here hx rfl (hb hby at_37) k) ?_
  show own_Go _ _ _ _ T4 (mkF m 38 _ [(.int (1 : Int32)), (.int x5)])
  refine own_st (fun t k => XS.iand X4.here hx rfl (hb hby at_38) rfl k) ?_
  show own_Go _ _ _ _ T4 (mkF m 39 _ [(.int (x5 &&& (1 : Int32)))])
  have J20 : ∀ (Tj20 : State) (Lj20 : List Loc) (p21 : Int64) (p22 : Int64) (s23 : Slot) (s24 : Slot), Stand p l e room_1 s m #[(.long x0), (.long x1), (.int x2), (.long x3), (.int x4), (.int x5)] below meth c Tj20 Lj20 0 0 → Tj20.heap = h0 → Fr n0 Lj20 → p21 = (if (x5 &&& (1 : Int32)) = (0 : Int32) then (if v3 = (9223372036854775807 : Int64) then (x1 &&& (9223372036854775807 : Int64)) else ((x1 &&& (9223372036854775807 : Int64)) - ((x1 &&& (9223372036854775807 : Int64)) / (v3 + (1 : Int64))) * (v3 + (1 : Int64)))) else (own_min v3 (own_max (0 : Int64) ((v3 - v7.toInt64) + (((x5 >>> ((1 : Int32) &&& 31)) &&& (3 : Int32)) - (2 : Int32)).toInt64)))) → p22 = (if (x5 &&& (1 : Int32)) = (0 : Int32) then (x1 &&& (9223372036854775807 : Int64)) else (((x5 >>> ((1 : Int32) &&& 31)) &&& (3 : Int32)) - (2 : Int32)).toInt64) → ((s23 = .unset ∧ s24 = .unset) ∨ (∃ (x_s23 : Int64), s23 = .val (.long x_s23) ∧ s24 = .second)) → own_Go p.tables e below Pq Tj20 (mkF m 110 #[.val (.long x0), .second, .val (.long x1), .second, .val (.int x2), .val (.long x3), .second, .val (.int x4), .val (.int x5), .val (.long v3), .second, .val (.long v6), .second, .val (.int v7), .val (.long p21), .second, .val (.long p22), .second, s23, s24, .unset] []) := by
    intro Tj20 Lj20 p21 p22 s23 s24 Xj20 ej20 Nj20 qp21 qp22 Dj20
    show own_Go _ _ _ _ Tj20 (mkF m 110 #[.val (.long x0), .second, .val (.long x1), .second, .val (.int x2), .val (.long x3), .second, .val (.int x4), .val (.int x5), .val (.long v3), .second, .val (.long v6), .second, .val (.int v7), .val (.long p21), .second, .val (.long p22), .second, s23, s24, .unset] [])
    refine own_st (fun t k => XS.lconst Xj20.here hx rfl (hb hby at_110) k) ?_
    show own_Go _ _ _ _ Tj20 (mkF m 111 _ [(.long (1 : Int64))])
    refine own_st (fun t k => XS.lload Xj20.here hx rfl (hb hby at_111) rfl k) ?_
    show own_Go _ _ _ _ Tj20 (mkF m 113 _ [(.long x3), (.long (1 : Int64))])
    refine own_st (fun t k => Xj20.ldc2Long hx hown (mvT hZ (hw _ (List.mem_of_getElem? (i := 0) rfl))) (g := (mkF m 113 #[.val (.long x0), .second, .val (.long x1), .second, .val (.int x2), .val (.long x3), .second, .val (.int x4), .val (.int x5), .val (.long v3), .second, .val (.long v6), .second, .val (.int v7), .val (.long p21), .second, .val (.long p22), .second, s23, s24, .unset] [(.long x3), (.long (1 : Int64))])) rfl (hb hby at_113) _ k) ?_
    show own_Go _ _ _ _ Tj20 (mkF m 116 _ [(.long (9223372036854775807 : Int64)), (.long x3), (.long (1 : Int64))])
    refine own_st (fun t k => XS.land Xj20.here hx rfl (hb hby at_116) rfl k) ?_
    show own_Go _ _ _ _ Tj20 (mkF m 117 _ [(.long (x3 &&& (9223372036854775807 : Int64))), (.long (1 : Int64))])
    obtain ⟨_, _, ⟨T25, L25, k25, n25⟩, -, X25, ⟨Lc25, hQ25, l25, y25, z25⟩, st25⟩ := Jvm.LawKit.callS Xj20 hx (y := (⟨"java/lang/Math", "max", "(JJ)J"⟩ : MethodName)) hown (mvT hZ (hw _ (List.mem_of_getElem? (i := 1) rfl))) (mvT hZ (hw _ (List.mem_of_getElem? (i := 2) rfl))) (mvT hZ (hw _ (List.mem_of_getElem? (i := 3) rfl))) (mvT hZ (hw _ (List.mem_of_getElem? (i := 4) rfl))) (by decide) (backOf (W := 0) (rm1 l Z a0 hw [] (1 : Int64) (x3 &&& (9223372036854775807 : Int64)) h0 n0 Z0 ) hZ (hw _ (List.mem_of_getElem? (i := 4) rfl)) (hw _ (List.mem_of_getElem? (i := 3) rfl)) (by decide) (by decide)) (g := (mkF m 117 #[.val (.long x0), .second, .val (.long x1), .second, .val (.int x2), .val (.long x3), .second, .val (.int x4), .val (.int x5), .val (.long v3), .second, .val (.long v6), .second, .val (.int v7), .val (.long p21), .second, .val (.long p22), .second, s23, s24, .unset] [(.long (x3 &&& (9223372036854775807 : Int64))), (.long (1 : Int64))])) rfl (by rw [hml]; rfl) (argsL := [(.long (1 : Int64)), (.long (x3 &&& (9223372036854775807 : Int64)))]) (rest := []) (lenOf own_pd__JJ_J rfl) rfl (by show 2 * 0 + _ ≤ _; exact Nat.le_of_eq rfl) (hb hby at_117) (fun _ _ => ⟨rfl, ej20, (by decide : 0 + 0 ≤ _), (by decide : 0 + 0 ≤ _)⟩)
    dsimp only [Pt.U, Pt.locs, Pt.cells, Pt.slots] at X25 l25 y25 z25 st25 hQ25
    subst l25 y25 z25
    obtain ⟨rfl, NQ25, eq25⟩ := hQ25
    have N26 := Fr.app Nj20 NQ25
    refine own_st st25 ?_
    show own_Go _ _ _ _ T25 (mkF m 120 _ [(.long (own_max (1 : Int64) (x3 &&& (9223372036854775807 : Int64))))])
    generalize hv27 : (own_max (1 : Int64) (x3 &&& (9223372036854775807 : Int64))) = v27
    have os28 : storeLocals #[.val (.long x0), .second, .val (.long x1), .second, .val (.int x2), .val (.long x3), .second, .val (.int x4), .val (.int x5), .val (.long v3), .second, .val (.long v6), .second, .val (.int v7), .val (.long p21), .second, .val (.long p22), .second, s23, s24, .unset] 16 (.long v27) = some #[.val (.long x0), .second, .val (.long x1), .second, .val (.int x2), .val (.long x3), .second, .val (.int x4), .val (.int x5), .val (.long v3), .second, .val (.long v6), .second, .val (.int v7), .val (.long p21), .second, .val (.long v27), .second, s23, s24, .unset] := by rcases Dj20 with ⟨rfl, rfl⟩ | ⟨_, rfl, rfl⟩ <;> rfl
    refine own_st (fun t k => XS.lstore X25.here hx rfl (hb hby at_120) rfl (l' := #[.val (.long x0), .second, .val (.long x1), .second, .val (.int x2), .val (.long x3), .second, .val (.int x4), .val (.int x5), .val (.long v3), .second, .val (.long v6), .second, .val (.int v7), .val (.long p21), .second, .val (.long v27), .second, s23, s24, .unset]) os28 k) ?_
    show own_Go _ _ _ _ T25 (mkF m 122 #[.val (.long x0), .second, .val (.long x1), .second, .val (.int x2), .val (.long x3), .second, .val (.int x4), .val (.int x5), .val (.long v3), .second, .val (.long v6), .second, .val (.int v7), .val (.long p21), .second, .val (.long v27), .second, s23, s24, .unset] [])
    refine own_st (fun t k => XS.iload X25.here hx rfl (hb hby at_122) rfl k) ?_
    show own_Go _ _ _ _ T25 (mkF m 124 _ [(.int x4)])
    refine own_st (fun t k => XS.sipush X25.here hx rfl (hb hby at_124) k) ?_
    show own_Go _ _ _ _ T25 (mkF m 127 _ [(.int (255 : Int32)), (.int x4)])
    refine own_st (fun t k => XS.iand X25.here hx rfl (hb hby at_127) rfl k) ?_
    show own_Go _ _ _ _ T25 (mkF m 128 _ [(.int (x4 &&& (255 : Int32)))])
    refine own_st (fun t k => XS.i2c X25.here hx rfl (hb hby at_128) rfl k) ?_
    show own_Go _ _ _ _ T25 (mkF m 129 _ [(.int (x4 &&& (255 : Int32)).toUInt32.toUInt16.toUInt32.toInt32)])
    obtain ⟨_, _, ⟨T29, L29, k29, n29⟩, -, X29, ⟨Lc29, hQ29, l29, y29, z29⟩, st29⟩ := Jvm.LawKit.callS X25 hx (y := (⟨"java/lang/String", "valueOf", "(C)Ljava/lang/String;"⟩ : MethodName)) hown (mvT hZ (hw _ (List.mem_of_getElem? (i := 10) rfl))) (mvT hZ (hw _ (List.mem_of_getElem? (i := 11) rfl))) (mvT hZ (hw _ (List.mem_of_getElem? (i := 12) rfl))) (mvT hZ (hw _ (List.mem_of_getElem? (i := 13) rfl))) (by decide) (backOf (W := 0) (rm6 l Z a0 hw [] (x4 &&& (255 : Int32)).toUInt32.toUInt16.toUInt32.toInt32 cs h0 n0 Z0 F0 hcs (own_ch _)) hZ (hw _ (List.mem_of_getElem? (i := 13) rfl)) (hw _ (List.mem_of_getElem? (i := 12) rfl)) (by decide) (by decide)) (g := (mkF m 129 #[.val (.long x0), .second, .val (.long x1), .second, .val (.int x2), .val (.long x3), .second, .val (.int x4), .val (.int x5), .val (.long v3), .second, .val (.long v6), .second, .val (.int v7), .val (.long p21), .second, .val (.long v27), .second, s23, s24, .unset] [(.int (x4 &&& (255 : Int32)).toUInt32.toUInt16.toUInt32.toInt32)])) rfl (by rw [hml]; rfl) (argsL := [(.int (x4 &&& (255 : Int32)).toUInt32.toUInt16.toUInt32.toInt32)]) (rest := []) (lenOf own_pd__C_Ljava_lang_String_ rfl) rfl (by show 2 * 0 + _ ≤ _; exact Nat.le_of_eq rfl) (hb hby at_129) (fun _ _ => ⟨rfl, eq25, (by decide : 0 + 2 ≤ _), (by decide : 0 + 5 ≤ _)⟩)
    dsimp only [Pt.U, Pt.locs, Pt.cells, Pt.slots] at X29 l29 y29 z29 st29 hQ29
    subst l29 y29 z29
    obtain ⟨b29_b, rfl, NQ29, K29, gx_b29_b, sz_b29_b, fq29_0⟩ := hQ29
    have N30 := Fr.app N26 NQ29
    refine own_st st29 ?_
    have f31 := own_staK F0 K29 all0
    have Z32 : n0 ≤ T29.heap.size := Nat.le_trans Z0 K29.1
    show own_Go _ _ _ _ T29 (mkF m 132 _ [(.ref b29_b)])
    have os33 : storeLocals #[.val (.long x0), .second, .val (.long x1), .second, .val (.int x2), .val (.long x3), .second, .val (.int x4), .val (.int x5), .val (.long v3), .second, .val (.long v6), .second, .val (.int v7), .val (.long p21), .second, .val (.long v27), .second, s23, s24, .unset] 18 (.ref b29_b) = some #[.val (.long x0), .second, .val (.long x1), .second, .val (.int x2), .val (.long x3), .second, .val (.int x4), .val (.int x5), .val (.long v3), .second, .val (.long v6), .second, .val (.int v7), .val (.long p21), .second, .val (.long v27), .second, .val (.ref b29_b), .unset, .unset] := by rcases Dj20 with ⟨rfl, rfl⟩ | ⟨_, rfl, rfl⟩ <;> rfl
    refine own_st (fun t k => XS.astore X29.here hx rfl (hb hby at_132) rfl rfl (l' := #[.val (.long x0), .second, .val (.long x1), .second, .val (.int x2), .val (.long x3), .second, .val (.int x4), .val (.int x5), .val (.long v3), .second, .val (.long v6), .second, .val (.int v7), .val (.long p21), .second, .val (.long v27), .second, .val (.ref b29_b), .unset, .unset]) os33 k) ?_
    show own_Go _ _ _ _ T29 (mkF m 134 #[.val (.long x0), .second, .val (.long x1), .second, .val (.int x2), .val (.long x3), .second, .val (.int x4), .val (.int x5), .val (.long v3), .second, .val (.long v6), .second, .val (.int v7), .val (.long p21), .second, .val (.long v27), .second, .val (.ref b29_b), .unset, .unset] [])
    obtain ⟨T34, h34, X34, e34, E34, A34, D34, -, st34⟩ := newO X29 hx hZ hown (hw _ (List.mem_of_getElem? (i := 36) rfl)) (hw _ (List.mem_of_getElem? (i := 37) rfl)) (hw _ (List.mem_of_getElem? (i := 38) rfl)) rfl (g := (mkF m 134 #[.val (.long x0), .second, .val (.long x1), .second, .val (.int x2), .val (.long x3), .second, .val (.int x4), .val (.int x5), .val (.long v3), .second, .val (.long v6), .second, .val (.int v7), .val (.long p21), .second, .val (.long v27), .second, .val (.ref b29_b), .unset, .unset] [])) rfl (hb hby at_134) (by decide) (by decide)
    obtain ⟨b34, g34⟩ : ∃ z, z = T29.heap.size := ⟨_, rfl⟩
    rw [← g34] at A34 D34 st34
    refine own_st st34 ?_
    have ne35 : b29_b ≠ b34 := Nat.ne_of_lt (Nat.lt_of_lt_of_le fq29_0.lt (Nat.le_of_eq g34.symm))
    have f36 := f31.ext E34
    have f37 := fq29_0.ext E34
    have gx38 : n0 ≤ b34 := Nat.le_trans Z32 (Nat.le_of_eq g34.symm)
    have Z39 : n0 ≤ h34.size := Nat.le_trans Z32 E34.1
    have f40 : Fld Z h34 b34 "com/example/refill/refill/SlidingLog$Rule" "name" "Ljava/lang/String;" .null := D34 (Or.inr (hw _ (List.mem_of_getElem? (i := 49) rfl))) (ty := (.object "java/lang/String")) (by decide)
    have f41 : Fld Z h34 b34 "com/example/refill/refill/SlidingLog$Rule" "limit" "J" (.long (0 : Int64)) := D34 (Or.inr (hw _ (List.mem_of_getElem? (i := 51) rfl))) (ty := .long) (by decide)
    have f42 : Fld Z h34 b34 "com/example/refill/refill/SlidingLog$Rule" "windowMicros" "J" (.long (0 : Int64)) := D34 (Or.inr (hw _ (List.mem_of_getElem? (i := 53) rfl))) (ty := .long) (by decide)
    show own_Go _ _ _ _ T34 (mkF m 137 _ [(.ref b34)])
    refine own_st (fun t k => XS.dup X34.here hx rfl (hb hby at_137) rfl rfl k) ?_
    show own_Go _ _ _ _ T34 (mkF m 138 _ [(.ref b34), (.ref b34)])
    refine own_st (fun t k => XS.aload X34.here hx rfl (hb hby at_138) rfl rfl k) ?_
    show own_Go _ _ _ _ T34 (mkF m 140 _ [(.ref b29_b), (.ref b34), (.ref b34)])
    refine own_st (fun t k => XS.lload X34.here hx rfl (hb hby at_140) rfl k) ?_
    show own_Go _ _ _ _ T34 (mkF m 142 _ [(.long v3), (.ref b29_b), (.ref b34), (.ref b34)])
    refine own_st (fun t k => XS.lload X34.here hx rfl (hb hby at_142) rfl k) ?_
    show own_Go _ _ _ _ T34 (mkF m 144 _ [(.long v27), (.long v3), (.ref b29_b), (.ref b34), (.ref b34)])
    obtain ⟨_, _, ⟨T43, L43, k43, n43⟩, -, X43, ⟨Lc43, hQ43, l43, y43, z43⟩, st43⟩ := X34.specialBack hx (y := (⟨"com/example/refill/refill/SlidingLog$Rule", "<init>", "(Ljava/lang/String;JJ)V"⟩ : MethodName)) rfl hown (mvT hZ (hw _ (List.mem_of_getElem? (i := 39) rfl))) (mvT hZ (hw _ (List.mem_of_getElem? (i := 40) rfl))) (mvT hZ (hw _ (List.mem_of_getElem? (i := 41) rfl))) (by decide) (backOf (W := 1) (rm8 l Z a0 hw [] b34 b29_b v3 v27 (.null) (.long (0 : Int64)) (.long (0 : Int64)) h34 n0 Z39 A34 f40 f41 f42 gx38) hZ (hw _ (List.mem_of_getElem? (i := 41) rfl)) (hw _ (List.mem_of_getElem? (i := 38) rfl)) (by decide) (by decide)) (g := (mkF m 144 #[.val (.long x0), .second, .val (.long x1), .second, .val (.int x2), .val (.long x3), .second, .val (.int x4), .val (.int x5), .val (.long v3), .second, .val (.long v6), .second, .val (.int v7), .val (.long p21), .second, .val (.long v27), .second, .val (.ref b29_b), .unset, .unset] [(.long v27), (.long v3), (.ref b29_b), (.ref b34), (.ref b34)])) rfl (by rw [hml]; rfl) (Steps.refl _) (a := b34) (argsL := [(.ref b29_b), (.long v3), (.long v27)]) (rest := [(.ref b34)]) (lenOf own_pd__Ljava_lang_String_JJ_V rfl) rfl (by show 2 * 0 + _ ≤ _; exact Nat.le_of_eq rfl) (hb hby at_144) (fun _ _ => ⟨rfl, e34, (by decide : 3 + 0 ≤ _), (by decide : 8 + 0 ≤ _)⟩)
    dsimp only [Pt.U, Pt.locs, Pt.cells, Pt.slots] at X43 l43 y43 z43 st43 hQ43
    subst l43 y43 z43
    obtain ⟨rfl, NQ43, K43, fq43_0, fq43_1, fq43_2, fq43_3⟩ := hQ43
    have N44 := Fr.app N30 NQ43
    refine own_st (fun t k => st43.trans k) ?_
    have f45 := own_staK f36 K43 (allS ⟨_, A34⟩ all0)
    have f46 := f37.keep K43
    have f47 := A34.keep K43
    have Z48 : n0 ≤ T43.heap.size := Nat.le_trans Z39 K43.1
    show own_Go _ _ _ _ T43 (mkF m 147 _ [(.ref b34)])
    refine own_st (fun t k => XS.astore X43.here hx rfl (hb hby at_147) rfl rfl (l' := #[.val (.long x0), .second, .val (.long x1), .second, .val (.int x2), .val (.long x3), .second, .val (.int x4), .val (.int x5), .val (.long v3), .second, .val (.long v6), .second, .val (.int v7), .val (.long p21), .second, .val (.long v27), .second, .val (.ref b29_b), .val (.ref b34), .unset]) rfl k) ?_
    show own_Go _ _ _ _ T43 (mkF m 149 #[.val (.long x0), .second, .val (.long x1), .second, .val (.int x2), .val (.long x3), .second, .val (.int x4), .val (.int x5), .val (.long v3), .second, .val (.long v6), .second, .val (.int v7), .val (.long p21), .second, .val (.long v27), .second, .val (.ref b29_b), .val (.ref b34), .unset] [])
    refine own_st (fun t k => XS.iload X43.here hx rfl (hb hby at_149) rfl k) ?_
    show own_Go _ _ _ _ T43 (mkF m 151 _ [(.int v7)])
    refine own_st (fun t k => XS.i2l X43.here hx rfl (hb hby at_151) rfl k) ?_
    show own_Go _ _ _ _ T43 (mkF m 152 _ [(.long v7.toInt64)])
    refine own_st (fun t k => XS.lload X43.here hx rfl (hb hby at_152) rfl k) ?_
    show own_Go _ _ _ _ T43 (mkF m 154 _ [(.long v3), (.long v7.toInt64)])
    refine own_st (fun t k => XS.lload X43.here hx rfl (hb hby at_154) rfl k) ?_
    show own_Go _ _ _ _ T43 (mkF m 156 _ [(.long p21), (.long v3), (.long v7.toInt64)])
    refine own_st (fun t k => XS.lsub X43.here hx rfl (hb hby at_156) rfl k) ?_
    show own_Go _ _ _ _ T43 (mkF m 157 _ [(.long (v3 - p21)), (.long v7.toInt64)])
    refine own_st (fun t k => XS.lcmp X43.here hx rfl (hb hby at_157) rfl k) ?_
    show own_Go _ _ _ _ T43 (mkF m 158 _ [(.int (lcmpW v7.toInt64 (v3 - p21)))])
    have J52 : ∀ (Tj52 : State) (Lj52 : List Loc) (p53 : Int32), Stand p l e room_1 s m #[(.long x0), (.long x1), (.int x2), (.long x3), (.int x4), (.int x5)] below meth c Tj52 Lj52 3 8 → Tj52.heap = T43.heap → Fr n0 Lj52 → p53 = (if (v3 - p21) < v7.toInt64 then (0 : Int32) else (1 : Int32)) → own_Go p.tables e below Pq Tj52 (mkF m 166 #[.val (.long x0), .second, .val (.long x1), .second, .val (.int x2), .val (.long x3), .second, .val (.int x4), .val (.int x5), .val (.long v3), .second, .val (.long v6), .second, .val (.int v7), .val (.long p21), .second, .val (.long v27), .second, .val (.ref b29_b), .val (.ref b34), .unset] [(.int p53)]) := by
      intro Tj52 Lj52 p53 Xj52 ej52 Nj52 qp53
      show own_Go _ _ _ _ Tj52 (mkF m 166 _ [(.int p53)])
      refine own_st (fun t k => XS.istore Xj52.here hx rfl (hb hby at_166) rfl (l' := #[.val (.long x0), .second, .val (.long x1), .second, .val (.int x2), .val (.long x3), .second, .val (.int x4), .val (.int x5), .val (.long v3), .second, .val (.long v6), .second, .val (.int v7), .val (.long p21), .second, .val (.long v27), .second, .val (.ref b29_b), .val (.ref b34), .val (.int p53)]) rfl k) ?_
      show own_Go _ _ _ _ Tj52 (mkF m 168 #[.val (.long x0), .second, .val (.long x1), .second, .val (.int x2), .val (.long x3), .second, .val (.int x4), .val (.int x5), .val (.long v3), .second, .val (.long v6), .second, .val (.int v7), .val (.long p21), .second, .val (.long v27), .second, .val (.ref b29_b), .val (.ref b34), .val (.int p53)] [])
      refine own_st (fun t k => XS.aload Xj52.here hx rfl (hb hby at_168) rfl rfl k) ?_
      show own_Go _ _ _ _ Tj52 (mkF m 170 _ [(.ref b34)])
      refine own_st (fun t k => XS.lload Xj52.here hx rfl (hb hby at_170) rfl k) ?_
      show own_Go _ _ _ _ Tj52 (mkF m 172 _ [(.long p21), (.ref b34)])
      refine own_st (fun t k => XS.iload Xj52.here hx rfl (hb hby at_172) rfl k) ?_
      show own_Go _ _ _ _ Tj52 (mkF m 174 _ [(.int v7), (.long p21), (.ref b34)])
      obtain ⟨cq54, kq54, q54a, q54b, q54c⟩ := isOf hZ ej52 fq43_0
      obtain ⟨_, _, ⟨T54, L54, k54, n54⟩, -, X54, ⟨Lc54, hQ54, l54, y54, z54⟩, st54⟩ := Xj52.virtualBack hx (y := (⟨"com/example/refill/refill/SlidingLog$Rule", "fits", "(JI)Z"⟩ : MethodName)) (z := (⟨"com/example/refill/refill/SlidingLog$Rule", "fits", "(JI)Z"⟩ : MethodName)) hown (mvT hZ (hw _ (List.mem_of_getElem? (i := 54) rfl))) (mvT hZ (hw _ (List.mem_of_getElem? (i := 55) rfl))) (notFace_of_selects (args := #[]) (mvT hZ (hw _ (List.mem_of_getElem? (i := 57) rfl)))) (mvT hZ (hw _ (List.mem_of_getElem? (i := 57) rfl))) (mvT hZ (hw _ (List.mem_of_getElem? (i := 56) rfl))) (by decide) (backOf (W := 0) (rm9 l Z a0 hw [] b34 p21 v7 v3 T43.heap n0 Z48 fq43_0 fq43_2) hZ (hw _ (List.mem_of_getElem? (i := 58) rfl)) (hw _ (List.mem_of_getElem? (i := 38) rfl)) (by decide) (by decide)) q54a q54c (g := (mkF m 174 #[.val (.long x0), .second, .val (.long x1), .second, .val (.int x2), .val (.long x3), .second, .val (.int x4), .val (.int x5), .val (.long v3), .second, .val (.long v6), .second, .val (.int v7), .val (.long p21), .second, .val (.long v27), .second, .val (.ref b29_b), .val (.ref b34), .val (.int p53)] [(.int v7), (.long p21), (.ref b34)])) rfl (by rw [hml]; rfl) (Steps.refl _) (argsL := [(.long p21), (.int v7)]) (rest := []) (lenOf own_pd__JI_Z rfl) rfl (by show 2 * 0 + _ ≤ _; exact Nat.le_of_eq rfl) (hb hby at_174) (fun _ _ => ⟨rfl, ej52, (by decide : 3 + 0 ≤ _), (by decide : 8 + 0 ≤ _)⟩)
      dsimp only [Pt.U, Pt.locs, Pt.cells, Pt.slots] at X54 l54 y54 z54 st54 hQ54
      subst l54 y54 z54
      obtain ⟨rfl, NQ54, eq54⟩ := hQ54
      have N55 := Fr.app Nj52 NQ54
      refine own_st (fun t k => st54.trans k) ?_
      show own_Go _ _ _ _ T54 (mkF m 177 _ [(.int (own_fits p21 v7 v3))])
      refine own_st (fun t k => XS.iload X54.here hx rfl (hb hby at_177) rfl k) ?_
      show own_Go _ _ _ _ T54 (mkF m 179 _ [(.int p53), (.int (own_fits p21 v7 v3))])
      have J59 : ∀ (Tj59 : State) (Lj59 : List Loc) (p60 : Int32), Stand p l e room_1 s m #[(.long x0), (.long x1), (.int x2), (.long x3), (.int x4), (.int x5)] below meth c Tj59 Lj59 3 8 → Tj59.heap = T43.heap → Fr n0 Lj59 → p60 = (if (own_fits p21 v7 v3) = p53 then (1 : Int32) else (0 : Int32)) → own_Go p.tables e below Pq Tj59 (mkF m 187 #[.val (.long x0), .second, .val (.long x1), .second, .val (.int x2), .val (.long x3), .second, .val (.int x4), .val (.int x5), .val (.long v3), .second, .val (.long v6), .second, .val (.int v7), .val (.long p21), .second, .val (.long v27), .second, .val (.ref b29_b), .val (.ref b34), .val (.int p53)] [(.int p60)]) := by
        intro Tj59 Lj59 p60 Xj59 ej59 Nj59 qp60
        show own_Go _ _ _ _ Tj59 (mkF m 187 _ [(.int p60)])
        subst hPq
        refine own_out Xj59 (v := some (.int (nar .boolean p60))) (fun h => by rw [Bd.returns] at h; cases h) Bd.notSynchronized (fun fs hr => retN Xj59 hx (t := .boolean) Bd.returns (by simp) (hb hby at_187) hr) (by decide) (by decide) ?_
        show Q0 Z x0 x1 x2 x3 x4 x5 cs h0 n0 _ Tj59.heap _
        rw [ej59]
        exact ⟨congrArg (fun z => some (Value.int (nar .boolean z))) (own_law x0 x1 x2 x3 x4 x5 cs v3 v6 v7 p21 p22 v27 p53 p60 hcs hv3 hv6 hv7 qp21 qp22 hv27 qp53 qp60), Nj59⟩
      by_cases c56 : (own_fits p21 v7 v3) = p53
      · skip
        refine own_st (fun t k => XS.icmpNo X54.here hx rfl (hb hby at_179) rfl (teq c56).2 k) ?_
        show own_Go _ _ _ _ T54 (mkF m 182 _ [])
        refine own_st (fun t k => XS.iconst X54.here hx rfl (hb hby at_182) k) ?_
        show own_Go _ _ _ _ T54 (mkF m 183 _ [(.int (1 : Int32))])
        refine own_st (fun t k => XS.goto X54.here hx rfl (pc0 := 183) (pc' := 187) rfl (hb hby at_183) (by decide) (by decide) k) ?_
        show own_Go _ _ _ _ T54 (mkF m 187 _ [(.int (1 : Int32))])
        exact J59 T54 _ _ X54 eq54 N55 (by simp only [if_pos c56])
      · skip
        refine own_st (fun t k => XS.icmpYes X54.here hx rfl (pc0 := 179) (pc' := 186) rfl (hb hby at_179) rfl (feq c56).2 (by decide) (by decide) k) ?_
        show own_Go _ _ _ _ T54 (mkF m 186 _ [])
        refine own_st (fun t k => XS.iconst X54.here hx rfl (hb hby at_186) k) ?_
        show own_Go _ _ _ _ T54 (mkF m 187 _ [(.int (0 : Int32))])
        exact J59 T54 _ _ X54 eq54 N55 (by simp only [if_neg c56])
    by_cases c49 : (v3 - p21) < v7.toInt64
    · skip
      refine own_st (fun t k => XS.ifYes X43.here hx rfl (pc0 := 158) (pc' := 165) rfl (hb hby at_158) rfl (own_lcT (cd := .gt) c49) (by decide) (by decide) k) ?_
      show own_Go _ _ _ _ T43 (mkF m 165 _ [])
      refine own_st (fun t k => XS.iconst X43.here hx rfl (hb hby at_165) k) ?_
      show own_Go _ _ _ _ T43 (mkF m 166 _ [(.int (0 : Int32))])
      exact J52 T43 _ _ X43 rfl N44 (by simp only [if_pos c49])
    · skip
      refine own_st (fun t k => XS.ifNo X43.here hx rfl (hb hby at_158) rfl (own_lcF (cd := .gt) c49) k) ?_
      show own_Go _ _ _ _ T43 (mkF m 161 _ [])
      refine own_st (fun t k => XS.iconst X43.here hx rfl (hb hby at_161) k) ?_
      show own_Go _ _ _ _ T43 (mkF m 162 _ [(.int (1 : Int32))])
      refine own_st (fun t k => XS.goto X43.here hx rfl (pc0 := 162) (pc' := 166) rfl (hb hby at_162) (by decide) (by decide) k) ?_
      show own_Go _ _ _ _ T43 (mkF m 166 _ [(.int (1 : Int32))])
      exact J52 T43 _ _ X43 rfl N44 (by simp only [if_neg c49])
  by_cases c8 : (x5 &&& (1 : Int32)) = (0 : Int32)
  · skip
    refine own_st (fun t k => XS.ifNo X4.here hx rfl (hb hby at_39) rfl ((if0 _ _).trans (teq c8).2) k) ?_
    show own_Go _ _ _ _ T4 (mkF m 42 _ [])
    refine own_st (fun t k => XS.lloadN X4.here hx rfl (hb hby at_42) rfl k) ?_
    show own_Go _ _ _ _ T4 (mkF m 43 _ [(.long x1)])
    refine own_st (fun t k => X4.ldc2Long hx hown (mvT hZ (hw _ (List.mem_of_getElem? (i := 0) rfl))) (g := (mkF m 43 #[.val (.long x0), .second, .val (.long x1), .second, .val (.int x2), .val (.long x3), .second, .val (.int x4), .val (.int x5), .val (.long v3), .second, .val (.long v6), .second, .val (.int v7), .unset, .unset, .unset, .unset, .unset, .unset, .unset] [(.long x1)])) rfl (hb hby at_43) _ k) ?_
    show own_Go _ _ _ _ T4 (mkF m 46 _ [(.long (9223372036854775807 : Int64)), (.long x1)])
    refine own_st (fun t k => XS.land X4.here hx rfl (hb hby at_46) rfl k) ?_
    show own_Go _ _ _ _ T4 (mkF m 47 _ [(.long (x1 &&& (9223372036854775807 : Int64)))])
    refine own_st (fun t k => XS.lstore X4.here hx rfl (hb hby at_47) rfl (l' := #[.val (.long x0), .second, .val (.long x1), .second, .val (.int x2), .val (.long x3), .second, .val (.int x4), .val (.int x5), .val (.long v3), .second, .val (.long v6), .second, .val (.int v7), .unset, .unset, .val (.long (x1 &&& (9223372036854775807 : Int64))), .second, .unset, .unset, .unset]) rfl k) ?_
    show own_Go _ _ _ _ T4 (mkF m 49 #[.val (.long x0), .second, .val (.long x1), .second, .val (.int x2), .val (.long x3), .second, .val (.int x4), .val (.int x5), .val (.long v3), .second, .val (.long v6), .second, .val (.int v7), .unset, .unset, .val (.long (x1 &&& (9223372036854775807 : Int64))), .second, .unset, .unset, .unset] [])
    refine own_st (fun t k => XS.lload X4.here hx rfl (hb hby at_49) rfl k) ?_
    show own_Go _ _ _ _ T4 (mkF m 51 _ [(.long v3)])
    refine own_st (fun t k => X4.ldc2Long hx hown (mvT hZ (hw _ (List.mem_of_getElem? (i := 0) rfl))) (g := (mkF m 51 #[.val (.long x0), .second, .val (.long x1), .second, .val (.int x2), .val (.long x3), .second, .val (.int x4), .val (.int x5), .val (.long v3), .second, .val (.long v6), .second, .val (.int v7), .unset, .unset, .val (.long (x1 &&& (9223372036854775807 : Int64))), .second, .unset, .unset, .unset] [(.long v3)])) rfl (hb hby at_51) _ k) ?_
    show own_Go _ _ _ _ T4 (mkF m 54 _ [(.long (9223372036854775807 : Int64)), (.long v3)])
    refine own_st (fun t k => XS.lcmp X4.here hx rfl (hb hby at_54) rfl k) ?_
    show own_Go _ _ _ _ T4 (mkF m 55 _ [(.int (lcmpW v3 (9223372036854775807 : Int64)))])
    have J12 : ∀ (Tj12 : State) (Lj12 : List Loc) (p13 : Int64), Stand p l e room_1 s m #[(.long x0), (.long x1), (.int x2), (.long x3), (.int x4), (.int x5)] below meth c Tj12 Lj12 0 0 → Tj12.heap = h0 → Fr n0 Lj12 → p13 = (if v3 = (9223372036854775807 : Int64) then (x1 &&& (9223372036854775807 : Int64)) else ((x1 &&& (9223372036854775807 : Int64)) - ((x1 &&& (9223372036854775807 : Int64)) / (v3 + (1 : Int64))) * (v3 + (1 : Int64)))) → own_Go p.tables e below Pq Tj12 (mkF m 70 #[.val (.long x0), .second, .val (.long x1), .second, .val (.int x2), .val (.long x3), .second, .val (.int x4), .val (.int x5), .val (.long v3), .second, .val (.long v6), .second, .val (.int v7), .unset, .unset, .val (.long (x1 &&& (9223372036854775807 : Int64))), .second, .unset, .unset, .unset] [(.long p13)]) := by
      intro Tj12 Lj12 p13 Xj12 ej12 Nj12 qp13
      show own_Go _ _ _ _ Tj12 (mkF m 70 _ [(.long p13)])
      refine own_st (fun t k => XS.lstore Xj12.here hx rfl (hb hby at_70) rfl (l' := #[.val (.long x0), .second, .val (.long x1), .second, .val (.int x2), .val (.long x3), .second, .val (.int x4), .val (.int x5), .val (.long v3), .second, .val (.long v6), .second, .val (.int v7), .val (.long p13), .second, .val (.long (x1 &&& (9223372036854775807 : Int64))), .second, .unset, .unset, .unset]) rfl k) ?_
      show own_Go _ _ _ _ Tj12 (mkF m 72 #[.val (.long x0), .second, .val (.long x1), .second, .val (.int x2), .val (.long x3), .second, .val (.int x4), .val (.int x5), .val (.long v3), .second, .val (.long v6), .second, .val (.int v7), .val (.long p13), .second, .val (.long (x1 &&& (9223372036854775807 : Int64))), .second, .unset, .unset, .unset] [])
      refine own_st (fun t k => XS.goto Xj12.here hx rfl (pc0 := 72) (pc' := 110) rfl (hb hby at_72) (by decide) (by decide) k) ?_
      show own_Go _ _ _ _ Tj12 (mkF m 110 _ [])
      exact J20 Tj12 _ _ _ _ _ (Xj12.mono (by decide) (by decide)) ej12 Nj12 (by simp only [if_pos c8, qp13]) (by simp only [if_pos c8]) (Or.inl ⟨rfl, rfl⟩)
    by_cases c9 : v3 = (9223372036854775807 : Int64)
    · skip
      refine own_st (fun t k => XS.ifNo X4.here hx rfl (hb hby at_55) rfl (own_lcF (cd := .ne) (not_not_intro c9)) k) ?_
      show own_Go _ _ _ _ T4 (mkF m 58 _ [])
      refine own_st (fun t k => XS.lload X4.here hx rfl (hb hby at_58) rfl k) ?_
      show own_Go _ _ _ _ T4 (mkF m 60 _ [(.long (x1 &&& (9223372036854775807 : Int64)))])
      refine own_st (fun t k => XS.goto X4.here hx rfl (pc0 := 60) (pc' := 70) rfl (hb hby at_60) (by decide) (by decide) k) ?_
      show own_Go _ _ _ _ T4 (mkF m 70 _ [(.long (x1 &&& (9223372036854775807 : Int64)))])
      exact J12 T4 _ _ X4 eq4 N5 (by simp only [if_pos c9])
    · skip
      refine own_st (fun t k => XS.ifYes X4.here hx rfl (pc0 := 55) (pc' := 63) rfl (hb hby at_55) rfl (own_lcT (cd := .ne) c9) (by decide) (by decide) k) ?_
      show own_Go _ _ _ _ T4 (mkF m 63 _ [])
      refine own_st (fun t k => XS.lload X4.here hx rfl (hb hby at_63) rfl k) ?_
      show own_Go _ _ _ _ T4 (mkF m 65 _ [(.long (x1 &&& (9223372036854775807 : Int64)))])
      refine own_st (fun t k => XS.lload X4.here hx rfl (hb hby at_65) rfl k) ?_
      show own_Go _ _ _ _ T4 (mkF m 67 _ [(.long v3), (.long (x1 &&& (9223372036854775807 : Int64)))])
      refine own_st (fun t k => XS.lconst X4.here hx rfl (hb hby at_67) k) ?_
      show own_Go _ _ _ _ T4 (mkF m 68 _ [(.long (1 : Int64)), (.long v3), (.long (x1 &&& (9223372036854775807 : Int64)))])
      refine own_st (fun t k => XS.ladd X4.here hx rfl (hb hby at_68) rfl k) ?_
      show own_Go _ _ _ _ T4 (mkF m 69 _ [(.long (v3 + (1 : Int64))), (.long (x1 &&& (9223372036854775807 : Int64)))])
      refine own_st (fun t k => XS.lrem X4.here hx rfl (hb hby at_69) rfl (own_nz1 (own_one _ _ hv3) c9) k) ?_
      show own_Go _ _ _ _ T4 (mkF m 70 _ [(.long ((x1 &&& (9223372036854775807 : Int64)) - ((x1 &&& (9223372036854775807 : Int64)) / (v3 + (1 : Int64))) * (v3 + (1 : Int64))))])
      exact J12 T4 _ _ X4 eq4 N5 (by simp only [if_neg c9])
  · skip
    refine own_st (fun t k => XS.ifYes X4.here hx rfl (pc0 := 39) (pc' := 75) rfl (hb hby at_39) rfl ((if0 _ _).trans (feq c8).2) (by decide) (by decide) k) ?_
    show own_Go _ _ _ _ T4 (mkF m 75 _ [])
    refine own_st (fun t k => XS.iload X4.here hx rfl (hb hby at_75) rfl k) ?_
    show own_Go _ _ _ _ T4 (mkF m 77 _ [(.int x5)])
    refine own_st (fun t k => XS.iconst X4.here hx rfl (hb hby at_77) k) ?_
    show own_Go _ _ _ _ T4 (mkF m 78 _ [(.int (1 : Int32)), (.int x5)])
    refine own_st (fun t k => XS.ishr X4.here hx rfl (hb hby at_78) rfl k) ?_
    show own_Go _ _ _ _ T4 (mkF m 79 _ [(.int (x5 >>> ((1 : Int32) &&& 31)))])
    refine own_st (fun t k => XS.iconst X4.here hx rfl (hb hby at_79) k) ?_
    show own_Go _ _ _ _ T4 (mkF m 80 _ [(.int (3 : Int32)), (.int (x5 >>> ((1 : Int32) &&& 31)))])
    refine own_st (fun t k => XS.iand X4.here hx rfl (hb hby at_80) rfl k) ?_
    show own_Go _ _ _ _ T4 (mkF m 81 _ [(.int ((x5 >>> ((1 : Int32) &&& 31)) &&& (3 : Int32)))])
    refine own_st (fun t k => XS.iconst X4.here hx rfl (hb hby at_81) k) ?_
    show own_Go _ _ _ _ T4 (mkF m 82 _ [(.int (2 : Int32)), (.int ((x5 >>> ((1 : Int32) &&& 31)) &&& (3 : Int32)))])
    refine own_st (fun t k => XS.isub X4.here hx rfl (hb hby at_82) rfl k) ?_
    show own_Go _ _ _ _ T4 (mkF m 83 _ [(.int (((x5 >>> ((1 : Int32) &&& 31)) &&& (3 : Int32)) - (2 : Int32)))])
    refine own_st (fun t k => XS.i2l X4.here hx rfl (hb hby at_83) rfl k) ?_
    show own_Go _ _ _ _ T4 (mkF m 84 _ [(.long (((x5 >>> ((1 : Int32) &&& 31)) &&& (3 : Int32)) - (2 : Int32)).toInt64)])
    refine own_st (fun t k => XS.lstore X4.here hx rfl (hb hby at_84) rfl (l' := #[.val (.long x0), .second, .val (.long x1), .second, .val (.int x2), .val (.long x3), .second, .val (.int x4), .val (.int x5), .val (.long v3), .second, .val (.long v6), .second, .val (.int v7), .unset, .unset, .val (.long (((x5 >>> ((1 : Int32) &&& 31)) &&& (3 : Int32)) - (2 : Int32)).toInt64), .second, .unset, .unset, .unset]) rfl k) ?_
    show own_Go _ _ _ _ T4 (mkF m 86 #[.val (.long x0), .second, .val (.long x1), .second, .val (.int x2), .val (.long x3), .second, .val (.int x4), .val (.int x5), .val (.long v3), .second, .val (.long v6), .second, .val (.int v7), .unset, .unset, .val (.long (((x5 >>> ((1 : Int32) &&& 31)) &&& (3 : Int32)) - (2 : Int32)).toInt64), .second, .unset, .unset, .unset] [])
    refine own_st (fun t k => XS.lload X4.here hx rfl (hb hby at_86) rfl k) ?_
    show own_Go _ _ _ _ T4 (mkF m 88 _ [(.long v3)])
    refine own_st (fun t k => XS.iload X4.here hx rfl (hb hby at_88) rfl k) ?_
    show own_Go _ _ _ _ T4 (mkF m 90 _ [(.int v7), (.long v3)])
    refine own_st (fun t k => XS.i2l X4.here hx rfl (hb hby at_90) rfl k) ?_
    show own_Go _ _ _ _ T4 (mkF m 91 _ [(.long v7.toInt64), (.long v3)])
    refine own_st (fun t k => XS.lsub X4.here hx rfl (hb hby at_91) rfl k) ?_
    show own_Go _ _ _ _ T4 (mkF m 92 _ [(.long (v3 - v7.toInt64))])
    refine own_st (fun t k => XS.lload X4.here hx rfl (hb hby at_92) rfl k) ?_
    show own_Go _ _ _ _ T4 (mkF m 94 _ [(.long (((x5 >>> ((1 : Int32) &&& 31)) &&& (3 : Int32)) - (2 : Int32)).toInt64), (.long (v3 - v7.toInt64))])
    refine own_st (fun t k => XS.ladd X4.here hx rfl (hb hby at_94) rfl k) ?_
    show own_Go _ _ _ _ T4 (mkF m 95 _ [(.long ((v3 - v7.toInt64) + (((x5 >>> ((1 : Int32) &&& 31)) &&& (3 : Int32)) - (2 : Int32)).toInt64))])
    refine own_st (fun t k => XS.lstore X4.here hx rfl (hb hby at_95) rfl (l' := #[.val (.long x0), .second, .val (.long x1), .second, .val (.int x2), .val (.long x3), .second, .val (.int x4), .val (.int x5), .val (.long v3), .second, .val (.long v6), .second, .val (.int v7), .unset, .unset, .val (.long (((x5 >>> ((1 : Int32) &&& 31)) &&& (3 : Int32)) - (2 : Int32)).toInt64), .second, .val (.long ((v3 - v7.toInt64) + (((x5 >>> ((1 : Int32) &&& 31)) &&& (3 : Int32)) - (2 : Int32)).toInt64)), .second, .unset]) rfl k) ?_
    show own_Go _ _ _ _ T4 (mkF m 97 #[.val (.long x0), .second, .val (.long x1), .second, .val (.int x2), .val (.long x3), .second, .val (.int x4), .val (.int x5), .val (.long v3), .second, .val (.long v6), .second, .val (.int v7), .unset, .unset, .val (.long (((x5 >>> ((1 : Int32) &&& 31)) &&& (3 : Int32)) - (2 : Int32)).toInt64), .second, .val (.long ((v3 - v7.toInt64) + (((x5 >>> ((1 : Int32) &&& 31)) &&& (3 : Int32)) - (2 : Int32)).toInt64)), .second, .unset] [])
    refine own_st (fun t k => XS.lload X4.here hx rfl (hb hby at_97) rfl k) ?_
    show own_Go _ _ _ _ T4 (mkF m 99 _ [(.long v3)])
    refine own_st (fun t k => XS.lconst X4.here hx rfl (hb hby at_99) k) ?_
    show own_Go _ _ _ _ T4 (mkF m 100 _ [(.long (0 : Int64)), (.long v3)])
    refine own_st (fun t k => XS.lload X4.here hx rfl (hb hby at_100) rfl k) ?_
    show own_Go _ _ _ _ T4 (mkF m 102 _ [(.long ((v3 - v7.toInt64) + (((x5 >>> ((1 : Int32) &&& 31)) &&& (3 : Int32)) - (2 : Int32)).toInt64)), (.long (0 : Int64)), (.long v3)])
    obtain ⟨_, _, ⟨T15, L15, k15, n15⟩, -, X15, ⟨Lc15, hQ15, l15, y15, z15⟩, st15⟩ := Jvm.LawKit.callS X4 hx (y := (⟨"java/lang/Math", "max", "(JJ)J"⟩ : MethodName)) hown (mvT hZ (hw _ (List.mem_of_getElem? (i := 1) rfl))) (mvT hZ (hw _ (List.mem_of_getElem? (i := 2) rfl))) (mvT hZ (hw _ (List.mem_of_getElem? (i := 3) rfl))) (mvT hZ (hw _ (List.mem_of_getElem? (i := 4) rfl))) (by decide) (backOf (W := 2) (rm1 l Z a0 hw [] (0 : Int64) ((v3 - v7.toInt64) + (((x5 >>> ((1 : Int32) &&& 31)) &&& (3 : Int32)) - (2 : Int32)).toInt64) h0 n0 Z0 ) hZ (hw _ (List.mem_of_getElem? (i := 4) rfl)) (hw _ (List.mem_of_getElem? (i := 3) rfl)) (by decide) (by decide)) (g := (mkF m 102 #[.val (.long x0), .second, .val (.long x1), .second, .val (.int x2), .val (.long x3), .second, .val (.int x4), .val (.int x5), .val (.long v3), .second, .val (.long v6), .second, .val (.int v7), .unset, .unset, .val (.long (((x5 >>> ((1 : Int32) &&& 31)) &&& (3 : Int32)) - (2 : Int32)).toInt64), .second, .val (.long ((v3 - v7.toInt64) + (((x5 >>> ((1 : Int32) &&& 31)) &&& (3 : Int32)) - (2 : Int32)).toInt64)), .second, .unset] [(.long ((v3 - v7.toInt64) + (((x5 >>> ((1 : Int32) &&& 31)) &&& (3 : Int32)) - (2 : Int32)).toInt64)), (.long (0 : Int64)), (.long v3)])) rfl (by rw [hml]; rfl) (argsL := [(.long (0 : Int64)), (.long ((v3 - v7.toInt64) + (((x5 >>> ((1 : Int32) &&& 31)) &&& (3 : Int32)) - (2 : Int32)).toInt64))]) (rest := [(.long v3)]) (lenOf own_pd__JJ_J rfl) rfl (by show 2 * 0 + _ ≤ _; exact Nat.le_of_eq rfl) (hb hby at_102) (fun _ _ => ⟨rfl, eq4, (by decide : 0 + 0 ≤ _), (by decide : 0 + 0 ≤ _)⟩)
    dsimp only [Pt.U, Pt.locs, Pt.cells, Pt.slots] at X15 l15 y15 z15 st15 hQ15
    subst l15 y15 z15
    obtain ⟨rfl, NQ15, eq15⟩ := hQ15
    have N16 := Fr.app N5 NQ15
    refine own_st st15 ?_
    show own_Go _ _ _ _ T15 (mkF m 105 _ [(.long (own_max (0 : Int64) ((v3 - v7.toInt64) + (((x5 >>> ((1 : Int32) &&& 31)) &&& (3 : Int32)) - (2 : Int32)).toInt64))), (.long v3)])
    obtain ⟨_, _, ⟨T17, L17, k17, n17⟩, -, X17, ⟨Lc17, hQ17, l17, y17, z17⟩, st17⟩ := Jvm.LawKit.callS X15 hx (y := (⟨"java/lang/Math", "min", "(JJ)J"⟩ : MethodName)) hown (mvT hZ (hw _ (List.mem_of_getElem? (i := 6) rfl))) (mvT hZ (hw _ (List.mem_of_getElem? (i := 7) rfl))) (mvT hZ (hw _ (List.mem_of_getElem? (i := 3) rfl))) (mvT hZ (hw _ (List.mem_of_getElem? (i := 8) rfl))) (by decide) (backOf (W := 0) (rm2 l Z a0 hw [] v3 (own_max (0 : Int64) ((v3 - v7.toInt64) + (((x5 >>> ((1 : Int32) &&& 31)) &&& (3 : Int32)) - (2 : Int32)).toInt64)) h0 n0 Z0 ) hZ (hw _ (List.mem_of_getElem? (i := 8) rfl)) (hw _ (List.mem_of_getElem? (i := 3) rfl)) (by decide) (by decide)) (g := (mkF m 105 #[.val (.long x0), .second, .val (.long x1), .second, .val (.int x2), .val (.long x3), .second, .val (.int x4), .val (.int x5), .val (.long v3), .second, .val (.long v6), .second, .val (.int v7), .unset, .unset, .val (.long (((x5 >>> ((1 : Int32) &&& 31)) &&& (3 : Int32)) - (2 : Int32)).toInt64), .second, .val (.long ((v3 - v7.toInt64) + (((x5 >>> ((1 : Int32) &&& 31)) &&& (3 : Int32)) - (2 : Int32)).toInt64)), .second, .unset] [(.long (own_max (0 : Int64) ((v3 - v7.toInt64) + (((x5 >>> ((1 : Int32) &&& 31)) &&& (3 : Int32)) - (2 : Int32)).toInt64))), (.long v3)])) rfl (by rw [hml]; rfl) (argsL := [(.long v3), (.long (own_max (0 : Int64) ((v3 - v7.toInt64) + (((x5 >>> ((1 : Int32) &&& 31)) &&& (3 : Int32)) - (2 : Int32)).toInt64)))]) (rest := []) (lenOf own_pd__JJ_J rfl) rfl (by show 2 * 0 + _ ≤ _; exact Nat.le_of_eq rfl) (hb hby at_105) (fun _ _ => ⟨rfl, eq15, (by decide : 0 + 0 ≤ _), (by decide : 0 + 0 ≤ _)⟩)
    dsimp only [Pt.U, Pt.locs, Pt.cells, Pt.slots] at X17 l17 y17 z17 st17 hQ17
    subst l17 y17 z17
    obtain ⟨rfl, NQ17, eq17⟩ := hQ17
    have N18 := Fr.app N16 NQ17
    refine own_st st17 ?_
    show own_Go _ _ _ _ T17 (mkF m 108 _ [(.long (own_min v3 (own_max (0 : Int64) ((v3 - v7.toInt64) + (((x5 >>> ((1 : Int32) &&& 31)) &&& (3 : Int32)) - (2 : Int32)).toInt64))))])
    refine own_st (fun t k => XS.lstore X17.here hx rfl (hb hby at_108) rfl (l' := #[.val (.long x0), .second, .val (.long x1), .second, .val (.int x2), .val (.long x3), .second, .val (.int x4), .val (.int x5), .val (.long v3), .second, .val (.long v6), .second, .val (.int v7), .val (.long (own_min v3 (own_max (0 : Int64) ((v3 - v7.toInt64) + (((x5 >>> ((1 : Int32) &&& 31)) &&& (3 : Int32)) - (2 : Int32)).toInt64)))), .second, .val (.long (((x5 >>> ((1 : Int32) &&& 31)) &&& (3 : Int32)) - (2 : Int32)).toInt64), .second, .val (.long ((v3 - v7.toInt64) + (((x5 >>> ((1 : Int32) &&& 31)) &&& (3 : Int32)) - (2 : Int32)).toInt64)), .second, .unset]) rfl k) ?_
    show own_Go _ _ _ _ T17 (mkF m 110 #[.val (.long x0), .second, .val (.long x1), .second, .val (.int x2), .val (.long x3), .second, .val (.int x4), .val (.int x5), .val (.long v3), .second, .val (.long v6), .second, .val (.int v7), .val (.long (own_min v3 (own_max (0 : Int64) ((v3 - v7.toInt64) + (((x5 >>> ((1 : Int32) &&& 31)) &&& (3 : Int32)) - (2 : Int32)).toInt64)))), .second, .val (.long (((x5 >>> ((1 : Int32) &&& 31)) &&& (3 : Int32)) - (2 : Int32)).toInt64), .second, .val (.long ((v3 - v7.toInt64) + (((x5 >>> ((1 : Int32) &&& 31)) &&& (3 : Int32)) - (2 : Int32)).toInt64)), .second, .unset] [])
    exact J20 T17 _ _ _ _ _ (X17.mono (by decide) (by decide)) eq17 N18 (by simp only [if_neg c8]) (by simp only [if_neg c8]) (Or.inr (⟨((v3 - v7.toInt64) + (((x5 >>> ((1 : Int32) &&& 31)) &&& (3 : Int32)) - (2 : Int32)).toInt64), rfl, rfl⟩))
set_option maxRecDepth 65536 in
set_option maxHeartbeats 4000000 in
theorem own_comes {Post : Tables → Env → Array Value → State → Outcome → State → Prop} (hpost : ∀ tb e args s v u, (limb_1_1.after args s (.returned v) u = true ∧ limb_1_2.after args s (.returned v) u = true ∧ True) → FrameEnd s (.returned v) u (Jvm.fieldLocs frame_1_writes args s ++ Jvm.arrayLocs frame_1_arrays args s ++ Jvm.staticLocs frame_1_statics s) 16 128 → Post tb e args s (.returned v) u) :
    ArmFor flags0 classFile x code maxLocals ret World_1 tables_1 room_1 Calls_1 rest_1 Pre_1 Post := by
  intro l hfl _ _ p e ha hc hk s m args below hf hA hF happ hP
  obtain ⟨hcalls, hrest, hpre⟩ := hP
  obtain ⟨-, -, -, hnamed, -, -, -, hat⟩ := (Spec.applies_iff hf).mp happ
  obtain ⟨hg, hn⟩ := and_e (Cond.before_iff.mp (show (Jvm.Cond.and given_1 narrow_1).before args s = true from hpre))
  obtain ⟨g0, r0⟩ := and_e hg
  obtain ⟨g1, r1⟩ := and_e r0
  obtain ⟨g2, r2⟩ := and_e r1
  obtain ⟨g3, r3⟩ := and_e r2
  obtain ⟨g4, r4⟩ := and_e r3
  obtain ⟨g5, r5⟩ := and_e r4
  obtain ⟨w0, w1, w2, w3, w4, w5, rfl⟩ : ∃ w0 w1 w2 w3 w4 w5 : Value, args = #[w0, w1, w2, w3, w4, w5] := by
    have hs : args.size = 6 := by simpa [Cond.value, given_1] using g0
    obtain ⟨L⟩ := args
    match L, hs with
    | [w0, w1, w2, w3, w4, w5], _ => exact ⟨w0, w1, w2, w3, w4, w5, rfl⟩
  have hw := fun d (hd : d ∈ tables_1) => atoms_spec (ws := Jvm.Cond.code x code maxLocals ret :: tables_1) hat d (List.mem_cons_of_mem _ hd)
  obtain ⟨hsets, hown0⟩ := atoms_of _ (rest_1_c_eq ▸ (show rest_1_c.before _ s = true from hrest))
  have z0 := hsets _ (List.mem_of_getElem? (i := 0) rfl)
  obtain ⟨cs, ecs⟩ := is_v (Cond.before_iff.mp (hsets _ (List.mem_of_getElem? (i := 1) rfl)))
  have z2 := not_v (Cond.before_iff.mp (hsets _ (List.mem_of_getElem? (i := 2) rfl)))
  have hcs : ¬ cs = 0 := fun q => by subst q; rw [eq_i ecs (Term.int_eval 0) rfl] at z2; cases z2
  have SC := Sta.start ecs (Or.inl z0)
  obtain ⟨i0, ei0⟩ := isL_v g1
  obtain rfl : w0 = (.long i0) := Option.some.inj ei0
  obtain ⟨i1, ei1⟩ := isL_v g2
  obtain rfl : w1 = (.long i1) := Option.some.inj ei1
  obtain ⟨i2, ei2⟩ := is_v g3
  obtain rfl : w2 = (.int i2) := Option.some.inj ei2
  obtain ⟨i3, ei3⟩ := isL_v g4
  obtain rfl : w3 = (.long i3) := Option.some.inj ei3
  obtain ⟨i4, ei4⟩ := is_v g5
  obtain rfl : w4 = (.int i4) := Option.some.inj ei4
  obtain ⟨i5, ei5⟩ := is_v r5
  obtain rfl : w5 = (.int i5) := Option.some.inj ei5
  obtain ⟨n, o, h1, h2, h3, _, L, rfl, ⟨rfl, N⟩, hq⟩ := rm0 l s _ hw tables_1 i0 i1 i2 i3 i4 i5 cs s.heap s.heap.size (Nat.le_refl _) SC hcs p e ha hc hk s m _ below hf ((Spec.applies_iff_loose hf).mp happ).1 ⟨rfl, State.Warmed39.refl s, rfl⟩ trivial
  refine ⟨n, _, h1, h2, h3, hpost _ _ _ _ _ _ ⟨Cond.after_iff.mpr rfl, Cond.after_iff.mpr (eq_i res_at (Term.int_eval (1)) rfl), trivial⟩ ⟨hq.1, hq.2.1, (hq.2.2.sift fun y hy => Or.inr (N y hy)).mono (by decide) (by decide)⟩⟩
theorem main_1_1 : Claimed_1_1 := own_comes fun _ _ _ _ _ _ h hF => ⟨h.1, hF⟩
theorem main_1_2 : Claimed_1_2 := own_comes fun _ _ _ _ _ _ h hF => ⟨h.2.1, hF⟩
end Jvm.Pilot.@@N@@
namespace Jvm.Pilot.@@N@@
open Jvm Jvm.ClassFile Sem Op Lib Jvm.Free Jvm.Stand Jvm.Pilot.@@N@@.Jvm.D
/-! MADE BY PROGRAM (witnessworld.py) out of the Statement's table words and the real class files: 19 classes; the members and pool entries that the words name. The judged class is class 1, her method 1. -/
namespace start1
open Jvm.ClassFile
def u (s : String) : CpInfo := .utf8 (stringToUtf16 s)
/-- a pool by its gaps: so many unusable entries, then the entry; so many at the end -/
def gap : Nat → List CpInfo → List CpInfo
  | 0, r => r
  | n + 1, r => .unusable :: gap n r
def poolList (es : List (Nat × CpInfo)) (last : Nat) : List CpInfo := es.foldr (fun e r => gap e.1 (e.2 :: r)) (gap last [])
def pool (es : List (Nat × CpInfo)) (last : Nat) : Array CpInfo := ⟨poolList es last⟩
def fileOf (pool : Array CpInfo) (this : Nat) (attrs : Array Attribute := #[]) (ms : Array MethodInfo := #[]) (fl : Nat := 33) (sup : Nat := 0) (ifs : Array Nat := #[]) (fds : Array FieldInfo := #[]) : ClassFile where
  minorVersion := 0
  majorVersion := 65
  constantPool := pool
  accessFlags := fl
  thisClass := this
  superClass := sup
  interfaces := ifs
  fields := fds
  methods := ms
  attributes := attrs
def plain (name : String) (sup : Option ClassId) : Class where
  name := name
  kind := .ordinary
  loader := none
  accessFlags := 33
  super := sup
  interfaces := #[]
  cf := none
  fields := #[]
  methods := #[]
  instanceTypes := #[]
  staticTypes := #[]
  resolved := #[]
  callSites := []
  init := .initialized
  statics := none
  mirror := none

def pool0 : Array CpInfo := pool [(5, u "<init>"), (0, u "()V"), (1, .class_ 10), (1, u "java/lang/Object")] 113

def k0c0 : Code := { maxStack := 0, maxLocals := 1, code := object_method_1_code, exceptionTable := #[], attributes := #[] }
def k0m0 : Method := { name := "<init>", desc := "()V", sig := { parameters := [], returnType := none }, accessFlags := 1, code := some k0c0 }
/-- java/lang/Object -/
def k0 : Class := { plain "java/lang/Object" none with
  accessFlags := 33
  interfaces := #[]
  cf := some (fileOf pool0 8 #[] #[{ accessFlags := 1, nameIndex := 5, descriptorIndex := 6, attributes := #[] }] 33 0 #[] #[])
  fields := #[]
  methods := #[k0m0]
  instanceTypes := #[]
  staticTypes := #[]
  resolved := Array.replicate 124 none
  statics := none }

def pool1 : Array CpInfo := pool [(2, .class_ 4), (1, u "java/lang/Object"), (0, u "<init>"), (0, u "()V"), (2, .long 9223372036854775807), (1, .methodref 12 13), (0, .class_ 14), (0, .nameAndType 15 16), (0, u "java/lang/Math"), (0, u "max"), (0, u "(JJ)J"), (2, .long 2147483647), (1, .methodref 12 22), (0, .nameAndType 23 16), (0, u "min"), (0, .integer 2147483647), (0, .methodref 26 27), (0, .class_ 28), (0, .nameAndType 29 30), (0, u "java/lang/String"), (0, u "valueOf"), (0, u "(C)Ljava/lang/String;"), (0, .class_ 32), (0, u "com/example/refill/refill/SlidingLog$Rule"), (0, .methodref 31 34), (0, .nameAndType 5 35), (0, u "(Ljava/lang/String;JJ)V"), (0, .methodref 31 37), (0, .nameAndType 38 39), (0, u "fits"), (0, u "(JI)Z"), (0, .class_ 41), (0, u "com/example/refill/refill/RuleFitsPinLaw"), (2, u "law"), (0, u "(JJIJII)Z")] 7

def k1m0 : Method := { name := "<init>", desc := "()V", sig := { parameters := [], returnType := none }, accessFlags := 1, code := none }
def k1c1 : Code := { maxStack := 7, maxLocals := 21, code := code, exceptionTable := #[], attributes := #[] }
def k1m1 : Method := { name := "law", desc := "(JJIJII)Z", sig := { parameters := [.long, .long, .int, .long, .int, .int], returnType := some .boolean }, accessFlags := 9, code := some k1c1 }
/-- com/example/refill/refill/RuleFitsPinLaw -/
def k1 : Class := { plain "com/example/refill/refill/RuleFitsPinLaw" (some 0) with
  accessFlags := 49
  interfaces := #[]
  cf := some (fileOf pool1 40 #[] #[{ accessFlags := 1, nameIndex := 5, descriptorIndex := 6, attributes := #[] }, { accessFlags := 9, nameIndex := 44, descriptorIndex := 45, attributes := #[] }] 49 2 #[] #[])
  fields := #[]
  methods := #[k1m0, k1m1]
  instanceTypes := #[]
  staticTypes := #[]
  resolved := Array.replicate 53 none
  statics := none }

def pool2 : Array CpInfo := pool [(1, .class_ 2), (0, u "java/lang/Math"), (1, .class_ 6), (1, u "java/lang/Object"), (0, u "<init>"), (0, u "()V"), (89, .class_ 100), (1, u "java/lang/Math$RandomNumberGeneratorHolder"), (20, u "(JJ)J"), (50, u "negativeZeroFloatBits"), (0, u "J"), (2, u "negativeZeroDoubleBits"), (21, u "max"), (2, u "min"), (43, u "$assertionsDisabled"), (0, u "Z"), (91, u "twoToTheDoubleScaleDown"), (0, u "D"), (4, u "twoToTheDoubleScaleUp"), (9, u "E"), (3, u "PI"), (2, u "TAU"), (2, u "DEGREES_TO_RADIANS"), (0, u "RADIANS_TO_DEGREES")] 94

def k2m0 : Method := { name := "<init>", desc := "()V", sig := { parameters := [], returnType := none }, accessFlags := 2, code := none }
def k2c1 : Code := { maxStack := 4, maxLocals := 4, code := jdk_29_method_66_code, exceptionTable := #[], attributes := #[] }
def k2m1 : Method := { name := "max", desc := "(JJ)J", sig := { parameters := [.long, .long], returnType := some .long }, accessFlags := 9, code := some k2c1 }
def k2c2 : Code := { maxStack := 4, maxLocals := 4, code := jdk_29_method_70_code, exceptionTable := #[], attributes := #[] }
def k2m2 : Method := { name := "min", desc := "(JJ)J", sig := { parameters := [.long, .long], returnType := some .long }, accessFlags := 9, code := some k2c2 }
/-- java/lang/Math -/
def k2 : Class := { plain "java/lang/Math" (some 0) with
  accessFlags := 49
  interfaces := #[]
  cf := some (fileOf pool2 1 #[.nestMembers #[98]] #[{ accessFlags := 2, nameIndex := 7, descriptorIndex := 8, attributes := #[] }, { accessFlags := 9, nameIndex := 198, descriptorIndex := 121, attributes := #[] }, { accessFlags := 9, nameIndex := 201, descriptorIndex := 121, attributes := #[] }] 49 4 #[] #[{ accessFlags := 25, nameIndex := 354, descriptorIndex := 339, attributes := #[] }, { accessFlags := 25, nameIndex := 358, descriptorIndex := 339, attributes := #[] }, { accessFlags := 25, nameIndex := 361, descriptorIndex := 339, attributes := #[] }, { accessFlags := 26, nameIndex := 364, descriptorIndex := 339, attributes := #[] }, { accessFlags := 26, nameIndex := 365, descriptorIndex := 339, attributes := #[] }, { accessFlags := 26, nameIndex := 172, descriptorIndex := 173, attributes := #[] }, { accessFlags := 26, nameIndex := 176, descriptorIndex := 173, attributes := #[] }, { accessFlags := 8, nameIndex := 344, descriptorIndex := 339, attributes := #[] }, { accessFlags := 8, nameIndex := 338, descriptorIndex := 339, attributes := #[] }, { accessFlags := 4120, nameIndex := 245, descriptorIndex := 246, attributes := #[] }])
  fields := #[{ name := "E", type := .double, accessFlags := 25, slot := 0, constantValue := 0 }, { name := "PI", type := .double, accessFlags := 25, slot := 1, constantValue := 0 }, { name := "TAU", type := .double, accessFlags := 25, slot := 2, constantValue := 0 }, { name := "DEGREES_TO_RADIANS", type := .double, accessFlags := 26, slot := 3, constantValue := 0 }, { name := "RADIANS_TO_DEGREES", type := .double, accessFlags := 26, slot := 4, constantValue := 0 }, { name := "negativeZeroFloatBits", type := .long, accessFlags := 26, slot := 5, constantValue := 0 }, { name := "negativeZeroDoubleBits", type := .long, accessFlags := 26, slot := 6, constantValue := 0 }, { name := "twoToTheDoubleScaleUp", type := .double, accessFlags := 8, slot := 7, constantValue := 0 }, { name := "twoToTheDoubleScaleDown", type := .double, accessFlags := 8, slot := 8, constantValue := 0 }, { name := "$assertionsDisabled", type := .boolean, accessFlags := 4120, slot := 9, constantValue := 0 }]
  methods := #[k2m0, k2m1, k2m2]
  instanceTypes := #[]
  staticTypes := #[.double, .double, .double, .double, .double, .long, .long, .double, .double, .boolean]
  resolved := Array.replicate 460 none
  statics := none }

def pool3 : Array CpInfo := pool [(1, .class_ 2), (0, u "java/io/Serializable"), (0, .class_ 4), (0, u "java/lang/Object")] 2

/-- java/io/Serializable -/
def k3 : Class := { plain "java/io/Serializable" (some 0) with
  accessFlags := 1537
  interfaces := #[]
  cf := some (fileOf pool3 1 #[] #[] 1537 3 #[] #[])
  fields := #[]
  methods := #[]
  instanceTypes := #[]
  staticTypes := #[]
  resolved := Array.replicate 7 none
  statics := none }

def pool4 : Array CpInfo := pool [(1, .class_ 2), (0, u "java/lang/Comparable"), (0, .class_ 4), (0, u "java/lang/Object")] 7

/-- java/lang/Comparable -/
def k4 : Class := { plain "java/lang/Comparable" (some 0) with
  accessFlags := 1537
  interfaces := #[]
  cf := some (fileOf pool4 1 #[] #[] 1537 3 #[] #[])
  fields := #[]
  methods := #[]
  instanceTypes := #[]
  staticTypes := #[]
  resolved := Array.replicate 12 none
  statics := none }

def pool5 : Array CpInfo := pool [(2, .class_ 4), (1, u "java/lang/CharSequence"), (42, .class_ 48), (0, u "java/lang/CharSequence$1CodePointIterator"), (10, .class_ 60), (0, u "java/lang/CharSequence$1CharIterator"), (5, .class_ 67), (0, u "java/lang/Object")] 63

/-- java/lang/CharSequence -/
def k5 : Class := { plain "java/lang/CharSequence" (some 0) with
  accessFlags := 1537
  interfaces := #[]
  cf := some (fileOf pool5 2 #[.nestMembers #[47, 59]] #[] 1537 66 #[] #[])
  fields := #[]
  methods := #[]
  instanceTypes := #[]
  staticTypes := #[]
  resolved := Array.replicate 131 none
  statics := none }

def pool6 : Array CpInfo := pool [(1, .class_ 2), (0, u "java/lang/constant/Constable"), (0, .class_ 4), (0, u "java/lang/Object")] 6

/-- java/lang/constant/Constable -/
def k6 : Class := { plain "java/lang/constant/Constable" (some 0) with
  accessFlags := 1537
  interfaces := #[]
  cf := some (fileOf pool6 1 #[] #[] 1537 3 #[] #[])
  fields := #[]
  methods := #[]
  instanceTypes := #[]
  staticTypes := #[]
  resolved := Array.replicate 11 none
  statics := none }

def pool7 : Array CpInfo := pool [(1, .class_ 2), (0, u "java/lang/constant/ConstantDesc"), (0, .class_ 4), (0, u "java/lang/Object")] 32

/-- java/lang/constant/ConstantDesc -/
def k7 : Class := { plain "java/lang/constant/ConstantDesc" (some 0) with
  accessFlags := 1537
  interfaces := #[]
  cf := some (fileOf pool7 1 #[] #[] 1537 3 #[] #[])
  fields := #[]
  methods := #[]
  instanceTypes := #[]
  staticTypes := #[]
  resolved := Array.replicate 37 none
  statics := none }

def pool8 : Array CpInfo := pool [(1, .methodref 2 3), (0, .class_ 4), (0, .nameAndType 5 6), (0, u "java/lang/Object"), (0, u "<init>"), (0, u "()V"), (2, .fieldref 10 11), (0, .class_ 12), (0, .nameAndType 13 14), (0, u "java/lang/String"), (0, u "value"), (0, u "[B"), (0, .fieldref 10 16), (0, .nameAndType 17 18), (0, u "coder"), (0, u "B"), (2, u "hash"), (0, u "I"), (2, u "hashIsZero"), (0, u "Z"), (11, .fieldref 10 39), (0, .nameAndType 40 26), (0, u "COMPACT_STRINGS"), (12, u "toBytes"), (53, .class_ 109), (1, u "java/lang/StringLatin1"), (99, .methodref 10 210), (0, .nameAndType 5 211), (0, u "([BB)V"), (157, u "(C)Z"), (205, .class_ 576), (0, u "java/lang/CharSequence"), (22, u "CASE_INSENSITIVE_ORDER"), (0, u "Ljava/util/Comparator;"), (181, u "valueOf"), (0, u "(C)Ljava/lang/String;"), (231, .methodref 107 1016), (0, .nameAndType 1017 369), (0, u "canEncode"), (0, .methodref 107 1019), (0, .nameAndType 53 1020), (0, u "(C)[B"), (80, u "serialPersistentFields"), (0, u "[Ljava/io/ObjectStreamField;"), (0, .class_ 1104), (0, u "java/lang/String$CaseInsensitiveComparator"), (1, .class_ 1107), (0, u "java/io/Serializable"), (0, .class_ 1109), (0, u "java/lang/Comparable"), (0, .class_ 1111), (0, u "java/lang/constant/Constable"), (0, .class_ 1113), (0, u "java/lang/constant/ConstantDesc"), (2, u "serialVersionUID"), (0, u "J"), (3, u "REPL"), (0, u "C"), (2, u "LATIN1"), (1, u "UTF16")] 323

def k8m0 : Method := { name := "<init>", desc := "()V", sig := { parameters := [], returnType := none }, accessFlags := 1, code := none }
def k8c1 : Code := { maxStack := 4, maxLocals := 1, code := jdk_42_method_139_code, exceptionTable := #[], attributes := #[] }
def k8m1 : Method := { name := "valueOf", desc := "(C)Ljava/lang/String;", sig := { parameters := [.char], returnType := some (.object "java/lang/String") }, accessFlags := 9, code := some k8c1 }
def k8c2 : Code := { maxStack := 2, maxLocals := 3, code := jdk_42_method_151_code, exceptionTable := #[], attributes := #[] }
def k8m2 : Method := { name := "<init>", desc := "([BB)V", sig := { parameters := [(.array .byte), .byte], returnType := none }, accessFlags := 0, code := some k8c2 }
/-- java/lang/String -/
def k8 : Class := { plain "java/lang/String" (some 0) with
  accessFlags := 49
  interfaces := #[3, 4, 5, 6, 7]
  cf := some (fileOf pool8 10 #[.nestMembers #[1103]] #[{ accessFlags := 1, nameIndex := 5, descriptorIndex := 6, attributes := #[] }, { accessFlags := 9, nameIndex := 782, descriptorIndex := 783, attributes := #[] }, { accessFlags := 0, nameIndex := 5, descriptorIndex := 211, attributes := #[] }] 49 2 #[1106, 1108, 575, 1110, 1112] #[{ accessFlags := 18, nameIndex := 13, descriptorIndex := 14, attributes := #[] }, { accessFlags := 18, nameIndex := 17, descriptorIndex := 18, attributes := #[] }, { accessFlags := 2, nameIndex := 21, descriptorIndex := 22, attributes := #[] }, { accessFlags := 2, nameIndex := 25, descriptorIndex := 26, attributes := #[] }, { accessFlags := 26, nameIndex := 1116, descriptorIndex := 1117, attributes := #[] }, { accessFlags := 24, nameIndex := 40, descriptorIndex := 26, attributes := #[] }, { accessFlags := 26, nameIndex := 1101, descriptorIndex := 1102, attributes := #[] }, { accessFlags := 26, nameIndex := 1121, descriptorIndex := 1122, attributes := #[] }, { accessFlags := 25, nameIndex := 599, descriptorIndex := 600, attributes := #[] }, { accessFlags := 24, nameIndex := 1125, descriptorIndex := 18, attributes := #[] }, { accessFlags := 24, nameIndex := 1127, descriptorIndex := 18, attributes := #[] }])
  fields := #[{ name := "value", type := (.array .byte), accessFlags := 18, slot := 0, constantValue := 0 }, { name := "coder", type := .byte, accessFlags := 18, slot := 1, constantValue := 0 }, { name := "hash", type := .int, accessFlags := 2, slot := 2, constantValue := 0 }, { name := "hashIsZero", type := .boolean, accessFlags := 2, slot := 3, constantValue := 0 }, { name := "serialVersionUID", type := .long, accessFlags := 26, slot := 0, constantValue := 0 }, { name := "COMPACT_STRINGS", type := .boolean, accessFlags := 24, slot := 1, constantValue := 0 }, { name := "serialPersistentFields", type := (.array (.object "java/io/ObjectStreamField")), accessFlags := 26, slot := 2, constantValue := 0 }, { name := "REPL", type := .char, accessFlags := 26, slot := 3, constantValue := 0 }, { name := "CASE_INSENSITIVE_ORDER", type := (.object "java/util/Comparator"), accessFlags := 25, slot := 4, constantValue := 0 }, { name := "LATIN1", type := .byte, accessFlags := 24, slot := 5, constantValue := 0 }, { name := "UTF16", type := .byte, accessFlags := 24, slot := 6, constantValue := 0 }]
  methods := #[k8m0, k8m1, k8m2]
  instanceTypes := #[(.array .byte), .byte, .int, .boolean]
  staticTypes := #[.long, .boolean, (.array (.object "java/io/ObjectStreamField")), .char, (.object "java/util/Comparator"), .byte, .byte]
  resolved := Array.replicate 1451 none
  statics := some 0 }

def pool9 : Array CpInfo := pool [(4, .class_ 6), (1, u "java/lang/Object"), (0, u "<init>"), (0, u "()V"), (5, .class_ 16), (1, u "java/lang/StringLatin1"), (73, u "canEncode"), (14, u "(C)Z"), (15, u "$assertionsDisabled"), (0, u "Z"), (98, .class_ 223), (1, u "java/lang/StringLatin1$LinesSpliterator"), (156, u "toBytes"), (1, u "(C)[B"), (7, .class_ 391), (0, u "java/lang/StringLatin1$CharsSpliterator")] 3

def k9m0 : Method := { name := "<init>", desc := "()V", sig := { parameters := [], returnType := none }, accessFlags := 0, code := none }
def k9c1 : Code := { maxStack := 2, maxLocals := 1, code := jdk_43_method_3_code, exceptionTable := #[], attributes := #[] }
def k9m1 : Method := { name := "canEncode", desc := "(C)Z", sig := { parameters := [.char], returnType := some .boolean }, accessFlags := 9, code := some k9c1 }
def k9c2 : Code := { maxStack := 4, maxLocals := 1, code := jdk_43_method_46_code, exceptionTable := #[], attributes := #[] }
def k9m2 : Method := { name := "toBytes", desc := "(C)[B", sig := { parameters := [.char], returnType := some (.array .byte) }, accessFlags := 9, code := some k9c2 }
/-- java/lang/StringLatin1 -/
def k9 : Class := { plain "java/lang/StringLatin1" (some 0) with
  accessFlags := 48
  interfaces := #[]
  cf := some (fileOf pool9 14 #[.nestMembers #[390, 221]] #[{ accessFlags := 0, nameIndex := 7, descriptorIndex := 8, attributes := #[] }, { accessFlags := 9, nameIndex := 90, descriptorIndex := 105, attributes := #[] }, { accessFlags := 9, nameIndex := 380, descriptorIndex := 382, attributes := #[] }] 48 4 #[] #[{ accessFlags := 4120, nameIndex := 121, descriptorIndex := 122, attributes := #[] }])
  fields := #[{ name := "$assertionsDisabled", type := .boolean, accessFlags := 4120, slot := 0, constantValue := 0 }]
  methods := #[k9m0, k9m1, k9m2]
  instanceTypes := #[]
  staticTypes := #[.boolean]
  resolved := Array.replicate 395 none
  statics := none }

def pool10 : Array CpInfo := pool [(1, .methodref 2 3), (0, .class_ 4), (0, .nameAndType 5 6), (0, u "java/lang/Object"), (0, u "<init>"), (0, u "()V"), (0, .class_ 8), (0, u "java/lang/Record")] 13

def k10c0 : Code := { maxStack := 1, maxLocals := 1, code := jdk_30_method_1_code, exceptionTable := #[], attributes := #[] }
def k10m0 : Method := { name := "<init>", desc := "()V", sig := { parameters := [], returnType := none }, accessFlags := 4, code := some k10c0 }
/-- java/lang/Record -/
def k10 : Class := { plain "java/lang/Record" (some 0) with
  accessFlags := 1057
  interfaces := #[]
  cf := some (fileOf pool10 7 #[] #[{ accessFlags := 4, nameIndex := 5, descriptorIndex := 6, attributes := #[] }] 1057 2 #[] #[])
  fields := #[]
  methods := #[k10m0]
  instanceTypes := #[]
  staticTypes := #[]
  resolved := Array.replicate 22 none
  statics := none }

def pool11 : Array CpInfo := pool [(1, .methodref 2 3), (0, .class_ 4), (0, .nameAndType 5 6), (0, u "java/lang/Record"), (0, u "<init>"), (0, u "()V"), (0, .fieldref 8 9), (0, .class_ 10), (0, .nameAndType 11 12), (0, u "com/example/refill/refill/SlidingLog$Rule"), (0, u "name"), (0, u "Ljava/lang/String;"), (0, .fieldref 8 14), (0, .nameAndType 15 16), (0, u "limit"), (0, u "J"), (0, .fieldref 8 18), (0, .nameAndType 19 16), (0, u "windowMicros"), (12, u "(Ljava/lang/String;JJ)V"), (3, u "fits"), (0, u "(JI)Z"), (9, .class_ 48), (0, u "com/example/refill/refill/SlidingLog")] 29

def k11c0 : Code := { maxStack := 3, maxLocals := 6, code := prog_18_method_1_code, exceptionTable := #[], attributes := #[] }
def k11m0 : Method := { name := "<init>", desc := "(Ljava/lang/String;JJ)V", sig := { parameters := [(.object "java/lang/String"), .long, .long], returnType := none }, accessFlags := 0, code := some k11c0 }
def k11c1 : Code := { maxStack := 6, maxLocals := 4, code := prog_18_method_2_code, exceptionTable := #[], attributes := #[] }
def k11m1 : Method := { name := "fits", desc := "(JI)Z", sig := { parameters := [.long, .int], returnType := some .boolean }, accessFlags := 0, code := some k11c1 }
/-- com/example/refill/refill/SlidingLog$Rule -/
def k11 : Class := { plain "com/example/refill/refill/SlidingLog$Rule" (some 10) with
  accessFlags := 48
  interfaces := #[]
  cf := some (fileOf pool11 8 #[.nestHost 47] #[{ accessFlags := 0, nameIndex := 5, descriptorIndex := 32, attributes := #[] }, { accessFlags := 0, nameIndex := 36, descriptorIndex := 37, attributes := #[] }] 48 2 #[] #[{ accessFlags := 18, nameIndex := 11, descriptorIndex := 12, attributes := #[] }, { accessFlags := 18, nameIndex := 15, descriptorIndex := 16, attributes := #[] }, { accessFlags := 18, nameIndex := 19, descriptorIndex := 16, attributes := #[] }])
  fields := #[{ name := "name", type := (.object "java/lang/String"), accessFlags := 18, slot := 0, constantValue := 0 }, { name := "limit", type := .long, accessFlags := 18, slot := 1, constantValue := 0 }, { name := "windowMicros", type := .long, accessFlags := 18, slot := 2, constantValue := 0 }]
  methods := #[k11m0, k11m1]
  instanceTypes := #[(.object "java/lang/String"), .long, .long]
  staticTypes := #[]
  resolved := Array.replicate 78 none
  statics := none }

def pool12 : Array CpInfo := pool [(2, .class_ 4), (1, u "java/lang/Object"), (0, u "<init>"), (0, u "()V"), (17, .class_ 26), (1, u "jdk/internal/util/Preconditions"), (28, .class_ 56), (0, u "jdk/internal/util/Preconditions$4"), (57, .class_ 115), (0, u "jdk/internal/util/Preconditions$1"), (7, u "SIOOBE_FORMATTER"), (0, u "Ljava/util/function/BiFunction;"), (0, .class_ 126), (0, u "jdk/internal/util/Preconditions$2"), (3, u "AIOOBE_FORMATTER"), (0, .class_ 132), (0, u "jdk/internal/util/Preconditions$3"), (3, u "IOOBE_FORMATTER")] 57

def k12m0 : Method := { name := "<init>", desc := "()V", sig := { parameters := [], returnType := none }, accessFlags := 1, code := none }
/-- jdk/internal/util/Preconditions -/
def k12 : Class := { plain "jdk/internal/util/Preconditions" (some 0) with
  accessFlags := 33
  interfaces := #[]
  cf := some (fileOf pool12 24 #[.nestMembers #[55, 131, 125, 114]] #[{ accessFlags := 1, nameIndex := 5, descriptorIndex := 6, attributes := #[] }] 33 2 #[] #[{ accessFlags := 25, nameIndex := 123, descriptorIndex := 124, attributes := #[] }, { accessFlags := 25, nameIndex := 130, descriptorIndex := 124, attributes := #[] }, { accessFlags := 25, nameIndex := 136, descriptorIndex := 124, attributes := #[] }])
  fields := #[{ name := "SIOOBE_FORMATTER", type := (.object "java/util/function/BiFunction"), accessFlags := 25, slot := 0, constantValue := 0 }, { name := "AIOOBE_FORMATTER", type := (.object "java/util/function/BiFunction"), accessFlags := 25, slot := 1, constantValue := 0 }, { name := "IOOBE_FORMATTER", type := (.object "java/util/function/BiFunction"), accessFlags := 25, slot := 2, constantValue := 0 }]
  methods := #[k12m0]
  instanceTypes := #[]
  staticTypes := #[(.object "java/util/function/BiFunction"), (.object "java/util/function/BiFunction"), (.object "java/util/function/BiFunction")]
  resolved := Array.replicate 194 none
  statics := some 1 }

def pool13 : Array CpInfo := pool [(9, u "<init>"), (6, .class_ 18), (1, u "java/lang/Object"), (0, u "()V"), (1, .class_ 23), (1, u "jdk/internal/util/ArraysSupport"), (0, u "LOG2_ARRAY_LONG_INDEX_SCALE"), (0, u "I"), (2, u "U"), (0, u "Ljdk/internal/misc/Unsafe;"), (8, u "BIG_ENDIAN"), (0, u "Z"), (8, u "LOG2_BYTE_BIT_SIZE"), (4, u "LOG2_ARRAY_INT_INDEX_SCALE"), (54, u "JLA"), (0, u "Ljdk/internal/access/JavaLangAccess;"), (11, u "LOG2_ARRAY_BOOLEAN_INDEX_SCALE"), (9, u "LOG2_ARRAY_BYTE_INDEX_SCALE"), (5, u "LOG2_ARRAY_CHAR_INDEX_SCALE"), (5, u "LOG2_ARRAY_SHORT_INDEX_SCALE"), (18, u "LOG2_ARRAY_FLOAT_INDEX_SCALE"), (24, u "LOG2_ARRAY_DOUBLE_INDEX_SCALE"), (89, u "T_BOOLEAN"), (2, u "T_CHAR"), (1, u "T_FLOAT"), (1, u "T_DOUBLE"), (1, u "T_BYTE"), (1, u "T_SHORT"), (1, u "T_INT"), (1, u "T_LONG"), (1, u "SOFT_MAX_ARRAY_LENGTH")] 83

def k13m0 : Method := { name := "<init>", desc := "()V", sig := { parameters := [], returnType := none }, accessFlags := 2, code := none }
/-- jdk/internal/util/ArraysSupport -/
def k13 : Class := { plain "jdk/internal/util/ArraysSupport" (some 0) with
  accessFlags := 33
  interfaces := #[]
  cf := some (fileOf pool13 21 #[] #[{ accessFlags := 2, nameIndex := 9, descriptorIndex := 19, attributes := #[] }] 33 16 #[] #[{ accessFlags := 24, nameIndex := 28, descriptorIndex := 29, attributes := #[] }, { accessFlags := 26, nameIndex := 38, descriptorIndex := 39, attributes := #[] }, { accessFlags := 25, nameIndex := 121, descriptorIndex := 25, attributes := #[] }, { accessFlags := 25, nameIndex := 131, descriptorIndex := 25, attributes := #[] }, { accessFlags := 25, nameIndex := 137, descriptorIndex := 25, attributes := #[] }, { accessFlags := 25, nameIndex := 143, descriptorIndex := 25, attributes := #[] }, { accessFlags := 25, nameIndex := 53, descriptorIndex := 25, attributes := #[] }, { accessFlags := 25, nameIndex := 24, descriptorIndex := 25, attributes := #[] }, { accessFlags := 25, nameIndex := 162, descriptorIndex := 25, attributes := #[] }, { accessFlags := 25, nameIndex := 187, descriptorIndex := 25, attributes := #[] }, { accessFlags := 26, nameIndex := 48, descriptorIndex := 25, attributes := #[] }, { accessFlags := 25, nameIndex := 277, descriptorIndex := 25, attributes := #[] }, { accessFlags := 25, nameIndex := 280, descriptorIndex := 25, attributes := #[] }, { accessFlags := 25, nameIndex := 282, descriptorIndex := 25, attributes := #[] }, { accessFlags := 25, nameIndex := 284, descriptorIndex := 25, attributes := #[] }, { accessFlags := 25, nameIndex := 286, descriptorIndex := 25, attributes := #[] }, { accessFlags := 25, nameIndex := 288, descriptorIndex := 25, attributes := #[] }, { accessFlags := 25, nameIndex := 290, descriptorIndex := 25, attributes := #[] }, { accessFlags := 25, nameIndex := 292, descriptorIndex := 25, attributes := #[] }, { accessFlags := 26, nameIndex := 108, descriptorIndex := 109, attributes := #[] }, { accessFlags := 25, nameIndex := 294, descriptorIndex := 25, attributes := #[] }])
  fields := #[{ name := "U", type := (.object "jdk/internal/misc/Unsafe"), accessFlags := 24, slot := 0, constantValue := 0 }, { name := "BIG_ENDIAN", type := .boolean, accessFlags := 26, slot := 1, constantValue := 0 }, { name := "LOG2_ARRAY_BOOLEAN_INDEX_SCALE", type := .int, accessFlags := 25, slot := 2, constantValue := 0 }, { name := "LOG2_ARRAY_BYTE_INDEX_SCALE", type := .int, accessFlags := 25, slot := 3, constantValue := 0 }, { name := "LOG2_ARRAY_CHAR_INDEX_SCALE", type := .int, accessFlags := 25, slot := 4, constantValue := 0 }, { name := "LOG2_ARRAY_SHORT_INDEX_SCALE", type := .int, accessFlags := 25, slot := 5, constantValue := 0 }, { name := "LOG2_ARRAY_INT_INDEX_SCALE", type := .int, accessFlags := 25, slot := 6, constantValue := 0 }, { name := "LOG2_ARRAY_LONG_INDEX_SCALE", type := .int, accessFlags := 25, slot := 7, constantValue := 0 }, { name := "LOG2_ARRAY_FLOAT_INDEX_SCALE", type := .int, accessFlags := 25, slot := 8, constantValue := 0 }, { name := "LOG2_ARRAY_DOUBLE_INDEX_SCALE", type := .int, accessFlags := 25, slot := 9, constantValue := 0 }, { name := "LOG2_BYTE_BIT_SIZE", type := .int, accessFlags := 26, slot := 10, constantValue := 0 }, { name := "T_BOOLEAN", type := .int, accessFlags := 25, slot := 11, constantValue := 0 }, { name := "T_CHAR", type := .int, accessFlags := 25, slot := 12, constantValue := 0 }, { name := "T_FLOAT", type := .int, accessFlags := 25, slot := 13, constantValue := 0 }, { name := "T_DOUBLE", type := .int, accessFlags := 25, slot := 14, constantValue := 0 }, { name := "T_BYTE", type := .int, accessFlags := 25, slot := 15, constantValue := 0 }, { name := "T_SHORT", type := .int, accessFlags := 25, slot := 16, constantValue := 0 }, { name := "T_INT", type := .int, accessFlags := 25, slot := 17, constantValue := 0 }, { name := "T_LONG", type := .int, accessFlags := 25, slot := 18, constantValue := 0 }, { name := "JLA", type := (.object "jdk/internal/access/JavaLangAccess"), accessFlags := 26, slot := 19, constantValue := 0 }, { name := "SOFT_MAX_ARRAY_LENGTH", type := .int, accessFlags := 25, slot := 20, constantValue := 0 }]
  methods := #[k13m0]
  instanceTypes := #[]
  staticTypes := #[(.object "jdk/internal/misc/Unsafe"), .boolean, .int, .int, .int, .int, .int, .int, .int, .int, .int, .int, .int, .int, .int, .int, .int, .int, .int, (.object "jdk/internal/access/JavaLangAccess"), .int]
  resolved := Array.replicate 378 none
  statics := none }

def pool14 : Array CpInfo := pool [(1, u "java/lang/Cloneable"), (0, .class_ 1), (0, u "java/lang/Object"), (0, .class_ 3)] 3

/-- java/lang/Cloneable -/
def k14 : Class := { plain "java/lang/Cloneable" (some 0) with
  accessFlags := 1537
  interfaces := #[]
  cf := some (fileOf pool14 2 #[] #[] 1537 4 #[] #[])
  fields := #[]
  methods := #[]
  instanceTypes := #[]
  staticTypes := #[]
  resolved := Array.replicate 8 none
  statics := none }

/-- the primitive byte -/
def k15 : Class := { plain "byte" none with kind := .primitive 'B', accessFlags := 0x411 }
/-- [B -/
def k16 : Class := { plain "[B" (some 0) with kind := .array 15 .byte, interfaces := #[14, 3], accessFlags := 1041 }

/-- the primitive int -/
def k17 : Class := { plain "int" none with kind := .primitive 'I', accessFlags := 0x411 }
/-- [I -/
def k18 : Class := { plain "[I" (some 0) with kind := .array 17 .int, interfaces := #[14, 3], accessFlags := 1041 }

def heap : Heap := #[{ cls := 8, slots := #[.long 0, .int 1, .null, .int 0, .null, .int 0, .int 0], vm := .statics 8 },
  { cls := 12, slots := #[.null, .null, .null], vm := .statics 12 }]
def classes : Array Class := #[k0, k1, k2, k3, k4, k5, k6, k7, k8, k9, k10, k11, k12, k13, k14, k15, k16, k17, k18]
def interned : List (Array UInt16 × Addr) := []
def slotsUsed : Nat := 10
def theMethod : MethodId := ⟨1, 1⟩
def args0 : Array Value := #[.long 5, .long 5, .int 5, .long 5, .int 5, .int 5]
def aboutOver (below : List Frame) : State where
  vm := { classes := classes, interned := interned.toArray }
  heap := heap
  slotsUsed := slotsUsed
  threads := #[{ frames := .invoking theMethod args0 :: below }]
def below0 : List Frame := [.native { method := ⟨0, 0⟩, args := #[] }]
def about1 : State := aboutOver below0
def p0 : Program := .bare "" "" ""
def e0 : Env := launch0.env 0 0 0
theorem w_frames : about1.frames = Frame.invoking theMethod args0 :: below0 := rfl
set_option maxRecDepth 65536 in
theorem w_args : argsFit about1.vm theMethod args0 = true := by decide +kernel
set_option maxRecDepth 65536 in
theorem w_heap : heapFits about1 = true := by decide +kernel
set_option maxRecDepth 65536 in
theorem w_runnable : about1.curStatus? = some .runnable := by decide +kernel
set_option maxRecDepth 65536 in
theorem w_alone : about1.alone = true := by decide +kernel
set_option maxRecDepth 65536 in
theorem w_named : about1.methodNamed? x = some theMethod := by decide +kernel
set_option maxRecDepth 65536 in
theorem w_hears : about1.hears theMethod below0 = true := by decide +kernel
set_option maxRecDepth 65536 in
theorem w_ripe : about1.ripe theMethod args0 below0 = true := by decide +kernel
theorem w_running : about1.status = .running := rfl
set_option maxRecDepth 65536 in
theorem w_room : about1.hasRoom e0.platform room_1 = true :=
  launch0.hasRoom_least _ room_1 (by decide +kernel) (by decide +kernel) (by decide +kernel) (by decide +kernel) (by decide +kernel) (by decide +kernel)
theorem allAtoms_all (ts : List Jvm.Cond) (a : Array Jvm.Value) (st : Jvm.State) : (allAtoms ts).before a st = ts.all (fun c => c.before a st) := by
  induction ts with
  | nil => rfl
  | cons c t ih =>
    show (Jvm.Cond.and c (allAtoms t)).before a st = _
    rw [Jvm.Cond.before_and, ih, List.all_cons]
def words1 : List Jvm.Cond := Jvm.Cond.code x code maxLocals ret :: tables_1
/-- a 'code' word, met by the world's own term for the bytes: nothing is compared byte by byte -/
theorem code_word {y : MethodName} {bytes : ByteArray} {mx : Nat} {rt : Option FieldType} {a : Array Value} {s : State} {m : MethodId} {meth : Method} {c : Code} (h1 : s.methodNamed? y = some m) (h2 : s.vm.method? m = some meth) (h3 : meth.code = some c) (h4 : c.code = bytes)
    (h5 : (c.maxLocals == mx && c.exceptionTable.isEmpty && decide (c.maxStack ≤ mostOperands) && decide (meth.sig.returnType = rt) && !meth.locks && decide (parseMethodDescriptor y.desc = some meth.sig)) = true) : (Jvm.Cond.code y bytes mx rt).before a s = true := by
  simp only [Bool.and_eq_true, beq_iff_eq, Bool.not_eq_true', decide_eq_true_eq] at h5
  obtain ⟨⟨⟨⟨⟨g1, g2⟩, g3⟩, g4⟩, g5⟩, g6⟩ := h5
  simp [Cond.before, Cond.holds, Cond.value, h1, h2, h3, h4, g1, g2, g3, g4, g5, g6]
def isCode : Jvm.Cond → Bool
  | .code _ _ _ _ => true
  | _ => false
theorem all_split {L : List Jvm.Cond} {P : Jvm.Cond → Bool} (h1 : L.all (fun c => isCode c || P c) = true) (h2 : ∀ c ∈ L.filter isCode, P c = true) : L.all P = true := by
  refine List.all_eq_true.mpr fun c hc => ?_
  have h := List.all_eq_true.mp h1 c hc
  rcases Bool.eq_false_or_eq_true (isCode c) with hi | hi
  · exact h2 c (List.mem_filter.mpr ⟨hc, hi⟩)
  · simpa [hi] using h
set_option maxRecDepth 65536 in
theorem w_c0 : (Jvm.Cond.code x code maxLocals ret).before args0 about1 = true := code_word (m := ⟨1, 1⟩) (meth := k1m1) (c := k1c1) (by decide +kernel) rfl rfl rfl (by decide +kernel)
set_option maxRecDepth 65536 in
theorem w_c1 : (Jvm.Cond.code ({ cls := "java/lang/Math", name := "max", desc := "(JJ)J" } : Jvm.MethodName) jdk_29_method_66_code (4 : Nat) (Option.some Jvm.ClassFile.FieldType.long)).before args0 about1 = true := code_word (m := ⟨2, 1⟩) (meth := k2m1) (c := k2c1) (by decide +kernel) rfl rfl rfl (by decide +kernel)
set_option maxRecDepth 65536 in
theorem w_c2 : (Jvm.Cond.code ({ cls := "java/lang/Math", name := "min", desc := "(JJ)J" } : Jvm.MethodName) jdk_29_method_70_code (4 : Nat) (Option.some Jvm.ClassFile.FieldType.long)).before args0 about1 = true := code_word (m := ⟨2, 2⟩) (meth := k2m2) (c := k2c2) (by decide +kernel) rfl rfl rfl (by decide +kernel)
set_option maxRecDepth 65536 in
theorem w_c3 : (Jvm.Cond.code ({ cls := "java/lang/String", name := "valueOf", desc := "(C)Ljava/lang/String;" } : Jvm.MethodName) jdk_42_method_139_code (1 : Nat) (Option.some (Jvm.ClassFile.FieldType.object "java/lang/String"))).before args0 about1 = true := code_word (m := ⟨8, 1⟩) (meth := k8m1) (c := k8c1) (by decide +kernel) rfl rfl rfl (by decide +kernel)
set_option maxRecDepth 65536 in
theorem w_c4 : (Jvm.Cond.code ({ cls := "java/lang/StringLatin1", name := "canEncode", desc := "(C)Z" } : Jvm.MethodName) jdk_43_method_3_code (1 : Nat) (Option.some Jvm.ClassFile.FieldType.boolean)).before args0 about1 = true := code_word (m := ⟨9, 1⟩) (meth := k9m1) (c := k9c1) (by decide +kernel) rfl rfl rfl (by decide +kernel)
set_option maxRecDepth 65536 in
theorem w_c5 : (Jvm.Cond.code ({ cls := "java/lang/StringLatin1", name := "toBytes", desc := "(C)[B" } : Jvm.MethodName) jdk_43_method_46_code (1 : Nat) (Option.some (Jvm.ClassFile.FieldType.array Jvm.ClassFile.FieldType.byte))).before args0 about1 = true := code_word (m := ⟨9, 2⟩) (meth := k9m2) (c := k9c2) (by decide +kernel) rfl rfl rfl (by decide +kernel)
set_option maxRecDepth 65536 in
theorem w_c6 : (Jvm.Cond.code ({ cls := "java/lang/String", name := "<init>", desc := "([BB)V" } : Jvm.MethodName) jdk_42_method_151_code (3 : Nat) (Option.none : Option Jvm.ClassFile.FieldType)).before args0 about1 = true := code_word (m := ⟨8, 2⟩) (meth := k8m2) (c := k8c2) (by decide +kernel) rfl rfl rfl (by decide +kernel)
set_option maxRecDepth 65536 in
theorem w_c7 : (Jvm.Cond.code ({ cls := "java/lang/Object", name := "<init>", desc := "()V" } : Jvm.MethodName) object_method_1_code (1 : Nat) (Option.none : Option Jvm.ClassFile.FieldType)).before args0 about1 = true := code_word (m := ⟨0, 0⟩) (meth := k0m0) (c := k0c0) (by decide +kernel) rfl rfl rfl (by decide +kernel)
set_option maxRecDepth 65536 in
theorem w_c8 : (Jvm.Cond.code ({ cls := "com/example/refill/refill/SlidingLog$Rule", name := "<init>", desc := "(Ljava/lang/String;JJ)V" } : Jvm.MethodName) prog_18_method_1_code (6 : Nat) (Option.none : Option Jvm.ClassFile.FieldType)).before args0 about1 = true := code_word (m := ⟨11, 0⟩) (meth := k11m0) (c := k11c0) (by decide +kernel) rfl rfl rfl (by decide +kernel)
set_option maxRecDepth 65536 in
theorem w_c9 : (Jvm.Cond.code ({ cls := "java/lang/Record", name := "<init>", desc := "()V" } : Jvm.MethodName) jdk_30_method_1_code (1 : Nat) (Option.none : Option Jvm.ClassFile.FieldType)).before args0 about1 = true := code_word (m := ⟨10, 0⟩) (meth := k10m0) (c := k10c0) (by decide +kernel) rfl rfl rfl (by decide +kernel)
set_option maxRecDepth 65536 in
theorem w_c10 : (Jvm.Cond.code ({ cls := "com/example/refill/refill/SlidingLog$Rule", name := "fits", desc := "(JI)Z" } : Jvm.MethodName) prog_18_method_2_code (4 : Nat) (Option.some Jvm.ClassFile.FieldType.boolean)).before args0 about1 = true := code_word (m := ⟨11, 1⟩) (meth := k11m1) (c := k11c1) (by decide +kernel) rfl rfl rfl (by decide +kernel)
def codes1 : List Jvm.Cond := [Jvm.Cond.code x code maxLocals ret, Jvm.Cond.code ({ cls := "java/lang/Math", name := "max", desc := "(JJ)J" } : Jvm.MethodName) jdk_29_method_66_code (4 : Nat) (Option.some Jvm.ClassFile.FieldType.long), Jvm.Cond.code ({ cls := "java/lang/Math", name := "min", desc := "(JJ)J" } : Jvm.MethodName) jdk_29_method_70_code (4 : Nat) (Option.some Jvm.ClassFile.FieldType.long), Jvm.Cond.code ({ cls := "java/lang/String", name := "valueOf", desc := "(C)Ljava/lang/String;" } : Jvm.MethodName) jdk_42_method_139_code (1 : Nat) (Option.some (Jvm.ClassFile.FieldType.object "java/lang/String")), Jvm.Cond.code ({ cls := "java/lang/StringLatin1", name := "canEncode", desc := "(C)Z" } : Jvm.MethodName) jdk_43_method_3_code (1 : Nat) (Option.some Jvm.ClassFile.FieldType.boolean), Jvm.Cond.code ({ cls := "java/lang/StringLatin1", name := "toBytes", desc := "(C)[B" } : Jvm.MethodName) jdk_43_method_46_code (1 : Nat) (Option.some (Jvm.ClassFile.FieldType.array Jvm.ClassFile.FieldType.byte)), Jvm.Cond.code ({ cls := "java/lang/String", name := "<init>", desc := "([BB)V" } : Jvm.MethodName) jdk_42_method_151_code (3 : Nat) (Option.none : Option Jvm.ClassFile.FieldType), Jvm.Cond.code ({ cls := "java/lang/Object", name := "<init>", desc := "()V" } : Jvm.MethodName) object_method_1_code (1 : Nat) (Option.none : Option Jvm.ClassFile.FieldType), Jvm.Cond.code ({ cls := "com/example/refill/refill/SlidingLog$Rule", name := "<init>", desc := "(Ljava/lang/String;JJ)V" } : Jvm.MethodName) prog_18_method_1_code (6 : Nat) (Option.none : Option Jvm.ClassFile.FieldType), Jvm.Cond.code ({ cls := "java/lang/Record", name := "<init>", desc := "()V" } : Jvm.MethodName) jdk_30_method_1_code (1 : Nat) (Option.none : Option Jvm.ClassFile.FieldType), Jvm.Cond.code ({ cls := "com/example/refill/refill/SlidingLog$Rule", name := "fits", desc := "(JI)Z" } : Jvm.MethodName) prog_18_method_2_code (4 : Nat) (Option.some Jvm.ClassFile.FieldType.boolean)]
set_option maxRecDepth 65536 in
theorem codes_eq : words1.filter isCode = codes1 := rfl
theorem w_codes : ∀ c ∈ words1.filter isCode, c.before args0 about1 = true := by
  rw [codes_eq]
  intro c hc
  simp only [codes1, List.mem_cons, List.not_mem_nil, or_false] at hc
  rcases hc with rfl | rfl | rfl | rfl | rfl | rfl | rfl | rfl | rfl | rfl | rfl
  · exact w_c0
  · exact w_c1
  · exact w_c2
  · exact w_c3
  · exact w_c4
  · exact w_c5
  · exact w_c6
  · exact w_c7
  · exact w_c8
  · exact w_c9
  · exact w_c10
set_option maxRecDepth 65536 in
theorem w_t1 : (words1.take 24).all (fun c => isCode c || c.before args0 about1) = true := by decide +kernel
set_option maxRecDepth 65536 in
theorem w_t2 : ((words1.drop 24).take 24).all (fun c => isCode c || c.before args0 about1) = true := by decide +kernel
set_option maxRecDepth 65536 in
theorem w_t3 : ((words1.drop 24).drop 24).all (fun c => isCode c || c.before args0 about1) = true := by decide +kernel
theorem w_tables : (allAtoms (Jvm.Cond.code x code maxLocals ret :: tables_1)).before args0 about1 = true := by
  rw [allAtoms_all]
  show words1.all (fun c => c.before args0 about1) = true
  refine all_split ?_ w_codes
  rw [← List.take_append_drop 24 words1, List.all_append, w_t1, ← List.take_append_drop 24 (words1.drop 24), List.all_append, w_t2, w_t3]
  rfl
set_option maxRecDepth 65536 in
theorem w_rest : rest_1_c.before args0 about1 = true := by decide +kernel
set_option maxRecDepth 65536 in
theorem w_case : (Jvm.Cond.and given_1 narrow_1).before args0 about1 = true := by decide +kernel
theorem w_applies : (headSpec (Jvm.Cond.code x code maxLocals ret :: tables_1) room_1).applies x e0.platform about1 = true :=
  (Spec.applies_iff w_frames).mpr ⟨w_running, w_runnable, w_alone, w_named, w_hears, w_ripe, w_room, w_tables⟩
theorem atStart : AtStart classFile x code maxLocals ret World_1 tables_1 room_1 Calls_1 rest_1 Pre_1 launch0 p0 e0 about1 theMethod args0 below0 :=
  ⟨lists_1, trivial, launch0.admits_env _ _ _, launch0.least_env, fairChoices_fair.cas, fairChoices_fair.clock, w_frames, w_args, w_heap, w_applies, trivial, w_rest, w_case⟩
end start1
theorem witness_1 : WitnessClaimed_1 := ⟨start1.p0, start1.e0, start1.about1, start1.theMethod, start1.args0, start1.below0, start1.atStart⟩
end Jvm.Pilot.@@N@@
