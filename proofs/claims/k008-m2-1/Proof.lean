import JvmDerived
import JvmDerived.Pilot.@@N@@Statement
import JvmDerived.Pilot.@@N@@Code
set_option linter.unusedVariables false
set_option linter.unusedSimpArgs false
@@BLOCK:NumsL.lean.txt@@
namespace Jvm.Pilot.@@N@@
open Jvm Jvm.ClassFile Sem Op Lib Jvm.Free Jvm.Stand Jvm.LawKit Jvm.RoadKit Bundle Jvm.Pilot.@@N@@.Jvm.D
/-- from here the run comes to a state of which P holds -/
def own_Go (tb : Tables) (e : Env) (below : List Frame) (P : State → Prop) (T : State) (g : JFrame) : Prop := ∃ t, Steps tb e below (T.setTop g) t ∧ P t
theorem own_st {tb : Tables} {e : Env} {below : List Frame} {P : State → Prop} {T T' : State} {g g' : JFrame} (h : ∀ t, Steps tb e below (T'.setTop g') t → Steps tb e below (T.setTop g) t) (k : own_Go tb e below P T' g') : own_Go tb e below P T g := by
  obtain ⟨t, a, b⟩ := k; exact ⟨t, h t a, b⟩
/-- what the end of a body must be -/
def own_P (s : State) (below : List Frame) (Q : Option Value → Heap → List Loc → Prop) (C S : Nat) (t : State) : Prop := t.status = .running ∧ ∃ o, Ended t below o ∧ ∃ v L, o = .returned v ∧ Q v t.heap L ∧ FrameEnd s o t L C S
/-- .. of a body that may have interned -/
def own_PW (s : State) (below : List Frame) (Q : Option Value → Heap → List Loc → Prop) (C S : Nat) (t : State) : Prop := t.status = .running ∧ ∃ o, Ended t below o ∧ ∃ v L, o = .returned v ∧ Q v t.heap L ∧ ReturnedEndW s o t L C S
section own
variable {p : Program} {l : Launch} {e : Env} {R : Room} {s : State} {m : MethodId} {args : Array Value} {below : List Frame} {meth : Method} {c : Code} {T : State} {locs : List Loc} {cells slots : Nat} {Qo : Option Value → Heap → List Loc → Prop} {C' S' : Nat}
theorem own_out (X : Stand p l e R s m args below meth c T locs cells slots) {v : Option Value} {g : JFrame} (hv : meth.sig.returnType = none → v = none) (hlocks : meth.locks = false)
    (hst : ∀ fs, (∀ (f : JFrame) (acts : List Action), f.method = m → f.locked = none → f.entered = [] → (doReturn e (T.setTop f) acts v).1 = T.setFrames fs) → Steps p.tables e below (T.setTop g) (T.setFrames fs))
    (hc : cells ≤ C') (hs : slots ≤ S') (hq : Qo v T.heap locs) : own_Go p.tables e below (own_P s below Qo C' S') T g := by
  obtain ⟨fs, hr, hrun, hended, hW, hsame⟩ := X.leave (v := v) hv hlocks
  exact ⟨_, hst fs hr, hrun, _, hended, _, _, rfl, hq, ⟨_, rfl⟩, hW, hsame.mono hc hs⟩
theorem own_outW {vm0 : Vm} (X : Stand p l e R (s.setVm vm0) m args below meth c T locs cells slots) {k0 : Nat} (hS : s.Since vm0 k0) (hk : k0 ≤ T.heap.size) {v : Option Value} {g : JFrame} (hv : meth.sig.returnType = none → v = none) (hlocks : meth.locks = false)
    (hst : ∀ fs, (∀ (f : JFrame) (acts : List Action), f.method = m → f.locked = none → f.entered = [] → (doReturn e (T.setTop f) acts v).1 = T.setFrames fs) → Steps p.tables e below (T.setTop g) (T.setFrames fs))
    (hc : cells ≤ C') (hs : slots ≤ S') (hq : Qo v T.heap locs) : own_Go p.tables e below (own_PW s below Qo C' S') T g := by
  obtain ⟨fs, hr, hrun, hended, hW⟩ := X.leaveW hS hk (v := v) hv hlocks
  exact ⟨_, hst fs hr, hrun, _, hended, _, _, rfl, hq, hW.1, hW.2.1, hW.2.2.1, hW.2.2.2.mono hc hs⟩
theorem own_retI (X : Stand p l e R s m args below meth c T locs cells slots) (hx : p.tables.exec = Jvm.exec) {pc : Nat} {Ls : Array Slot} {z : Int32} {rest : List Value} (hret : meth.sig.returnType = some .int) (hd : decode c.code pc = .ok (.ireturn, 1)) (fs : List Frame)
    (hl : ∀ (f : JFrame) (acts : List Action), f.method = m → f.locked = none → f.entered = [] → (doReturn e (T.setTop f) acts (some (.int z))).1 = T.setFrames fs) : Steps p.tables e below (T.setTop (mkF m pc Ls (.int z :: rest))) (T.setFrames fs) :=
  retOut X hx hret rfl (Or.inl ⟨rfl, Or.inl rfl, _, rfl⟩) hd hl
theorem own_retZ (X : Stand p l e R s m args below meth c T locs cells slots) (hx : p.tables.exec = Jvm.exec) {pc : Nat} {Ls : Array Slot} {z : Int32} {rest : List Value} (hret : meth.sig.returnType = some .boolean) (hd : decode c.code pc = .ok (.ireturn, 1)) (hb : z = 0 ∨ z = 1) (fs : List Frame)
    (hl : ∀ (f : JFrame) (acts : List Action), f.method = m → f.locked = none → f.entered = [] → (doReturn e (T.setTop f) acts (some (.int z))).1 = T.setFrames fs) : Steps p.tables e below (T.setTop (mkF m pc Ls (.int z :: rest))) (T.setFrames fs) := by
  have e1 : nar .boolean z = z := by rcases hb with rfl | rfl <;> decide
  exact retN X hx hret (Or.inl rfl) hd (by rw [e1]; exact hl)
theorem own_retJ (X : Stand p l e R s m args below meth c T locs cells slots) (hx : p.tables.exec = Jvm.exec) {pc : Nat} {Ls : Array Slot} {z : Int64} {rest : List Value} (hret : meth.sig.returnType = some .long) (hd : decode c.code pc = .ok (.lreturn, 1)) (fs : List Frame)
    (hl : ∀ (f : JFrame) (acts : List Action), f.method = m → f.locked = none → f.entered = [] → (doReturn e (T.setTop f) acts (some (.long z))).1 = T.setFrames fs) : Steps p.tables e below (T.setTop (mkF m pc Ls (.long z :: rest))) (T.setFrames fs) :=
  retOut X hx hret rfl (Or.inr (Or.inl ⟨rfl, rfl, _, rfl⟩)) hd hl
theorem own_retR (X : Stand p l e R s m args below meth c T locs cells slots) (hx : p.tables.exec = Jvm.exec) {pc : Nat} {Ls : Array Slot} {w : Value} {t : FieldType} {rest : List Value} (hret : meth.sig.returnType = some t) (ht : t.isReference = true) (hw : w.isRef = true) (hn : narrow t w = w) (hd : decode c.code pc = .ok (.areturn, 1)) (fs : List Frame)
    (hl : ∀ (f : JFrame) (acts : List Action), f.method = m → f.locked = none → f.entered = [] → (doReturn e (T.setTop f) acts (some w)).1 = T.setFrames fs) : Steps p.tables e below (T.setTop (mkF m pc Ls (w :: rest))) (T.setFrames fs) :=
  retOut X hx hret hn (Or.inr (Or.inr (Or.inr (Or.inr ⟨rfl, ht, hw⟩)))) hd hl
end own
/-- a private method is the one that is picked -/
theorem own_selp {s : State} {args : Array Value} {y : MethodName} {n : Nat} (hi : (Jvm.Cond.instantiable y.cls n).before args s = true) (hp : s.PrivateAt y) (hm : (Jvm.Cond.instanceMethod y).before args s = true) (hy : y.cls ≠ "java/lang/invoke/MethodHandle" ∧ y.cls ≠ "java/lang/invoke/VarHandle") : (Jvm.Cond.selects y.cls y y).before args s = true := by
  obtain ⟨c, k, h1, h2, -, h4, -⟩ := Cond.instantiable_spec hi
  exact selects_self_of_private h1 h2 (Bool.or_eq_false_iff.mp h4).1 hp hm hy
theorem own_staK {Z : State} {h h' : Heap} {C n d : String} {v : Value} {ws : List Addr} (F : Sta Z h C n d v) (K : Keep h h' ws) (q : ∀ x ∈ ws, ∃ D, Exa Z h x D) : Sta Z h' C n d v := by
  obtain ⟨cf, i, k, f, st, cell, h1, h2, h3, h4, h5, h6, h7⟩ := F
  refine ⟨cf, i, k, f, st, cell, h1, h2, h3, h4, K.2.1 st cell h5 (fun hm => ?_), h6, h7⟩
  obtain ⟨D, c', k', e1, -, -, e4, -⟩ := q st hm
  cases h5.symm.trans e1
  rw [h6] at e4; cases e4
/-- a reference or null -/
theorem own_refOf {w : Value} (h : w.isRef = true) (c : ¬ w = Value.null) : ∃ a, w = .ref a := (ref_cases h).resolve_left c
theorem own_nW {t : FieldType} {w : Value} (ht : t.isReference = true) (h : w.isRef = true) : narrow t w = w := by
  rcases ref_cases h with rfl | ⟨a, rfl⟩ <;> cases t <;> first | rfl | simp [FieldType.isReference] at ht
theorem own_fW {t : FieldType} {w : Value} (ht : t.isReference = true) (h : w.isRef = true) : fits t w = true := by
  rcases ref_cases h with rfl | ⟨a, rfl⟩ <;> cases t <;> first | rfl | simp [FieldType.isReference] at ht
theorem own_nb {z : Int32} (h : z = 0 ∨ z = 1) : narrow .boolean (.int z) = .int z := by rcases h with rfl | rfl <;> rfl
theorem own_fb {z : Int32} (h : z = 0 ∨ z = 1) : fits .boolean (.int z) = true := by rcases h with rfl | rfl <;> rfl
/-- lcmp and a branch, in one -/
def own_lcv : ClassFile.Cond → Int64 → Int64 → Prop
  | .lt, x, y => x < y | .ge, x, y => ¬ x < y | .gt, x, y => y < x | .le, x, y => ¬ y < x | .eq, x, y => x = y | .ne, x, y => ¬ x = y
theorem own_lcT {cd : ClassFile.Cond} {x y : Int64} (h : own_lcv cd x y) : ifCond.holds cd (lcmpW x y) = true := by
  rw [if0]
  cases cd
  · exact (teq ((lw_eq x y).mpr h)).1
  · exact (feq (fun q => h ((lw_eq x y).mp q))).2
  · exact (tlt ((lw_lt x y).mpr h)).1
  · exact (flt (fun q => h ((lw_lt x y).mp q))).2.1
  · exact (tlt ((lw_gt x y).mpr h)).2.2.1
  · exact (flt (fun q => h ((lw_gt x y).mp q))).2.2.2
theorem own_lcF {cd : ClassFile.Cond} {x y : Int64} (h : ¬ own_lcv cd x y) : ifCond.holds cd (lcmpW x y) = false := by
  rw [if0]
  cases cd
  · exact (feq (fun q => h ((lw_eq x y).mp q))).1
  · exact (teq (Classical.byContradiction fun q => h (fun r => q ((lw_eq x y).mpr r)))).2
  · exact (flt (fun q => h ((lw_lt x y).mp q))).1
  · exact (tlt (Classical.byContradiction fun q => h (fun r => q ((lw_lt x y).mpr r)))).2.1
  · exact (flt (fun q => h ((lw_gt x y).mp q))).2.2.1
  · exact (tlt (Classical.byContradiction fun q => h (fun r => q ((lw_gt x y).mpr r)))).2.2.2

theorem own_pd__IJJI_V : parseMethodDescriptor "(IJJI)V" = some ⟨[.int, .long, .long, .int], none⟩ := by decide +kernel
theorem own_pd__J_Z : parseMethodDescriptor "(J)Z" = some ⟨[.long], some .boolean⟩ := by decide +kernel
theorem d1_0 : decode prog_12_method_1_code 0 = .ok (.aload_n 0, 1) := by decide +kernel
theorem d1_1 : decode prog_12_method_1_code 1 = .ok (.invokespecial 1, 3) := by decide +kernel
theorem d1_4 : decode prog_12_method_1_code 4 = .ok (.aload_n 0, 1) := by decide +kernel
theorem d1_5 : decode prog_12_method_1_code 5 = .ok (.iload_n 1, 1) := by decide +kernel
theorem d1_6 : decode prog_12_method_1_code 6 = .ok (.putfield 7, 3) := by decide +kernel
theorem d1_9 : decode prog_12_method_1_code 9 = .ok (.aload_n 0, 1) := by decide +kernel
theorem d1_10 : decode prog_12_method_1_code 10 = .ok (.lload_n 2, 1) := by decide +kernel
theorem d1_11 : decode prog_12_method_1_code 11 = .ok (.putfield 13, 3) := by decide +kernel
theorem d1_14 : decode prog_12_method_1_code 14 = .ok (.aload_n 0, 1) := by decide +kernel
theorem d1_15 : decode prog_12_method_1_code 15 = .ok (.lload 4, 2) := by decide +kernel
theorem d1_17 : decode prog_12_method_1_code 17 = .ok (.putfield 17, 3) := by decide +kernel
theorem d1_20 : decode prog_12_method_1_code 20 = .ok (.aload_n 0, 1) := by decide +kernel
theorem d1_21 : decode prog_12_method_1_code 21 = .ok (.iload 6, 2) := by decide +kernel
theorem d1_23 : decode prog_12_method_1_code 23 = .ok (.putfield 20, 3) := by decide +kernel
theorem d1_26 : decode prog_12_method_1_code 26 = .ok (.return_, 1) := by decide +kernel
theorem own_pn1 : plainName "com/example/adige/adige/ContingentLink" = true := by first | (simp [plainName, overriddenIn]; done) | decide +kernel
theorem own_ef1 (m : MethodId) (a : Addr) (x0 : Int32) (x1 : Int64) (x2 : Int64) (x3 : Int32) : entryFrame m #[(.ref a), (.int x0), (.long x1), (.long x2), (.int x3)] 7 = mkF m 0 #[.val (.ref a), .val (.int x0), .val (.long x1), .second, .val (.long x2), .second, .val (.int x3)] [] := by first | (simp [entryFrame, mkF, argsToLocals, Value.category]; done) | rfl
def Q1 (Z : State) (a : Addr) (x0 : Int32) (x1 : Int64) (x2 : Int64) (x3 : Int32) (u0 : Value) (u1 : Value) (u2 : Value) (u3 : Value) (h0 : Heap) (n0 : Nat) (v : Option Value) (h : Heap) (L : List Loc) : Prop := v = none ∧ Fr n0 L ∧ Keep h0 h [a] ∧ Exa Z h a "com/example/adige/adige/ContingentLink" ∧ Fld Z h a "com/example/adige/adige/ContingentLink" "activation" "I" (.int x0) ∧ Fld Z h a "com/example/adige/adige/ContingentLink" "lower" "J" (.long x1) ∧ Fld Z h a "com/example/adige/adige/ContingentLink" "upper" "J" (.long x2) ∧ Fld Z h a "com/example/adige/adige/ContingentLink" "contingent" "I" (.int x3)
set_option maxRecDepth 65536 in
set_option maxHeartbeats 4000000 in
theorem rm1 (l : Launch) (Z : State) (a0 : Array Value) (hw : ∀ d ∈ tables_1, d.before a0 Z = true) (ws : List Jvm.Cond) (a : Addr) (x0 : Int32) (x1 : Int64) (x2 : Int64) (x3 : Int32) (u0 : Value) (u1 : Value) (u2 : Value) (u3 : Value) (h0 : Heap) (n0 : Nat) (Z0 : n0 ≤ h0.size) (F0 : Exa Z h0 a "com/example/adige/adige/ContingentLink") (F1 : Fld Z h0 a "com/example/adige/adige/ContingentLink" "activation" "I" u0) (F2 : Fld Z h0 a "com/example/adige/adige/ContingentLink" "lower" "J" u1) (F3 : Fld Z h0 a "com/example/adige/adige/ContingentLink" "upper" "J" u2) (F4 : Fld Z h0 a "com/example/adige/adige/ContingentLink" "contingent" "I" u3) (g_a : n0 ≤ a) :
    MetFree l (⟨"com/example/adige/adige/ContingentLink", "<init>", "(IJJI)V"⟩ : MethodName) (head1 (Jvm.Cond.code (⟨"com/example/adige/adige/ContingentLink", "<init>", "(IJJI)V"⟩ : MethodName) prog_12_method_1_code 7 none :: ws) ({ frames := 1, cells := 0, slots := 0, locals := 12 } : Room)) (fun aW U => aW = #[(.ref a), (.int x0), (.long x1), (.long x2), (.int x3)] ∧ Z.Warmed39 U.vm ∧ U.heap = h0) (fun _ _ _ _ _ => True) (fun _ U o U' => ∃ v L, o = .returned v ∧ Q1 Z a x0 x1 x2 x3 u0 u1 u2 u3 h0 n0 v U'.heap L ∧ FrameEnd U o U' L ({ frames := 1, cells := 0, slots := 0, locals := 12 } : Room).cells ({ frames := 1, cells := 0, slots := 0, locals := 12 } : Room).slots) := by
  refine MetFree.of_bodySF (plainFor_of_name own_pn1) hisR ?_
  intro p e s m args below meth c s₁ Bd hml0 hP hK
  obtain ⟨rfl, hZ, hh⟩ := hP
  have hx := Bd.exec
  have hby := Bd.bytes
  have hml : c.maxLocals = 7 := hml0
  have hown : s.vm.findClass "com/example/adige/adige/ContingentLink" = some m.cls := findClass_of_methodNamed Bd.named
  have hnm := (name_of_methodNamed Bd.named Bd.method).1
  have X0 : Stand p l e ({ frames := 1, cells := 0, slots := 0, locals := 12 } : Room) s m #[(.ref a), (.int x0), (.long x1), (.long x2), (.int x3)] below meth c s₁ [] 0 0 := Stand.of_body Bd
  have e0 : s₁.heap = h0 := by rw [← hh, Bd.state]; rfl
  have N0 := Fr.nil n0
  have K0 : Keep h0 h0 [a] := Keep.refl _ _
  obtain ⟨Pq, hPq⟩ : ∃ P, P = own_P s below (fun v h L => Q1 Z a x0 x1 x2 x3 u0 u1 u2 u3 h0 n0 v h L) ({ frames := 1, cells := 0, slots := 0, locals := 12 } : Room).cells ({ frames := 1, cells := 0, slots := 0, locals := 12 } : Room).slots := ⟨_, rfl⟩
  suffices hgo : own_Go p.tables e below Pq s₁ (mkF m 0 #[.val (.ref a), .val (.int x0), .val (.long x1), .second, .val (.long x2), .second, .val (.int x3)] []) by
    subst hPq
    obtain ⟨t, k1, k2, o, k3, k4⟩ := hgo
    exact ⟨t, o, castTop (own_ef1 m a x0 x1 x2 x3) k1, k2, k3, k4⟩
  show own_Go _ _ _ _ s₁ (mkF m 0 #[.val (.ref a), .val (.int x0), .val (.long x1), .second, .val (.long x2), .second, .val (.int x3)] [])
  refine own_st (fun t k => XS.aloadN X0.here hx rfl (hb hby d1_0) rfl rfl k) ?_
  show own_Go _ _ _ _ s₁ (mkF m 1 _ [(.ref a)])
  obtain ⟨T1, X1, e1, st1⟩ := initO X0 hx hZ hown (hw _ (List.mem_of_getElem? (i := 6) rfl)) (hw _ (List.mem_of_getElem? (i := 7) rfl)) (hw _ (List.mem_of_getElem? (i := 8) rfl)) e0 (g := (mkF m 1 #[.val (.ref a), .val (.int x0), .val (.long x1), .second, .val (.long x2), .second, .val (.int x3)] [(.ref a)])) rfl (by rw [hml]; rfl) rfl (hb hby d1_1) (by decide) (W := 0) (by show 2 * 0 + _ ≤ _; exact Nat.le_of_eq rfl) (by decide)
  refine own_st st1 ?_
  show own_Go _ _ _ _ T1 (mkF m 4 _ [])
  refine own_st (fun t k => XS.aloadN X1.here hx rfl (hb hby d1_4) rfl rfl k) ?_
  show own_Go _ _ _ _ T1 (mkF m 5 _ [(.ref a)])
  refine own_st (fun t k => XS.iloadN X1.here hx rfl (hb hby d1_5) rfl k) ?_
  show own_Go _ _ _ _ T1 (mkF m 6 _ [(.int x0), (.ref a)])
  obtain ⟨T2, h2, X2, e2, W2, st2⟩ := putF X1 hx hZ hown (host := "") (Or.inl (hw _ (List.mem_of_getElem? (i := 9) rfl))) Via.refl e1 F1 F0 (Or.inr ⟨(hw _ (List.mem_of_getElem? (i := 10) rfl)), rfl, hnm⟩) (hw _ (List.mem_of_getElem? (i := 1) rfl)) (ty := .int) (by decide) rfl rfl (g := (mkF m 6 #[.val (.ref a), .val (.int x0), .val (.long x1), .second, .val (.long x2), .second, .val (.int x3)] [(.int x0), (.ref a)])) rfl rfl (hb hby d1_6)
  refine own_st st2 ?_
  have f3 := F0.wr W2
  have f4 := F2.other W2 (Or.inr (slot_ne (Or.inr (hw _ (List.mem_of_getElem? (i := 12) rfl))) (Or.inr (hw _ (List.mem_of_getElem? (i := 10) rfl))) (by decide) (t := .long) (t' := .int) (by decide) (by decide)))
  have f5 := F3.other W2 (Or.inr (slot_ne (Or.inr (hw _ (List.mem_of_getElem? (i := 14) rfl))) (Or.inr (hw _ (List.mem_of_getElem? (i := 10) rfl))) (by decide) (t := .long) (t' := .int) (by decide) (by decide)))
  have f6 := F4.other W2 (Or.inr (slot_ne (Or.inr (hw _ (List.mem_of_getElem? (i := 16) rfl))) (Or.inr (hw _ (List.mem_of_getElem? (i := 10) rfl))) (by decide) (t := .int) (t' := .int) (by decide) (by decide)))
  have N7 := Fr.snoc X2 N0 g_a
  have Z8 : n0 ≤ h2.size := Nat.le_trans Z0 (Nat.le_of_eq W2.size.symm)
  have K9 : Keep h0 h2 [a] := K0.wr W2 (Or.inl (List.mem_of_getElem? (i := 0) rfl))
  have f10 := F1.same W2
  show own_Go _ _ _ _ T2 (mkF m 9 _ [])
  refine own_st (fun t k => XS.aloadN X2.here hx rfl (hb hby d1_9) rfl rfl k) ?_
  show own_Go _ _ _ _ T2 (mkF m 10 _ [(.ref a)])
  refine own_st (fun t k => XS.lloadN X2.here hx rfl (hb hby d1_10) rfl k) ?_
  show own_Go _ _ _ _ T2 (mkF m 11 _ [(.long x1), (.ref a)])
  obtain ⟨T11, h11, X11, e11, W11, st11⟩ := putF X2 hx hZ hown (host := "") (Or.inl (hw _ (List.mem_of_getElem? (i := 11) rfl))) Via.refl e2 f4 f3 (Or.inr ⟨(hw _ (List.mem_of_getElem? (i := 12) rfl)), rfl, hnm⟩) (hw _ (List.mem_of_getElem? (i := 1) rfl)) (ty := .long) (by decide) rfl rfl (g := (mkF m 11 #[.val (.ref a), .val (.int x0), .val (.long x1), .second, .val (.long x2), .second, .val (.int x3)] [(.long x1), (.ref a)])) rfl rfl (hb hby d1_11)
  refine own_st st11 ?_
  have f12 := f3.wr W11
  have f13 := f5.other W11 (Or.inr (slot_ne (Or.inr (hw _ (List.mem_of_getElem? (i := 14) rfl))) (Or.inr (hw _ (List.mem_of_getElem? (i := 12) rfl))) (by decide) (t := .long) (t' := .long) (by decide) (by decide)))
  have f14 := f6.other W11 (Or.inr (slot_ne (Or.inr (hw _ (List.mem_of_getElem? (i := 16) rfl))) (Or.inr (hw _ (List.mem_of_getElem? (i := 12) rfl))) (by decide) (t := .int) (t' := .long) (by decide) (by decide)))
  have f15 := f10.other W11 (Or.inr (slot_ne (Or.inr (hw _ (List.mem_of_getElem? (i := 10) rfl))) (Or.inr (hw _ (List.mem_of_getElem? (i := 12) rfl))) (by decide) (t := .int) (t' := .long) (by decide) (by decide)))
  have N16 := Fr.snoc X11 N7 g_a
  have Z17 : n0 ≤ h11.size := Nat.le_trans Z8 (Nat.le_of_eq W11.size.symm)
  have K18 : Keep h0 h11 [a] := K9.wr W11 (Or.inl (List.mem_of_getElem? (i := 0) rfl))
  have f19 := f4.same W11
  show own_Go _ _ _ _ T11 (mkF m 14 _ [])
  refine own_st (fun t k => XS.aloadN X11.here hx rfl (hb hby d1_14) rfl rfl k) ?_
  show own_Go _ _ _ _ T11 (mkF m 15 _ [(.ref a)])
  refine own_st (fun t k => XS.lload X11.here hx rfl (hb hby d1_15) rfl k) ?_
  show own_Go _ _ _ _ T11 (mkF m 17 _ [(.long x2), (.ref a)])
  obtain ⟨T20, h20, X20, e20, W20, st20⟩ := putF X11 hx hZ hown (host := "") (Or.inl (hw _ (List.mem_of_getElem? (i := 13) rfl))) Via.refl e11 f13 f12 (Or.inr ⟨(hw _ (List.mem_of_getElem? (i := 14) rfl)), rfl, hnm⟩) (hw _ (List.mem_of_getElem? (i := 1) rfl)) (ty := .long) (by decide) rfl rfl (g := (mkF m 17 #[.val (.ref a), .val (.int x0), .val (.long x1), .second, .val (.long x2), .second, .val (.int x3)] [(.long x2), (.ref a)])) rfl rfl (hb hby d1_17)
  refine own_st st20 ?_
  have f21 := f12.wr W20
  have f22 := f14.other W20 (Or.inr (slot_ne (Or.inr (hw _ (List.mem_of_getElem? (i := 16) rfl))) (Or.inr (hw _ (List.mem_of_getElem? (i := 14) rfl))) (by decide) (t := .int) (t' := .long) (by decide) (by decide)))
  have f23 := f15.other W20 (Or.inr (slot_ne (Or.inr (hw _ (List.mem_of_getElem? (i := 10) rfl))) (Or.inr (hw _ (List.mem_of_getElem? (i := 14) rfl))) (by decide) (t := .int) (t' := .long) (by decide) (by decide)))
  have f24 := f19.other W20 (Or.inr (slot_ne (Or.inr (hw _ (List.mem_of_getElem? (i := 12) rfl))) (Or.inr (hw _ (List.mem_of_getElem? (i := 14) rfl))) (by decide) (t := .long) (t' := .long) (by decide) (by decide)))
  have N25 := Fr.snoc X20 N16 g_a
  have Z26 : n0 ≤ h20.size := Nat.le_trans Z17 (Nat.le_of_eq W20.size.symm)
  have K27 : Keep h0 h20 [a] := K18.wr W20 (Or.inl (List.mem_of_getElem? (i := 0) rfl))
  have f28 := f13.same W20
  show own_Go _ _ _ _ T20 (mkF m 20 _ [])
  refine own_st (fun t k => XS.aloadN X20.here hx rfl (hb hby d1_20) rfl rfl k) ?_
  show own_Go _ _ _ _ T20 (mkF m 21 _ [(.ref a)])
  refine own_st (fun t k => XS.iload X20.here hx rfl (hb hby d1_21) rfl k) ?_
  show own_Go _ _ _ _ T20 (mkF m 23 _ [(.int x3), (.ref a)])
  obtain ⟨T29, h29, X29, e29, W29, st29⟩ := putF X20 hx hZ hown (host := "") (Or.inl (hw _ (List.mem_of_getElem? (i := 15) rfl))) Via.refl e20 f22 f21 (Or.inr ⟨(hw _ (List.mem_of_getElem? (i := 16) rfl)), rfl, hnm⟩) (hw _ (List.mem_of_getElem? (i := 1) rfl)) (ty := .int) (by decide) rfl rfl (g := (mkF m 23 #[.val (.ref a), .val (.int x0), .val (.long x1), .second, .val (.long x2), .second, .val (.int x3)] [(.int x3), (.ref a)])) rfl rfl (hb hby d1_23)
  refine own_st st29 ?_
  have f30 := f21.wr W29
  have f31 := f23.other W29 (Or.inr (slot_ne (Or.inr (hw _ (List.mem_of_getElem? (i := 10) rfl))) (Or.inr (hw _ (List.mem_of_getElem? (i := 16) rfl))) (by decide) (t := .int) (t' := .int) (by decide) (by decide)))
  have f32 := f24.other W29 (Or.inr (slot_ne (Or.inr (hw _ (List.mem_of_getElem? (i := 12) rfl))) (Or.inr (hw _ (List.mem_of_getElem? (i := 16) rfl))) (by decide) (t := .long) (t' := .int) (by decide) (by decide)))
  have f33 := f28.other W29 (Or.inr (slot_ne (Or.inr (hw _ (List.mem_of_getElem? (i := 14) rfl))) (Or.inr (hw _ (List.mem_of_getElem? (i := 16) rfl))) (by decide) (t := .long) (t' := .int) (by decide) (by decide)))
  have N34 := Fr.snoc X29 N25 g_a
  have Z35 : n0 ≤ h29.size := Nat.le_trans Z26 (Nat.le_of_eq W29.size.symm)
  have K36 : Keep h0 h29 [a] := K27.wr W29 (Or.inl (List.mem_of_getElem? (i := 0) rfl))
  have f37 := f22.same W29
  show own_Go _ _ _ _ T29 (mkF m 26 _ [])
  subst hPq
  refine own_out X29 (v := none) (fun _ => rfl) Bd.notSynchronized (fun fs hr => X29.returnOut hx Bd.returns (hb hby d1_26) hr) (by decide) (by decide) ?_
  show Q1 Z a x0 x1 x2 x3 u0 u1 u2 u3 h0 n0 _ T29.heap _
  rw [e29]
  exact ⟨rfl, N34, K36, f30, f31, f32, f33, f37⟩
def own_admits (q : Int64) (lo : Int64) (hi : Int64) : Int32 := (if q < lo then (0 : Int32) else (if hi < q then (0 : Int32) else (1 : Int32)))
theorem own_admits_b (q : Int64) (lo : Int64) (hi : Int64) : (own_admits q lo hi) = 0 ∨ (own_admits q lo hi) = 1 := by
  unfold own_admits
  (repeat' split) <;> first | exact Or.inl rfl | exact Or.inr rfl
theorem d2_0 : decode prog_12_method_6_code 0 = .ok (.aload_n 0, 1) := by decide +kernel
theorem d2_1 : decode prog_12_method_6_code 1 = .ok (.getfield 13, 3) := by decide +kernel
theorem d2_4 : decode prog_12_method_6_code 4 = .ok (.lload_n 1, 1) := by decide +kernel
theorem d2_5 : decode prog_12_method_6_code 5 = .ok (.lcmp, 1) := by decide +kernel
theorem d2_6 : decode prog_12_method_6_code 6 = .ok (.ifCond .gt 16, 3) := by decide +kernel
theorem d2_9 : decode prog_12_method_6_code 9 = .ok (.lload_n 1, 1) := by decide +kernel
theorem d2_10 : decode prog_12_method_6_code 10 = .ok (.aload_n 0, 1) := by decide +kernel
theorem d2_11 : decode prog_12_method_6_code 11 = .ok (.getfield 17, 3) := by decide +kernel
theorem d2_14 : decode prog_12_method_6_code 14 = .ok (.lcmp, 1) := by decide +kernel
theorem d2_15 : decode prog_12_method_6_code 15 = .ok (.ifCond .gt 7, 3) := by decide +kernel
theorem d2_18 : decode prog_12_method_6_code 18 = .ok (.iconst 1, 1) := by decide +kernel
theorem d2_19 : decode prog_12_method_6_code 19 = .ok (.goto 4, 3) := by decide +kernel
theorem d2_22 : decode prog_12_method_6_code 22 = .ok (.iconst 0, 1) := by decide +kernel
theorem d2_23 : decode prog_12_method_6_code 23 = .ok (.ireturn, 1) := by decide +kernel
theorem own_pn2 : plainName "com/example/adige/adige/ContingentLink" = true := by first | (simp [plainName, overriddenIn]; done) | decide +kernel
theorem own_ef2 (m : MethodId) (a : Addr) (q : Int64) : entryFrame m #[(.ref a), (.long q)] 3 = mkF m 0 #[.val (.ref a), .val (.long q), .second] [] := by first | (simp [entryFrame, mkF, argsToLocals, Value.category]; done) | rfl
def Q2 (Z : State) (a : Addr) (q : Int64) (lo : Int64) (hi : Int64) (h0 : Heap) (n0 : Nat) (v : Option Value) (h : Heap) (L : List Loc) : Prop := v = some (.int (own_admits q lo hi)) ∧ Fr n0 L ∧ h = h0
set_option maxRecDepth 65536 in
set_option maxHeartbeats 4000000 in
theorem rm2 (l : Launch) (Z : State) (a0 : Array Value) (hw : ∀ d ∈ tables_1, d.before a0 Z = true) (ws : List Jvm.Cond) (a : Addr) (q : Int64) (lo : Int64) (hi : Int64) (h0 : Heap) (n0 : Nat) (Z0 : n0 ≤ h0.size) (F0 : Exa Z h0 a "com/example/adige/adige/ContingentLink") (F1 : Fld Z h0 a "com/example/adige/adige/ContingentLink" "lower" "J" (.long lo)) (F2 : Fld Z h0 a "com/example/adige/adige/ContingentLink" "upper" "J" (.long hi)) :
    MetFree l (⟨"com/example/adige/adige/ContingentLink", "admits", "(J)Z"⟩ : MethodName) (head1 (Jvm.Cond.code (⟨"com/example/adige/adige/ContingentLink", "admits", "(J)Z"⟩ : MethodName) prog_12_method_6_code 3 (some .boolean) :: ws) ({ frames := 0, cells := 0, slots := 0, locals := 0 } : Room)) (fun aW U => aW = #[(.ref a), (.long q)] ∧ Z.Warmed39 U.vm ∧ U.heap = h0) (fun _ _ _ _ _ => True) (fun _ U o U' => ∃ v L, o = .returned v ∧ Q2 Z a q lo hi h0 n0 v U'.heap L ∧ FrameEnd U o U' L ({ frames := 0, cells := 0, slots := 0, locals := 0 } : Room).cells ({ frames := 0, cells := 0, slots := 0, locals := 0 } : Room).slots) := by
  refine MetFree.of_bodySF (plainFor_of_name own_pn2) hisR ?_
  intro p e s m args below meth c s₁ Bd hml0 hP hK
  obtain ⟨rfl, hZ, hh⟩ := hP
  have hx := Bd.exec
  have hby := Bd.bytes
  have hml : c.maxLocals = 3 := hml0
  have hown : s.vm.findClass "com/example/adige/adige/ContingentLink" = some m.cls := findClass_of_methodNamed Bd.named
  have hnm := (name_of_methodNamed Bd.named Bd.method).1
  have X0 : Stand p l e ({ frames := 0, cells := 0, slots := 0, locals := 0 } : Room) s m #[(.ref a), (.long q)] below meth c s₁ [] 0 0 := Stand.of_body Bd
  have e0 : s₁.heap = h0 := by rw [← hh, Bd.state]; rfl
  have N0 := Fr.nil n0
  obtain ⟨Pq, hPq⟩ : ∃ P, P = own_P s below (fun v h L => Q2 Z a q lo hi h0 n0 v h L) ({ frames := 0, cells := 0, slots := 0, locals := 0 } : Room).cells ({ frames := 0, cells := 0, slots := 0, locals := 0 } : Room).slots := ⟨_, rfl⟩
  suffices hgo : own_Go p.tables e below Pq s₁ (mkF m 0 #[.val (.ref a), .val (.long q), .second] []) by
    subst hPq
    obtain ⟨t, k1, k2, o, k3, k4⟩ := hgo
    exact ⟨t, o, castTop (own_ef2 m a q) k1, k2, k3, k4⟩
  show own_Go _ _ _ _ s₁ (mkF m 0 #[.val (.ref a), .val (.long q), .second] [])
  refine own_st (fun t k => XS.aloadN X0.here hx rfl (hb hby d2_0) rfl rfl k) ?_
  show own_Go _ _ _ _ s₁ (mkF m 1 _ [(.ref a)])
  obtain ⟨T1, X1, e1, st1⟩ := getF X0 hx hZ hown (host := "") (Or.inl (hw _ (List.mem_of_getElem? (i := 11) rfl))) Via.refl e0 F1 (g := (mkF m 1 #[.val (.ref a), .val (.long q), .second] [(.ref a)])) rfl rfl (hb hby d2_1)
  refine own_st st1 ?_
  show own_Go _ _ _ _ T1 (mkF m 4 _ [(.long lo)])
  refine own_st (fun t k => XS.lloadN X1.here hx rfl (hb hby d2_4) rfl k) ?_
  show own_Go _ _ _ _ T1 (mkF m 5 _ [(.long q), (.long lo)])
  refine own_st (fun t k => XS.lcmp X1.here hx rfl (hb hby d2_5) rfl k) ?_
  show own_Go _ _ _ _ T1 (mkF m 6 _ [(.int (lcmpW lo q))])
  have J8 : ∀ (Tj8 : State) (Lj8 : List Loc) (p9 : Int32), Stand p l e ({ frames := 0, cells := 0, slots := 0, locals := 0 } : Room) s m #[(.ref a), (.long q)] below meth c Tj8 Lj8 0 0 → Tj8.heap = h0 → Fr n0 Lj8 → p9 = (if q < lo then (0 : Int32) else (if hi < q then (0 : Int32) else (1 : Int32))) → own_Go p.tables e below Pq Tj8 (mkF m 23 #[.val (.ref a), .val (.long q), .second] [(.int p9)]) := by
    intro Tj8 Lj8 p9 Xj8 ej8 Nj8 qp9
    show own_Go _ _ _ _ Tj8 (mkF m 23 _ [(.int p9)])
    have hb_p9 : p9 = 0 ∨ p9 = 1 := by rw [qp9]; (repeat' split) <;> first | exact Or.inl rfl | exact Or.inr rfl | assumption
    subst hPq
    refine own_out Xj8 (v := some (.int p9)) (fun h => by rw [Bd.returns] at h; cases h) Bd.notSynchronized (own_retZ Xj8 hx Bd.returns (hb hby d2_23) hb_p9) (by decide) (by decide) ?_
    show Q2 Z a q lo hi h0 n0 _ Tj8.heap _
    rw [ej8]
    exact ⟨by subst_vars; rfl, Nj8, rfl⟩
  by_cases c2 : q < lo
  · skip
    refine own_st (fun t k => XS.ifYes X1.here hx rfl (pc0 := 6) (pc' := 22) rfl (hb hby d2_6) rfl (own_lcT (cd := .gt) c2) (by decide) (by decide) k) ?_
    show own_Go _ _ _ _ T1 (mkF m 22 _ [])
    refine own_st (fun t k => XS.iconst X1.here hx rfl (hb hby d2_22) k) ?_
    show own_Go _ _ _ _ T1 (mkF m 23 _ [(.int (0 : Int32))])
    exact J8 T1 _ _ X1 e1 N0 (by simp only [if_pos c2])
  · skip
    refine own_st (fun t k => XS.ifNo X1.here hx rfl (hb hby d2_6) rfl (own_lcF (cd := .gt) c2) k) ?_
    show own_Go _ _ _ _ T1 (mkF m 9 _ [])
    refine own_st (fun t k => XS.lloadN X1.here hx rfl (hb hby d2_9) rfl k) ?_
    show own_Go _ _ _ _ T1 (mkF m 10 _ [(.long q)])
    refine own_st (fun t k => XS.aloadN X1.here hx rfl (hb hby d2_10) rfl rfl k) ?_
    show own_Go _ _ _ _ T1 (mkF m 11 _ [(.ref a), (.long q)])
    obtain ⟨T4, X4, e4, st4⟩ := getF X1 hx hZ hown (host := "") (Or.inl (hw _ (List.mem_of_getElem? (i := 13) rfl))) Via.refl e1 F2 (g := (mkF m 11 #[.val (.ref a), .val (.long q), .second] [(.ref a), (.long q)])) rfl rfl (hb hby d2_11)
    refine own_st st4 ?_
    show own_Go _ _ _ _ T4 (mkF m 14 _ [(.long hi), (.long q)])
    refine own_st (fun t k => XS.lcmp X4.here hx rfl (hb hby d2_14) rfl k) ?_
    show own_Go _ _ _ _ T4 (mkF m 15 _ [(.int (lcmpW q hi))])
    by_cases c5 : hi < q
    · skip
      refine own_st (fun t k => XS.ifYes X4.here hx rfl (pc0 := 15) (pc' := 22) rfl (hb hby d2_15) rfl (own_lcT (cd := .gt) c5) (by decide) (by decide) k) ?_
      show own_Go _ _ _ _ T4 (mkF m 22 _ [])
      refine own_st (fun t k => XS.iconst X4.here hx rfl (hb hby d2_22) k) ?_
      show own_Go _ _ _ _ T4 (mkF m 23 _ [(.int (0 : Int32))])
      exact J8 T4 _ _ X4 e4 N0 (by simp only [if_neg c2, if_pos c5])
    · skip
      refine own_st (fun t k => XS.ifNo X4.here hx rfl (hb hby d2_15) rfl (own_lcF (cd := .gt) c5) k) ?_
      show own_Go _ _ _ _ T4 (mkF m 18 _ [])
      refine own_st (fun t k => XS.iconst X4.here hx rfl (hb hby d2_18) k) ?_
      show own_Go _ _ _ _ T4 (mkF m 19 _ [(.int (1 : Int32))])
      refine own_st (fun t k => XS.goto X4.here hx rfl (pc0 := 19) (pc' := 23) rfl (hb hby d2_19) (by decide) (by decide) k) ?_
      show own_Go _ _ _ _ T4 (mkF m 23 _ [(.int (1 : Int32))])
      exact J8 T4 _ _ X4 e4 N0 (by simp only [if_neg c2, if_neg c5])
theorem own_pn0 : plainName "com/example/adige/adige/ContingentLinkAdmitsPinLaw" = true := by first | (simp [plainName, overriddenIn]; done) | decide +kernel
theorem own_ef0 (m : MethodId) (x0 : Int32) (x1 : Int64) (x2 : Int64) (x3 : Int32) (x4 : Int64) : entryFrame m #[(.int x0), (.long x1), (.long x2), (.int x3), (.long x4)] maxLocals = mkF m 0 #[.val (.int x0), .val (.long x1), .second, .val (.long x2), .second, .val (.int x3), .val (.long x4), .second, .unset, .unset, .unset] [] := by first | (simp [entryFrame, mkF, argsToLocals, Value.category, maxLocals]; done) | rfl
def Q0 (Z : State) (x0 : Int32) (x1 : Int64) (x2 : Int64) (x3 : Int32) (x4 : Int64) (h0 : Heap) (n0 : Nat) (v : Option Value) (h : Heap) (L : List Loc) : Prop := v = some (.int 1) ∧ Fr n0 L
theorem own_law (x0 : Int32) (x1 : Int64) (x2 : Int64) (x3 : Int32) (x4 : Int64) (p16 : Int32) (p25 : Int32) (p30 : Int32) (p39 : Int32) (p48 : Int32) (p62 : Int32) (p76 : Int32) (qp16 : p16 = (if x2 < x1 then (0 : Int32) else (1 : Int32))) (qp25 : p25 = (if x4 < x1 then (0 : Int32) else (if x2 < x4 then (0 : Int32) else (1 : Int32)))) (qp30 : p30 = (if (own_admits x4 x1 x2) = p25 then (1 : Int32) else (0 : Int32))) (qp39 : p39 = (if p30 = (0 : Int32) then (0 : Int32) else (if (own_admits x1 x1 x2) = p16 then (1 : Int32) else (0 : Int32)))) (qp48 : p48 = (if p39 = (0 : Int32) then (0 : Int32) else (if (own_admits x2 x1 x2) = p16 then (1 : Int32) else (0 : Int32)))) (qp62 : p62 = (if x1 = (-9223372036854775808 : Int64) then p48 else (if p48 = (0 : Int32) then (0 : Int32) else (if (own_admits (x1 - (1 : Int64)) x1 x2) = (0 : Int32) then (1 : Int32) else (0 : Int32))))) (qp76 : p76 = (if x2 = (9223372036854775807 : Int64) then p62 else (if p62 = (0 : Int32) then (0 : Int32) else (if (own_admits (x2 + (1 : Int64)) x1 x2) = (0 : Int32) then (1 : Int32) else (0 : Int32))))) : p76 = 1 := by
  have a1 : p30 = 1 := by rw [qp30, qp25]; exact if_pos rfl
  have a2 : own_admits x1 x1 x2 = p16 := by rw [qp16]; unfold own_admits; rw [if_neg (by rw [Int64.lt_iff_toInt_lt]; omega)]
  have a3 : own_admits x2 x1 x2 = p16 := by rw [qp16]; unfold own_admits; rw [if_neg (c := x2 < x2) (by rw [Int64.lt_iff_toInt_lt]; omega)]
  rw [a1, if_pos a2] at qp39
  have a4 : p39 = 1 := qp39
  rw [a4, if_pos a3] at qp48
  have a5 : p48 = 1 := qp48
  have a6 : p62 = 1 := by
    rw [qp62]; split
    · exact a5
    · rename_i h
      have h1 : own_admits (x1 - 1) x1 x2 = 0 := by
        unfold own_admits
        rw [if_pos]
        have e := c_lsub x1 1
        have r := rng64 x1; have r2 := rng64 (x1 - 1)
        rw [← Int64.toInt_inj, show (-9223372036854775808 : Int64).toInt = -9223372036854775808 from rfl] at h
        rw [Int64.lt_iff_toInt_lt]
        rw [show (1 : Int64).toInt = 1 from rfl] at e
        omega
      rw [a5, if_pos h1]; rfl
  rw [qp76]; split
  · exact a6
  · rename_i h
    have h1 : own_admits (x2 + 1) x1 x2 = 0 := by
      unfold own_admits
      have e := c_ladd x2 1
      have r := rng64 x2; have r2 := rng64 (x2 + 1)
      rw [← Int64.toInt_inj, show (9223372036854775807 : Int64).toInt = 9223372036854775807 from rfl] at h
      rw [show (1 : Int64).toInt = 1 from rfl] at e
      split
      · rfl
      · rw [if_pos]; rw [Int64.lt_iff_toInt_lt]; omega
    rw [a6, if_pos h1]; rfl
set_option maxRecDepth 65536 in
set_option maxHeartbeats 4000000 in
theorem rm0 (l : Launch) (Z : State) (a0 : Array Value) (hw : ∀ d ∈ tables_1, d.before a0 Z = true) (ws : List Jvm.Cond) (x0 : Int32) (x1 : Int64) (x2 : Int64) (x3 : Int32) (x4 : Int64) (h0 : Heap) (n0 : Nat) (Z0 : n0 ≤ h0.size) :
    MetFree l x (head1 (Jvm.Cond.code x code maxLocals ret :: ws) room_1) (fun aW U => aW = #[(.int x0), (.long x1), (.long x2), (.int x3), (.long x4)] ∧ Z.Warmed39 U.vm ∧ U.heap = h0) (fun _ _ _ _ _ => True) (fun _ U o U' => ∃ v L, o = .returned v ∧ Q0 Z x0 x1 x2 x3 x4 h0 n0 v U'.heap L ∧ FrameEnd U o U' L 16 128) := by
  refine MetFree.of_bodySF (plainFor_of_name own_pn0) hisR ?_
  intro p e s m args below meth c s₁ Bd hml0 hP hK
  obtain ⟨rfl, hZ, hh⟩ := hP
  have hx := Bd.exec
  have hby := Bd.bytes
  have hml : c.maxLocals = 11 := hml0
  have hown : s.vm.findClass "com/example/adige/adige/ContingentLinkAdmitsPinLaw" = some m.cls := findClass_of_methodNamed Bd.named
  have hnm := (name_of_methodNamed Bd.named Bd.method).1
  have X0 : Stand p l e room_1 s m #[(.int x0), (.long x1), (.long x2), (.int x3), (.long x4)] below meth c s₁ [] 0 0 := Stand.of_body Bd
  have e0 : s₁.heap = h0 := by rw [← hh, Bd.state]; rfl
  have N0 := Fr.nil n0
  obtain ⟨Pq, hPq⟩ : ∃ P, P = own_P s below (fun v h L => Q0 Z x0 x1 x2 x3 x4 h0 n0 v h L) 16 128 := ⟨_, rfl⟩
  suffices hgo : own_Go p.tables e below Pq s₁ (mkF m 0 #[.val (.int x0), .val (.long x1), .second, .val (.long x2), .second, .val (.int x3), .val (.long x4), .second, .unset, .unset, .unset] []) by
    subst hPq
    obtain ⟨t, k1, k2, o, k3, k4⟩ := hgo
    exact ⟨t, o, castTop (own_ef0 m x0 x1 x2 x3 x4) k1, k2, k3, k4⟩
  show own_Go _ _ _ _ s₁ (mkF m 0 #[.val (.int x0), .val (.long x1), .second, .val (.long x2), .second, .val (.int x3), .val (.long x4), .second, .unset, .unset, .unset] [])
  obtain ⟨T1, h1, X1, e1, E1, A1, D1, -, st1⟩ := newO X0 hx hZ hown (hw _ (List.mem_of_getElem? (i := 0) rfl)) (hw _ (List.mem_of_getElem? (i := 1) rfl)) (hw _ (List.mem_of_getElem? (i := 2) rfl)) e0 (g := (mkF m 0 #[.val (.int x0), .val (.long x1), .second, .val (.long x2), .second, .val (.int x3), .val (.long x4), .second, .unset, .unset, .unset] [])) rfl (hb hby at_0) (by decide) (by decide)
  obtain ⟨b1, g1⟩ : ∃ z, z = h0.size := ⟨_, rfl⟩
  rw [← g1] at A1 D1 st1
  refine own_st st1 ?_
  have gx2 : n0 ≤ b1 := Nat.le_trans Z0 (Nat.le_of_eq g1.symm)
  have Z3 : n0 ≤ h1.size := Nat.le_trans Z0 E1.1
  have f4 : Fld Z h1 b1 "com/example/adige/adige/ContingentLink" "activation" "I" (.int (0 : Int32)) := D1 (Or.inr (hw _ (List.mem_of_getElem? (i := 10) rfl))) (ty := .int) (by decide)
  have f5 : Fld Z h1 b1 "com/example/adige/adige/ContingentLink" "lower" "J" (.long (0 : Int64)) := D1 (Or.inr (hw _ (List.mem_of_getElem? (i := 12) rfl))) (ty := .long) (by decide)
  have f6 : Fld Z h1 b1 "com/example/adige/adige/ContingentLink" "upper" "J" (.long (0 : Int64)) := D1 (Or.inr (hw _ (List.mem_of_getElem? (i := 14) rfl))) (ty := .long) (by decide)
  have f7 : Fld Z h1 b1 "com/example/adige/adige/ContingentLink" "contingent" "I" (.int (0 : Int32)) := D1 (Or.inr (hw _ (List.mem_of_getElem? (i := 16) rfl))) (ty := .int) (by decide)
  show own_Go _ _ _ _ T1 (mkF m 3 _ [(.ref b1)])
  refine own_st (fun t k => XS.dup X1.here hx rfl (hb hby at_3) rfl rfl k) ?_
  show own_Go _ _ _ _ T1 (mkF m 4 _ [(.ref b1), (.ref b1)])
  refine own_st (fun t k => XS.iloadN X1.here hx rfl (hb hby at_4) rfl k) ?_
  show own_Go _ _ _ _ T1 (mkF m 5 _ [(.int x0), (.ref b1), (.ref b1)])
  refine own_st (fun t k => XS.lloadN X1.here hx rfl (hb hby at_5) rfl k) ?_
  show own_Go _ _ _ _ T1 (mkF m 6 _ [(.long x1), (.int x0), (.ref b1), (.ref b1)])
  refine own_st (fun t k => XS.lloadN X1.here hx rfl (hb hby at_6) rfl k) ?_
  show own_Go _ _ _ _ T1 (mkF m 7 _ [(.long x2), (.long x1), (.int x0), (.ref b1), (.ref b1)])
  refine own_st (fun t k => XS.iload X1.here hx rfl (hb hby at_7) rfl k) ?_
  show own_Go _ _ _ _ T1 (mkF m 9 _ [(.int x3), (.long x2), (.long x1), (.int x0), (.ref b1), (.ref b1)])
  obtain ⟨_, _, ⟨T8, L8, k8, n8⟩, -, X8, ⟨Lc8, hQ8, l8, y8, z8⟩, st8⟩ := X1.specialBack hx (y := (⟨"com/example/adige/adige/ContingentLink", "<init>", "(IJJI)V"⟩ : MethodName)) rfl hown (mvT hZ (hw _ (List.mem_of_getElem? (i := 3) rfl))) (mvT hZ (hw _ (List.mem_of_getElem? (i := 4) rfl))) (mvT hZ (hw _ (List.mem_of_getElem? (i := 5) rfl))) (by decide) (backOf (W := 1) (rm1 l Z a0 hw [] b1 x0 x1 x2 x3 (.int (0 : Int32)) (.long (0 : Int64)) (.long (0 : Int64)) (.int (0 : Int32)) h1 n0 Z3 A1 f4 f5 f6 f7 gx2) hZ (hw _ (List.mem_of_getElem? (i := 5) rfl)) (hw _ (List.mem_of_getElem? (i := 2) rfl)) (by decide) (by decide)) (g := (mkF m 9 #[.val (.int x0), .val (.long x1), .second, .val (.long x2), .second, .val (.int x3), .val (.long x4), .second, .unset, .unset, .unset] [(.int x3), (.long x2), (.long x1), (.int x0), (.ref b1), (.ref b1)])) rfl (by rw [hml]; rfl) (Steps.refl _) (a := b1) (argsL := [(.int x0), (.long x1), (.long x2), (.int x3)]) (rest := [(.ref b1)]) (lenOf own_pd__IJJI_V rfl) rfl (by show 2 * 0 + _ ≤ _; exact Nat.le_of_eq rfl) (hb hby at_9) (fun _ _ => ⟨rfl, e1, (by decide : 1 + 0 ≤ _), (by decide : 4 + 0 ≤ _)⟩)
  dsimp only [Pt.U, Pt.locs, Pt.cells, Pt.slots] at X8 l8 y8 z8 st8 hQ8
  subst l8 y8 z8
  obtain ⟨rfl, NQ8, K8, fq8_0, fq8_1, fq8_2, fq8_3, fq8_4⟩ := hQ8
  have N9 := Fr.app N0 NQ8
  refine own_st (fun t k => st8.trans k) ?_
  have f10 := A1.keep K8
  have Z11 : n0 ≤ T8.heap.size := Nat.le_trans Z3 K8.1
  show own_Go _ _ _ _ T8 (mkF m 12 _ [(.ref b1)])
  refine own_st (fun t k => XS.astore X8.here hx rfl (hb hby at_12) rfl rfl (l' := #[.val (.int x0), .val (.long x1), .second, .val (.long x2), .second, .val (.int x3), .val (.long x4), .second, .val (.ref b1), .unset, .unset]) rfl k) ?_
  show own_Go _ _ _ _ T8 (mkF m 14 #[.val (.int x0), .val (.long x1), .second, .val (.long x2), .second, .val (.int x3), .val (.long x4), .second, .val (.ref b1), .unset, .unset] [])
  refine own_st (fun t k => XS.lloadN X8.here hx rfl (hb hby at_14) rfl k) ?_
  show own_Go _ _ _ _ T8 (mkF m 15 _ [(.long x1)])
  refine own_st (fun t k => XS.lloadN X8.here hx rfl (hb hby at_15) rfl k) ?_
  show own_Go _ _ _ _ T8 (mkF m 16 _ [(.long x2), (.long x1)])
  refine own_st (fun t k => XS.lcmp X8.here hx rfl (hb hby at_16) rfl k) ?_
  show own_Go _ _ _ _ T8 (mkF m 17 _ [(.int (lcmpW x1 x2))])
  have J15 : ∀ (Tj15 : State) (Lj15 : List Loc) (p16 : Int32), Stand p l e room_1 s m #[(.int x0), (.long x1), (.long x2), (.int x3), (.long x4)] below meth c Tj15 Lj15 1 4 → Tj15.heap = T8.heap → Fr n0 Lj15 → p16 = (if x2 < x1 then (0 : Int32) else (1 : Int32)) → own_Go p.tables e below Pq Tj15 (mkF m 25 #[.val (.int x0), .val (.long x1), .second, .val (.long x2), .second, .val (.int x3), .val (.long x4), .second, .val (.ref b1), .unset, .unset] [(.int p16)]) := by
    intro Tj15 Lj15 p16 Xj15 ej15 Nj15 qp16
    show own_Go _ _ _ _ Tj15 (mkF m 25 _ [(.int p16)])
    refine own_st (fun t k => XS.istore Xj15.here hx rfl (hb hby at_25) rfl (l' := #[.val (.int x0), .val (.long x1), .second, .val (.long x2), .second, .val (.int x3), .val (.long x4), .second, .val (.ref b1), .val (.int p16), .unset]) rfl k) ?_
    show own_Go _ _ _ _ Tj15 (mkF m 27 #[.val (.int x0), .val (.long x1), .second, .val (.long x2), .second, .val (.int x3), .val (.long x4), .second, .val (.ref b1), .val (.int p16), .unset] [])
    refine own_st (fun t k => XS.iconst Xj15.here hx rfl (hb hby at_27) k) ?_
    show own_Go _ _ _ _ Tj15 (mkF m 28 _ [(.int (1 : Int32))])
    refine own_st (fun t k => XS.istore Xj15.here hx rfl (hb hby at_28) rfl (l' := #[.val (.int x0), .val (.long x1), .second, .val (.long x2), .second, .val (.int x3), .val (.long x4), .second, .val (.ref b1), .val (.int p16), .val (.int (1 : Int32))]) rfl k) ?_
    show own_Go _ _ _ _ Tj15 (mkF m 30 #[.val (.int x0), .val (.long x1), .second, .val (.long x2), .second, .val (.int x3), .val (.long x4), .second, .val (.ref b1), .val (.int p16), .val (.int (1 : Int32))] [])
    refine own_st (fun t k => XS.iload Xj15.here hx rfl (hb hby at_30) rfl k) ?_
    show own_Go _ _ _ _ Tj15 (mkF m 32 _ [(.int (1 : Int32))])
    refine own_st (fun t k => XS.ifNo Xj15.here hx rfl (hb hby at_32) rfl ((if0 _ _).trans (feq (by decide : ¬ ((1 : Int32) = (0 : Int32)))).1) k) ?_
    show own_Go _ _ _ _ Tj15 (mkF m 35 _ [])
    refine own_st (fun t k => XS.aload Xj15.here hx rfl (hb hby at_35) rfl rfl k) ?_
    show own_Go _ _ _ _ Tj15 (mkF m 37 _ [(.ref b1)])
    refine own_st (fun t k => XS.lload Xj15.here hx rfl (hb hby at_37) rfl k) ?_
    show own_Go _ _ _ _ Tj15 (mkF m 39 _ [(.long x4), (.ref b1)])
    obtain ⟨cq17, kq17, q17a, q17b, q17c⟩ := isOf hZ ej15 fq8_0
    obtain ⟨_, _, ⟨T17, L17, k17, n17⟩, -, X17, ⟨Lc17, hQ17, l17, y17, z17⟩, st17⟩ := Xj15.virtualBack hx (y := (⟨"com/example/adige/adige/ContingentLink", "admits", "(J)Z"⟩ : MethodName)) (z := (⟨"com/example/adige/adige/ContingentLink", "admits", "(J)Z"⟩ : MethodName)) hown (mvT hZ (hw _ (List.mem_of_getElem? (i := 17) rfl))) (mvT hZ (hw _ (List.mem_of_getElem? (i := 18) rfl))) (notFace_of_selects (args := #[]) (mvT hZ (hw _ (List.mem_of_getElem? (i := 20) rfl)))) (mvT hZ (hw _ (List.mem_of_getElem? (i := 20) rfl))) (mvT hZ (hw _ (List.mem_of_getElem? (i := 19) rfl))) (by decide) (backOf (W := 0) (rm2 l Z a0 hw [] b1 x4 x1 x2 T8.heap n0 Z11 fq8_0 fq8_2 fq8_3) hZ (hw _ (List.mem_of_getElem? (i := 21) rfl)) (hw _ (List.mem_of_getElem? (i := 2) rfl)) (by decide) (by decide)) q17a q17c (g := (mkF m 39 #[.val (.int x0), .val (.long x1), .second, .val (.long x2), .second, .val (.int x3), .val (.long x4), .second, .val (.ref b1), .val (.int p16), .val (.int (1 : Int32))] [(.long x4), (.ref b1)])) rfl (by rw [hml]; rfl) (Steps.refl _) (argsL := [(.long x4)]) (rest := []) (lenOf own_pd__J_Z rfl) rfl (by show 2 * 0 + _ ≤ _; exact Nat.le_of_eq rfl) (hb hby at_39) (fun _ _ => ⟨rfl, ej15, (by decide : 1 + 0 ≤ _), (by decide : 4 + 0 ≤ _)⟩)
    dsimp only [Pt.U, Pt.locs, Pt.cells, Pt.slots] at X17 l17 y17 z17 st17 hQ17
    subst l17 y17 z17
    obtain ⟨rfl, NQ17, eq17⟩ := hQ17
    have N18 := Fr.app Nj15 NQ17
    refine own_st (fun t k => st17.trans k) ?_
    show own_Go _ _ _ _ T17 (mkF m 42 _ [(.int (own_admits x4 x1 x2))])
    refine own_st (fun t k => XS.lloadN X17.here hx rfl (hb hby at_42) rfl k) ?_
    show own_Go _ _ _ _ T17 (mkF m 43 _ [(.long x1), (.int (own_admits x4 x1 x2))])
    refine own_st (fun t k => XS.lload X17.here hx rfl (hb hby at_43) rfl k) ?_
    show own_Go _ _ _ _ T17 (mkF m 45 _ [(.long x4), (.long x1), (.int (own_admits x4 x1 x2))])
    refine own_st (fun t k => XS.lcmp X17.here hx rfl (hb hby at_45) rfl k) ?_
    show own_Go _ _ _ _ T17 (mkF m 46 _ [(.int (lcmpW x1 x4)), (.int (own_admits x4 x1 x2))])
    have J24 : ∀ (Tj24 : State) (Lj24 : List Loc) (p25 : Int32), Stand p l e room_1 s m #[(.int x0), (.long x1), (.long x2), (.int x3), (.long x4)] below meth c Tj24 Lj24 1 4 → Tj24.heap = T8.heap → Fr n0 Lj24 → p25 = (if x4 < x1 then (0 : Int32) else (if x2 < x4 then (0 : Int32) else (1 : Int32))) → own_Go p.tables e below Pq Tj24 (mkF m 61 #[.val (.int x0), .val (.long x1), .second, .val (.long x2), .second, .val (.int x3), .val (.long x4), .second, .val (.ref b1), .val (.int p16), .val (.int (1 : Int32))] [(.int p25), (.int (own_admits x4 x1 x2))]) := by
      intro Tj24 Lj24 p25 Xj24 ej24 Nj24 qp25
      show own_Go _ _ _ _ Tj24 (mkF m 61 _ [(.int p25), (.int (own_admits x4 x1 x2))])
      have J29 : ∀ (Tj29 : State) (Lj29 : List Loc) (p30 : Int32), Stand p l e room_1 s m #[(.int x0), (.long x1), (.long x2), (.int x3), (.long x4)] below meth c Tj29 Lj29 1 4 → Tj29.heap = T8.heap → Fr n0 Lj29 → p30 = (if (own_admits x4 x1 x2) = p25 then (1 : Int32) else (0 : Int32)) → own_Go p.tables e below Pq Tj29 (mkF m 69 #[.val (.int x0), .val (.long x1), .second, .val (.long x2), .second, .val (.int x3), .val (.long x4), .second, .val (.ref b1), .val (.int p16), .val (.int (1 : Int32))] [(.int p30)]) := by
        intro Tj29 Lj29 p30 Xj29 ej29 Nj29 qp30
        show own_Go _ _ _ _ Tj29 (mkF m 69 _ [(.int p30)])
        refine own_st (fun t k => XS.istore Xj29.here hx rfl (hb hby at_69) rfl (l' := #[.val (.int x0), .val (.long x1), .second, .val (.long x2), .second, .val (.int x3), .val (.long x4), .second, .val (.ref b1), .val (.int p16), .val (.int p30)]) rfl k) ?_
        show own_Go _ _ _ _ Tj29 (mkF m 71 #[.val (.int x0), .val (.long x1), .second, .val (.long x2), .second, .val (.int x3), .val (.long x4), .second, .val (.ref b1), .val (.int p16), .val (.int p30)] [])
        refine own_st (fun t k => XS.iload Xj29.here hx rfl (hb hby at_71) rfl k) ?_
        show own_Go _ _ _ _ Tj29 (mkF m 73 _ [(.int p30)])
        have J38 : ∀ (Tj38 : State) (Lj38 : List Loc) (p39 : Int32), Stand p l e room_1 s m #[(.int x0), (.long x1), (.long x2), (.int x3), (.long x4)] below meth c Tj38 Lj38 1 4 → Tj38.heap = T8.heap → Fr n0 Lj38 → p39 = (if p30 = (0 : Int32) then (0 : Int32) else (if (own_admits x1 x1 x2) = p16 then (1 : Int32) else (0 : Int32))) → own_Go p.tables e below Pq Tj38 (mkF m 92 #[.val (.int x0), .val (.long x1), .second, .val (.long x2), .second, .val (.int x3), .val (.long x4), .second, .val (.ref b1), .val (.int p16), .val (.int p30)] [(.int p39)]) := by
          intro Tj38 Lj38 p39 Xj38 ej38 Nj38 qp39
          show own_Go _ _ _ _ Tj38 (mkF m 92 _ [(.int p39)])
          refine own_st (fun t k => XS.istore Xj38.here hx rfl (hb hby at_92) rfl (l' := #[.val (.int x0), .val (.long x1), .second, .val (.long x2), .second, .val (.int x3), .val (.long x4), .second, .val (.ref b1), .val (.int p16), .val (.int p39)]) rfl k) ?_
          show own_Go _ _ _ _ Tj38 (mkF m 94 #[.val (.int x0), .val (.long x1), .second, .val (.long x2), .second, .val (.int x3), .val (.long x4), .second, .val (.ref b1), .val (.int p16), .val (.int p39)] [])
          refine own_st (fun t k => XS.iload Xj38.here hx rfl (hb hby at_94) rfl k) ?_
          show own_Go _ _ _ _ Tj38 (mkF m 96 _ [(.int p39)])
          have J47 : ∀ (Tj47 : State) (Lj47 : List Loc) (p48 : Int32), Stand p l e room_1 s m #[(.int x0), (.long x1), (.long x2), (.int x3), (.long x4)] below meth c Tj47 Lj47 1 4 → Tj47.heap = T8.heap → Fr n0 Lj47 → p48 = (if p39 = (0 : Int32) then (0 : Int32) else (if (own_admits x2 x1 x2) = p16 then (1 : Int32) else (0 : Int32))) → own_Go p.tables e below Pq Tj47 (mkF m 115 #[.val (.int x0), .val (.long x1), .second, .val (.long x2), .second, .val (.int x3), .val (.long x4), .second, .val (.ref b1), .val (.int p16), .val (.int p39)] [(.int p48)]) := by
            intro Tj47 Lj47 p48 Xj47 ej47 Nj47 qp48
            show own_Go _ _ _ _ Tj47 (mkF m 115 _ [(.int p48)])
            refine own_st (fun t k => XS.istore Xj47.here hx rfl (hb hby at_115) rfl (l' := #[.val (.int x0), .val (.long x1), .second, .val (.long x2), .second, .val (.int x3), .val (.long x4), .second, .val (.ref b1), .val (.int p16), .val (.int p48)]) rfl k) ?_
            show own_Go _ _ _ _ Tj47 (mkF m 117 #[.val (.int x0), .val (.long x1), .second, .val (.long x2), .second, .val (.int x3), .val (.long x4), .second, .val (.ref b1), .val (.int p16), .val (.int p48)] [])
            refine own_st (fun t k => XS.lloadN Xj47.here hx rfl (hb hby at_117) rfl k) ?_
            show own_Go _ _ _ _ Tj47 (mkF m 118 _ [(.long x1)])
            refine own_st (fun t k => Xj47.ldc2Long hx hown (mvT hZ (hw _ (List.mem_of_getElem? (i := 22) rfl))) (g := (mkF m 118 #[.val (.int x0), .val (.long x1), .second, .val (.long x2), .second, .val (.int x3), .val (.long x4), .second, .val (.ref b1), .val (.int p16), .val (.int p48)] [(.long x1)])) rfl (hb hby at_118) _ k) ?_
            show own_Go _ _ _ _ Tj47 (mkF m 121 _ [(.long (-9223372036854775808 : Int64)), (.long x1)])
            refine own_st (fun t k => XS.lcmp Xj47.here hx rfl (hb hby at_121) rfl k) ?_
            show own_Go _ _ _ _ Tj47 (mkF m 122 _ [(.int (lcmpW x1 (-9223372036854775808 : Int64)))])
            have J61 : ∀ (Tj61 : State) (Lj61 : List Loc) (p62 : Int32), Stand p l e room_1 s m #[(.int x0), (.long x1), (.long x2), (.int x3), (.long x4)] below meth c Tj61 Lj61 1 4 → Tj61.heap = T8.heap → Fr n0 Lj61 → p62 = (if x1 = (-9223372036854775808 : Int64) then p48 else (if p48 = (0 : Int32) then (0 : Int32) else (if (own_admits (x1 - (1 : Int64)) x1 x2) = (0 : Int32) then (1 : Int32) else (0 : Int32)))) → own_Go p.tables e below Pq Tj61 (mkF m 148 #[.val (.int x0), .val (.long x1), .second, .val (.long x2), .second, .val (.int x3), .val (.long x4), .second, .val (.ref b1), .val (.int p16), .val (.int p62)] []) := by
              intro Tj61 Lj61 p62 Xj61 ej61 Nj61 qp62
              show own_Go _ _ _ _ Tj61 (mkF m 148 #[.val (.int x0), .val (.long x1), .second, .val (.long x2), .second, .val (.int x3), .val (.long x4), .second, .val (.ref b1), .val (.int p16), .val (.int p62)] [])
              refine own_st (fun t k => XS.lloadN Xj61.here hx rfl (hb hby at_148) rfl k) ?_
              show own_Go _ _ _ _ Tj61 (mkF m 149 _ [(.long x2)])
              refine own_st (fun t k => Xj61.ldc2Long hx hown (mvT hZ (hw _ (List.mem_of_getElem? (i := 23) rfl))) (g := (mkF m 149 #[.val (.int x0), .val (.long x1), .second, .val (.long x2), .second, .val (.int x3), .val (.long x4), .second, .val (.ref b1), .val (.int p16), .val (.int p62)] [(.long x2)])) rfl (hb hby at_149) _ k) ?_
              show own_Go _ _ _ _ Tj61 (mkF m 152 _ [(.long (9223372036854775807 : Int64)), (.long x2)])
              refine own_st (fun t k => XS.lcmp Xj61.here hx rfl (hb hby at_152) rfl k) ?_
              show own_Go _ _ _ _ Tj61 (mkF m 153 _ [(.int (lcmpW x2 (9223372036854775807 : Int64)))])
              have J75 : ∀ (Tj75 : State) (Lj75 : List Loc) (p76 : Int32), Stand p l e room_1 s m #[(.int x0), (.long x1), (.long x2), (.int x3), (.long x4)] below meth c Tj75 Lj75 1 4 → Tj75.heap = T8.heap → Fr n0 Lj75 → p76 = (if x2 = (9223372036854775807 : Int64) then p62 else (if p62 = (0 : Int32) then (0 : Int32) else (if (own_admits (x2 + (1 : Int64)) x1 x2) = (0 : Int32) then (1 : Int32) else (0 : Int32)))) → own_Go p.tables e below Pq Tj75 (mkF m 179 #[.val (.int x0), .val (.long x1), .second, .val (.long x2), .second, .val (.int x3), .val (.long x4), .second, .val (.ref b1), .val (.int p16), .val (.int p76)] []) := by
                intro Tj75 Lj75 p76 Xj75 ej75 Nj75 qp76
                show own_Go _ _ _ _ Tj75 (mkF m 179 #[.val (.int x0), .val (.long x1), .second, .val (.long x2), .second, .val (.int x3), .val (.long x4), .second, .val (.ref b1), .val (.int p16), .val (.int p76)] [])
                refine own_st (fun t k => XS.iload Xj75.here hx rfl (hb hby at_179) rfl k) ?_
                show own_Go _ _ _ _ Tj75 (mkF m 181 _ [(.int p76)])
                subst hPq
                refine own_out Xj75 (v := some (.int (nar .boolean p76))) (fun h => by rw [Bd.returns] at h; cases h) Bd.notSynchronized (fun fs hr => retN Xj75 hx (t := .boolean) Bd.returns (by simp) (hb hby at_181) hr) (by decide) (by decide) ?_
                show Q0 Z x0 x1 x2 x3 x4 h0 n0 _ Tj75.heap _
                rw [ej75]
                exact ⟨congrArg (fun z => some (Value.int (nar .boolean z))) (own_law x0 x1 x2 x3 x4 p16 p25 p30 p39 p48 p62 p76 qp16 qp25 qp30 qp39 qp48 qp62 qp76), Nj75⟩
              by_cases c63 : x2 = (9223372036854775807 : Int64)
              · skip
                refine own_st (fun t k => XS.ifYes Xj61.here hx rfl (pc0 := 153) (pc' := 179) rfl (hb hby at_153) rfl (own_lcT (cd := .eq) c63) (by decide) (by decide) k) ?_
                show own_Go _ _ _ _ Tj61 (mkF m 179 _ [])
                exact J75 Tj61 _ _ Xj61 ej61 Nj61 (by simp only [if_pos c63])
              · skip
                refine own_st (fun t k => XS.ifNo Xj61.here hx rfl (hb hby at_153) rfl (own_lcF (cd := .eq) c63) k) ?_
                show own_Go _ _ _ _ Tj61 (mkF m 156 _ [])
                refine own_st (fun t k => XS.iload Xj61.here hx rfl (hb hby at_156) rfl k) ?_
                show own_Go _ _ _ _ Tj61 (mkF m 158 _ [(.int p62)])
                have J72 : ∀ (Tj72 : State) (Lj72 : List Loc) (p73 : Int32), Stand p l e room_1 s m #[(.int x0), (.long x1), (.long x2), (.int x3), (.long x4)] below meth c Tj72 Lj72 1 4 → Tj72.heap = T8.heap → Fr n0 Lj72 → p73 = (if p62 = (0 : Int32) then (0 : Int32) else (if (own_admits (x2 + (1 : Int64)) x1 x2) = (0 : Int32) then (1 : Int32) else (0 : Int32))) → own_Go p.tables e below Pq Tj72 (mkF m 177 #[.val (.int x0), .val (.long x1), .second, .val (.long x2), .second, .val (.int x3), .val (.long x4), .second, .val (.ref b1), .val (.int p16), .val (.int p62)] [(.int p73)]) := by
                  intro Tj72 Lj72 p73 Xj72 ej72 Nj72 qp73
                  show own_Go _ _ _ _ Tj72 (mkF m 177 _ [(.int p73)])
                  refine own_st (fun t k => XS.istore Xj72.here hx rfl (hb hby at_177) rfl (l' := #[.val (.int x0), .val (.long x1), .second, .val (.long x2), .second, .val (.int x3), .val (.long x4), .second, .val (.ref b1), .val (.int p16), .val (.int p73)]) rfl k) ?_
                  show own_Go _ _ _ _ Tj72 (mkF m 179 #[.val (.int x0), .val (.long x1), .second, .val (.long x2), .second, .val (.int x3), .val (.long x4), .second, .val (.ref b1), .val (.int p16), .val (.int p73)] [])
                  exact J75 Tj72 _ _ Xj72 ej72 Nj72 (by simp only [if_neg c63, qp73])
                by_cases c65 : p62 = (0 : Int32)
                · skip
                  refine own_st (fun t k => XS.ifYes Xj61.here hx rfl (pc0 := 158) (pc' := 176) rfl (hb hby at_158) rfl ((if0 _ _).trans (teq c65).1) (by decide) (by decide) k) ?_
                  show own_Go _ _ _ _ Tj61 (mkF m 176 _ [])
                  refine own_st (fun t k => XS.iconst Xj61.here hx rfl (hb hby at_176) k) ?_
                  show own_Go _ _ _ _ Tj61 (mkF m 177 _ [(.int (0 : Int32))])
                  exact J72 Tj61 _ _ Xj61 ej61 Nj61 (by simp only [if_pos c65])
                · skip
                  refine own_st (fun t k => XS.ifNo Xj61.here hx rfl (hb hby at_158) rfl ((if0 _ _).trans (feq c65).1) k) ?_
                  show own_Go _ _ _ _ Tj61 (mkF m 161 _ [])
                  refine own_st (fun t k => XS.aload Xj61.here hx rfl (hb hby at_161) rfl rfl k) ?_
                  show own_Go _ _ _ _ Tj61 (mkF m 163 _ [(.ref b1)])
                  refine own_st (fun t k => XS.lloadN Xj61.here hx rfl (hb hby at_163) rfl k) ?_
                  show own_Go _ _ _ _ Tj61 (mkF m 164 _ [(.long x2), (.ref b1)])
                  refine own_st (fun t k => XS.lconst Xj61.here hx rfl (hb hby at_164) k) ?_
                  show own_Go _ _ _ _ Tj61 (mkF m 165 _ [(.long (1 : Int64)), (.long x2), (.ref b1)])
                  refine own_st (fun t k => XS.ladd Xj61.here hx rfl (hb hby at_165) rfl k) ?_
                  show own_Go _ _ _ _ Tj61 (mkF m 166 _ [(.long (x2 + (1 : Int64))), (.ref b1)])
                  obtain ⟨cq67, kq67, q67a, q67b, q67c⟩ := isOf hZ ej61 fq8_0
                  obtain ⟨_, _, ⟨T67, L67, k67, n67⟩, -, X67, ⟨Lc67, hQ67, l67, y67, z67⟩, st67⟩ := Xj61.virtualBack hx (y := (⟨"com/example/adige/adige/ContingentLink", "admits", "(J)Z"⟩ : MethodName)) (z := (⟨"com/example/adige/adige/ContingentLink", "admits", "(J)Z"⟩ : MethodName)) hown (mvT hZ (hw _ (List.mem_of_getElem? (i := 17) rfl))) (mvT hZ (hw _ (List.mem_of_getElem? (i := 18) rfl))) (notFace_of_selects (args := #[]) (mvT hZ (hw _ (List.mem_of_getElem? (i := 20) rfl)))) (mvT hZ (hw _ (List.mem_of_getElem? (i := 20) rfl))) (mvT hZ (hw _ (List.mem_of_getElem? (i := 19) rfl))) (by decide) (backOf (W := 0) (rm2 l Z a0 hw [] b1 (x2 + (1 : Int64)) x1 x2 T8.heap n0 Z11 fq8_0 fq8_2 fq8_3) hZ (hw _ (List.mem_of_getElem? (i := 21) rfl)) (hw _ (List.mem_of_getElem? (i := 2) rfl)) (by decide) (by decide)) q67a q67c (g := (mkF m 166 #[.val (.int x0), .val (.long x1), .second, .val (.long x2), .second, .val (.int x3), .val (.long x4), .second, .val (.ref b1), .val (.int p16), .val (.int p62)] [(.long (x2 + (1 : Int64))), (.ref b1)])) rfl (by rw [hml]; rfl) (Steps.refl _) (argsL := [(.long (x2 + (1 : Int64)))]) (rest := []) (lenOf own_pd__J_Z rfl) rfl (by show 2 * 0 + _ ≤ _; exact Nat.le_of_eq rfl) (hb hby at_166) (fun _ _ => ⟨rfl, ej61, (by decide : 1 + 0 ≤ _), (by decide : 4 + 0 ≤ _)⟩)
                  dsimp only [Pt.U, Pt.locs, Pt.cells, Pt.slots] at X67 l67 y67 z67 st67 hQ67
                  subst l67 y67 z67
                  obtain ⟨rfl, NQ67, eq67⟩ := hQ67
                  have N68 := Fr.app Nj61 NQ67
                  refine own_st (fun t k => st67.trans k) ?_
                  show own_Go _ _ _ _ T67 (mkF m 169 _ [(.int (own_admits (x2 + (1 : Int64)) x1 x2))])
                  by_cases c69 : (own_admits (x2 + (1 : Int64)) x1 x2) = (0 : Int32)
                  · skip
                    refine own_st (fun t k => XS.ifNo X67.here hx rfl (hb hby at_169) rfl ((if0 _ _).trans (teq c69).2) k) ?_
                    show own_Go _ _ _ _ T67 (mkF m 172 _ [])
                    refine own_st (fun t k => XS.iconst X67.here hx rfl (hb hby at_172) k) ?_
                    show own_Go _ _ _ _ T67 (mkF m 173 _ [(.int (1 : Int32))])
                    refine own_st (fun t k => XS.goto X67.here hx rfl (pc0 := 173) (pc' := 177) rfl (hb hby at_173) (by decide) (by decide) k) ?_
                    show own_Go _ _ _ _ T67 (mkF m 177 _ [(.int (1 : Int32))])
                    exact J72 T67 _ _ X67 eq67 N68 (by simp only [if_neg c65, if_pos c69])
                  · skip
                    refine own_st (fun t k => XS.ifYes X67.here hx rfl (pc0 := 169) (pc' := 176) rfl (hb hby at_169) rfl ((if0 _ _).trans (feq c69).2) (by decide) (by decide) k) ?_
                    show own_Go _ _ _ _ T67 (mkF m 176 _ [])
                    refine own_st (fun t k => XS.iconst X67.here hx rfl (hb hby at_176) k) ?_
                    show own_Go _ _ _ _ T67 (mkF m 177 _ [(.int (0 : Int32))])
                    exact J72 T67 _ _ X67 eq67 N68 (by simp only [if_neg c65, if_neg c69])
            by_cases c49 : x1 = (-9223372036854775808 : Int64)
            · skip
              refine own_st (fun t k => XS.ifYes Xj47.here hx rfl (pc0 := 122) (pc' := 148) rfl (hb hby at_122) rfl (own_lcT (cd := .eq) c49) (by decide) (by decide) k) ?_
              show own_Go _ _ _ _ Tj47 (mkF m 148 _ [])
              exact J61 Tj47 _ _ Xj47 ej47 Nj47 (by simp only [if_pos c49])
            · skip
              refine own_st (fun t k => XS.ifNo Xj47.here hx rfl (hb hby at_122) rfl (own_lcF (cd := .eq) c49) k) ?_
              show own_Go _ _ _ _ Tj47 (mkF m 125 _ [])
              refine own_st (fun t k => XS.iload Xj47.here hx rfl (hb hby at_125) rfl k) ?_
              show own_Go _ _ _ _ Tj47 (mkF m 127 _ [(.int p48)])
              have J58 : ∀ (Tj58 : State) (Lj58 : List Loc) (p59 : Int32), Stand p l e room_1 s m #[(.int x0), (.long x1), (.long x2), (.int x3), (.long x4)] below meth c Tj58 Lj58 1 4 → Tj58.heap = T8.heap → Fr n0 Lj58 → p59 = (if p48 = (0 : Int32) then (0 : Int32) else (if (own_admits (x1 - (1 : Int64)) x1 x2) = (0 : Int32) then (1 : Int32) else (0 : Int32))) → own_Go p.tables e below Pq Tj58 (mkF m 146 #[.val (.int x0), .val (.long x1), .second, .val (.long x2), .second, .val (.int x3), .val (.long x4), .second, .val (.ref b1), .val (.int p16), .val (.int p48)] [(.int p59)]) := by
                intro Tj58 Lj58 p59 Xj58 ej58 Nj58 qp59
                show own_Go _ _ _ _ Tj58 (mkF m 146 _ [(.int p59)])
                refine own_st (fun t k => XS.istore Xj58.here hx rfl (hb hby at_146) rfl (l' := #[.val (.int x0), .val (.long x1), .second, .val (.long x2), .second, .val (.int x3), .val (.long x4), .second, .val (.ref b1), .val (.int p16), .val (.int p59)]) rfl k) ?_
                show own_Go _ _ _ _ Tj58 (mkF m 148 #[.val (.int x0), .val (.long x1), .second, .val (.long x2), .second, .val (.int x3), .val (.long x4), .second, .val (.ref b1), .val (.int p16), .val (.int p59)] [])
                exact J61 Tj58 _ _ Xj58 ej58 Nj58 (by simp only [if_neg c49, qp59])
              by_cases c51 : p48 = (0 : Int32)
              · skip
                refine own_st (fun t k => XS.ifYes Xj47.here hx rfl (pc0 := 127) (pc' := 145) rfl (hb hby at_127) rfl ((if0 _ _).trans (teq c51).1) (by decide) (by decide) k) ?_
                show own_Go _ _ _ _ Tj47 (mkF m 145 _ [])
                refine own_st (fun t k => XS.iconst Xj47.here hx rfl (hb hby at_145) k) ?_
                show own_Go _ _ _ _ Tj47 (mkF m 146 _ [(.int (0 : Int32))])
                exact J58 Tj47 _ _ Xj47 ej47 Nj47 (by simp only [if_pos c51])
              · skip
                refine own_st (fun t k => XS.ifNo Xj47.here hx rfl (hb hby at_127) rfl ((if0 _ _).trans (feq c51).1) k) ?_
                show own_Go _ _ _ _ Tj47 (mkF m 130 _ [])
                refine own_st (fun t k => XS.aload Xj47.here hx rfl (hb hby at_130) rfl rfl k) ?_
                show own_Go _ _ _ _ Tj47 (mkF m 132 _ [(.ref b1)])
                refine own_st (fun t k => XS.lloadN Xj47.here hx rfl (hb hby at_132) rfl k) ?_
                show own_Go _ _ _ _ Tj47 (mkF m 133 _ [(.long x1), (.ref b1)])
                refine own_st (fun t k => XS.lconst Xj47.here hx rfl (hb hby at_133) k) ?_
                show own_Go _ _ _ _ Tj47 (mkF m 134 _ [(.long (1 : Int64)), (.long x1), (.ref b1)])
                refine own_st (fun t k => XS.lsub Xj47.here hx rfl (hb hby at_134) rfl k) ?_
                show own_Go _ _ _ _ Tj47 (mkF m 135 _ [(.long (x1 - (1 : Int64))), (.ref b1)])
                obtain ⟨cq53, kq53, q53a, q53b, q53c⟩ := isOf hZ ej47 fq8_0
                obtain ⟨_, _, ⟨T53, L53, k53, n53⟩, -, X53, ⟨Lc53, hQ53, l53, y53, z53⟩, st53⟩ := Xj47.virtualBack hx (y := (⟨"com/example/adige/adige/ContingentLink", "admits", "(J)Z"⟩ : MethodName)) (z := (⟨"com/example/adige/adige/ContingentLink", "admits", "(J)Z"⟩ : MethodName)) hown (mvT hZ (hw _ (List.mem_of_getElem? (i := 17) rfl))) (mvT hZ (hw _ (List.mem_of_getElem? (i := 18) rfl))) (notFace_of_selects (args := #[]) (mvT hZ (hw _ (List.mem_of_getElem? (i := 20) rfl)))) (mvT hZ (hw _ (List.mem_of_getElem? (i := 20) rfl))) (mvT hZ (hw _ (List.mem_of_getElem? (i := 19) rfl))) (by decide) (backOf (W := 0) (rm2 l Z a0 hw [] b1 (x1 - (1 : Int64)) x1 x2 T8.heap n0 Z11 fq8_0 fq8_2 fq8_3) hZ (hw _ (List.mem_of_getElem? (i := 21) rfl)) (hw _ (List.mem_of_getElem? (i := 2) rfl)) (by decide) (by decide)) q53a q53c (g := (mkF m 135 #[.val (.int x0), .val (.long x1), .second, .val (.long x2), .second, .val (.int x3), .val (.long x4), .second, .val (.ref b1), .val (.int p16), .val (.int p48)] [(.long (x1 - (1 : Int64))), (.ref b1)])) rfl (by rw [hml]; rfl) (Steps.refl _) (argsL := [(.long (x1 - (1 : Int64)))]) (rest := []) (lenOf own_pd__J_Z rfl) rfl (by show 2 * 0 + _ ≤ _; exact Nat.le_of_eq rfl) (hb hby at_135) (fun _ _ => ⟨rfl, ej47, (by decide : 1 + 0 ≤ _), (by decide : 4 + 0 ≤ _)⟩)
                dsimp only [Pt.U, Pt.locs, Pt.cells, Pt.slots] at X53 l53 y53 z53 st53 hQ53
                subst l53 y53 z53
                obtain ⟨rfl, NQ53, eq53⟩ := hQ53
                have N54 := Fr.app Nj47 NQ53
                refine own_st (fun t k => st53.trans k) ?_
                show own_Go _ _ _ _ T53 (mkF m 138 _ [(.int (own_admits (x1 - (1 : Int64)) x1 x2))])
                by_cases c55 : (own_admits (x1 - (1 : Int64)) x1 x2) = (0 : Int32)
                · skip
                  refine own_st (fun t k => XS.ifNo X53.here hx rfl (hb hby at_138) rfl ((if0 _ _).trans (teq c55).2) k) ?_
                  show own_Go _ _ _ _ T53 (mkF m 141 _ [])
                  refine own_st (fun t k => XS.iconst X53.here hx rfl (hb hby at_141) k) ?_
                  show own_Go _ _ _ _ T53 (mkF m 142 _ [(.int (1 : Int32))])
                  refine own_st (fun t k => XS.goto X53.here hx rfl (pc0 := 142) (pc' := 146) rfl (hb hby at_142) (by decide) (by decide) k) ?_
                  show own_Go _ _ _ _ T53 (mkF m 146 _ [(.int (1 : Int32))])
                  exact J58 T53 _ _ X53 eq53 N54 (by simp only [if_neg c51, if_pos c55])
                · skip
                  refine own_st (fun t k => XS.ifYes X53.here hx rfl (pc0 := 138) (pc' := 145) rfl (hb hby at_138) rfl ((if0 _ _).trans (feq c55).2) (by decide) (by decide) k) ?_
                  show own_Go _ _ _ _ T53 (mkF m 145 _ [])
                  refine own_st (fun t k => XS.iconst X53.here hx rfl (hb hby at_145) k) ?_
                  show own_Go _ _ _ _ T53 (mkF m 146 _ [(.int (0 : Int32))])
                  exact J58 T53 _ _ X53 eq53 N54 (by simp only [if_neg c51, if_neg c55])
          by_cases c40 : p39 = (0 : Int32)
          · skip
            refine own_st (fun t k => XS.ifYes Xj38.here hx rfl (pc0 := 96) (pc' := 114) rfl (hb hby at_96) rfl ((if0 _ _).trans (teq c40).1) (by decide) (by decide) k) ?_
            show own_Go _ _ _ _ Tj38 (mkF m 114 _ [])
            refine own_st (fun t k => XS.iconst Xj38.here hx rfl (hb hby at_114) k) ?_
            show own_Go _ _ _ _ Tj38 (mkF m 115 _ [(.int (0 : Int32))])
            exact J47 Tj38 _ _ Xj38 ej38 Nj38 (by simp only [if_pos c40])
          · skip
            refine own_st (fun t k => XS.ifNo Xj38.here hx rfl (hb hby at_96) rfl ((if0 _ _).trans (feq c40).1) k) ?_
            show own_Go _ _ _ _ Tj38 (mkF m 99 _ [])
            refine own_st (fun t k => XS.aload Xj38.here hx rfl (hb hby at_99) rfl rfl k) ?_
            show own_Go _ _ _ _ Tj38 (mkF m 101 _ [(.ref b1)])
            refine own_st (fun t k => XS.lloadN Xj38.here hx rfl (hb hby at_101) rfl k) ?_
            show own_Go _ _ _ _ Tj38 (mkF m 102 _ [(.long x2), (.ref b1)])
            obtain ⟨cq42, kq42, q42a, q42b, q42c⟩ := isOf hZ ej38 fq8_0
            obtain ⟨_, _, ⟨T42, L42, k42, n42⟩, -, X42, ⟨Lc42, hQ42, l42, y42, z42⟩, st42⟩ := Xj38.virtualBack hx (y := (⟨"com/example/adige/adige/ContingentLink", "admits", "(J)Z"⟩ : MethodName)) (z := (⟨"com/example/adige/adige/ContingentLink", "admits", "(J)Z"⟩ : MethodName)) hown (mvT hZ (hw _ (List.mem_of_getElem? (i := 17) rfl))) (mvT hZ (hw _ (List.mem_of_getElem? (i := 18) rfl))) (notFace_of_selects (args := #[]) (mvT hZ (hw _ (List.mem_of_getElem? (i := 20) rfl)))) (mvT hZ (hw _ (List.mem_of_getElem? (i := 20) rfl))) (mvT hZ (hw _ (List.mem_of_getElem? (i := 19) rfl))) (by decide) (backOf (W := 0) (rm2 l Z a0 hw [] b1 x2 x1 x2 T8.heap n0 Z11 fq8_0 fq8_2 fq8_3) hZ (hw _ (List.mem_of_getElem? (i := 21) rfl)) (hw _ (List.mem_of_getElem? (i := 2) rfl)) (by decide) (by decide)) q42a q42c (g := (mkF m 102 #[.val (.int x0), .val (.long x1), .second, .val (.long x2), .second, .val (.int x3), .val (.long x4), .second, .val (.ref b1), .val (.int p16), .val (.int p39)] [(.long x2), (.ref b1)])) rfl (by rw [hml]; rfl) (Steps.refl _) (argsL := [(.long x2)]) (rest := []) (lenOf own_pd__J_Z rfl) rfl (by show 2 * 0 + _ ≤ _; exact Nat.le_of_eq rfl) (hb hby at_102) (fun _ _ => ⟨rfl, ej38, (by decide : 1 + 0 ≤ _), (by decide : 4 + 0 ≤ _)⟩)
            dsimp only [Pt.U, Pt.locs, Pt.cells, Pt.slots] at X42 l42 y42 z42 st42 hQ42
            subst l42 y42 z42
            obtain ⟨rfl, NQ42, eq42⟩ := hQ42
            have N43 := Fr.app Nj38 NQ42
            refine own_st (fun t k => st42.trans k) ?_
            show own_Go _ _ _ _ T42 (mkF m 105 _ [(.int (own_admits x2 x1 x2))])
            refine own_st (fun t k => XS.iload X42.here hx rfl (hb hby at_105) rfl k) ?_
            show own_Go _ _ _ _ T42 (mkF m 107 _ [(.int p16), (.int (own_admits x2 x1 x2))])
            by_cases c44 : (own_admits x2 x1 x2) = p16
            · skip
              refine own_st (fun t k => XS.icmpNo X42.here hx rfl (hb hby at_107) rfl (teq c44).2 k) ?_
              show own_Go _ _ _ _ T42 (mkF m 110 _ [])
              refine own_st (fun t k => XS.iconst X42.here hx rfl (hb hby at_110) k) ?_
              show own_Go _ _ _ _ T42 (mkF m 111 _ [(.int (1 : Int32))])
              refine own_st (fun t k => XS.goto X42.here hx rfl (pc0 := 111) (pc' := 115) rfl (hb hby at_111) (by decide) (by decide) k) ?_
              show own_Go _ _ _ _ T42 (mkF m 115 _ [(.int (1 : Int32))])
              exact J47 T42 _ _ X42 eq42 N43 (by simp only [if_neg c40, if_pos c44])
            · skip
              refine own_st (fun t k => XS.icmpYes X42.here hx rfl (pc0 := 107) (pc' := 114) rfl (hb hby at_107) rfl (feq c44).2 (by decide) (by decide) k) ?_
              show own_Go _ _ _ _ T42 (mkF m 114 _ [])
              refine own_st (fun t k => XS.iconst X42.here hx rfl (hb hby at_114) k) ?_
              show own_Go _ _ _ _ T42 (mkF m 115 _ [(.int (0 : Int32))])
              exact J47 T42 _ _ X42 eq42 N43 (by simp only [if_neg c40, if_neg c44])
        by_cases c31 : p30 = (0 : Int32)
        · skip
          refine own_st (fun t k => XS.ifYes Xj29.here hx rfl (pc0 := 73) (pc' := 91) rfl (hb hby at_73) rfl ((if0 _ _).trans (teq c31).1) (by decide) (by decide) k) ?_
          show own_Go _ _ _ _ Tj29 (mkF m 91 _ [])
          refine own_st (fun t k => XS.iconst Xj29.here hx rfl (hb hby at_91) k) ?_
          show own_Go _ _ _ _ Tj29 (mkF m 92 _ [(.int (0 : Int32))])
          exact J38 Tj29 _ _ Xj29 ej29 Nj29 (by simp only [if_pos c31])
        · skip
          refine own_st (fun t k => XS.ifNo Xj29.here hx rfl (hb hby at_73) rfl ((if0 _ _).trans (feq c31).1) k) ?_
          show own_Go _ _ _ _ Tj29 (mkF m 76 _ [])
          refine own_st (fun t k => XS.aload Xj29.here hx rfl (hb hby at_76) rfl rfl k) ?_
          show own_Go _ _ _ _ Tj29 (mkF m 78 _ [(.ref b1)])
          refine own_st (fun t k => XS.lloadN Xj29.here hx rfl (hb hby at_78) rfl k) ?_
          show own_Go _ _ _ _ Tj29 (mkF m 79 _ [(.long x1), (.ref b1)])
          obtain ⟨cq33, kq33, q33a, q33b, q33c⟩ := isOf hZ ej29 fq8_0
          obtain ⟨_, _, ⟨T33, L33, k33, n33⟩, -, X33, ⟨Lc33, hQ33, l33, y33, z33⟩, st33⟩ := Xj29.virtualBack hx (y := (⟨"com/example/adige/adige/ContingentLink", "admits", "(J)Z"⟩ : MethodName)) (z := (⟨"com/example/adige/adige/ContingentLink", "admits", "(J)Z"⟩ : MethodName)) hown (mvT hZ (hw _ (List.mem_of_getElem? (i := 17) rfl))) (mvT hZ (hw _ (List.mem_of_getElem? (i := 18) rfl))) (notFace_of_selects (args := #[]) (mvT hZ (hw _ (List.mem_of_getElem? (i := 20) rfl)))) (mvT hZ (hw _ (List.mem_of_getElem? (i := 20) rfl))) (mvT hZ (hw _ (List.mem_of_getElem? (i := 19) rfl))) (by decide) (backOf (W := 0) (rm2 l Z a0 hw [] b1 x1 x1 x2 T8.heap n0 Z11 fq8_0 fq8_2 fq8_3) hZ (hw _ (List.mem_of_getElem? (i := 21) rfl)) (hw _ (List.mem_of_getElem? (i := 2) rfl)) (by decide) (by decide)) q33a q33c (g := (mkF m 79 #[.val (.int x0), .val (.long x1), .second, .val (.long x2), .second, .val (.int x3), .val (.long x4), .second, .val (.ref b1), .val (.int p16), .val (.int p30)] [(.long x1), (.ref b1)])) rfl (by rw [hml]; rfl) (Steps.refl _) (argsL := [(.long x1)]) (rest := []) (lenOf own_pd__J_Z rfl) rfl (by show 2 * 0 + _ ≤ _; exact Nat.le_of_eq rfl) (hb hby at_79) (fun _ _ => ⟨rfl, ej29, (by decide : 1 + 0 ≤ _), (by decide : 4 + 0 ≤ _)⟩)
          dsimp only [Pt.U, Pt.locs, Pt.cells, Pt.slots] at X33 l33 y33 z33 st33 hQ33
          subst l33 y33 z33
          obtain ⟨rfl, NQ33, eq33⟩ := hQ33
          have N34 := Fr.app Nj29 NQ33
          refine own_st (fun t k => st33.trans k) ?_
          show own_Go _ _ _ _ T33 (mkF m 82 _ [(.int (own_admits x1 x1 x2))])
          refine own_st (fun t k => XS.iload X33.here hx rfl (hb hby at_82) rfl k) ?_
          show own_Go _ _ _ _ T33 (mkF m 84 _ [(.int p16), (.int (own_admits x1 x1 x2))])
          by_cases c35 : (own_admits x1 x1 x2) = p16
          · skip
            refine own_st (fun t k => XS.icmpNo X33.here hx rfl (hb hby at_84) rfl (teq c35).2 k) ?_
            show own_Go _ _ _ _ T33 (mkF m 87 _ [])
            refine own_st (fun t k => XS.iconst X33.here hx rfl (hb hby at_87) k) ?_
            show own_Go _ _ _ _ T33 (mkF m 88 _ [(.int (1 : Int32))])
            refine own_st (fun t k => XS.goto X33.here hx rfl (pc0 := 88) (pc' := 92) rfl (hb hby at_88) (by decide) (by decide) k) ?_
            show own_Go _ _ _ _ T33 (mkF m 92 _ [(.int (1 : Int32))])
            exact J38 T33 _ _ X33 eq33 N34 (by simp only [if_neg c31, if_pos c35])
          · skip
            refine own_st (fun t k => XS.icmpYes X33.here hx rfl (pc0 := 84) (pc' := 91) rfl (hb hby at_84) rfl (feq c35).2 (by decide) (by decide) k) ?_
            show own_Go _ _ _ _ T33 (mkF m 91 _ [])
            refine own_st (fun t k => XS.iconst X33.here hx rfl (hb hby at_91) k) ?_
            show own_Go _ _ _ _ T33 (mkF m 92 _ [(.int (0 : Int32))])
            exact J38 T33 _ _ X33 eq33 N34 (by simp only [if_neg c31, if_neg c35])
      by_cases c26 : (own_admits x4 x1 x2) = p25
      · skip
        refine own_st (fun t k => XS.icmpNo Xj24.here hx rfl (hb hby at_61) rfl (teq c26).2 k) ?_
        show own_Go _ _ _ _ Tj24 (mkF m 64 _ [])
        refine own_st (fun t k => XS.iconst Xj24.here hx rfl (hb hby at_64) k) ?_
        show own_Go _ _ _ _ Tj24 (mkF m 65 _ [(.int (1 : Int32))])
        refine own_st (fun t k => XS.goto Xj24.here hx rfl (pc0 := 65) (pc' := 69) rfl (hb hby at_65) (by decide) (by decide) k) ?_
        show own_Go _ _ _ _ Tj24 (mkF m 69 _ [(.int (1 : Int32))])
        exact J29 Tj24 _ _ Xj24 ej24 Nj24 (by simp only [if_pos c26])
      · skip
        refine own_st (fun t k => XS.icmpYes Xj24.here hx rfl (pc0 := 61) (pc' := 68) rfl (hb hby at_61) rfl (feq c26).2 (by decide) (by decide) k) ?_
        show own_Go _ _ _ _ Tj24 (mkF m 68 _ [])
        refine own_st (fun t k => XS.iconst Xj24.here hx rfl (hb hby at_68) k) ?_
        show own_Go _ _ _ _ Tj24 (mkF m 69 _ [(.int (0 : Int32))])
        exact J29 Tj24 _ _ Xj24 ej24 Nj24 (by simp only [if_neg c26])
    by_cases c19 : x4 < x1
    · skip
      refine own_st (fun t k => XS.ifYes X17.here hx rfl (pc0 := 46) (pc' := 60) rfl (hb hby at_46) rfl (own_lcT (cd := .gt) c19) (by decide) (by decide) k) ?_
      show own_Go _ _ _ _ T17 (mkF m 60 _ [(.int (own_admits x4 x1 x2))])
      refine own_st (fun t k => XS.iconst X17.here hx rfl (hb hby at_60) k) ?_
      show own_Go _ _ _ _ T17 (mkF m 61 _ [(.int (0 : Int32)), (.int (own_admits x4 x1 x2))])
      exact J24 T17 _ _ X17 eq17 N18 (by simp only [if_pos c19])
    · skip
      refine own_st (fun t k => XS.ifNo X17.here hx rfl (hb hby at_46) rfl (own_lcF (cd := .gt) c19) k) ?_
      show own_Go _ _ _ _ T17 (mkF m 49 _ [(.int (own_admits x4 x1 x2))])
      refine own_st (fun t k => XS.lload X17.here hx rfl (hb hby at_49) rfl k) ?_
      show own_Go _ _ _ _ T17 (mkF m 51 _ [(.long x4), (.int (own_admits x4 x1 x2))])
      refine own_st (fun t k => XS.lloadN X17.here hx rfl (hb hby at_51) rfl k) ?_
      show own_Go _ _ _ _ T17 (mkF m 52 _ [(.long x2), (.long x4), (.int (own_admits x4 x1 x2))])
      refine own_st (fun t k => XS.lcmp X17.here hx rfl (hb hby at_52) rfl k) ?_
      show own_Go _ _ _ _ T17 (mkF m 53 _ [(.int (lcmpW x4 x2)), (.int (own_admits x4 x1 x2))])
      by_cases c21 : x2 < x4
      · skip
        refine own_st (fun t k => XS.ifYes X17.here hx rfl (pc0 := 53) (pc' := 60) rfl (hb hby at_53) rfl (own_lcT (cd := .gt) c21) (by decide) (by decide) k) ?_
        show own_Go _ _ _ _ T17 (mkF m 60 _ [(.int (own_admits x4 x1 x2))])
        refine own_st (fun t k => XS.iconst X17.here hx rfl (hb hby at_60) k) ?_
        show own_Go _ _ _ _ T17 (mkF m 61 _ [(.int (0 : Int32)), (.int (own_admits x4 x1 x2))])
        exact J24 T17 _ _ X17 eq17 N18 (by simp only [if_neg c19, if_pos c21])
      · skip
        refine own_st (fun t k => XS.ifNo X17.here hx rfl (hb hby at_53) rfl (own_lcF (cd := .gt) c21) k) ?_
        show own_Go _ _ _ _ T17 (mkF m 56 _ [(.int (own_admits x4 x1 x2))])
        refine own_st (fun t k => XS.iconst X17.here hx rfl (hb hby at_56) k) ?_
        show own_Go _ _ _ _ T17 (mkF m 57 _ [(.int (1 : Int32)), (.int (own_admits x4 x1 x2))])
        refine own_st (fun t k => XS.goto X17.here hx rfl (pc0 := 57) (pc' := 61) rfl (hb hby at_57) (by decide) (by decide) k) ?_
        show own_Go _ _ _ _ T17 (mkF m 61 _ [(.int (1 : Int32)), (.int (own_admits x4 x1 x2))])
        exact J24 T17 _ _ X17 eq17 N18 (by simp only [if_neg c19, if_neg c21])
  by_cases c12 : x2 < x1
  · skip
    refine own_st (fun t k => XS.ifYes X8.here hx rfl (pc0 := 17) (pc' := 24) rfl (hb hby at_17) rfl (own_lcT (cd := .gt) c12) (by decide) (by decide) k) ?_
    show own_Go _ _ _ _ T8 (mkF m 24 _ [])
    refine own_st (fun t k => XS.iconst X8.here hx rfl (hb hby at_24) k) ?_
    show own_Go _ _ _ _ T8 (mkF m 25 _ [(.int (0 : Int32))])
    exact J15 T8 _ _ X8 rfl N9 (by simp only [if_pos c12])
  · skip
    refine own_st (fun t k => XS.ifNo X8.here hx rfl (hb hby at_17) rfl (own_lcF (cd := .gt) c12) k) ?_
    show own_Go _ _ _ _ T8 (mkF m 20 _ [])
    refine own_st (fun t k => XS.iconst X8.here hx rfl (hb hby at_20) k) ?_
    show own_Go _ _ _ _ T8 (mkF m 21 _ [(.int (1 : Int32))])
    refine own_st (fun t k => XS.goto X8.here hx rfl (pc0 := 21) (pc' := 25) rfl (hb hby at_21) (by decide) (by decide) k) ?_
    show own_Go _ _ _ _ T8 (mkF m 25 _ [(.int (1 : Int32))])
    exact J15 T8 _ _ X8 rfl N9 (by simp only [if_neg c12])
set_option maxRecDepth 65536 in
set_option maxHeartbeats 4000000 in
theorem own_comes {Post : Tables → Env → Array Value → State → Outcome → State → Prop} (hpost : ∀ tb e args s v u, (limb_1_1.after args s (.returned v) u = true ∧ limb_1_2.after args s (.returned v) u = true ∧ True) → FrameEnd s (.returned v) u (Jvm.fieldLocs frame_1_writes args s ++ Jvm.arrayLocs frame_1_arrays args s ++ Jvm.staticLocs frame_1_statics s) 16 128 → Post tb e args s (.returned v) u) :
    ArmFor flags0 classFile x code maxLocals ret World_1 tables_1 room_1 Calls_1 rest_1 Pre_1 Post := by
  intro l hfl _ _ p e ha hc hk s m args below hf hA hF happ hP
  obtain ⟨hcalls, hrest, hpre⟩ := hP
  obtain ⟨-, -, -, hnamed, -, -, -, hat⟩ := (Spec.applies_iff hf).mp happ
  obtain ⟨hg, hn⟩ := and_e (Cond.before_iff.mp (show (Jvm.Cond.and given_1 narrow_1).before args s = true from hpre))
  obtain ⟨g0, r0⟩ := and_e hg
  obtain ⟨g1, r1⟩ := and_e r0
  obtain ⟨g2, r2⟩ := and_e r1
  obtain ⟨g3, r3⟩ := and_e r2
  obtain ⟨g4, r4⟩ := and_e r3
  obtain ⟨w0, w1, w2, w3, w4, rfl⟩ : ∃ w0 w1 w2 w3 w4 : Value, args = #[w0, w1, w2, w3, w4] := by
    have hs : args.size = 5 := by simpa [Cond.value, given_1] using g0
    obtain ⟨L⟩ := args
    match L, hs with
    | [w0, w1, w2, w3, w4], _ => exact ⟨w0, w1, w2, w3, w4, rfl⟩
  have hw := fun d (hd : d ∈ tables_1) => atoms_spec (ws := Jvm.Cond.code x code maxLocals ret :: tables_1) hat d (List.mem_cons_of_mem _ hd)
  obtain ⟨i0, ei0⟩ := is_v g1
  obtain rfl : w0 = (.int i0) := Option.some.inj ei0
  obtain ⟨i1, ei1⟩ := isL_v g2
  obtain rfl : w1 = (.long i1) := Option.some.inj ei1
  obtain ⟨i2, ei2⟩ := isL_v g3
  obtain rfl : w2 = (.long i2) := Option.some.inj ei2
  obtain ⟨i3, ei3⟩ := is_v g4
  obtain rfl : w3 = (.int i3) := Option.some.inj ei3
  obtain ⟨i4, ei4⟩ := isL_v r4
  obtain rfl : w4 = (.long i4) := Option.some.inj ei4
  obtain ⟨n, o, h1, h2, h3, _, L, rfl, ⟨rfl, N⟩, hq⟩ := rm0 l s _ hw tables_1 i0 i1 i2 i3 i4 s.heap s.heap.size (Nat.le_refl _) p e ha hc hk s m _ below hf ((Spec.applies_iff_loose hf).mp happ).1 ⟨rfl, State.Warmed39.refl s, rfl⟩ trivial
  refine ⟨n, _, h1, h2, h3, hpost _ _ _ _ _ _ ⟨Cond.after_iff.mpr rfl, Cond.after_iff.mpr (eq_i res_at (Term.int_eval (1)) rfl), trivial⟩ ⟨hq.1, hq.2.1, (hq.2.2.sift fun y hy => Or.inr (N y hy)).mono (by decide) (by decide)⟩⟩
theorem main_1_1 : Claimed_1_1 := own_comes fun _ _ _ _ _ _ h hF => ⟨h.1, hF⟩
theorem main_1_2 : Claimed_1_2 := own_comes fun _ _ _ _ _ _ h hF => ⟨h.2.1, hF⟩
end Jvm.Pilot.@@N@@
namespace Jvm.Pilot.@@N@@
open Jvm Jvm.ClassFile Sem Op Lib Jvm.Free Jvm.Stand Jvm.Pilot.@@N@@.Jvm.D
/-! MADE BY PROGRAM (witnessworld.py) out of the Statement's table words and the real class files: 9 classes; the members and pool entries that the words name. The judged class is class 1, her method 1. -/
namespace start1
open Jvm.ClassFile
def u (s : String) : CpInfo := .utf8 (stringToUtf16 s)
/-- a pool by its gaps: so many unusable entries, then the entry; so many at the end -/
def gap : Nat → List CpInfo → List CpInfo
  | 0, r => r
  | n + 1, r => .unusable :: gap n r
def poolList (es : List (Nat × CpInfo)) (last : Nat) : List CpInfo := es.foldr (fun e r => gap e.1 (e.2 :: r)) (gap last [])
def pool (es : List (Nat × CpInfo)) (last : Nat) : Array CpInfo := ⟨poolList es last⟩
def fileOf (pool : Array CpInfo) (this : Nat) (attrs : Array Attribute := #[]) (ms : Array MethodInfo := #[]) (fl : Nat := 33) (sup : Nat := 0) (ifs : Array Nat := #[]) (fds : Array FieldInfo := #[]) : ClassFile where
  minorVersion := 0
  majorVersion := 65
  constantPool := pool
  accessFlags := fl
  thisClass := this
  superClass := sup
  interfaces := ifs
  fields := fds
  methods := ms
  attributes := attrs
def plain (name : String) (sup : Option ClassId) : Class where
  name := name
  kind := .ordinary
  loader := none
  accessFlags := 33
  super := sup
  interfaces := #[]
  cf := none
  fields := #[]
  methods := #[]
  instanceTypes := #[]
  staticTypes := #[]
  resolved := #[]
  callSites := []
  init := .initialized
  statics := none
  mirror := none

def pool0 : Array CpInfo := pool [(5, u "<init>"), (0, u "()V"), (1, .class_ 10), (1, u "java/lang/Object")] 113

def k0c0 : Code := { maxStack := 0, maxLocals := 1, code := object_method_1_code, exceptionTable := #[], attributes := #[] }
def k0m0 : Method := { name := "<init>", desc := "()V", sig := { parameters := [], returnType := none }, accessFlags := 1, code := some k0c0 }
/-- java/lang/Object -/
def k0 : Class := { plain "java/lang/Object" none with
  accessFlags := 33
  interfaces := #[]
  cf := some (fileOf pool0 8 #[] #[{ accessFlags := 1, nameIndex := 5, descriptorIndex := 6, attributes := #[] }] 33 0 #[] #[])
  fields := #[]
  methods := #[k0m0]
  instanceTypes := #[]
  staticTypes := #[]
  resolved := Array.replicate 124 none
  statics := none }

def pool1 : Array CpInfo := pool [(2, .class_ 4), (1, u "java/lang/Object"), (0, u "<init>"), (0, u "()V"), (0, .class_ 8), (0, u "com/example/adige/adige/ContingentLink"), (0, .methodref 7 10), (0, .nameAndType 5 11), (0, u "(IJJI)V"), (0, .methodref 7 13), (0, .nameAndType 14 15), (0, u "admits"), (0, u "(J)Z"), (2, .long 9223372036854775808), (1, .long 9223372036854775807), (1, .class_ 23), (0, u "com/example/adige/adige/ContingentLinkAdmitsPinLaw"), (2, u "law"), (0, u "(IJJIJ)Z")] 3

def k1m0 : Method := { name := "<init>", desc := "()V", sig := { parameters := [], returnType := none }, accessFlags := 1, code := none }
def k1c1 : Code := { maxStack := 8, maxLocals := 11, code := code, exceptionTable := #[], attributes := #[] }
def k1m1 : Method := { name := "law", desc := "(IJJIJ)Z", sig := { parameters := [.int, .long, .long, .int, .long], returnType := some .boolean }, accessFlags := 9, code := some k1c1 }
/-- com/example/adige/adige/ContingentLinkAdmitsPinLaw -/
def k1 : Class := { plain "com/example/adige/adige/ContingentLinkAdmitsPinLaw" (some 0) with
  accessFlags := 49
  interfaces := #[]
  cf := some (fileOf pool1 22 #[] #[{ accessFlags := 1, nameIndex := 5, descriptorIndex := 6, attributes := #[] }, { accessFlags := 9, nameIndex := 26, descriptorIndex := 27, attributes := #[] }] 49 2 #[] #[])
  fields := #[]
  methods := #[k1m0, k1m1]
  instanceTypes := #[]
  staticTypes := #[]
  resolved := Array.replicate 31 none
  statics := none }

def pool2 : Array CpInfo := pool [(1, .methodref 2 3), (0, .class_ 4), (0, .nameAndType 5 6), (0, u "java/lang/Object"), (0, u "<init>"), (0, u "()V"), (0, .fieldref 8 9), (0, .class_ 10), (0, .nameAndType 11 12), (0, u "com/example/adige/adige/ContingentLink"), (0, u "activation"), (0, u "I"), (0, .fieldref 8 14), (0, .nameAndType 15 16), (0, u "lower"), (0, u "J"), (0, .fieldref 8 18), (0, .nameAndType 19 16), (0, u "upper"), (0, .fieldref 8 21), (0, .nameAndType 22 12), (0, u "contingent"), (0, u "(IJJI)V"), (4, u "admits"), (0, u "(J)Z")] 4

def k2c0 : Code := { maxStack := 3, maxLocals := 7, code := prog_12_method_1_code, exceptionTable := #[], attributes := #[] }
def k2m0 : Method := { name := "<init>", desc := "(IJJI)V", sig := { parameters := [.int, .long, .long, .int], returnType := none }, accessFlags := 0, code := some k2c0 }
def k2c1 : Code := { maxStack := 4, maxLocals := 3, code := prog_12_method_6_code, exceptionTable := #[], attributes := #[] }
def k2m1 : Method := { name := "admits", desc := "(J)Z", sig := { parameters := [.long], returnType := some .boolean }, accessFlags := 1, code := some k2c1 }
/-- com/example/adige/adige/ContingentLink -/
def k2 : Class := { plain "com/example/adige/adige/ContingentLink" (some 0) with
  accessFlags := 49
  interfaces := #[]
  cf := some (fileOf pool2 8 #[] #[{ accessFlags := 0, nameIndex := 5, descriptorIndex := 23, attributes := #[] }, { accessFlags := 1, nameIndex := 28, descriptorIndex := 29, attributes := #[] }] 49 2 #[] #[{ accessFlags := 18, nameIndex := 11, descriptorIndex := 12, attributes := #[] }, { accessFlags := 18, nameIndex := 15, descriptorIndex := 16, attributes := #[] }, { accessFlags := 18, nameIndex := 19, descriptorIndex := 16, attributes := #[] }, { accessFlags := 18, nameIndex := 22, descriptorIndex := 12, attributes := #[] }])
  fields := #[{ name := "activation", type := .int, accessFlags := 18, slot := 0, constantValue := 0 }, { name := "lower", type := .long, accessFlags := 18, slot := 1, constantValue := 0 }, { name := "upper", type := .long, accessFlags := 18, slot := 2, constantValue := 0 }, { name := "contingent", type := .int, accessFlags := 18, slot := 3, constantValue := 0 }]
  methods := #[k2m0, k2m1]
  instanceTypes := #[.int, .long, .long, .int]
  staticTypes := #[]
  resolved := Array.replicate 34 none
  statics := none }

def pool3 : Array CpInfo := pool [(1, u "java/lang/Cloneable"), (0, .class_ 1), (0, u "java/lang/Object"), (0, .class_ 3)] 3

/-- java/lang/Cloneable -/
def k3 : Class := { plain "java/lang/Cloneable" (some 0) with
  accessFlags := 1537
  interfaces := #[]
  cf := some (fileOf pool3 2 #[] #[] 1537 4 #[] #[])
  fields := #[]
  methods := #[]
  instanceTypes := #[]
  staticTypes := #[]
  resolved := Array.replicate 8 none
  statics := none }

def pool4 : Array CpInfo := pool [(1, u "java/io/Serializable"), (0, .class_ 1), (0, u "java/lang/Object"), (0, .class_ 3)] 3

/-- java/io/Serializable -/
def k4 : Class := { plain "java/io/Serializable" (some 0) with
  accessFlags := 1537
  interfaces := #[]
  cf := some (fileOf pool4 2 #[] #[] 1537 4 #[] #[])
  fields := #[]
  methods := #[]
  instanceTypes := #[]
  staticTypes := #[]
  resolved := Array.replicate 8 none
  statics := none }

/-- the primitive byte -/
def k5 : Class := { plain "byte" none with kind := .primitive 'B', accessFlags := 0x411 }
/-- [B -/
def k6 : Class := { plain "[B" (some 0) with kind := .array 5 .byte, interfaces := #[3, 4], accessFlags := 1041 }

/-- the primitive int -/
def k7 : Class := { plain "int" none with kind := .primitive 'I', accessFlags := 0x411 }
/-- [I -/
def k8 : Class := { plain "[I" (some 0) with kind := .array 7 .int, interfaces := #[3, 4], accessFlags := 1041 }

def heap : Heap := #[]
def classes : Array Class := #[k0, k1, k2, k3, k4, k5, k6, k7, k8]
def interned : List (Array UInt16 × Addr) := []
def slotsUsed : Nat := 0
def theMethod : MethodId := ⟨1, 1⟩
def args0 : Array Value := #[.int 5, .long 5, .long 5, .int 5, .long 5]
def aboutOver (below : List Frame) : State where
  vm := { classes := classes, interned := interned.toArray }
  heap := heap
  slotsUsed := slotsUsed
  threads := #[{ frames := .invoking theMethod args0 :: below }]
def below0 : List Frame := [.native { method := ⟨0, 0⟩, args := #[] }]
def about1 : State := aboutOver below0
def p0 : Program := .bare "" "" ""
def e0 : Env := launch0.env 0 0 0
theorem w_frames : about1.frames = Frame.invoking theMethod args0 :: below0 := rfl
set_option maxRecDepth 65536 in
theorem w_args : argsFit about1.vm theMethod args0 = true := by decide +kernel
set_option maxRecDepth 65536 in
theorem w_heap : heapFits about1 = true := by decide +kernel
set_option maxRecDepth 65536 in
theorem w_runnable : about1.curStatus? = some .runnable := by decide +kernel
set_option maxRecDepth 65536 in
theorem w_alone : about1.alone = true := by decide +kernel
set_option maxRecDepth 65536 in
theorem w_named : about1.methodNamed? x = some theMethod := by decide +kernel
set_option maxRecDepth 65536 in
theorem w_hears : about1.hears theMethod below0 = true := by decide +kernel
set_option maxRecDepth 65536 in
theorem w_ripe : about1.ripe theMethod args0 below0 = true := by decide +kernel
theorem w_running : about1.status = .running := rfl
set_option maxRecDepth 65536 in
theorem w_room : about1.hasRoom e0.platform room_1 = true :=
  launch0.hasRoom_least _ room_1 (by decide +kernel) (by decide +kernel) (by decide +kernel) (by decide +kernel) (by decide +kernel) (by decide +kernel)
theorem allAtoms_all (ts : List Jvm.Cond) (a : Array Jvm.Value) (st : Jvm.State) : (allAtoms ts).before a st = ts.all (fun c => c.before a st) := by
  induction ts with
  | nil => rfl
  | cons c t ih =>
    show (Jvm.Cond.and c (allAtoms t)).before a st = _
    rw [Jvm.Cond.before_and, ih, List.all_cons]
def words1 : List Jvm.Cond := Jvm.Cond.code x code maxLocals ret :: tables_1
/-- a 'code' word, met by the world's own term for the bytes: nothing is compared byte by byte -/
theorem code_word {y : MethodName} {bytes : ByteArray} {mx : Nat} {rt : Option FieldType} {a : Array Value} {s : State} {m : MethodId} {meth : Method} {c : Code} (h1 : s.methodNamed? y = some m) (h2 : s.vm.method? m = some meth) (h3 : meth.code = some c) (h4 : c.code = bytes)
    (h5 : (c.maxLocals == mx && c.exceptionTable.isEmpty && decide (c.maxStack ≤ mostOperands) && decide (meth.sig.returnType = rt) && !meth.locks && decide (parseMethodDescriptor y.desc = some meth.sig)) = true) : (Jvm.Cond.code y bytes mx rt).before a s = true := by
  simp only [Bool.and_eq_true, beq_iff_eq, Bool.not_eq_true', decide_eq_true_eq] at h5
  obtain ⟨⟨⟨⟨⟨g1, g2⟩, g3⟩, g4⟩, g5⟩, g6⟩ := h5
  simp [Cond.before, Cond.holds, Cond.value, h1, h2, h3, h4, g1, g2, g3, g4, g5, g6]
def isCode : Jvm.Cond → Bool
  | .code _ _ _ _ => true
  | _ => false
theorem all_split {L : List Jvm.Cond} {P : Jvm.Cond → Bool} (h1 : L.all (fun c => isCode c || P c) = true) (h2 : ∀ c ∈ L.filter isCode, P c = true) : L.all P = true := by
  refine List.all_eq_true.mpr fun c hc => ?_
  have h := List.all_eq_true.mp h1 c hc
  rcases Bool.eq_false_or_eq_true (isCode c) with hi | hi
  · exact h2 c (List.mem_filter.mpr ⟨hc, hi⟩)
  · simpa [hi] using h
set_option maxRecDepth 65536 in
theorem w_c0 : (Jvm.Cond.code x code maxLocals ret).before args0 about1 = true := code_word (m := ⟨1, 1⟩) (meth := k1m1) (c := k1c1) (by decide +kernel) rfl rfl rfl (by decide +kernel)
set_option maxRecDepth 65536 in
theorem w_c1 : (Jvm.Cond.code ({ cls := "com/example/adige/adige/ContingentLink", name := "<init>", desc := "(IJJI)V" } : Jvm.MethodName) prog_12_method_1_code (7 : Nat) (Option.none : Option Jvm.ClassFile.FieldType)).before args0 about1 = true := code_word (m := ⟨2, 0⟩) (meth := k2m0) (c := k2c0) (by decide +kernel) rfl rfl rfl (by decide +kernel)
set_option maxRecDepth 65536 in
theorem w_c2 : (Jvm.Cond.code ({ cls := "java/lang/Object", name := "<init>", desc := "()V" } : Jvm.MethodName) object_method_1_code (1 : Nat) (Option.none : Option Jvm.ClassFile.FieldType)).before args0 about1 = true := code_word (m := ⟨0, 0⟩) (meth := k0m0) (c := k0c0) (by decide +kernel) rfl rfl rfl (by decide +kernel)
set_option maxRecDepth 65536 in
theorem w_c3 : (Jvm.Cond.code ({ cls := "com/example/adige/adige/ContingentLink", name := "admits", desc := "(J)Z" } : Jvm.MethodName) prog_12_method_6_code (3 : Nat) (Option.some Jvm.ClassFile.FieldType.boolean)).before args0 about1 = true := code_word (m := ⟨2, 1⟩) (meth := k2m1) (c := k2c1) (by decide +kernel) rfl rfl rfl (by decide +kernel)
def codes1 : List Jvm.Cond := [Jvm.Cond.code x code maxLocals ret, Jvm.Cond.code ({ cls := "com/example/adige/adige/ContingentLink", name := "<init>", desc := "(IJJI)V" } : Jvm.MethodName) prog_12_method_1_code (7 : Nat) (Option.none : Option Jvm.ClassFile.FieldType), Jvm.Cond.code ({ cls := "java/lang/Object", name := "<init>", desc := "()V" } : Jvm.MethodName) object_method_1_code (1 : Nat) (Option.none : Option Jvm.ClassFile.FieldType), Jvm.Cond.code ({ cls := "com/example/adige/adige/ContingentLink", name := "admits", desc := "(J)Z" } : Jvm.MethodName) prog_12_method_6_code (3 : Nat) (Option.some Jvm.ClassFile.FieldType.boolean)]
set_option maxRecDepth 65536 in
theorem codes_eq : words1.filter isCode = codes1 := rfl
theorem w_codes : ∀ c ∈ words1.filter isCode, c.before args0 about1 = true := by
  rw [codes_eq]
  intro c hc
  simp only [codes1, List.mem_cons, List.not_mem_nil, or_false] at hc
  rcases hc with rfl | rfl | rfl | rfl
  · exact w_c0
  · exact w_c1
  · exact w_c2
  · exact w_c3
set_option maxRecDepth 65536 in
theorem w_t1 : (words1.take 24).all (fun c => isCode c || c.before args0 about1) = true := by decide +kernel
set_option maxRecDepth 65536 in
theorem w_t2 : (words1.drop 24).all (fun c => isCode c || c.before args0 about1) = true := by decide +kernel
theorem w_tables : (allAtoms (Jvm.Cond.code x code maxLocals ret :: tables_1)).before args0 about1 = true := by
  rw [allAtoms_all]
  show words1.all (fun c => c.before args0 about1) = true
  refine all_split ?_ w_codes
  rw [← List.take_append_drop 24 words1, List.all_append, w_t1, w_t2]
  rfl
set_option maxRecDepth 65536 in
theorem w_case : (Jvm.Cond.and given_1 narrow_1).before args0 about1 = true := by decide +kernel
theorem w_applies : (headSpec (Jvm.Cond.code x code maxLocals ret :: tables_1) room_1).applies x e0.platform about1 = true :=
  (Spec.applies_iff w_frames).mpr ⟨w_running, w_runnable, w_alone, w_named, w_hears, w_ripe, w_room, w_tables⟩
theorem atStart : AtStart classFile x code maxLocals ret World_1 tables_1 room_1 Calls_1 rest_1 Pre_1 launch0 p0 e0 about1 theMethod args0 below0 :=
  ⟨lists_1, trivial, launch0.admits_env _ _ _, launch0.least_env, fairChoices_fair.cas, fairChoices_fair.clock, w_frames, w_args, w_heap, w_applies, trivial, trivial, w_case⟩
end start1
theorem witness_1 : WitnessClaimed_1 := ⟨start1.p0, start1.e0, start1.about1, start1.theMethod, start1.args0, start1.below0, start1.atStart⟩
end Jvm.Pilot.@@N@@
