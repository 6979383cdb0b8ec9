import JvmDerived
import JvmDerived.Pilot.@@N@@Statement
import JvmDerived.Pilot.@@N@@Code
set_option linter.unusedVariables false
set_option linter.unusedSimpArgs false
@@BLOCK:NumsL.lean.txt@@
namespace Jvm.Pilot.@@N@@
open Jvm Jvm.ClassFile Sem Op Lib Jvm.Free Jvm.Stand Jvm.LawKit Jvm.RoadKit Bundle Jvm.Pilot.@@N@@.Jvm.D
/-- from here the run comes to a state of which P holds -/
def own_Go (tb : Tables) (e : Env) (below : List Frame) (P : State → Prop) (T : State) (g : JFrame) : Prop := ∃ t, Steps tb e below (T.setTop g) t ∧ P t
theorem own_st {tb : Tables} {e : Env} {below : List Frame} {P : State → Prop} {T T' : State} {g g' : JFrame} (h : ∀ t, Steps tb e below (T'.setTop g') t → Steps tb e below (T.setTop g) t) (k : own_Go tb e below P T' g') : own_Go tb e below P T g := by
  obtain ⟨t, a, b⟩ := k; exact ⟨t, h t a, b⟩
/-- what the end of a body must be -/
def own_P (s : State) (below : List Frame) (Q : Option Value → Heap → List Loc → Prop) (C S : Nat) (t : State) : Prop := t.status = .running ∧ ∃ o, Ended t below o ∧ ∃ v L, o = .returned v ∧ Q v t.heap L ∧ FrameEnd s o t L C S
/-- .. of a body that may have interned -/
def own_PW (s : State) (below : List Frame) (Q : Option Value → Heap → List Loc → Prop) (C S : Nat) (t : State) : Prop := t.status = .running ∧ ∃ o, Ended t below o ∧ ∃ v L, o = .returned v ∧ Q v t.heap L ∧ ReturnedEndW s o t L C S
section own
variable {p : Program} {l : Launch} {e : Env} {R : Room} {s : State} {m : MethodId} {args : Array Value} {below : List Frame} {meth : Method} {c : Code} {T : State} {locs : List Loc} {cells slots : Nat} {Qo : Option Value → Heap → List Loc → Prop} {C' S' : Nat}
theorem own_out (X : Stand p l e R s m args below meth c T locs cells slots) {v : Option Value} {g : JFrame} (hv : meth.sig.returnType = none → v = none) (hlocks : meth.locks = false)
    (hst : ∀ fs, (∀ (f : JFrame) (acts : List Action), f.method = m → f.locked = none → f.entered = [] → (doReturn e (T.setTop f) acts v).1 = T.setFrames fs) → Steps p.tables e below (T.setTop g) (T.setFrames fs))
    (hc : cells ≤ C') (hs : slots ≤ S') (hq : Qo v T.heap locs) : own_Go p.tables e below (own_P s below Qo C' S') T g := by
  obtain ⟨fs, hr, hrun, hended, hW, hsame⟩ := X.leave (v := v) hv hlocks
  exact ⟨_, hst fs hr, hrun, _, hended, _, _, rfl, hq, ⟨_, rfl⟩, hW, hsame.mono hc hs⟩
theorem own_outW {vm0 : Vm} (X : Stand p l e R (s.setVm vm0) m args below meth c T locs cells slots) {k0 : Nat} (hS : s.Since vm0 k0) (hk : k0 ≤ T.heap.size) {v : Option Value} {g : JFrame} (hv : meth.sig.returnType = none → v = none) (hlocks : meth.locks = false)
    (hst : ∀ fs, (∀ (f : JFrame) (acts : List Action), f.method = m → f.locked = none → f.entered = [] → (doReturn e (T.setTop f) acts v).1 = T.setFrames fs) → Steps p.tables e below (T.setTop g) (T.setFrames fs))
    (hc : cells ≤ C') (hs : slots ≤ S') (hq : Qo v T.heap locs) : own_Go p.tables e below (own_PW s below Qo C' S') T g := by
  obtain ⟨fs, hr, hrun, hended, hW⟩ := X.leaveW hS hk (v := v) hv hlocks
  exact ⟨_, hst fs hr, hrun, _, hended, _, _, rfl, hq, hW.1, hW.2.1, hW.2.2.1, hW.2.2.2.mono hc hs⟩
theorem own_retI (X : Stand p l e R s m args below meth c T locs cells slots) (hx : p.tables.exec = Jvm.exec) {pc : Nat} {Ls : Array Slot} {z : Int32} {rest : List Value} (hret : meth.sig.returnType = some .int) (hd : decode c.code pc = .ok (.ireturn, 1)) (fs : List Frame)
    (hl : ∀ (f : JFrame) (acts : List Action), f.method = m → f.locked = none → f.entered = [] → (doReturn e (T.setTop f) acts (some (.int z))).1 = T.setFrames fs) : Steps p.tables e below (T.setTop (mkF m pc Ls (.int z :: rest))) (T.setFrames fs) :=
  retOut X hx hret rfl (Or.inl ⟨rfl, Or.inl rfl, _, rfl⟩) hd hl
theorem own_retZ (X : Stand p l e R s m args below meth c T locs cells slots) (hx : p.tables.exec = Jvm.exec) {pc : Nat} {Ls : Array Slot} {z : Int32} {rest : List Value} (hret : meth.sig.returnType = some .boolean) (hd : decode c.code pc = .ok (.ireturn, 1)) (hb : z = 0 ∨ z = 1) (fs : List Frame)
    (hl : ∀ (f : JFrame) (acts : List Action), f.method = m → f.locked = none → f.entered = [] → (doReturn e (T.setTop f) acts (some (.int z))).1 = T.setFrames fs) : Steps p.tables e below (T.setTop (mkF m pc Ls (.int z :: rest))) (T.setFrames fs) := by
  have e1 : nar .boolean z = z := by rcases hb with rfl | rfl <;> decide
  exact retN X hx hret (Or.inl rfl) hd (by rw [e1]; exact hl)
theorem own_retJ (X : Stand p l e R s m args below meth c T locs cells slots) (hx : p.tables.exec = Jvm.exec) {pc : Nat} {Ls : Array Slot} {z : Int64} {rest : List Value} (hret : meth.sig.returnType = some .long) (hd : decode c.code pc = .ok (.lreturn, 1)) (fs : List Frame)
    (hl : ∀ (f : JFrame) (acts : List Action), f.method = m → f.locked = none → f.entered = [] → (doReturn e (T.setTop f) acts (some (.long z))).1 = T.setFrames fs) : Steps p.tables e below (T.setTop (mkF m pc Ls (.long z :: rest))) (T.setFrames fs) :=
  retOut X hx hret rfl (Or.inr (Or.inl ⟨rfl, rfl, _, rfl⟩)) hd hl
theorem own_retR (X : Stand p l e R s m args below meth c T locs cells slots) (hx : p.tables.exec = Jvm.exec) {pc : Nat} {Ls : Array Slot} {w : Value} {t : FieldType} {rest : List Value} (hret : meth.sig.returnType = some t) (ht : t.isReference = true) (hw : w.isRef = true) (hn : narrow t w = w) (hd : decode c.code pc = .ok (.areturn, 1)) (fs : List Frame)
    (hl : ∀ (f : JFrame) (acts : List Action), f.method = m → f.locked = none → f.entered = [] → (doReturn e (T.setTop f) acts (some w)).1 = T.setFrames fs) : Steps p.tables e below (T.setTop (mkF m pc Ls (w :: rest))) (T.setFrames fs) :=
  retOut X hx hret hn (Or.inr (Or.inr (Or.inr (Or.inr ⟨rfl, ht, hw⟩)))) hd hl
end own
/-- a private method is the one that is picked -/
theorem own_selp {s : State} {args : Array Value} {y : MethodName} {n : Nat} (hi : (Jvm.Cond.instantiable y.cls n).before args s = true) (hp : s.PrivateAt y) (hm : (Jvm.Cond.instanceMethod y).before args s = true) (hy : y.cls ≠ "java/lang/invoke/MethodHandle" ∧ y.cls ≠ "java/lang/invoke/VarHandle") : (Jvm.Cond.selects y.cls y y).before args s = true := by
  obtain ⟨c, k, h1, h2, -, h4, -⟩ := Cond.instantiable_spec hi
  exact selects_self_of_private h1 h2 (Bool.or_eq_false_iff.mp h4).1 hp hm hy
theorem own_staK {Z : State} {h h' : Heap} {C n d : String} {v : Value} {ws : List Addr} (F : Sta Z h C n d v) (K : Keep h h' ws) (q : ∀ x ∈ ws, ∃ D, Exa Z h x D) : Sta Z h' C n d v := by
  obtain ⟨cf, i, k, f, st, cell, h1, h2, h3, h4, h5, h6, h7⟩ := F
  refine ⟨cf, i, k, f, st, cell, h1, h2, h3, h4, K.2.1 st cell h5 (fun hm => ?_), h6, h7⟩
  obtain ⟨D, c', k', e1, -, -, e4, -⟩ := q st hm
  cases h5.symm.trans e1
  rw [h6] at e4; cases e4
/-- a reference or null -/
theorem own_refOf {w : Value} (h : w.isRef = true) (c : ¬ w = Value.null) : ∃ a, w = .ref a := (ref_cases h).resolve_left c
theorem own_nW {t : FieldType} {w : Value} (ht : t.isReference = true) (h : w.isRef = true) : narrow t w = w := by
  rcases ref_cases h with rfl | ⟨a, rfl⟩ <;> cases t <;> first | rfl | simp [FieldType.isReference] at ht
theorem own_fW {t : FieldType} {w : Value} (ht : t.isReference = true) (h : w.isRef = true) : fits t w = true := by
  rcases ref_cases h with rfl | ⟨a, rfl⟩ <;> cases t <;> first | rfl | simp [FieldType.isReference] at ht
theorem own_nb {z : Int32} (h : z = 0 ∨ z = 1) : narrow .boolean (.int z) = .int z := by rcases h with rfl | rfl <;> rfl
theorem own_fb {z : Int32} (h : z = 0 ∨ z = 1) : fits .boolean (.int z) = true := by rcases h with rfl | rfl <;> rfl
/-- lcmp and a branch, in one -/
def own_lcv : ClassFile.Cond → Int64 → Int64 → Prop
  | .lt, x, y => x < y | .ge, x, y => ¬ x < y | .gt, x, y => y < x | .le, x, y => ¬ y < x | .eq, x, y => x = y | .ne, x, y => ¬ x = y
theorem own_lcT {cd : ClassFile.Cond} {x y : Int64} (h : own_lcv cd x y) : ifCond.holds cd (lcmpW x y) = true := by
  rw [if0]
  cases cd
  · exact (teq ((lw_eq x y).mpr h)).1
  · exact (feq (fun q => h ((lw_eq x y).mp q))).2
  · exact (tlt ((lw_lt x y).mpr h)).1
  · exact (flt (fun q => h ((lw_lt x y).mp q))).2.1
  · exact (tlt ((lw_gt x y).mpr h)).2.2.1
  · exact (flt (fun q => h ((lw_gt x y).mp q))).2.2.2
theorem own_lcF {cd : ClassFile.Cond} {x y : Int64} (h : ¬ own_lcv cd x y) : ifCond.holds cd (lcmpW x y) = false := by
  rw [if0]
  cases cd
  · exact (feq (fun q => h ((lw_eq x y).mp q))).1
  · exact (teq (Classical.byContradiction fun q => h (fun r => q ((lw_eq x y).mpr r)))).2
  · exact (flt (fun q => h ((lw_lt x y).mp q))).1
  · exact (tlt (Classical.byContradiction fun q => h (fun r => q ((lw_lt x y).mpr r)))).2.1
  · exact (flt (fun q => h ((lw_gt x y).mp q))).2.2.1
  · exact (tlt (Classical.byContradiction fun q => h (fun r => q ((lw_gt x y).mpr r)))).2.2.2

theorem own_pd__J_J : parseMethodDescriptor "(J)J" = some ⟨[.long], some .long⟩ := by decide +kernel
theorem own_pd__J_V : parseMethodDescriptor "(J)V" = some ⟨[.long], none⟩ := by decide +kernel
theorem own_pd___J : parseMethodDescriptor "()J" = some ⟨[], some .long⟩ := by decide +kernel
theorem d1_0 : decode prog_73_method_1_code 0 = .ok (.aload_n 0, 1) := by decide +kernel
theorem d1_1 : decode prog_73_method_1_code 1 = .ok (.invokespecial 1, 3) := by decide +kernel
theorem d1_4 : decode prog_73_method_1_code 4 = .ok (.aload_n 0, 1) := by decide +kernel
theorem d1_5 : decode prog_73_method_1_code 5 = .ok (.lload_n 1, 1) := by decide +kernel
theorem d1_6 : decode prog_73_method_1_code 6 = .ok (.putfield 7, 3) := by decide +kernel
theorem d1_9 : decode prog_73_method_1_code 9 = .ok (.return_, 1) := by decide +kernel
theorem own_pn1 : plainName "com/example/parley/parley/random/SplitMix64" = true := by first | (simp [plainName, overriddenIn]; done) | decide +kernel
theorem own_ef1 (m : MethodId) (a : Addr) (x0 : Int64) : entryFrame m #[(.ref a), (.long x0)] 3 = mkF m 0 #[.val (.ref a), .val (.long x0), .second] [] := by first | (simp [entryFrame, mkF, argsToLocals, Value.category]; done) | rfl
def Q1 (Z : State) (a : Addr) (x0 : Int64) (u0 : Value) (h0 : Heap) (n0 : Nat) (v : Option Value) (h : Heap) (L : List Loc) : Prop := v = none ∧ Fr n0 L ∧ Keep h0 h [a] ∧ Exa Z h a "com/example/parley/parley/random/SplitMix64" ∧ Fld Z h a "com/example/parley/parley/random/SplitMix64" "state" "J" (.long x0)
set_option maxRecDepth 65536 in
set_option maxHeartbeats 40000000 in
theorem rm1 (l : Launch) (Z : State) (a0 : Array Value) (hw : ∀ d ∈ tables_1, d.before a0 Z = true) (ws : List Jvm.Cond) (a : Addr) (x0 : Int64) (u0 : Value) (h0 : Heap) (n0 : Nat) (Z0 : n0 ≤ h0.size) (F0 : Exa Z h0 a "com/example/parley/parley/random/SplitMix64") (F1 : Fld Z h0 a "com/example/parley/parley/random/SplitMix64" "state" "J" u0) (g_a : n0 ≤ a) :
    MetFree l (⟨"com/example/parley/parley/random/SplitMix64", "<init>", "(J)V"⟩ : MethodName) (head1 (Jvm.Cond.code (⟨"com/example/parley/parley/random/SplitMix64", "<init>", "(J)V"⟩ : MethodName) prog_73_method_1_code 3 none :: ws) ({ frames := 1, cells := 0, slots := 0, locals := 12 } : Room)) (fun aW U => aW = #[(.ref a), (.long x0)] ∧ Z.Warmed39 U.vm ∧ U.heap = h0) (fun _ _ _ _ _ => True) (fun _ U o U' => ∃ v L, o = .returned v ∧ Q1 Z a x0 u0 h0 n0 v U'.heap L ∧ FrameEnd U o U' L ({ frames := 1, cells := 0, slots := 0, locals := 12 } : Room).cells ({ frames := 1, cells := 0, slots := 0, locals := 12 } : Room).slots) := by
  refine MetFree.of_bodySF (plainFor_of_name own_pn1) hisR ?_
  intro p e s m args below meth c s₁ Bd hml0 hP hK
  obtain ⟨rfl, hZ, hh⟩ := hP
  have hx := Bd.exec
  have hby := Bd.bytes
  have hml : c.maxLocals = 3 := hml0
  have hown : s.vm.findClass "com/example/parley/parley/random/SplitMix64" = some m.cls := findClass_of_methodNamed Bd.named
  have hnm := (name_of_methodNamed Bd.named Bd.method).1
  have X0 : Stand p l e ({ frames := 1, cells := 0, slots := 0, locals := 12 } : Room) s m #[(.ref a), (.long x0)] below meth c s₁ [] 0 0 := Stand.of_body Bd
  have e0 : s₁.heap = h0 := by rw [← hh, Bd.state]; rfl
  have N0 := Fr.nil n0
  have K0 : Keep h0 h0 [a] := Keep.refl _ _
  obtain ⟨Pq, hPq⟩ : ∃ P, P = own_P s below (fun v h L => Q1 Z a x0 u0 h0 n0 v h L) ({ frames := 1, cells := 0, slots := 0, locals := 12 } : Room).cells ({ frames := 1, cells := 0, slots := 0, locals := 12 } : Room).slots := ⟨_, rfl⟩
  suffices hgo : own_Go p.tables e below Pq s₁ (mkF m 0 #[.val (.ref a), .val (.long x0), .second] []) by
    subst hPq
    obtain ⟨t, k1, k2, o, k3, k4⟩ := hgo
    exact ⟨t, o, castTop (own_ef1 m a x0) k1, k2, k3, k4⟩
  show own_Go _ _ _ _ s₁ (mkF m 0 #[.val (.ref a), .val (.long x0), .second] [])
  refine own_st (fun t k => XS.aloadN X0.here hx rfl (hb hby d1_0) rfl rfl k) ?_
  show own_Go _ _ _ _ s₁ (mkF m 1 _ [(.ref a)])
  obtain ⟨T1, X1, e1, st1⟩ := initO X0 hx hZ hown (hw _ (List.mem_of_getElem? (i := 7) rfl)) (hw _ (List.mem_of_getElem? (i := 8) rfl)) (hw _ (List.mem_of_getElem? (i := 9) rfl)) e0 (g := (mkF m 1 #[.val (.ref a), .val (.long x0), .second] [(.ref a)])) rfl (by rw [hml]; rfl) rfl (hb hby d1_1) (by decide) (W := 0) (by show 2 * 0 + _ ≤ _; exact Nat.le_of_eq rfl) (by decide)
  refine own_st st1 ?_
  show own_Go _ _ _ _ T1 (mkF m 4 _ [])
  refine own_st (fun t k => XS.aloadN X1.here hx rfl (hb hby d1_4) rfl rfl k) ?_
  show own_Go _ _ _ _ T1 (mkF m 5 _ [(.ref a)])
  refine own_st (fun t k => XS.lloadN X1.here hx rfl (hb hby d1_5) rfl k) ?_
  show own_Go _ _ _ _ T1 (mkF m 6 _ [(.long x0), (.ref a)])
  obtain ⟨T2, h2, X2, e2, W2, st2⟩ := putF X1 hx hZ hown (host := "") (Or.inl (hw _ (List.mem_of_getElem? (i := 10) rfl))) Via.refl e1 F1 F0 (Or.inl (hw _ (List.mem_of_getElem? (i := 11) rfl))) (hw _ (List.mem_of_getElem? (i := 2) rfl)) (ty := .long) (by decide) rfl rfl (g := (mkF m 6 #[.val (.ref a), .val (.long x0), .second] [(.long x0), (.ref a)])) rfl rfl (hb hby d1_6)
  refine own_st st2 ?_
  have f3 := F0.wr W2
  have N4 := Fr.snoc X2 N0 g_a
  have Z5 : n0 ≤ h2.size := Nat.le_trans Z0 (Nat.le_of_eq W2.size.symm)
  have K6 : Keep h0 h2 [a] := K0.wr W2 (Or.inl (List.mem_of_getElem? (i := 0) rfl))
  have f7 := F1.same W2
  show own_Go _ _ _ _ T2 (mkF m 9 _ [])
  subst hPq
  refine own_out X2 (v := none) (fun _ => rfl) Bd.notSynchronized (fun fs hr => X2.returnOut hx Bd.returns (hb hby d1_9) hr) (by decide) (by decide) ?_
  show Q1 Z a x0 u0 h0 n0 _ T2.heap _
  rw [e2]
  exact ⟨rfl, N4, K6, f3, f7⟩
def own_x (k : Int32) (z : Int64) : Int64 := z ^^^ (z.toUInt64 >>> (k &&& 0x3f).toInt64.toUInt64).toInt64
def own_mix (z : Int64) : Int64 := own_x 31 (own_x 27 (own_x 30 z * (-4658895280553007687 : Int64)) * (-7723592293110705685 : Int64))
theorem d2_0 : decode prog_73_method_2_code 0 = .ok (.aload_n 0, 1) := by decide +kernel
theorem d2_1 : decode prog_73_method_2_code 1 = .ok (.dup, 1) := by decide +kernel
theorem d2_2 : decode prog_73_method_2_code 2 = .ok (.getfield 7, 3) := by decide +kernel
theorem d2_5 : decode prog_73_method_2_code 5 = .ok (.ldc2_w 13, 3) := by decide +kernel
theorem d2_8 : decode prog_73_method_2_code 8 = .ok (.ladd, 1) := by decide +kernel
theorem d2_9 : decode prog_73_method_2_code 9 = .ok (.putfield 7, 3) := by decide +kernel
theorem d2_12 : decode prog_73_method_2_code 12 = .ok (.aload_n 0, 1) := by decide +kernel
theorem d2_13 : decode prog_73_method_2_code 13 = .ok (.getfield 7, 3) := by decide +kernel
theorem d2_16 : decode prog_73_method_2_code 16 = .ok (.lstore_n 1, 1) := by decide +kernel
theorem d2_17 : decode prog_73_method_2_code 17 = .ok (.lload_n 1, 1) := by decide +kernel
theorem d2_18 : decode prog_73_method_2_code 18 = .ok (.lload_n 1, 1) := by decide +kernel
theorem d2_19 : decode prog_73_method_2_code 19 = .ok (.bipush 30, 2) := by decide +kernel
theorem d2_21 : decode prog_73_method_2_code 21 = .ok (.lushr, 1) := by decide +kernel
theorem d2_22 : decode prog_73_method_2_code 22 = .ok (.lxor, 1) := by decide +kernel
theorem d2_23 : decode prog_73_method_2_code 23 = .ok (.ldc2_w 15, 3) := by decide +kernel
theorem d2_26 : decode prog_73_method_2_code 26 = .ok (.lmul, 1) := by decide +kernel
theorem d2_27 : decode prog_73_method_2_code 27 = .ok (.lstore_n 1, 1) := by decide +kernel
theorem d2_28 : decode prog_73_method_2_code 28 = .ok (.lload_n 1, 1) := by decide +kernel
theorem d2_29 : decode prog_73_method_2_code 29 = .ok (.lload_n 1, 1) := by decide +kernel
theorem d2_30 : decode prog_73_method_2_code 30 = .ok (.bipush 27, 2) := by decide +kernel
theorem d2_32 : decode prog_73_method_2_code 32 = .ok (.lushr, 1) := by decide +kernel
theorem d2_33 : decode prog_73_method_2_code 33 = .ok (.lxor, 1) := by decide +kernel
theorem d2_34 : decode prog_73_method_2_code 34 = .ok (.ldc2_w 17, 3) := by decide +kernel
theorem d2_37 : decode prog_73_method_2_code 37 = .ok (.lmul, 1) := by decide +kernel
theorem d2_38 : decode prog_73_method_2_code 38 = .ok (.lstore_n 1, 1) := by decide +kernel
theorem d2_39 : decode prog_73_method_2_code 39 = .ok (.lload_n 1, 1) := by decide +kernel
theorem d2_40 : decode prog_73_method_2_code 40 = .ok (.lload_n 1, 1) := by decide +kernel
theorem d2_41 : decode prog_73_method_2_code 41 = .ok (.bipush 31, 2) := by decide +kernel
theorem d2_43 : decode prog_73_method_2_code 43 = .ok (.lushr, 1) := by decide +kernel
theorem d2_44 : decode prog_73_method_2_code 44 = .ok (.lxor, 1) := by decide +kernel
theorem d2_45 : decode prog_73_method_2_code 45 = .ok (.lreturn, 1) := by decide +kernel
theorem own_pn2 : plainName "com/example/parley/parley/random/SplitMix64" = true := by first | (simp [plainName, overriddenIn]; done) | decide +kernel
theorem own_ef2 (m : MethodId) (a : Addr) : entryFrame m #[(.ref a)] 3 = mkF m 0 #[.val (.ref a), .unset, .unset] [] := by first | (simp [entryFrame, mkF, argsToLocals, Value.category]; done) | rfl
def Q2 (Z : State) (a : Addr) (z : Int64) (h0 : Heap) (n0 : Nat) (v : Option Value) (h : Heap) (L : List Loc) : Prop := v = some (.long (own_mix (z + (-7046029254386353131 : Int64)))) ∧ Fr n0 L ∧ Keep h0 h [a] ∧ Exa Z h a "com/example/parley/parley/random/SplitMix64" ∧ Fld Z h a "com/example/parley/parley/random/SplitMix64" "state" "J" (.long (z + (-7046029254386353131 : Int64)))
set_option maxRecDepth 65536 in
set_option maxHeartbeats 40000000 in
theorem rm2 (l : Launch) (Z : State) (a0 : Array Value) (hw : ∀ d ∈ tables_1, d.before a0 Z = true) (ws : List Jvm.Cond) (a : Addr) (z : Int64) (h0 : Heap) (n0 : Nat) (Z0 : n0 ≤ h0.size) (F0 : Exa Z h0 a "com/example/parley/parley/random/SplitMix64") (F1 : Fld Z h0 a "com/example/parley/parley/random/SplitMix64" "state" "J" (.long z)) (g_a : n0 ≤ a) :
    MetFree l (⟨"com/example/parley/parley/random/SplitMix64", "nextLong", "()J"⟩ : MethodName) (head1 (Jvm.Cond.code (⟨"com/example/parley/parley/random/SplitMix64", "nextLong", "()J"⟩ : MethodName) prog_73_method_2_code 3 (some .long) :: ws) ({ frames := 0, cells := 0, slots := 0, locals := 0 } : Room)) (fun aW U => aW = #[(.ref a)] ∧ Z.Warmed39 U.vm ∧ U.heap = h0) (fun _ _ _ _ _ => True) (fun _ U o U' => ∃ v L, o = .returned v ∧ Q2 Z a z h0 n0 v U'.heap L ∧ FrameEnd U o U' L ({ frames := 0, cells := 0, slots := 0, locals := 0 } : Room).cells ({ frames := 0, cells := 0, slots := 0, locals := 0 } : Room).slots) := by
  refine MetFree.of_bodySF (plainFor_of_name own_pn2) hisR ?_
  intro p e s m args below meth c s₁ Bd hml0 hP hK
  obtain ⟨rfl, hZ, hh⟩ := hP
  have hx := Bd.exec
  have hby := Bd.bytes
  have hml : c.maxLocals = 3 := hml0
  have hown : s.vm.findClass "com/example/parley/parley/random/SplitMix64" = some m.cls := findClass_of_methodNamed Bd.named
  have hnm := (name_of_methodNamed Bd.named Bd.method).1
  have X0 : Stand p l e ({ frames := 0, cells := 0, slots := 0, locals := 0 } : Room) s m #[(.ref a)] below meth c s₁ [] 0 0 := Stand.of_body Bd
  have e0 : s₁.heap = h0 := by rw [← hh, Bd.state]; rfl
  have N0 := Fr.nil n0
  have K0 : Keep h0 h0 [a] := Keep.refl _ _
  obtain ⟨Pq, hPq⟩ : ∃ P, P = own_P s below (fun v h L => Q2 Z a z h0 n0 v h L) ({ frames := 0, cells := 0, slots := 0, locals := 0 } : Room).cells ({ frames := 0, cells := 0, slots := 0, locals := 0 } : Room).slots := ⟨_, rfl⟩
  suffices hgo : own_Go p.tables e below Pq s₁ (mkF m 0 #[.val (.ref a), .unset, .unset] []) by
    subst hPq
    obtain ⟨t, k1, k2, o, k3, k4⟩ := hgo
    exact ⟨t, o, castTop (own_ef2 m a) k1, k2, k3, k4⟩
  show own_Go _ _ _ _ s₁ (mkF m 0 #[.val (.ref a), .unset, .unset] [])
  refine own_st (fun t k => XS.aloadN X0.here hx rfl (hb hby d2_0) rfl rfl k) ?_
  show own_Go _ _ _ _ s₁ (mkF m 1 _ [(.ref a)])
  refine own_st (fun t k => XS.dup X0.here hx rfl (hb hby d2_1) rfl rfl k) ?_
  show own_Go _ _ _ _ s₁ (mkF m 2 _ [(.ref a), (.ref a)])
  obtain ⟨T1, X1, e1, st1⟩ := getF X0 hx hZ hown (host := "") (Or.inl (hw _ (List.mem_of_getElem? (i := 10) rfl))) Via.refl e0 F1 (g := (mkF m 2 #[.val (.ref a), .unset, .unset] [(.ref a), (.ref a)])) rfl rfl (hb hby d2_2)
  refine own_st st1 ?_
  show own_Go _ _ _ _ T1 (mkF m 5 _ [(.long z), (.ref a)])
  refine own_st (fun t k => X1.ldc2Long hx hown (mvT hZ (hw _ (List.mem_of_getElem? (i := 17) rfl))) (g := (mkF m 5 #[.val (.ref a), .unset, .unset] [(.long z), (.ref a)])) rfl (hb hby d2_5) _ k) ?_
  show own_Go _ _ _ _ T1 (mkF m 8 _ [(.long (-7046029254386353131 : Int64)), (.long z), (.ref a)])
  refine own_st (fun t k => XS.ladd X1.here hx rfl (hb hby d2_8) rfl k) ?_
  show own_Go _ _ _ _ T1 (mkF m 9 _ [(.long (z + (-7046029254386353131 : Int64))), (.ref a)])
  obtain ⟨T2, h2, X2, e2, W2, st2⟩ := putF X1 hx hZ hown (host := "") (Or.inl (hw _ (List.mem_of_getElem? (i := 10) rfl))) Via.refl e1 F1 F0 (Or.inl (hw _ (List.mem_of_getElem? (i := 11) rfl))) (hw _ (List.mem_of_getElem? (i := 2) rfl)) (ty := .long) (by decide) rfl rfl (g := (mkF m 9 #[.val (.ref a), .unset, .unset] [(.long (z + (-7046029254386353131 : Int64))), (.ref a)])) rfl rfl (hb hby d2_9)
  refine own_st st2 ?_
  have f3 := F0.wr W2
  have N4 := Fr.snoc X2 N0 g_a
  have Z5 : n0 ≤ h2.size := Nat.le_trans Z0 (Nat.le_of_eq W2.size.symm)
  have K6 : Keep h0 h2 [a] := K0.wr W2 (Or.inl (List.mem_of_getElem? (i := 0) rfl))
  have f7 := F1.same W2
  show own_Go _ _ _ _ T2 (mkF m 12 _ [])
  refine own_st (fun t k => XS.aloadN X2.here hx rfl (hb hby d2_12) rfl rfl k) ?_
  show own_Go _ _ _ _ T2 (mkF m 13 _ [(.ref a)])
  obtain ⟨T8, X8, e8, st8⟩ := getF X2 hx hZ hown (host := "") (Or.inl (hw _ (List.mem_of_getElem? (i := 10) rfl))) Via.refl e2 f7 (g := (mkF m 13 #[.val (.ref a), .unset, .unset] [(.ref a)])) rfl rfl (hb hby d2_13)
  refine own_st st8 ?_
  show own_Go _ _ _ _ T8 (mkF m 16 _ [(.long (z + (-7046029254386353131 : Int64)))])
  generalize hv9 : (z + (-7046029254386353131 : Int64)) = v9
  refine own_st (fun t k => XS.lstoreN X8.here hx rfl (hb hby d2_16) rfl (l' := #[.val (.ref a), .val (.long v9), .second]) rfl k) ?_
  show own_Go _ _ _ _ T8 (mkF m 17 #[.val (.ref a), .val (.long v9), .second] [])
  refine own_st (fun t k => XS.lloadN X8.here hx rfl (hb hby d2_17) rfl k) ?_
  show own_Go _ _ _ _ T8 (mkF m 18 _ [(.long v9)])
  refine own_st (fun t k => XS.lloadN X8.here hx rfl (hb hby d2_18) rfl k) ?_
  show own_Go _ _ _ _ T8 (mkF m 19 _ [(.long v9), (.long v9)])
  refine own_st (fun t k => XS.bipush X8.here hx rfl (hb hby d2_19) k) ?_
  show own_Go _ _ _ _ T8 (mkF m 21 _ [(.int (30 : Int32)), (.long v9), (.long v9)])
  refine own_st (fun t k => XS.lushr X8.here hx rfl (hb hby d2_21) rfl k) ?_
  show own_Go _ _ _ _ T8 (mkF m 22 _ [(.long ((v9.toUInt64 >>> ((30 : Int32) &&& 0x3f).toInt64.toUInt64).toInt64)), (.long v9)])
  refine own_st (fun t k => XS.lxor X8.here hx rfl (hb hby d2_22) rfl k) ?_
  show own_Go _ _ _ _ T8 (mkF m 23 _ [(.long (v9 ^^^ ((v9.toUInt64 >>> ((30 : Int32) &&& 0x3f).toInt64.toUInt64).toInt64)))])
  refine own_st (fun t k => X8.ldc2Long hx hown (mvT hZ (hw _ (List.mem_of_getElem? (i := 18) rfl))) (g := (mkF m 23 #[.val (.ref a), .val (.long v9), .second] [(.long (v9 ^^^ ((v9.toUInt64 >>> ((30 : Int32) &&& 0x3f).toInt64.toUInt64).toInt64)))])) rfl (hb hby d2_23) _ k) ?_
  show own_Go _ _ _ _ T8 (mkF m 26 _ [(.long (-4658895280553007687 : Int64)), (.long (v9 ^^^ ((v9.toUInt64 >>> ((30 : Int32) &&& 0x3f).toInt64.toUInt64).toInt64)))])
  refine own_st (fun t k => XS.lmul X8.here hx rfl (hb hby d2_26) rfl k) ?_
  show own_Go _ _ _ _ T8 (mkF m 27 _ [(.long ((v9 ^^^ ((v9.toUInt64 >>> ((30 : Int32) &&& 0x3f).toInt64.toUInt64).toInt64)) * (-4658895280553007687 : Int64)))])
  generalize hv10 : ((v9 ^^^ ((v9.toUInt64 >>> ((30 : Int32) &&& 0x3f).toInt64.toUInt64).toInt64)) * (-4658895280553007687 : Int64)) = v10
  refine own_st (fun t k => XS.lstoreN X8.here hx rfl (hb hby d2_27) rfl (l' := #[.val (.ref a), .val (.long v10), .second]) rfl k) ?_
  show own_Go _ _ _ _ T8 (mkF m 28 #[.val (.ref a), .val (.long v10), .second] [])
  refine own_st (fun t k => XS.lloadN X8.here hx rfl (hb hby d2_28) rfl k) ?_
  show own_Go _ _ _ _ T8 (mkF m 29 _ [(.long v10)])
  refine own_st (fun t k => XS.lloadN X8.here hx rfl (hb hby d2_29) rfl k) ?_
  show own_Go _ _ _ _ T8 (mkF m 30 _ [(.long v10), (.long v10)])
  refine own_st (fun t k => XS.bipush X8.here hx rfl (hb hby d2_30) k) ?_
  show own_Go _ _ _ _ T8 (mkF m 32 _ [(.int (27 : Int32)), (.long v10), (.long v10)])
  refine own_st (fun t k => XS.lushr X8.here hx rfl (hb hby d2_32) rfl k) ?_
  show own_Go _ _ _ _ T8 (mkF m 33 _ [(.long ((v10.toUInt64 >>> ((27 : Int32) &&& 0x3f).toInt64.toUInt64).toInt64)), (.long v10)])
  refine own_st (fun t k => XS.lxor X8.here hx rfl (hb hby d2_33) rfl k) ?_
  show own_Go _ _ _ _ T8 (mkF m 34 _ [(.long (v10 ^^^ ((v10.toUInt64 >>> ((27 : Int32) &&& 0x3f).toInt64.toUInt64).toInt64)))])
  refine own_st (fun t k => X8.ldc2Long hx hown (mvT hZ (hw _ (List.mem_of_getElem? (i := 19) rfl))) (g := (mkF m 34 #[.val (.ref a), .val (.long v10), .second] [(.long (v10 ^^^ ((v10.toUInt64 >>> ((27 : Int32) &&& 0x3f).toInt64.toUInt64).toInt64)))])) rfl (hb hby d2_34) _ k) ?_
  show own_Go _ _ _ _ T8 (mkF m 37 _ [(.long (-7723592293110705685 : Int64)), (.long (v10 ^^^ ((v10.toUInt64 >>> ((27 : Int32) &&& 0x3f).toInt64.toUInt64).toInt64)))])
  refine own_st (fun t k => XS.lmul X8.here hx rfl (hb hby d2_37) rfl k) ?_
  show own_Go _ _ _ _ T8 (mkF m 38 _ [(.long ((v10 ^^^ ((v10.toUInt64 >>> ((27 : Int32) &&& 0x3f).toInt64.toUInt64).toInt64)) * (-7723592293110705685 : Int64)))])
  generalize hv11 : ((v10 ^^^ ((v10.toUInt64 >>> ((27 : Int32) &&& 0x3f).toInt64.toUInt64).toInt64)) * (-7723592293110705685 : Int64)) = v11
  refine own_st (fun t k => XS.lstoreN X8.here hx rfl (hb hby d2_38) rfl (l' := #[.val (.ref a), .val (.long v11), .second]) rfl k) ?_
  show own_Go _ _ _ _ T8 (mkF m 39 #[.val (.ref a), .val (.long v11), .second] [])
  refine own_st (fun t k => XS.lloadN X8.here hx rfl (hb hby d2_39) rfl k) ?_
  show own_Go _ _ _ _ T8 (mkF m 40 _ [(.long v11)])
  refine own_st (fun t k => XS.lloadN X8.here hx rfl (hb hby d2_40) rfl k) ?_
  show own_Go _ _ _ _ T8 (mkF m 41 _ [(.long v11), (.long v11)])
  refine own_st (fun t k => XS.bipush X8.here hx rfl (hb hby d2_41) k) ?_
  show own_Go _ _ _ _ T8 (mkF m 43 _ [(.int (31 : Int32)), (.long v11), (.long v11)])
  refine own_st (fun t k => XS.lushr X8.here hx rfl (hb hby d2_43) rfl k) ?_
  show own_Go _ _ _ _ T8 (mkF m 44 _ [(.long ((v11.toUInt64 >>> ((31 : Int32) &&& 0x3f).toInt64.toUInt64).toInt64)), (.long v11)])
  refine own_st (fun t k => XS.lxor X8.here hx rfl (hb hby d2_44) rfl k) ?_
  show own_Go _ _ _ _ T8 (mkF m 45 _ [(.long (v11 ^^^ ((v11.toUInt64 >>> ((31 : Int32) &&& 0x3f).toInt64.toUInt64).toInt64)))])
  subst hPq
  refine own_out X8 (v := some (.long (v11 ^^^ ((v11.toUInt64 >>> ((31 : Int32) &&& 0x3f).toInt64.toUInt64).toInt64)))) (fun h => by rw [Bd.returns] at h; cases h) Bd.notSynchronized (own_retJ X8 hx Bd.returns (hb hby d2_45)) (by decide) (by decide) ?_
  show Q2 Z a z h0 n0 _ T8.heap _
  rw [e8]
  exact ⟨(by subst_vars; rfl), N4, K6, f3, f7⟩
def own_u (k q : Int32) (z : Int64) : Int64 := (z ^^^ (z.toUInt64 >>> (k &&& 0x3f).toInt64.toUInt64).toInt64) ^^^ (z.toUInt64 >>> (q &&& 0x3f).toInt64.toUInt64).toInt64
def own_stp (a x : Int64) : Int64 := x * ((2 : Int64) - (a * x))
def own_inv (x0 : Int64) : Int64 := own_stp x0 (own_stp x0 (own_stp x0 (own_stp x0 (own_stp x0 x0))))
theorem d3_0 : decode method_2_code 0 = .ok (.lload_n 0, 1) := by decide +kernel
theorem d3_1 : decode method_2_code 1 = .ok (.lstore_n 2, 1) := by decide +kernel
theorem d3_2 : decode method_2_code 2 = .ok (.lload_n 2, 1) := by decide +kernel
theorem d3_3 : decode method_2_code 3 = .ok (.ldc2_w 7, 3) := by decide +kernel
theorem d3_6 : decode method_2_code 6 = .ok (.lload_n 0, 1) := by decide +kernel
theorem d3_7 : decode method_2_code 7 = .ok (.lload_n 2, 1) := by decide +kernel
theorem d3_8 : decode method_2_code 8 = .ok (.lmul, 1) := by decide +kernel
theorem d3_9 : decode method_2_code 9 = .ok (.lsub, 1) := by decide +kernel
theorem d3_10 : decode method_2_code 10 = .ok (.lmul, 1) := by decide +kernel
theorem d3_11 : decode method_2_code 11 = .ok (.lstore_n 2, 1) := by decide +kernel
theorem d3_12 : decode method_2_code 12 = .ok (.lload_n 2, 1) := by decide +kernel
theorem d3_13 : decode method_2_code 13 = .ok (.ldc2_w 7, 3) := by decide +kernel
theorem d3_16 : decode method_2_code 16 = .ok (.lload_n 0, 1) := by decide +kernel
theorem d3_17 : decode method_2_code 17 = .ok (.lload_n 2, 1) := by decide +kernel
theorem d3_18 : decode method_2_code 18 = .ok (.lmul, 1) := by decide +kernel
theorem d3_19 : decode method_2_code 19 = .ok (.lsub, 1) := by decide +kernel
theorem d3_20 : decode method_2_code 20 = .ok (.lmul, 1) := by decide +kernel
theorem d3_21 : decode method_2_code 21 = .ok (.lstore_n 2, 1) := by decide +kernel
theorem d3_22 : decode method_2_code 22 = .ok (.lload_n 2, 1) := by decide +kernel
theorem d3_23 : decode method_2_code 23 = .ok (.ldc2_w 7, 3) := by decide +kernel
theorem d3_26 : decode method_2_code 26 = .ok (.lload_n 0, 1) := by decide +kernel
theorem d3_27 : decode method_2_code 27 = .ok (.lload_n 2, 1) := by decide +kernel
theorem d3_28 : decode method_2_code 28 = .ok (.lmul, 1) := by decide +kernel
theorem d3_29 : decode method_2_code 29 = .ok (.lsub, 1) := by decide +kernel
theorem d3_30 : decode method_2_code 30 = .ok (.lmul, 1) := by decide +kernel
theorem d3_31 : decode method_2_code 31 = .ok (.lstore_n 2, 1) := by decide +kernel
theorem d3_32 : decode method_2_code 32 = .ok (.lload_n 2, 1) := by decide +kernel
theorem d3_33 : decode method_2_code 33 = .ok (.ldc2_w 7, 3) := by decide +kernel
theorem d3_36 : decode method_2_code 36 = .ok (.lload_n 0, 1) := by decide +kernel
theorem d3_37 : decode method_2_code 37 = .ok (.lload_n 2, 1) := by decide +kernel
theorem d3_38 : decode method_2_code 38 = .ok (.lmul, 1) := by decide +kernel
theorem d3_39 : decode method_2_code 39 = .ok (.lsub, 1) := by decide +kernel
theorem d3_40 : decode method_2_code 40 = .ok (.lmul, 1) := by decide +kernel
theorem d3_41 : decode method_2_code 41 = .ok (.lstore_n 2, 1) := by decide +kernel
theorem d3_42 : decode method_2_code 42 = .ok (.lload_n 2, 1) := by decide +kernel
theorem d3_43 : decode method_2_code 43 = .ok (.ldc2_w 7, 3) := by decide +kernel
theorem d3_46 : decode method_2_code 46 = .ok (.lload_n 0, 1) := by decide +kernel
theorem d3_47 : decode method_2_code 47 = .ok (.lload_n 2, 1) := by decide +kernel
theorem d3_48 : decode method_2_code 48 = .ok (.lmul, 1) := by decide +kernel
theorem d3_49 : decode method_2_code 49 = .ok (.lsub, 1) := by decide +kernel
theorem d3_50 : decode method_2_code 50 = .ok (.lmul, 1) := by decide +kernel
theorem d3_51 : decode method_2_code 51 = .ok (.lstore_n 2, 1) := by decide +kernel
theorem d3_52 : decode method_2_code 52 = .ok (.lload_n 2, 1) := by decide +kernel
theorem d3_53 : decode method_2_code 53 = .ok (.lreturn, 1) := by decide +kernel
theorem own_pn3 : plainName "com/example/parley/parley/random/SplitMix64NextLongPinLaw" = true := by first | (simp [plainName, overriddenIn]; done) | decide +kernel
theorem own_ef3 (m : MethodId) (x0 : Int64) : entryFrame m #[(.long x0)] 4 = mkF m 0 #[.val (.long x0), .second, .unset, .unset] [] := by first | (simp [entryFrame, mkF, argsToLocals, Value.category]; done) | rfl
def Q3 (Z : State) (x0 : Int64) (h0 : Heap) (n0 : Nat) (v : Option Value) (h : Heap) (L : List Loc) : Prop := v = some (.long (own_inv x0)) ∧ Fr n0 L ∧ h = h0
set_option maxRecDepth 65536 in
set_option maxHeartbeats 40000000 in
theorem rm3 (l : Launch) (Z : State) (a0 : Array Value) (hw : ∀ d ∈ tables_1, d.before a0 Z = true) (ws : List Jvm.Cond) (x0 : Int64) (h0 : Heap) (n0 : Nat) (Z0 : n0 ≤ h0.size) :
    MetFree l (⟨"com/example/parley/parley/random/SplitMix64NextLongPinLaw", "inv", "(J)J"⟩ : MethodName) (head1 (Jvm.Cond.code (⟨"com/example/parley/parley/random/SplitMix64NextLongPinLaw", "inv", "(J)J"⟩ : MethodName) method_2_code 4 (some .long) :: ws) ({ frames := 0, cells := 0, slots := 0, locals := 0 } : Room)) (fun aW U => aW = #[(.long x0)] ∧ Z.Warmed39 U.vm ∧ U.heap = h0) (fun _ _ _ _ _ => True) (fun _ U o U' => ∃ v L, o = .returned v ∧ Q3 Z x0 h0 n0 v U'.heap L ∧ FrameEnd U o U' L ({ frames := 0, cells := 0, slots := 0, locals := 0 } : Room).cells ({ frames := 0, cells := 0, slots := 0, locals := 0 } : Room).slots) := by
  refine MetFree.of_bodySF (plainFor_of_name own_pn3) hisR ?_
  intro p e s m args below meth c s₁ Bd hml0 hP hK
  obtain ⟨rfl, hZ, hh⟩ := hP
  have hx := Bd.exec
  have hby := Bd.bytes
  have hml : c.maxLocals = 4 := hml0
  have hown : s.vm.findClass "com/example/parley/parley/random/SplitMix64NextLongPinLaw" = some m.cls := findClass_of_methodNamed Bd.named
  have hnm := (name_of_methodNamed Bd.named Bd.method).1
  have X0 : Stand p l e ({ frames := 0, cells := 0, slots := 0, locals := 0 } : Room) s m #[(.long x0)] below meth c s₁ [] 0 0 := Stand.of_body Bd
  have e0 : s₁.heap = h0 := by rw [← hh, Bd.state]; rfl
  have N0 := Fr.nil n0
  obtain ⟨Pq, hPq⟩ : ∃ P, P = own_P s below (fun v h L => Q3 Z x0 h0 n0 v h L) ({ frames := 0, cells := 0, slots := 0, locals := 0 } : Room).cells ({ frames := 0, cells := 0, slots := 0, locals := 0 } : Room).slots := ⟨_, rfl⟩
  suffices hgo : own_Go p.tables e below Pq s₁ (mkF m 0 #[.val (.long x0), .second, .unset, .unset] []) by
    subst hPq
    obtain ⟨t, k1, k2, o, k3, k4⟩ := hgo
    exact ⟨t, o, castTop (own_ef3 m x0) k1, k2, k3, k4⟩
  show own_Go _ _ _ _ s₁ (mkF m 0 #[.val (.long x0), .second, .unset, .unset] [])
  refine own_st (fun t k => XS.lloadN X0.here hx rfl (hb hby d3_0) rfl k) ?_
  show own_Go _ _ _ _ s₁ (mkF m 1 _ [(.long x0)])
  refine own_st (fun t k => XS.lstoreN X0.here hx rfl (hb hby d3_1) rfl (l' := #[.val (.long x0), .second, .val (.long x0), .second]) rfl k) ?_
  show own_Go _ _ _ _ s₁ (mkF m 2 #[.val (.long x0), .second, .val (.long x0), .second] [])
  refine own_st (fun t k => XS.lloadN X0.here hx rfl (hb hby d3_2) rfl k) ?_
  show own_Go _ _ _ _ s₁ (mkF m 3 _ [(.long x0)])
  refine own_st (fun t k => X0.ldc2Long hx hown (mvT hZ (hw _ (List.mem_of_getElem? (i := 28) rfl))) (g := (mkF m 3 #[.val (.long x0), .second, .val (.long x0), .second] [(.long x0)])) rfl (hb hby d3_3) _ k) ?_
  show own_Go _ _ _ _ s₁ (mkF m 6 _ [(.long (2 : Int64)), (.long x0)])
  refine own_st (fun t k => XS.lloadN X0.here hx rfl (hb hby d3_6) rfl k) ?_
  show own_Go _ _ _ _ s₁ (mkF m 7 _ [(.long x0), (.long (2 : Int64)), (.long x0)])
  refine own_st (fun t k => XS.lloadN X0.here hx rfl (hb hby d3_7) rfl k) ?_
  show own_Go _ _ _ _ s₁ (mkF m 8 _ [(.long x0), (.long x0), (.long (2 : Int64)), (.long x0)])
  refine own_st (fun t k => XS.lmul X0.here hx rfl (hb hby d3_8) rfl k) ?_
  show own_Go _ _ _ _ s₁ (mkF m 9 _ [(.long (x0 * x0)), (.long (2 : Int64)), (.long x0)])
  refine own_st (fun t k => XS.lsub X0.here hx rfl (hb hby d3_9) rfl k) ?_
  show own_Go _ _ _ _ s₁ (mkF m 10 _ [(.long ((2 : Int64) - (x0 * x0))), (.long x0)])
  refine own_st (fun t k => XS.lmul X0.here hx rfl (hb hby d3_10) rfl k) ?_
  show own_Go _ _ _ _ s₁ (mkF m 11 _ [(.long (x0 * ((2 : Int64) - (x0 * x0))))])
  generalize hv1 : (x0 * ((2 : Int64) - (x0 * x0))) = v1
  refine own_st (fun t k => XS.lstoreN X0.here hx rfl (hb hby d3_11) rfl (l' := #[.val (.long x0), .second, .val (.long v1), .second]) rfl k) ?_
  show own_Go _ _ _ _ s₁ (mkF m 12 #[.val (.long x0), .second, .val (.long v1), .second] [])
  refine own_st (fun t k => XS.lloadN X0.here hx rfl (hb hby d3_12) rfl k) ?_
  show own_Go _ _ _ _ s₁ (mkF m 13 _ [(.long v1)])
  refine own_st (fun t k => X0.ldc2Long hx hown (mvT hZ (hw _ (List.mem_of_getElem? (i := 28) rfl))) (g := (mkF m 13 #[.val (.long x0), .second, .val (.long v1), .second] [(.long v1)])) rfl (hb hby d3_13) _ k) ?_
  show own_Go _ _ _ _ s₁ (mkF m 16 _ [(.long (2 : Int64)), (.long v1)])
  refine own_st (fun t k => XS.lloadN X0.here hx rfl (hb hby d3_16) rfl k) ?_
  show own_Go _ _ _ _ s₁ (mkF m 17 _ [(.long x0), (.long (2 : Int64)), (.long v1)])
  refine own_st (fun t k => XS.lloadN X0.here hx rfl (hb hby d3_17) rfl k) ?_
  show own_Go _ _ _ _ s₁ (mkF m 18 _ [(.long v1), (.long x0), (.long (2 : Int64)), (.long v1)])
  refine own_st (fun t k => XS.lmul X0.here hx rfl (hb hby d3_18) rfl k) ?_
  show own_Go _ _ _ _ s₁ (mkF m 19 _ [(.long (x0 * v1)), (.long (2 : Int64)), (.long v1)])
  refine own_st (fun t k => XS.lsub X0.here hx rfl (hb hby d3_19) rfl k) ?_
  show own_Go _ _ _ _ s₁ (mkF m 20 _ [(.long ((2 : Int64) - (x0 * v1))), (.long v1)])
  refine own_st (fun t k => XS.lmul X0.here hx rfl (hb hby d3_20) rfl k) ?_
  show own_Go _ _ _ _ s₁ (mkF m 21 _ [(.long (v1 * ((2 : Int64) - (x0 * v1))))])
  generalize hv2 : (v1 * ((2 : Int64) - (x0 * v1))) = v2
  refine own_st (fun t k => XS.lstoreN X0.here hx rfl (hb hby d3_21) rfl (l' := #[.val (.long x0), .second, .val (.long v2), .second]) rfl k) ?_
  show own_Go _ _ _ _ s₁ (mkF m 22 #[.val (.long x0), .second, .val (.long v2), .second] [])
  refine own_st (fun t k => XS.lloadN X0.here hx rfl (hb hby d3_22) rfl k) ?_
  show own_Go _ _ _ _ s₁ (mkF m 23 _ [(.long v2)])
  refine own_st (fun t k => X0.ldc2Long hx hown (mvT hZ (hw _ (List.mem_of_getElem? (i := 28) rfl))) (g := (mkF m 23 #[.val (.long x0), .second, .val (.long v2), .second] [(.long v2)])) rfl (hb hby d3_23) _ k) ?_
  show own_Go _ _ _ _ s₁ (mkF m 26 _ [(.long (2 : Int64)), (.long v2)])
  refine own_st (fun t k => XS.lloadN X0.here hx rfl (hb hby d3_26) rfl k) ?_
  show own_Go _ _ _ _ s₁ (mkF m 27 _ [(.long x0), (.long (2 : Int64)), (.long v2)])
  refine own_st (fun t k => XS.lloadN X0.here hx rfl (hb hby d3_27) rfl k) ?_
  show own_Go _ _ _ _ s₁ (mkF m 28 _ [(.long v2), (.long x0), (.long (2 : Int64)), (.long v2)])
  refine own_st (fun t k => XS.lmul X0.here hx rfl (hb hby d3_28) rfl k) ?_
  show own_Go _ _ _ _ s₁ (mkF m 29 _ [(.long (x0 * v2)), (.long (2 : Int64)), (.long v2)])
  refine own_st (fun t k => XS.lsub X0.here hx rfl (hb hby d3_29) rfl k) ?_
  show own_Go _ _ _ _ s₁ (mkF m 30 _ [(.long ((2 : Int64) - (x0 * v2))), (.long v2)])
  refine own_st (fun t k => XS.lmul X0.here hx rfl (hb hby d3_30) rfl k) ?_
  show own_Go _ _ _ _ s₁ (mkF m 31 _ [(.long (v2 * ((2 : Int64) - (x0 * v2))))])
  generalize hv3 : (v2 * ((2 : Int64) - (x0 * v2))) = v3
  refine own_st (fun t k => XS.lstoreN X0.here hx rfl (hb hby d3_31) rfl (l' := #[.val (.long x0), .second, .val (.long v3), .second]) rfl k) ?_
  show own_Go _ _ _ _ s₁ (mkF m 32 #[.val (.long x0), .second, .val (.long v3), .second] [])
  refine own_st (fun t k => XS.lloadN X0.here hx rfl (hb hby d3_32) rfl k) ?_
  show own_Go _ _ _ _ s₁ (mkF m 33 _ [(.long v3)])
  refine own_st (fun t k => X0.ldc2Long hx hown (mvT hZ (hw _ (List.mem_of_getElem? (i := 28) rfl))) (g := (mkF m 33 #[.val (.long x0), .second, .val (.long v3), .second] [(.long v3)])) rfl (hb hby d3_33) _ k) ?_
  show own_Go _ _ _ _ s₁ (mkF m 36 _ [(.long (2 : Int64)), (.long v3)])
  refine own_st (fun t k => XS.lloadN X0.here hx rfl (hb hby d3_36) rfl k) ?_
  show own_Go _ _ _ _ s₁ (mkF m 37 _ [(.long x0), (.long (2 : Int64)), (.long v3)])
  refine own_st (fun t k => XS.lloadN X0.here hx rfl (hb hby d3_37) rfl k) ?_
  show own_Go _ _ _ _ s₁ (mkF m 38 _ [(.long v3), (.long x0), (.long (2 : Int64)), (.long v3)])
  refine own_st (fun t k => XS.lmul X0.here hx rfl (hb hby d3_38) rfl k) ?_
  show own_Go _ _ _ _ s₁ (mkF m 39 _ [(.long (x0 * v3)), (.long (2 : Int64)), (.long v3)])
  refine own_st (fun t k => XS.lsub X0.here hx rfl (hb hby d3_39) rfl k) ?_
  show own_Go _ _ _ _ s₁ (mkF m 40 _ [(.long ((2 : Int64) - (x0 * v3))), (.long v3)])
  refine own_st (fun t k => XS.lmul X0.here hx rfl (hb hby d3_40) rfl k) ?_
  show own_Go _ _ _ _ s₁ (mkF m 41 _ [(.long (v3 * ((2 : Int64) - (x0 * v3))))])
  generalize hv4 : (v3 * ((2 : Int64) - (x0 * v3))) = v4
  refine own_st (fun t k => XS.lstoreN X0.here hx rfl (hb hby d3_41) rfl (l' := #[.val (.long x0), .second, .val (.long v4), .second]) rfl k) ?_
  show own_Go _ _ _ _ s₁ (mkF m 42 #[.val (.long x0), .second, .val (.long v4), .second] [])
  refine own_st (fun t k => XS.lloadN X0.here hx rfl (hb hby d3_42) rfl k) ?_
  show own_Go _ _ _ _ s₁ (mkF m 43 _ [(.long v4)])
  refine own_st (fun t k => X0.ldc2Long hx hown (mvT hZ (hw _ (List.mem_of_getElem? (i := 28) rfl))) (g := (mkF m 43 #[.val (.long x0), .second, .val (.long v4), .second] [(.long v4)])) rfl (hb hby d3_43) _ k) ?_
  show own_Go _ _ _ _ s₁ (mkF m 46 _ [(.long (2 : Int64)), (.long v4)])
  refine own_st (fun t k => XS.lloadN X0.here hx rfl (hb hby d3_46) rfl k) ?_
  show own_Go _ _ _ _ s₁ (mkF m 47 _ [(.long x0), (.long (2 : Int64)), (.long v4)])
  refine own_st (fun t k => XS.lloadN X0.here hx rfl (hb hby d3_47) rfl k) ?_
  show own_Go _ _ _ _ s₁ (mkF m 48 _ [(.long v4), (.long x0), (.long (2 : Int64)), (.long v4)])
  refine own_st (fun t k => XS.lmul X0.here hx rfl (hb hby d3_48) rfl k) ?_
  show own_Go _ _ _ _ s₁ (mkF m 49 _ [(.long (x0 * v4)), (.long (2 : Int64)), (.long v4)])
  refine own_st (fun t k => XS.lsub X0.here hx rfl (hb hby d3_49) rfl k) ?_
  show own_Go _ _ _ _ s₁ (mkF m 50 _ [(.long ((2 : Int64) - (x0 * v4))), (.long v4)])
  refine own_st (fun t k => XS.lmul X0.here hx rfl (hb hby d3_50) rfl k) ?_
  show own_Go _ _ _ _ s₁ (mkF m 51 _ [(.long (v4 * ((2 : Int64) - (x0 * v4))))])
  generalize hv5 : (v4 * ((2 : Int64) - (x0 * v4))) = v5
  refine own_st (fun t k => XS.lstoreN X0.here hx rfl (hb hby d3_51) rfl (l' := #[.val (.long x0), .second, .val (.long v5), .second]) rfl k) ?_
  show own_Go _ _ _ _ s₁ (mkF m 52 #[.val (.long x0), .second, .val (.long v5), .second] [])
  refine own_st (fun t k => XS.lloadN X0.here hx rfl (hb hby d3_52) rfl k) ?_
  show own_Go _ _ _ _ s₁ (mkF m 53 _ [(.long v5)])
  subst hPq
  refine own_out X0 (v := some (.long v5)) (fun h => by rw [Bd.returns] at h; cases h) Bd.notSynchronized (own_retJ X0 hx Bd.returns (hb hby d3_53)) (by decide) (by decide) ?_
  show Q3 Z x0 h0 n0 _ s₁.heap _
  rw [e0]
  exact ⟨by subst_vars; rfl, N0, rfl⟩
def own_unmix (x0 : Int64) : Int64 := own_u 30 60 (own_u 27 54 (own_u 31 62 x0 * own_inv (-7723592293110705685 : Int64)) * own_inv (-4658895280553007687 : Int64))
theorem d4_0 : decode method_3_code 0 = .ok (.lload_n 0, 1) := by decide +kernel
theorem d4_1 : decode method_3_code 1 = .ok (.lload_n 0, 1) := by decide +kernel
theorem d4_2 : decode method_3_code 2 = .ok (.bipush 31, 2) := by decide +kernel
theorem d4_4 : decode method_3_code 4 = .ok (.lushr, 1) := by decide +kernel
theorem d4_5 : decode method_3_code 5 = .ok (.lxor, 1) := by decide +kernel
theorem d4_6 : decode method_3_code 6 = .ok (.lload_n 0, 1) := by decide +kernel
theorem d4_7 : decode method_3_code 7 = .ok (.bipush 62, 2) := by decide +kernel
theorem d4_9 : decode method_3_code 9 = .ok (.lushr, 1) := by decide +kernel
theorem d4_10 : decode method_3_code 10 = .ok (.lxor, 1) := by decide +kernel
theorem d4_11 : decode method_3_code 11 = .ok (.ldc2_w 9, 3) := by decide +kernel
theorem d4_14 : decode method_3_code 14 = .ok (.invokestatic 11, 3) := by decide +kernel
theorem d4_17 : decode method_3_code 17 = .ok (.lmul, 1) := by decide +kernel
theorem d4_18 : decode method_3_code 18 = .ok (.lstore_n 0, 1) := by decide +kernel
theorem d4_19 : decode method_3_code 19 = .ok (.lload_n 0, 1) := by decide +kernel
theorem d4_20 : decode method_3_code 20 = .ok (.lload_n 0, 1) := by decide +kernel
theorem d4_21 : decode method_3_code 21 = .ok (.bipush 27, 2) := by decide +kernel
theorem d4_23 : decode method_3_code 23 = .ok (.lushr, 1) := by decide +kernel
theorem d4_24 : decode method_3_code 24 = .ok (.lxor, 1) := by decide +kernel
theorem d4_25 : decode method_3_code 25 = .ok (.lload_n 0, 1) := by decide +kernel
theorem d4_26 : decode method_3_code 26 = .ok (.bipush 54, 2) := by decide +kernel
theorem d4_28 : decode method_3_code 28 = .ok (.lushr, 1) := by decide +kernel
theorem d4_29 : decode method_3_code 29 = .ok (.lxor, 1) := by decide +kernel
theorem d4_30 : decode method_3_code 30 = .ok (.ldc2_w 17, 3) := by decide +kernel
theorem d4_33 : decode method_3_code 33 = .ok (.invokestatic 11, 3) := by decide +kernel
theorem d4_36 : decode method_3_code 36 = .ok (.lmul, 1) := by decide +kernel
theorem d4_37 : decode method_3_code 37 = .ok (.lstore_n 0, 1) := by decide +kernel
theorem d4_38 : decode method_3_code 38 = .ok (.lload_n 0, 1) := by decide +kernel
theorem d4_39 : decode method_3_code 39 = .ok (.lload_n 0, 1) := by decide +kernel
theorem d4_40 : decode method_3_code 40 = .ok (.bipush 30, 2) := by decide +kernel
theorem d4_42 : decode method_3_code 42 = .ok (.lushr, 1) := by decide +kernel
theorem d4_43 : decode method_3_code 43 = .ok (.lxor, 1) := by decide +kernel
theorem d4_44 : decode method_3_code 44 = .ok (.lload_n 0, 1) := by decide +kernel
theorem d4_45 : decode method_3_code 45 = .ok (.bipush 60, 2) := by decide +kernel
theorem d4_47 : decode method_3_code 47 = .ok (.lushr, 1) := by decide +kernel
theorem d4_48 : decode method_3_code 48 = .ok (.lxor, 1) := by decide +kernel
theorem d4_49 : decode method_3_code 49 = .ok (.lreturn, 1) := by decide +kernel
theorem own_pn4 : plainName "com/example/parley/parley/random/SplitMix64NextLongPinLaw" = true := by first | (simp [plainName, overriddenIn]; done) | decide +kernel
theorem own_ef4 (m : MethodId) (x0 : Int64) : entryFrame m #[(.long x0)] 2 = mkF m 0 #[.val (.long x0), .second] [] := by first | (simp [entryFrame, mkF, argsToLocals, Value.category]; done) | rfl
def Q4 (Z : State) (x0 : Int64) (h0 : Heap) (n0 : Nat) (v : Option Value) (h : Heap) (L : List Loc) : Prop := v = some (.long (own_unmix x0)) ∧ Fr n0 L ∧ h = h0
set_option maxRecDepth 65536 in
set_option maxHeartbeats 40000000 in
theorem rm4 (l : Launch) (Z : State) (a0 : Array Value) (hw : ∀ d ∈ tables_1, d.before a0 Z = true) (ws : List Jvm.Cond) (x0 : Int64) (h0 : Heap) (n0 : Nat) (Z0 : n0 ≤ h0.size) :
    MetFree l (⟨"com/example/parley/parley/random/SplitMix64NextLongPinLaw", "unmix", "(J)J"⟩ : MethodName) (head1 (Jvm.Cond.code (⟨"com/example/parley/parley/random/SplitMix64NextLongPinLaw", "unmix", "(J)J"⟩ : MethodName) method_3_code 2 (some .long) :: ws) ({ frames := 1, cells := 0, slots := 0, locals := 17 } : Room)) (fun aW U => aW = #[(.long x0)] ∧ Z.Warmed39 U.vm ∧ U.heap = h0) (fun _ _ _ _ _ => True) (fun _ U o U' => ∃ v L, o = .returned v ∧ Q4 Z x0 h0 n0 v U'.heap L ∧ FrameEnd U o U' L ({ frames := 1, cells := 0, slots := 0, locals := 17 } : Room).cells ({ frames := 1, cells := 0, slots := 0, locals := 17 } : Room).slots) := by
  refine MetFree.of_bodySF (plainFor_of_name own_pn4) hisR ?_
  intro p e s m args below meth c s₁ Bd hml0 hP hK
  obtain ⟨rfl, hZ, hh⟩ := hP
  have hx := Bd.exec
  have hby := Bd.bytes
  have hml : c.maxLocals = 2 := hml0
  have hown : s.vm.findClass "com/example/parley/parley/random/SplitMix64NextLongPinLaw" = some m.cls := findClass_of_methodNamed Bd.named
  have hnm := (name_of_methodNamed Bd.named Bd.method).1
  have X0 : Stand p l e ({ frames := 1, cells := 0, slots := 0, locals := 17 } : Room) s m #[(.long x0)] below meth c s₁ [] 0 0 := Stand.of_body Bd
  have e0 : s₁.heap = h0 := by rw [← hh, Bd.state]; rfl
  have N0 := Fr.nil n0
  obtain ⟨Pq, hPq⟩ : ∃ P, P = own_P s below (fun v h L => Q4 Z x0 h0 n0 v h L) ({ frames := 1, cells := 0, slots := 0, locals := 17 } : Room).cells ({ frames := 1, cells := 0, slots := 0, locals := 17 } : Room).slots := ⟨_, rfl⟩
  suffices hgo : own_Go p.tables e below Pq s₁ (mkF m 0 #[.val (.long x0), .second] []) by
    subst hPq
    obtain ⟨t, k1, k2, o, k3, k4⟩ := hgo
    exact ⟨t, o, castTop (own_ef4 m x0) k1, k2, k3, k4⟩
  show own_Go _ _ _ _ s₁ (mkF m 0 #[.val (.long x0), .second] [])
  refine own_st (fun t k => XS.lloadN X0.here hx rfl (hb hby d4_0) rfl k) ?_
  show own_Go _ _ _ _ s₁ (mkF m 1 _ [(.long x0)])
  refine own_st (fun t k => XS.lloadN X0.here hx rfl (hb hby d4_1) rfl k) ?_
  show own_Go _ _ _ _ s₁ (mkF m 2 _ [(.long x0), (.long x0)])
  refine own_st (fun t k => XS.bipush X0.here hx rfl (hb hby d4_2) k) ?_
  show own_Go _ _ _ _ s₁ (mkF m 4 _ [(.int (31 : Int32)), (.long x0), (.long x0)])
  refine own_st (fun t k => XS.lushr X0.here hx rfl (hb hby d4_4) rfl k) ?_
  show own_Go _ _ _ _ s₁ (mkF m 5 _ [(.long ((x0.toUInt64 >>> ((31 : Int32) &&& 0x3f).toInt64.toUInt64).toInt64)), (.long x0)])
  refine own_st (fun t k => XS.lxor X0.here hx rfl (hb hby d4_5) rfl k) ?_
  show own_Go _ _ _ _ s₁ (mkF m 6 _ [(.long (x0 ^^^ ((x0.toUInt64 >>> ((31 : Int32) &&& 0x3f).toInt64.toUInt64).toInt64)))])
  refine own_st (fun t k => XS.lloadN X0.here hx rfl (hb hby d4_6) rfl k) ?_
  show own_Go _ _ _ _ s₁ (mkF m 7 _ [(.long x0), (.long (x0 ^^^ ((x0.toUInt64 >>> ((31 : Int32) &&& 0x3f).toInt64.toUInt64).toInt64)))])
  refine own_st (fun t k => XS.bipush X0.here hx rfl (hb hby d4_7) k) ?_
  show own_Go _ _ _ _ s₁ (mkF m 9 _ [(.int (62 : Int32)), (.long x0), (.long (x0 ^^^ ((x0.toUInt64 >>> ((31 : Int32) &&& 0x3f).toInt64.toUInt64).toInt64)))])
  refine own_st (fun t k => XS.lushr X0.here hx rfl (hb hby d4_9) rfl k) ?_
  show own_Go _ _ _ _ s₁ (mkF m 10 _ [(.long ((x0.toUInt64 >>> ((62 : Int32) &&& 0x3f).toInt64.toUInt64).toInt64)), (.long (x0 ^^^ ((x0.toUInt64 >>> ((31 : Int32) &&& 0x3f).toInt64.toUInt64).toInt64)))])
  refine own_st (fun t k => XS.lxor X0.here hx rfl (hb hby d4_10) rfl k) ?_
  show own_Go _ _ _ _ s₁ (mkF m 11 _ [(.long ((x0 ^^^ ((x0.toUInt64 >>> ((31 : Int32) &&& 0x3f).toInt64.toUInt64).toInt64)) ^^^ ((x0.toUInt64 >>> ((62 : Int32) &&& 0x3f).toInt64.toUInt64).toInt64)))])
  refine own_st (fun t k => X0.ldc2Long hx hown (mvT hZ (hw _ (List.mem_of_getElem? (i := 24) rfl))) (g := (mkF m 11 #[.val (.long x0), .second] [(.long ((x0 ^^^ ((x0.toUInt64 >>> ((31 : Int32) &&& 0x3f).toInt64.toUInt64).toInt64)) ^^^ ((x0.toUInt64 >>> ((62 : Int32) &&& 0x3f).toInt64.toUInt64).toInt64)))])) rfl (hb hby d4_11) _ k) ?_
  show own_Go _ _ _ _ s₁ (mkF m 14 _ [(.long (-7723592293110705685 : Int64)), (.long ((x0 ^^^ ((x0.toUInt64 >>> ((31 : Int32) &&& 0x3f).toInt64.toUInt64).toInt64)) ^^^ ((x0.toUInt64 >>> ((62 : Int32) &&& 0x3f).toInt64.toUInt64).toInt64)))])
  obtain ⟨_, _, ⟨T1, L1, k1, n1⟩, -, X1, ⟨Lc1, hQ1, l1, y1, z1⟩, st1⟩ := Jvm.LawKit.callS X0 hx (y := (⟨"com/example/parley/parley/random/SplitMix64NextLongPinLaw", "inv", "(J)J"⟩ : MethodName)) hown (mvT hZ (hw _ (List.mem_of_getElem? (i := 25) rfl))) (mvT hZ (hw _ (List.mem_of_getElem? (i := 26) rfl))) (mvT hZ (hw _ (List.mem_of_getElem? (i := 22) rfl))) (mvT hZ (hw _ (List.mem_of_getElem? (i := 27) rfl))) (by decide) (backOf (W := 2) (rm3 l Z a0 hw [] (-7723592293110705685 : Int64) h0 n0 Z0 ) hZ (hw _ (List.mem_of_getElem? (i := 27) rfl)) (hw _ (List.mem_of_getElem? (i := 22) rfl)) (by decide) (by decide)) (g := (mkF m 14 #[.val (.long x0), .second] [(.long (-7723592293110705685 : Int64)), (.long ((x0 ^^^ ((x0.toUInt64 >>> ((31 : Int32) &&& 0x3f).toInt64.toUInt64).toInt64)) ^^^ ((x0.toUInt64 >>> ((62 : Int32) &&& 0x3f).toInt64.toUInt64).toInt64)))])) rfl (by rw [hml]; rfl) (argsL := [(.long (-7723592293110705685 : Int64))]) (rest := [(.long ((x0 ^^^ ((x0.toUInt64 >>> ((31 : Int32) &&& 0x3f).toInt64.toUInt64).toInt64)) ^^^ ((x0.toUInt64 >>> ((62 : Int32) &&& 0x3f).toInt64.toUInt64).toInt64)))]) (lenOf own_pd__J_J rfl) rfl (by show 2 * 0 + _ ≤ _; exact Nat.le_of_eq rfl) (hb hby d4_14) (fun _ _ => ⟨rfl, e0, (by decide : 0 + 0 ≤ _), (by decide : 0 + 0 ≤ _)⟩)
  dsimp only [Pt.U, Pt.locs, Pt.cells, Pt.slots] at X1 l1 y1 z1 st1 hQ1
  subst l1 y1 z1
  obtain ⟨rfl, NQ1, eq1⟩ := hQ1
  have N2 := Fr.app N0 NQ1
  refine own_st st1 ?_
  show own_Go _ _ _ _ T1 (mkF m 17 _ [(.long (own_inv (-7723592293110705685 : Int64))), (.long ((x0 ^^^ ((x0.toUInt64 >>> ((31 : Int32) &&& 0x3f).toInt64.toUInt64).toInt64)) ^^^ ((x0.toUInt64 >>> ((62 : Int32) &&& 0x3f).toInt64.toUInt64).toInt64)))])
  refine own_st (fun t k => XS.lmul X1.here hx rfl (hb hby d4_17) rfl k) ?_
  show own_Go _ _ _ _ T1 (mkF m 18 _ [(.long (((x0 ^^^ ((x0.toUInt64 >>> ((31 : Int32) &&& 0x3f).toInt64.toUInt64).toInt64)) ^^^ ((x0.toUInt64 >>> ((62 : Int32) &&& 0x3f).toInt64.toUInt64).toInt64)) * (own_inv (-7723592293110705685 : Int64))))])
  generalize hv3 : (((x0 ^^^ ((x0.toUInt64 >>> ((31 : Int32) &&& 0x3f).toInt64.toUInt64).toInt64)) ^^^ ((x0.toUInt64 >>> ((62 : Int32) &&& 0x3f).toInt64.toUInt64).toInt64)) * (own_inv (-7723592293110705685 : Int64))) = v3
  refine own_st (fun t k => XS.lstoreN X1.here hx rfl (hb hby d4_18) rfl (l' := #[.val (.long v3), .second]) rfl k) ?_
  show own_Go _ _ _ _ T1 (mkF m 19 #[.val (.long v3), .second] [])
  refine own_st (fun t k => XS.lloadN X1.here hx rfl (hb hby d4_19) rfl k) ?_
  show own_Go _ _ _ _ T1 (mkF m 20 _ [(.long v3)])
  refine own_st (fun t k => XS.lloadN X1.here hx rfl (hb hby d4_20) rfl k) ?_
  show own_Go _ _ _ _ T1 (mkF m 21 _ [(.long v3), (.long v3)])
  refine own_st (fun t k => XS.bipush X1.here hx rfl (hb hby d4_21) k) ?_
  show own_Go _ _ _ _ T1 (mkF m 23 _ [(.int (27 : Int32)), (.long v3), (.long v3)])
  refine own_st (fun t k => XS.lushr X1.here hx rfl (hb hby d4_23) rfl k) ?_
  show own_Go _ _ _ _ T1 (mkF m 24 _ [(.long ((v3.toUInt64 >>> ((27 : Int32) &&& 0x3f).toInt64.toUInt64).toInt64)), (.long v3)])
  refine own_st (fun t k => XS.lxor X1.here hx rfl (hb hby d4_24) rfl k) ?_
  show own_Go _ _ _ _ T1 (mkF m 25 _ [(.long (v3 ^^^ ((v3.toUInt64 >>> ((27 : Int32) &&& 0x3f).toInt64.toUInt64).toInt64)))])
  refine own_st (fun t k => XS.lloadN X1.here hx rfl (hb hby d4_25) rfl k) ?_
  show own_Go _ _ _ _ T1 (mkF m 26 _ [(.long v3), (.long (v3 ^^^ ((v3.toUInt64 >>> ((27 : Int32) &&& 0x3f).toInt64.toUInt64).toInt64)))])
  refine own_st (fun t k => XS.bipush X1.here hx rfl (hb hby d4_26) k) ?_
  show own_Go _ _ _ _ T1 (mkF m 28 _ [(.int (54 : Int32)), (.long v3), (.long (v3 ^^^ ((v3.toUInt64 >>> ((27 : Int32) &&& 0x3f).toInt64.toUInt64).toInt64)))])
  refine own_st (fun t k => XS.lushr X1.here hx rfl (hb hby d4_28) rfl k) ?_
  show own_Go _ _ _ _ T1 (mkF m 29 _ [(.long ((v3.toUInt64 >>> ((54 : Int32) &&& 0x3f).toInt64.toUInt64).toInt64)), (.long (v3 ^^^ ((v3.toUInt64 >>> ((27 : Int32) &&& 0x3f).toInt64.toUInt64).toInt64)))])
  refine own_st (fun t k => XS.lxor X1.here hx rfl (hb hby d4_29) rfl k) ?_
  show own_Go _ _ _ _ T1 (mkF m 30 _ [(.long ((v3 ^^^ ((v3.toUInt64 >>> ((27 : Int32) &&& 0x3f).toInt64.toUInt64).toInt64)) ^^^ ((v3.toUInt64 >>> ((54 : Int32) &&& 0x3f).toInt64.toUInt64).toInt64)))])
  refine own_st (fun t k => X1.ldc2Long hx hown (mvT hZ (hw _ (List.mem_of_getElem? (i := 29) rfl))) (g := (mkF m 30 #[.val (.long v3), .second] [(.long ((v3 ^^^ ((v3.toUInt64 >>> ((27 : Int32) &&& 0x3f).toInt64.toUInt64).toInt64)) ^^^ ((v3.toUInt64 >>> ((54 : Int32) &&& 0x3f).toInt64.toUInt64).toInt64)))])) rfl (hb hby d4_30) _ k) ?_
  show own_Go _ _ _ _ T1 (mkF m 33 _ [(.long (-4658895280553007687 : Int64)), (.long ((v3 ^^^ ((v3.toUInt64 >>> ((27 : Int32) &&& 0x3f).toInt64.toUInt64).toInt64)) ^^^ ((v3.toUInt64 >>> ((54 : Int32) &&& 0x3f).toInt64.toUInt64).toInt64)))])
  obtain ⟨_, _, ⟨T4, L4, k4, n4⟩, -, X4, ⟨Lc4, hQ4, l4, y4, z4⟩, st4⟩ := Jvm.LawKit.callS X1 hx (y := (⟨"com/example/parley/parley/random/SplitMix64NextLongPinLaw", "inv", "(J)J"⟩ : MethodName)) hown (mvT hZ (hw _ (List.mem_of_getElem? (i := 25) rfl))) (mvT hZ (hw _ (List.mem_of_getElem? (i := 26) rfl))) (mvT hZ (hw _ (List.mem_of_getElem? (i := 22) rfl))) (mvT hZ (hw _ (List.mem_of_getElem? (i := 27) rfl))) (by decide) (backOf (W := 2) (rm3 l Z a0 hw [] (-4658895280553007687 : Int64) h0 n0 Z0 ) hZ (hw _ (List.mem_of_getElem? (i := 27) rfl)) (hw _ (List.mem_of_getElem? (i := 22) rfl)) (by decide) (by decide)) (g := (mkF m 33 #[.val (.long v3), .second] [(.long (-4658895280553007687 : Int64)), (.long ((v3 ^^^ ((v3.toUInt64 >>> ((27 : Int32) &&& 0x3f).toInt64.toUInt64).toInt64)) ^^^ ((v3.toUInt64 >>> ((54 : Int32) &&& 0x3f).toInt64.toUInt64).toInt64)))])) rfl (by rw [hml]; rfl) (argsL := [(.long (-4658895280553007687 : Int64))]) (rest := [(.long ((v3 ^^^ ((v3.toUInt64 >>> ((27 : Int32) &&& 0x3f).toInt64.toUInt64).toInt64)) ^^^ ((v3.toUInt64 >>> ((54 : Int32) &&& 0x3f).toInt64.toUInt64).toInt64)))]) (lenOf own_pd__J_J rfl) rfl (by show 2 * 0 + _ ≤ _; exact Nat.le_of_eq rfl) (hb hby d4_33) (fun _ _ => ⟨rfl, eq1, (by decide : 0 + 0 ≤ _), (by decide : 0 + 0 ≤ _)⟩)
  dsimp only [Pt.U, Pt.locs, Pt.cells, Pt.slots] at X4 l4 y4 z4 st4 hQ4
  subst l4 y4 z4
  obtain ⟨rfl, NQ4, eq4⟩ := hQ4
  have N5 := Fr.app N2 NQ4
  refine own_st st4 ?_
  show own_Go _ _ _ _ T4 (mkF m 36 _ [(.long (own_inv (-4658895280553007687 : Int64))), (.long ((v3 ^^^ ((v3.toUInt64 >>> ((27 : Int32) &&& 0x3f).toInt64.toUInt64).toInt64)) ^^^ ((v3.toUInt64 >>> ((54 : Int32) &&& 0x3f).toInt64.toUInt64).toInt64)))])
  refine own_st (fun t k => XS.lmul X4.here hx rfl (hb hby d4_36) rfl k) ?_
  show own_Go _ _ _ _ T4 (mkF m 37 _ [(.long (((v3 ^^^ ((v3.toUInt64 >>> ((27 : Int32) &&& 0x3f).toInt64.toUInt64).toInt64)) ^^^ ((v3.toUInt64 >>> ((54 : Int32) &&& 0x3f).toInt64.toUInt64).toInt64)) * (own_inv (-4658895280553007687 : Int64))))])
  generalize hv6 : (((v3 ^^^ ((v3.toUInt64 >>> ((27 : Int32) &&& 0x3f).toInt64.toUInt64).toInt64)) ^^^ ((v3.toUInt64 >>> ((54 : Int32) &&& 0x3f).toInt64.toUInt64).toInt64)) * (own_inv (-4658895280553007687 : Int64))) = v6
  refine own_st (fun t k => XS.lstoreN X4.here hx rfl (hb hby d4_37) rfl (l' := #[.val (.long v6), .second]) rfl k) ?_
  show own_Go _ _ _ _ T4 (mkF m 38 #[.val (.long v6), .second] [])
  refine own_st (fun t k => XS.lloadN X4.here hx rfl (hb hby d4_38) rfl k) ?_
  show own_Go _ _ _ _ T4 (mkF m 39 _ [(.long v6)])
  refine own_st (fun t k => XS.lloadN X4.here hx rfl (hb hby d4_39) rfl k) ?_
  show own_Go _ _ _ _ T4 (mkF m 40 _ [(.long v6), (.long v6)])
  refine own_st (fun t k => XS.bipush X4.here hx rfl (hb hby d4_40) k) ?_
  show own_Go _ _ _ _ T4 (mkF m 42 _ [(.int (30 : Int32)), (.long v6), (.long v6)])
  refine own_st (fun t k => XS.lushr X4.here hx rfl (hb hby d4_42) rfl k) ?_
  show own_Go _ _ _ _ T4 (mkF m 43 _ [(.long ((v6.toUInt64 >>> ((30 : Int32) &&& 0x3f).toInt64.toUInt64).toInt64)), (.long v6)])
  refine own_st (fun t k => XS.lxor X4.here hx rfl (hb hby d4_43) rfl k) ?_
  show own_Go _ _ _ _ T4 (mkF m 44 _ [(.long (v6 ^^^ ((v6.toUInt64 >>> ((30 : Int32) &&& 0x3f).toInt64.toUInt64).toInt64)))])
  refine own_st (fun t k => XS.lloadN X4.here hx rfl (hb hby d4_44) rfl k) ?_
  show own_Go _ _ _ _ T4 (mkF m 45 _ [(.long v6), (.long (v6 ^^^ ((v6.toUInt64 >>> ((30 : Int32) &&& 0x3f).toInt64.toUInt64).toInt64)))])
  refine own_st (fun t k => XS.bipush X4.here hx rfl (hb hby d4_45) k) ?_
  show own_Go _ _ _ _ T4 (mkF m 47 _ [(.int (60 : Int32)), (.long v6), (.long (v6 ^^^ ((v6.toUInt64 >>> ((30 : Int32) &&& 0x3f).toInt64.toUInt64).toInt64)))])
  refine own_st (fun t k => XS.lushr X4.here hx rfl (hb hby d4_47) rfl k) ?_
  show own_Go _ _ _ _ T4 (mkF m 48 _ [(.long ((v6.toUInt64 >>> ((60 : Int32) &&& 0x3f).toInt64.toUInt64).toInt64)), (.long (v6 ^^^ ((v6.toUInt64 >>> ((30 : Int32) &&& 0x3f).toInt64.toUInt64).toInt64)))])
  refine own_st (fun t k => XS.lxor X4.here hx rfl (hb hby d4_48) rfl k) ?_
  show own_Go _ _ _ _ T4 (mkF m 49 _ [(.long ((v6 ^^^ ((v6.toUInt64 >>> ((30 : Int32) &&& 0x3f).toInt64.toUInt64).toInt64)) ^^^ ((v6.toUInt64 >>> ((60 : Int32) &&& 0x3f).toInt64.toUInt64).toInt64)))])
  subst hPq
  refine own_out X4 (v := some (.long ((v6 ^^^ ((v6.toUInt64 >>> ((30 : Int32) &&& 0x3f).toInt64.toUInt64).toInt64)) ^^^ ((v6.toUInt64 >>> ((60 : Int32) &&& 0x3f).toInt64.toUInt64).toInt64)))) (fun h => by rw [Bd.returns] at h; cases h) Bd.notSynchronized (own_retJ X4 hx Bd.returns (hb hby d4_49)) (by decide) (by decide) ?_
  show Q4 Z x0 h0 n0 _ T4.heap _
  rw [eq4]
  exact ⟨by subst_vars; rfl, N5, rfl⟩
theorem own_bits (b : BitVec 64) (k : Nat) (h : 64 ≤ 3 * k) : ((b ^^^ b >>> k) ^^^ (b ^^^ b >>> k) >>> k) ^^^ (b ^^^ b >>> k) >>> (2 * k) = b := by
  apply BitVec.eq_of_getLsbD_eq
  intro i hi
  simp only [BitVec.getLsbD_xor, BitVec.getLsbD_ushiftRight]
  have e1 : b.getLsbD (k + (2 * k + i)) = false := BitVec.getLsbD_of_ge _ _ (by omega)
  have e2 : k + (k + i) = 2 * k + i := by omega
  rw [e1, e2]
  cases b.getLsbD i <;> cases b.getLsbD (k + i) <;> cases b.getLsbD (2 * k + i) <;> rfl
theorem own_ux (k q : Int32) (n : Nat) (h : 64 ≤ 3 * n) (hk : ∀ z : Int64, ((z.toUInt64 >>> (k &&& 0x3f).toInt64.toUInt64).toInt64).toBitVec = z.toBitVec >>> n) (hq : ∀ z : Int64, ((z.toUInt64 >>> (q &&& 0x3f).toInt64.toUInt64).toInt64).toBitVec = z.toBitVec >>> (2 * n)) (z : Int64) : own_u k q (own_x k z) = z := by
  apply Int64.toBitVec_inj.mp
  unfold own_u own_x
  simp only [Int64.toBitVec_xor, hk, hq]
  exact own_bits _ n h
theorem own_m1 (z : Int64) : z * (-7723592293110705685 : Int64) * own_inv (-7723592293110705685 : Int64) = z := by
  rw [Int64.mul_assoc, show (-7723592293110705685 : Int64) * own_inv (-7723592293110705685 : Int64) = 1 by decide +kernel, Int64.mul_one]
theorem own_m2 (z : Int64) : z * (-4658895280553007687 : Int64) * own_inv (-4658895280553007687 : Int64) = z := by
  rw [Int64.mul_assoc, show (-4658895280553007687 : Int64) * own_inv (-4658895280553007687 : Int64) = 1 by decide +kernel, Int64.mul_one]
theorem own_back (z : Int64) : own_unmix (own_mix z) = z := by
  unfold own_unmix own_mix
  rw [own_ux 31 62 31 (by decide) (fun _ => rfl) (fun _ => rfl), own_m1, own_ux 27 54 27 (by decide) (fun _ => rfl) (fun _ => rfl), own_m2, own_ux 30 60 30 (by decide) (fun _ => rfl) (fun _ => rfl)]
theorem own_pn0 : plainName "com/example/parley/parley/random/SplitMix64NextLongPinLaw" = true := by first | (simp [plainName, overriddenIn]; done) | decide +kernel
theorem own_ef0 (m : MethodId) (x0 : Int64) : entryFrame m #[(.long x0)] maxLocals = mkF m 0 #[.val (.long x0), .second, .unset, .unset, .unset, .unset, .unset, .unset, .unset] [] := by first | (simp [entryFrame, mkF, argsToLocals, Value.category, maxLocals]; done) | rfl
def Q0 (Z : State) (x0 : Int64) (h0 : Heap) (n0 : Nat) (v : Option Value) (h : Heap) (L : List Loc) : Prop := v = some (.int 1) ∧ Fr n0 L
theorem own_law (x0 : Int64) (v13 : Int64) (v18 : Int64) (p29 : Int32) (hv13 : (own_mix (x0 + (-7046029254386353131 : Int64))) = v13) (hv18 : (own_mix ((x0 + (-7046029254386353131 : Int64)) + (-7046029254386353131 : Int64))) = v18) (qp29 : p29 = (if (own_unmix v13) = (x0 + (-7046029254386353131 : Int64)) then (if (own_unmix v18) = ((x0 + (-7046029254386353131 : Int64)) + (-7046029254386353131 : Int64)) then (1 : Int32) else (0 : Int32)) else (0 : Int32))) : p29 = 1 := by
  rw [qp29, ← hv13, ← hv18, own_back, own_back, if_pos rfl, if_pos rfl]
set_option maxRecDepth 65536 in
set_option maxHeartbeats 40000000 in
theorem rm0 (l : Launch) (Z : State) (a0 : Array Value) (hw : ∀ d ∈ tables_1, d.before a0 Z = true) (ws : List Jvm.Cond) (x0 : Int64) (h0 : Heap) (n0 : Nat) (Z0 : n0 ≤ h0.size) :
    MetFree l x (head1 (Jvm.Cond.code x code maxLocals ret :: ws) room_1) (fun aW U => aW = #[(.long x0)] ∧ Z.Warmed39 U.vm ∧ U.heap = h0) (fun _ _ _ _ _ => True) (fun _ U o U' => ∃ v L, o = .returned v ∧ Q0 Z x0 h0 n0 v U'.heap L ∧ FrameEnd U o U' L 16 128) := by
  refine MetFree.of_bodySF (plainFor_of_name own_pn0) hisR ?_
  intro p e s m args below meth c s₁ Bd hml0 hP hK
  obtain ⟨rfl, hZ, hh⟩ := hP
  have hx := Bd.exec
  have hby := Bd.bytes
  have hml : c.maxLocals = 9 := hml0
  have hown : s.vm.findClass "com/example/parley/parley/random/SplitMix64NextLongPinLaw" = some m.cls := findClass_of_methodNamed Bd.named
  have hnm := (name_of_methodNamed Bd.named Bd.method).1
  have X0 : Stand p l e room_1 s m #[(.long x0)] below meth c s₁ [] 0 0 := Stand.of_body Bd
  have e0 : s₁.heap = h0 := by rw [← hh, Bd.state]; rfl
  have N0 := Fr.nil n0
  obtain ⟨Pq, hPq⟩ : ∃ P, P = own_P s below (fun v h L => Q0 Z x0 h0 n0 v h L) 16 128 := ⟨_, rfl⟩
  suffices hgo : own_Go p.tables e below Pq s₁ (mkF m 0 #[.val (.long x0), .second, .unset, .unset, .unset, .unset, .unset, .unset, .unset] []) by
    subst hPq
    obtain ⟨t, k1, k2, o, k3, k4⟩ := hgo
    exact ⟨t, o, castTop (own_ef0 m x0) k1, k2, k3, k4⟩
  show own_Go _ _ _ _ s₁ (mkF m 0 #[.val (.long x0), .second, .unset, .unset, .unset, .unset, .unset, .unset, .unset] [])
  refine own_st (fun t k => X0.ldc2Long hx hown (mvT hZ (hw _ (List.mem_of_getElem? (i := 0) rfl))) (g := (mkF m 0 #[.val (.long x0), .second, .unset, .unset, .unset, .unset, .unset, .unset, .unset] [])) rfl (hb hby at_0) _ k) ?_
  show own_Go _ _ _ _ s₁ (mkF m 3 _ [(.long (-7046029254386353131 : Int64))])
  refine own_st (fun t k => XS.lstoreN X0.here hx rfl (hb hby at_3) rfl (l' := #[.val (.long x0), .second, .val (.long (-7046029254386353131 : Int64)), .second, .unset, .unset, .unset, .unset, .unset]) rfl k) ?_
  show own_Go _ _ _ _ s₁ (mkF m 4 #[.val (.long x0), .second, .val (.long (-7046029254386353131 : Int64)), .second, .unset, .unset, .unset, .unset, .unset] [])
  obtain ⟨T1, h1, X1, e1, E1, A1, D1, -, st1⟩ := newO X0 hx hZ hown (hw _ (List.mem_of_getElem? (i := 1) rfl)) (hw _ (List.mem_of_getElem? (i := 2) rfl)) (hw _ (List.mem_of_getElem? (i := 3) rfl)) e0 (g := (mkF m 4 #[.val (.long x0), .second, .val (.long (-7046029254386353131 : Int64)), .second, .unset, .unset, .unset, .unset, .unset] [])) rfl (hb hby at_4) (by decide) (by decide)
  obtain ⟨b1, g1⟩ : ∃ z, z = h0.size := ⟨_, rfl⟩
  rw [← g1] at A1 D1 st1
  refine own_st st1 ?_
  have gx2 : n0 ≤ b1 := Nat.le_trans Z0 (Nat.le_of_eq g1.symm)
  have Z3 : n0 ≤ h1.size := Nat.le_trans Z0 E1.1
  have f4 : Fld Z h1 b1 "com/example/parley/parley/random/SplitMix64" "state" "J" (.long (0 : Int64)) := D1 (Or.inl (hw _ (List.mem_of_getElem? (i := 11) rfl))) (ty := .long) (by decide)
  show own_Go _ _ _ _ T1 (mkF m 7 _ [(.ref b1)])
  refine own_st (fun t k => XS.dup X1.here hx rfl (hb hby at_7) rfl rfl k) ?_
  show own_Go _ _ _ _ T1 (mkF m 8 _ [(.ref b1), (.ref b1)])
  refine own_st (fun t k => XS.lloadN X1.here hx rfl (hb hby at_8) rfl k) ?_
  show own_Go _ _ _ _ T1 (mkF m 9 _ [(.long x0), (.ref b1), (.ref b1)])
  obtain ⟨_, _, ⟨T5, L5, k5, n5⟩, -, X5, ⟨Lc5, hQ5, l5, y5, z5⟩, st5⟩ := X1.specialBack hx (y := (⟨"com/example/parley/parley/random/SplitMix64", "<init>", "(J)V"⟩ : MethodName)) rfl hown (mvT hZ (hw _ (List.mem_of_getElem? (i := 4) rfl))) (mvT hZ (hw _ (List.mem_of_getElem? (i := 5) rfl))) (mvT hZ (hw _ (List.mem_of_getElem? (i := 6) rfl))) (by decide) (backOf (W := 1) (rm1 l Z a0 hw [] b1 x0 (.long (0 : Int64)) h1 n0 Z3 A1 f4 gx2) hZ (hw _ (List.mem_of_getElem? (i := 6) rfl)) (hw _ (List.mem_of_getElem? (i := 3) rfl)) (by decide) (by decide)) (g := (mkF m 9 #[.val (.long x0), .second, .val (.long (-7046029254386353131 : Int64)), .second, .unset, .unset, .unset, .unset, .unset] [(.long x0), (.ref b1), (.ref b1)])) rfl (by rw [hml]; rfl) (Steps.refl _) (a := b1) (argsL := [(.long x0)]) (rest := [(.ref b1)]) (lenOf own_pd__J_V rfl) rfl (by show 2 * 0 + _ ≤ _; exact Nat.le_of_eq rfl) (hb hby at_9) (fun _ _ => ⟨rfl, e1, (by decide : 1 + 0 ≤ _), (by decide : 1 + 0 ≤ _)⟩)
  dsimp only [Pt.U, Pt.locs, Pt.cells, Pt.slots] at X5 l5 y5 z5 st5 hQ5
  subst l5 y5 z5
  obtain ⟨rfl, NQ5, K5, fq5_0, fq5_1⟩ := hQ5
  have N6 := Fr.app N0 NQ5
  refine own_st (fun t k => st5.trans k) ?_
  have f7 := A1.keep K5
  have Z8 : n0 ≤ T5.heap.size := Nat.le_trans Z3 K5.1
  show own_Go _ _ _ _ T5 (mkF m 12 _ [(.ref b1)])
  refine own_st (fun t k => XS.astore X5.here hx rfl (hb hby at_12) rfl rfl (l' := #[.val (.long x0), .second, .val (.long (-7046029254386353131 : Int64)), .second, .val (.ref b1), .unset, .unset, .unset, .unset]) rfl k) ?_
  show own_Go _ _ _ _ T5 (mkF m 14 #[.val (.long x0), .second, .val (.long (-7046029254386353131 : Int64)), .second, .val (.ref b1), .unset, .unset, .unset, .unset] [])
  refine own_st (fun t k => XS.aload X5.here hx rfl (hb hby at_14) rfl rfl k) ?_
  show own_Go _ _ _ _ T5 (mkF m 16 _ [(.ref b1)])
  obtain ⟨cq9, kq9, q9a, q9b, q9c⟩ := isOf hZ rfl fq5_0
  obtain ⟨_, _, ⟨T9, L9, k9, n9⟩, -, X9, ⟨Lc9, hQ9, l9, y9, z9⟩, st9⟩ := X5.virtualBack hx (y := (⟨"com/example/parley/parley/random/SplitMix64", "nextLong", "()J"⟩ : MethodName)) (z := (⟨"com/example/parley/parley/random/SplitMix64", "nextLong", "()J"⟩ : MethodName)) hown (mvT hZ (hw _ (List.mem_of_getElem? (i := 12) rfl))) (mvT hZ (hw _ (List.mem_of_getElem? (i := 13) rfl))) (notFace_of_selects (args := #[]) (mvT hZ (hw _ (List.mem_of_getElem? (i := 15) rfl)))) (mvT hZ (hw _ (List.mem_of_getElem? (i := 15) rfl))) (mvT hZ (hw _ (List.mem_of_getElem? (i := 14) rfl))) (by decide) (backOf (W := 0) (rm2 l Z a0 hw [] b1 x0 T5.heap n0 Z8 fq5_0 fq5_1 gx2) hZ (hw _ (List.mem_of_getElem? (i := 16) rfl)) (hw _ (List.mem_of_getElem? (i := 3) rfl)) (by decide) (by decide)) q9a q9c (g := (mkF m 16 #[.val (.long x0), .second, .val (.long (-7046029254386353131 : Int64)), .second, .val (.ref b1), .unset, .unset, .unset, .unset] [(.ref b1)])) rfl (by rw [hml]; rfl) (Steps.refl _) (argsL := []) (rest := []) (lenOf own_pd___J rfl) rfl (by show 2 * 0 + _ ≤ _; exact Nat.le_of_eq rfl) (hb hby at_16) (fun _ _ => ⟨rfl, rfl, (by decide : 1 + 0 ≤ _), (by decide : 1 + 0 ≤ _)⟩)
  dsimp only [Pt.U, Pt.locs, Pt.cells, Pt.slots] at X9 l9 y9 z9 st9 hQ9
  subst l9 y9 z9
  obtain ⟨rfl, NQ9, K9, fq9_0, fq9_1⟩ := hQ9
  have N10 := Fr.app N6 NQ9
  refine own_st (fun t k => st9.trans k) ?_
  have f11 := fq5_0.keep K9
  have Z12 : n0 ≤ T9.heap.size := Nat.le_trans Z8 K9.1
  show own_Go _ _ _ _ T9 (mkF m 19 _ [(.long (own_mix (x0 + (-7046029254386353131 : Int64))))])
  generalize hv13 : (own_mix (x0 + (-7046029254386353131 : Int64))) = v13
  refine own_st (fun t k => XS.lstore X9.here hx rfl (hb hby at_19) rfl (l' := #[.val (.long x0), .second, .val (.long (-7046029254386353131 : Int64)), .second, .val (.ref b1), .val (.long v13), .second, .unset, .unset]) rfl k) ?_
  show own_Go _ _ _ _ T9 (mkF m 21 #[.val (.long x0), .second, .val (.long (-7046029254386353131 : Int64)), .second, .val (.ref b1), .val (.long v13), .second, .unset, .unset] [])
  refine own_st (fun t k => XS.aload X9.here hx rfl (hb hby at_21) rfl rfl k) ?_
  show own_Go _ _ _ _ T9 (mkF m 23 _ [(.ref b1)])
  obtain ⟨cq14, kq14, q14a, q14b, q14c⟩ := isOf hZ rfl fq9_0
  obtain ⟨_, _, ⟨T14, L14, k14, n14⟩, -, X14, ⟨Lc14, hQ14, l14, y14, z14⟩, st14⟩ := X9.virtualBack hx (y := (⟨"com/example/parley/parley/random/SplitMix64", "nextLong", "()J"⟩ : MethodName)) (z := (⟨"com/example/parley/parley/random/SplitMix64", "nextLong", "()J"⟩ : MethodName)) hown (mvT hZ (hw _ (List.mem_of_getElem? (i := 12) rfl))) (mvT hZ (hw _ (List.mem_of_getElem? (i := 13) rfl))) (notFace_of_selects (args := #[]) (mvT hZ (hw _ (List.mem_of_getElem? (i := 15) rfl)))) (mvT hZ (hw _ (List.mem_of_getElem? (i := 15) rfl))) (mvT hZ (hw _ (List.mem_of_getElem? (i := 14) rfl))) (by decide) (backOf (W := 0) (rm2 l Z a0 hw [] b1 (x0 + (-7046029254386353131 : Int64)) T9.heap n0 Z12 fq9_0 fq9_1 gx2) hZ (hw _ (List.mem_of_getElem? (i := 16) rfl)) (hw _ (List.mem_of_getElem? (i := 3) rfl)) (by decide) (by decide)) q14a q14c (g := (mkF m 23 #[.val (.long x0), .second, .val (.long (-7046029254386353131 : Int64)), .second, .val (.ref b1), .val (.long v13), .second, .unset, .unset] [(.ref b1)])) rfl (by rw [hml]; rfl) (Steps.refl _) (argsL := []) (rest := []) (lenOf own_pd___J rfl) rfl (by show 2 * 0 + _ ≤ _; exact Nat.le_of_eq rfl) (hb hby at_23) (fun _ _ => ⟨rfl, rfl, (by decide : 1 + 0 ≤ _), (by decide : 1 + 0 ≤ _)⟩)
  dsimp only [Pt.U, Pt.locs, Pt.cells, Pt.slots] at X14 l14 y14 z14 st14 hQ14
  subst l14 y14 z14
  obtain ⟨rfl, NQ14, K14, fq14_0, fq14_1⟩ := hQ14
  have N15 := Fr.app N10 NQ14
  refine own_st (fun t k => st14.trans k) ?_
  have f16 := fq9_0.keep K14
  have Z17 : n0 ≤ T14.heap.size := Nat.le_trans Z12 K14.1
  show own_Go _ _ _ _ T14 (mkF m 26 _ [(.long (own_mix ((x0 + (-7046029254386353131 : Int64)) + (-7046029254386353131 : Int64))))])
  generalize hv18 : (own_mix ((x0 + (-7046029254386353131 : Int64)) + (-7046029254386353131 : Int64))) = v18
  refine own_st (fun t k => XS.lstore X14.here hx rfl (hb hby at_26) rfl (l' := #[.val (.long x0), .second, .val (.long (-7046029254386353131 : Int64)), .second, .val (.ref b1), .val (.long v13), .second, .val (.long v18), .second]) rfl k) ?_
  show own_Go _ _ _ _ T14 (mkF m 28 #[.val (.long x0), .second, .val (.long (-7046029254386353131 : Int64)), .second, .val (.ref b1), .val (.long v13), .second, .val (.long v18), .second] [])
  refine own_st (fun t k => XS.lload X14.here hx rfl (hb hby at_28) rfl k) ?_
  show own_Go _ _ _ _ T14 (mkF m 30 _ [(.long v13)])
  obtain ⟨_, _, ⟨T19, L19, k19, n19⟩, -, X19, ⟨Lc19, hQ19, l19, y19, z19⟩, st19⟩ := Jvm.LawKit.callS X14 hx (y := (⟨"com/example/parley/parley/random/SplitMix64NextLongPinLaw", "unmix", "(J)J"⟩ : MethodName)) hown (mvT hZ (hw _ (List.mem_of_getElem? (i := 20) rfl))) (mvT hZ (hw _ (List.mem_of_getElem? (i := 21) rfl))) (mvT hZ (hw _ (List.mem_of_getElem? (i := 22) rfl))) (mvT hZ (hw _ (List.mem_of_getElem? (i := 23) rfl))) (by decide) (backOf (W := 0) (rm4 l Z a0 hw [] v13 T14.heap n0 Z17 ) hZ (hw _ (List.mem_of_getElem? (i := 23) rfl)) (hw _ (List.mem_of_getElem? (i := 22) rfl)) (by decide) (by decide)) (g := (mkF m 30 #[.val (.long x0), .second, .val (.long (-7046029254386353131 : Int64)), .second, .val (.ref b1), .val (.long v13), .second, .val (.long v18), .second] [(.long v13)])) rfl (by rw [hml]; rfl) (argsL := [(.long v13)]) (rest := []) (lenOf own_pd__J_J rfl) rfl (by show 2 * 0 + _ ≤ _; exact Nat.le_of_eq rfl) (hb hby at_30) (fun _ _ => ⟨rfl, rfl, (by decide : 1 + 0 ≤ _), (by decide : 1 + 0 ≤ _)⟩)
  dsimp only [Pt.U, Pt.locs, Pt.cells, Pt.slots] at X19 l19 y19 z19 st19 hQ19
  subst l19 y19 z19
  obtain ⟨rfl, NQ19, eq19⟩ := hQ19
  have N20 := Fr.app N15 NQ19
  refine own_st st19 ?_
  show own_Go _ _ _ _ T19 (mkF m 33 _ [(.long (own_unmix v13))])
  refine own_st (fun t k => XS.lloadN X19.here hx rfl (hb hby at_33) rfl k) ?_
  show own_Go _ _ _ _ T19 (mkF m 34 _ [(.long x0), (.long (own_unmix v13))])
  refine own_st (fun t k => XS.lloadN X19.here hx rfl (hb hby at_34) rfl k) ?_
  show own_Go _ _ _ _ T19 (mkF m 35 _ [(.long (-7046029254386353131 : Int64)), (.long x0), (.long (own_unmix v13))])
  refine own_st (fun t k => XS.ladd X19.here hx rfl (hb hby at_35) rfl k) ?_
  show own_Go _ _ _ _ T19 (mkF m 36 _ [(.long (x0 + (-7046029254386353131 : Int64))), (.long (own_unmix v13))])
  refine own_st (fun t k => XS.lcmp X19.here hx rfl (hb hby at_36) rfl k) ?_
  show own_Go _ _ _ _ T19 (mkF m 37 _ [(.int (lcmpW (own_unmix v13) (x0 + (-7046029254386353131 : Int64))))])
  have J28 : ∀ (Tj28 : State) (Lj28 : List Loc) (p29 : Int32), Stand p l e room_1 s m #[(.long x0)] below meth c Tj28 Lj28 1 1 → Tj28.heap = T14.heap → Fr n0 Lj28 → p29 = (if (own_unmix v13) = (x0 + (-7046029254386353131 : Int64)) then (if (own_unmix v18) = ((x0 + (-7046029254386353131 : Int64)) + (-7046029254386353131 : Int64)) then (1 : Int32) else (0 : Int32)) else (0 : Int32)) → own_Go p.tables e below Pq Tj28 (mkF m 59 #[.val (.long x0), .second, .val (.long (-7046029254386353131 : Int64)), .second, .val (.ref b1), .val (.long v13), .second, .val (.long v18), .second] [(.int p29)]) := by
    intro Tj28 Lj28 p29 Xj28 ej28 Nj28 qp29
    show own_Go _ _ _ _ Tj28 (mkF m 59 _ [(.int p29)])
    subst hPq
    refine own_out Xj28 (v := some (.int (nar .boolean p29))) (fun h => by rw [Bd.returns] at h; cases h) Bd.notSynchronized (fun fs hr => retN Xj28 hx (t := .boolean) Bd.returns (by simp) (hb hby at_59) hr) (by decide) (by decide) ?_
    show Q0 Z x0 h0 n0 _ Tj28.heap _
    rw [ej28]
    exact ⟨congrArg (fun z => some (Value.int (nar .boolean z))) (own_law x0 v13 v18 p29 hv13 hv18 qp29), Nj28⟩
  by_cases c21 : (own_unmix v13) = (x0 + (-7046029254386353131 : Int64))
  · skip
    refine own_st (fun t k => XS.ifNo X19.here hx rfl (hb hby at_37) rfl (own_lcF (cd := .ne) (not_not_intro c21)) k) ?_
    show own_Go _ _ _ _ T19 (mkF m 40 _ [])
    refine own_st (fun t k => XS.lload X19.here hx rfl (hb hby at_40) rfl k) ?_
    show own_Go _ _ _ _ T19 (mkF m 42 _ [(.long v18)])
    obtain ⟨_, _, ⟨T22, L22, k22, n22⟩, -, X22, ⟨Lc22, hQ22, l22, y22, z22⟩, st22⟩ := Jvm.LawKit.callS X19 hx (y := (⟨"com/example/parley/parley/random/SplitMix64NextLongPinLaw", "unmix", "(J)J"⟩ : MethodName)) hown (mvT hZ (hw _ (List.mem_of_getElem? (i := 20) rfl))) (mvT hZ (hw _ (List.mem_of_getElem? (i := 21) rfl))) (mvT hZ (hw _ (List.mem_of_getElem? (i := 22) rfl))) (mvT hZ (hw _ (List.mem_of_getElem? (i := 23) rfl))) (by decide) (backOf (W := 0) (rm4 l Z a0 hw [] v18 T14.heap n0 Z17 ) hZ (hw _ (List.mem_of_getElem? (i := 23) rfl)) (hw _ (List.mem_of_getElem? (i := 22) rfl)) (by decide) (by decide)) (g := (mkF m 42 #[.val (.long x0), .second, .val (.long (-7046029254386353131 : Int64)), .second, .val (.ref b1), .val (.long v13), .second, .val (.long v18), .second] [(.long v18)])) rfl (by rw [hml]; rfl) (argsL := [(.long v18)]) (rest := []) (lenOf own_pd__J_J rfl) rfl (by show 2 * 0 + _ ≤ _; exact Nat.le_of_eq rfl) (hb hby at_42) (fun _ _ => ⟨rfl, eq19, (by decide : 1 + 0 ≤ _), (by decide : 1 + 0 ≤ _)⟩)
    dsimp only [Pt.U, Pt.locs, Pt.cells, Pt.slots] at X22 l22 y22 z22 st22 hQ22
    subst l22 y22 z22
    obtain ⟨rfl, NQ22, eq22⟩ := hQ22
    have N23 := Fr.app N20 NQ22
    refine own_st st22 ?_
    show own_Go _ _ _ _ T22 (mkF m 45 _ [(.long (own_unmix v18))])
    refine own_st (fun t k => XS.lloadN X22.here hx rfl (hb hby at_45) rfl k) ?_
    show own_Go _ _ _ _ T22 (mkF m 46 _ [(.long x0), (.long (own_unmix v18))])
    refine own_st (fun t k => XS.lloadN X22.here hx rfl (hb hby at_46) rfl k) ?_
    show own_Go _ _ _ _ T22 (mkF m 47 _ [(.long (-7046029254386353131 : Int64)), (.long x0), (.long (own_unmix v18))])
    refine own_st (fun t k => XS.ladd X22.here hx rfl (hb hby at_47) rfl k) ?_
    show own_Go _ _ _ _ T22 (mkF m 48 _ [(.long (x0 + (-7046029254386353131 : Int64))), (.long (own_unmix v18))])
    refine own_st (fun t k => XS.lloadN X22.here hx rfl (hb hby at_48) rfl k) ?_
    show own_Go _ _ _ _ T22 (mkF m 49 _ [(.long (-7046029254386353131 : Int64)), (.long (x0 + (-7046029254386353131 : Int64))), (.long (own_unmix v18))])
    refine own_st (fun t k => XS.ladd X22.here hx rfl (hb hby at_49) rfl k) ?_
    show own_Go _ _ _ _ T22 (mkF m 50 _ [(.long ((x0 + (-7046029254386353131 : Int64)) + (-7046029254386353131 : Int64))), (.long (own_unmix v18))])
    refine own_st (fun t k => XS.lcmp X22.here hx rfl (hb hby at_50) rfl k) ?_
    show own_Go _ _ _ _ T22 (mkF m 51 _ [(.int (lcmpW (own_unmix v18) ((x0 + (-7046029254386353131 : Int64)) + (-7046029254386353131 : Int64))))])
    by_cases c24 : (own_unmix v18) = ((x0 + (-7046029254386353131 : Int64)) + (-7046029254386353131 : Int64))
    · skip
      refine own_st (fun t k => XS.ifNo X22.here hx rfl (hb hby at_51) rfl (own_lcF (cd := .ne) (not_not_intro c24)) k) ?_
      show own_Go _ _ _ _ T22 (mkF m 54 _ [])
      refine own_st (fun t k => XS.iconst X22.here hx rfl (hb hby at_54) k) ?_
      show own_Go _ _ _ _ T22 (mkF m 55 _ [(.int (1 : Int32))])
      refine own_st (fun t k => XS.goto X22.here hx rfl (pc0 := 55) (pc' := 59) rfl (hb hby at_55) (by decide) (by decide) k) ?_
      show own_Go _ _ _ _ T22 (mkF m 59 _ [(.int (1 : Int32))])
      exact J28 T22 _ _ X22 eq22 N23 (by simp only [if_pos c21, if_pos c24])
    · skip
      refine own_st (fun t k => XS.ifYes X22.here hx rfl (pc0 := 51) (pc' := 58) rfl (hb hby at_51) rfl (own_lcT (cd := .ne) c24) (by decide) (by decide) k) ?_
      show own_Go _ _ _ _ T22 (mkF m 58 _ [])
      refine own_st (fun t k => XS.iconst X22.here hx rfl (hb hby at_58) k) ?_
      show own_Go _ _ _ _ T22 (mkF m 59 _ [(.int (0 : Int32))])
      exact J28 T22 _ _ X22 eq22 N23 (by simp only [if_pos c21, if_neg c24])
  · skip
    refine own_st (fun t k => XS.ifYes X19.here hx rfl (pc0 := 37) (pc' := 58) rfl (hb hby at_37) rfl (own_lcT (cd := .ne) c21) (by decide) (by decide) k) ?_
    show own_Go _ _ _ _ T19 (mkF m 58 _ [])
    refine own_st (fun t k => XS.iconst X19.here hx rfl (hb hby at_58) k) ?_
    show own_Go _ _ _ _ T19 (mkF m 59 _ [(.int (0 : Int32))])
    exact J28 T19 _ _ X19 eq19 N20 (by simp only [if_neg c21])
set_option maxRecDepth 65536 in
set_option maxHeartbeats 40000000 in
theorem own_comes {Post : Tables → Env → Array Value → State → Outcome → State → Prop} (hpost : ∀ tb e args s v u, (limb_1_1.after args s (.returned v) u = true ∧ limb_1_2.after args s (.returned v) u = true ∧ True) → FrameEnd s (.returned v) u (Jvm.fieldLocs frame_1_writes args s ++ Jvm.arrayLocs frame_1_arrays args s ++ Jvm.staticLocs frame_1_statics s) 16 128 → Post tb e args s (.returned v) u) :
    ArmFor flags0 classFile x code maxLocals ret World_1 tables_1 room_1 Calls_1 rest_1 Pre_1 Post := by
  intro l hfl _ _ p e ha hc hk s m args below hf hA hF happ hP
  obtain ⟨hcalls, hrest, hpre⟩ := hP
  obtain ⟨-, -, -, hnamed, -, -, -, hat⟩ := (Spec.applies_iff hf).mp happ
  obtain ⟨hg, hn⟩ := and_e (Cond.before_iff.mp (show (Jvm.Cond.and given_1 narrow_1).before args s = true from hpre))
  obtain ⟨g0, r0⟩ := and_e hg
  obtain ⟨w0, rfl⟩ : ∃ w0 : Value, args = #[w0] := by
    have hs : args.size = 1 := by simpa [Cond.value, given_1] using g0
    obtain ⟨L⟩ := args
    match L, hs with
    | [w0], _ => exact ⟨w0, rfl⟩
  have hw := fun d (hd : d ∈ tables_1) => atoms_spec (ws := Jvm.Cond.code x code maxLocals ret :: tables_1) hat d (List.mem_cons_of_mem _ hd)
  obtain ⟨i0, ei0⟩ := isL_v r0
  obtain rfl : w0 = (.long i0) := Option.some.inj ei0
  obtain ⟨n, o, h1, h2, h3, _, L, rfl, ⟨rfl, N⟩, hq⟩ := rm0 l s _ hw tables_1 i0 s.heap s.heap.size (Nat.le_refl _) p e ha hc hk s m _ below hf ((Spec.applies_iff_loose hf).mp happ).1 ⟨rfl, State.Warmed39.refl s, rfl⟩ trivial
  refine ⟨n, _, h1, h2, h3, hpost _ _ _ _ _ _ ⟨Cond.after_iff.mpr rfl, Cond.after_iff.mpr (eq_i res_at (Term.int_eval (1)) rfl), trivial⟩ ⟨hq.1, hq.2.1, (hq.2.2.sift fun y hy => Or.inr (N y hy)).mono (by decide) (by decide)⟩⟩
theorem main_1_1 : Claimed_1_1 := own_comes fun _ _ _ _ _ _ h hF => ⟨h.1, hF⟩
theorem main_1_2 : Claimed_1_2 := own_comes fun _ _ _ _ _ _ h hF => ⟨h.2.1, hF⟩
end Jvm.Pilot.@@N@@
namespace Jvm.Pilot.@@N@@
open Jvm Jvm.ClassFile Sem Op Lib Jvm.Free Jvm.Stand Jvm.Pilot.@@N@@.Jvm.D
/-! MADE BY PROGRAM (witnessworld.py) out of the Statement's table words and the real class files: 9 classes; the members and pool entries that the words name. The judged class is class 1, her method 3. -/
namespace start1
open Jvm.ClassFile
def u (s : String) : CpInfo := .utf8 (stringToUtf16 s)
/-- a pool by its gaps: so many unusable entries, then the entry; so many at the end -/
def gap : Nat → List CpInfo → List CpInfo
  | 0, r => r
  | n + 1, r => .unusable :: gap n r
def poolList (es : List (Nat × CpInfo)) (last : Nat) : List CpInfo := es.foldr (fun e r => gap e.1 (e.2 :: r)) (gap last [])
def pool (es : List (Nat × CpInfo)) (last : Nat) : Array CpInfo := ⟨poolList es last⟩
def fileOf (pool : Array CpInfo) (this : Nat) (attrs : Array Attribute := #[]) (ms : Array MethodInfo := #[]) (fl : Nat := 33) (sup : Nat := 0) (ifs : Array Nat := #[]) (fds : Array FieldInfo := #[]) : ClassFile where
  minorVersion := 0
  majorVersion := 65
  constantPool := pool
  accessFlags := fl
  thisClass := this
  superClass := sup
  interfaces := ifs
  fields := fds
  methods := ms
  attributes := attrs
def plain (name : String) (sup : Option ClassId) : Class where
  name := name
  kind := .ordinary
  loader := none
  accessFlags := 33
  super := sup
  interfaces := #[]
  cf := none
  fields := #[]
  methods := #[]
  instanceTypes := #[]
  staticTypes := #[]
  resolved := #[]
  callSites := []
  init := .initialized
  statics := none
  mirror := none

def pool0 : Array CpInfo := pool [(5, u "<init>"), (0, u "()V"), (1, .class_ 10), (1, u "java/lang/Object")] 113

def k0c0 : Code := { maxStack := 0, maxLocals := 1, code := object_method_1_code, exceptionTable := #[], attributes := #[] }
def k0m0 : Method := { name := "<init>", desc := "()V", sig := { parameters := [], returnType := none }, accessFlags := 1, code := some k0c0 }
/-- java/lang/Object -/
def k0 : Class := { plain "java/lang/Object" none with
  accessFlags := 33
  interfaces := #[]
  cf := some (fileOf pool0 8 #[] #[{ accessFlags := 1, nameIndex := 5, descriptorIndex := 6, attributes := #[] }] 33 0 #[] #[])
  fields := #[]
  methods := #[k0m0]
  instanceTypes := #[]
  staticTypes := #[]
  resolved := Array.replicate 124 none
  statics := none }

def pool1 : Array CpInfo := pool [(2, .class_ 4), (1, u "java/lang/Object"), (0, u "<init>"), (0, u "()V"), (0, .long 2), (1, .long 10723151780598845931), (1, .methodref 12 13), (0, .class_ 14), (0, .nameAndType 15 16), (0, u "com/example/parley/parley/random/SplitMix64NextLongPinLaw"), (0, u "inv"), (0, u "(J)J"), (0, .long 13787848793156543929), (1, .long 11400714819323198485), (1, .class_ 22), (0, u "com/example/parley/parley/random/SplitMix64"), (0, .methodref 21 24), (0, .nameAndType 5 25), (0, u "(J)V"), (0, .methodref 21 27), (0, .nameAndType 28 29), (0, u "nextLong"), (0, u "()J"), (0, .methodref 12 31), (0, .nameAndType 32 16), (0, u "unmix"), (2, u "law"), (0, u "(J)Z")] 3

def k1m0 : Method := { name := "<init>", desc := "()V", sig := { parameters := [], returnType := none }, accessFlags := 1, code := none }
def k1c1 : Code := { maxStack := 8, maxLocals := 4, code := method_2_code, exceptionTable := #[], attributes := #[] }
def k1m1 : Method := { name := "inv", desc := "(J)J", sig := { parameters := [.long], returnType := some .long }, accessFlags := 10, code := some k1c1 }
def k1c2 : Code := { maxStack := 5, maxLocals := 2, code := method_3_code, exceptionTable := #[], attributes := #[] }
def k1m2 : Method := { name := "unmix", desc := "(J)J", sig := { parameters := [.long], returnType := some .long }, accessFlags := 10, code := some k1c2 }
def k1c3 : Code := { maxStack := 6, maxLocals := 9, code := code, exceptionTable := #[], attributes := #[] }
def k1m3 : Method := { name := "law", desc := "(J)Z", sig := { parameters := [.long], returnType := some .boolean }, accessFlags := 9, code := some k1c3 }
/-- com/example/parley/parley/random/SplitMix64NextLongPinLaw -/
def k1 : Class := { plain "com/example/parley/parley/random/SplitMix64NextLongPinLaw" (some 0) with
  accessFlags := 49
  interfaces := #[]
  cf := some (fileOf pool1 12 #[] #[{ accessFlags := 1, nameIndex := 5, descriptorIndex := 6, attributes := #[] }, { accessFlags := 10, nameIndex := 15, descriptorIndex := 16, attributes := #[] }, { accessFlags := 10, nameIndex := 32, descriptorIndex := 16, attributes := #[] }, { accessFlags := 9, nameIndex := 35, descriptorIndex := 36, attributes := #[] }] 49 2 #[] #[])
  fields := #[]
  methods := #[k1m0, k1m1, k1m2, k1m3]
  instanceTypes := #[]
  staticTypes := #[]
  resolved := Array.replicate 40 none
  statics := none }

def pool2 : Array CpInfo := pool [(1, .methodref 2 3), (0, .class_ 4), (0, .nameAndType 5 6), (0, u "java/lang/Object"), (0, u "<init>"), (0, u "()V"), (0, .fieldref 8 9), (0, .class_ 10), (0, .nameAndType 11 12), (0, u "com/example/parley/parley/random/SplitMix64"), (0, u "state"), (0, u "J"), (0, .long 11400714819323198485), (1, .long 13787848793156543929), (1, .long 10723151780598845931), (12, u "nextLong"), (0, u "()J"), (4, u "GAMMA"), (1, u "(J)V")] 21

def k2c0 : Code := { maxStack := 3, maxLocals := 3, code := prog_73_method_1_code, exceptionTable := #[], attributes := #[] }
def k2m0 : Method := { name := "<init>", desc := "(J)V", sig := { parameters := [.long], returnType := none }, accessFlags := 1, code := some k2c0 }
def k2c1 : Code := { maxStack := 5, maxLocals := 3, code := prog_73_method_2_code, exceptionTable := #[], attributes := #[] }
def k2m1 : Method := { name := "nextLong", desc := "()J", sig := { parameters := [], returnType := some .long }, accessFlags := 1, code := some k2c1 }
/-- com/example/parley/parley/random/SplitMix64 -/
def k2 : Class := { plain "com/example/parley/parley/random/SplitMix64" (some 0) with
  accessFlags := 49
  interfaces := #[]
  cf := some (fileOf pool2 8 #[] #[{ accessFlags := 1, nameIndex := 5, descriptorIndex := 38, attributes := #[] }, { accessFlags := 1, nameIndex := 30, descriptorIndex := 31, attributes := #[] }] 49 2 #[] #[{ accessFlags := 26, nameIndex := 36, descriptorIndex := 12, attributes := #[] }, { accessFlags := 2, nameIndex := 11, descriptorIndex := 12, attributes := #[] }])
  fields := #[{ name := "GAMMA", type := .long, accessFlags := 26, slot := 0, constantValue := 0 }, { name := "state", type := .long, accessFlags := 2, slot := 0, constantValue := 0 }]
  methods := #[k2m0, k2m1]
  instanceTypes := #[.long]
  staticTypes := #[.long]
  resolved := Array.replicate 60 none
  statics := none }

def pool3 : Array CpInfo := pool [(1, u "java/lang/Cloneable"), (0, .class_ 1), (0, u "java/lang/Object"), (0, .class_ 3)] 3

/-- java/lang/Cloneable -/
def k3 : Class := { plain "java/lang/Cloneable" (some 0) with
  accessFlags := 1537
  interfaces := #[]
  cf := some (fileOf pool3 2 #[] #[] 1537 4 #[] #[])
  fields := #[]
  methods := #[]
  instanceTypes := #[]
  staticTypes := #[]
  resolved := Array.replicate 8 none
  statics := none }

def pool4 : Array CpInfo := pool [(1, u "java/io/Serializable"), (0, .class_ 1), (0, u "java/lang/Object"), (0, .class_ 3)] 3

/-- java/io/Serializable -/
def k4 : Class := { plain "java/io/Serializable" (some 0) with
  accessFlags := 1537
  interfaces := #[]
  cf := some (fileOf pool4 2 #[] #[] 1537 4 #[] #[])
  fields := #[]
  methods := #[]
  instanceTypes := #[]
  staticTypes := #[]
  resolved := Array.replicate 8 none
  statics := none }

/-- the primitive byte -/
def k5 : Class := { plain "byte" none with kind := .primitive 'B', accessFlags := 0x411 }
/-- [B -/
def k6 : Class := { plain "[B" (some 0) with kind := .array 5 .byte, interfaces := #[3, 4], accessFlags := 1041 }

/-- the primitive int -/
def k7 : Class := { plain "int" none with kind := .primitive 'I', accessFlags := 0x411 }
/-- [I -/
def k8 : Class := { plain "[I" (some 0) with kind := .array 7 .int, interfaces := #[3, 4], accessFlags := 1041 }

def heap : Heap := #[]
def classes : Array Class := #[k0, k1, k2, k3, k4, k5, k6, k7, k8]
def interned : List (Array UInt16 × Addr) := []
def slotsUsed : Nat := 0
def theMethod : MethodId := ⟨1, 3⟩
def args0 : Array Value := #[.long 5]
def aboutOver (below : List Frame) : State where
  vm := { classes := classes, interned := interned.toArray }
  heap := heap
  slotsUsed := slotsUsed
  threads := #[{ frames := .invoking theMethod args0 :: below }]
def below0 : List Frame := [.native { method := ⟨0, 0⟩, args := #[] }]
def about1 : State := aboutOver below0
def p0 : Program := .bare "" "" ""
def e0 : Env := launch0.env 0 0 0
theorem w_frames : about1.frames = Frame.invoking theMethod args0 :: below0 := rfl
set_option maxRecDepth 65536 in
theorem w_args : argsFit about1.vm theMethod args0 = true := by decide +kernel
set_option maxRecDepth 65536 in
theorem w_heap : heapFits about1 = true := by decide +kernel
set_option maxRecDepth 65536 in
theorem w_runnable : about1.curStatus? = some .runnable := by decide +kernel
set_option maxRecDepth 65536 in
theorem w_alone : about1.alone = true := by decide +kernel
set_option maxRecDepth 65536 in
theorem w_named : about1.methodNamed? x = some theMethod := by decide +kernel
set_option maxRecDepth 65536 in
theorem w_hears : about1.hears theMethod below0 = true := by decide +kernel
set_option maxRecDepth 65536 in
theorem w_ripe : about1.ripe theMethod args0 below0 = true := by decide +kernel
theorem w_running : about1.status = .running := rfl
set_option maxRecDepth 65536 in
theorem w_room : about1.hasRoom e0.platform room_1 = true :=
  launch0.hasRoom_least _ room_1 (by decide +kernel) (by decide +kernel) (by decide +kernel) (by decide +kernel) (by decide +kernel) (by decide +kernel)
theorem allAtoms_all (ts : List Jvm.Cond) (a : Array Jvm.Value) (st : Jvm.State) : (allAtoms ts).before a st = ts.all (fun c => c.before a st) := by
  induction ts with
  | nil => rfl
  | cons c t ih =>
    show (Jvm.Cond.and c (allAtoms t)).before a st = _
    rw [Jvm.Cond.before_and, ih, List.all_cons]
def words1 : List Jvm.Cond := Jvm.Cond.code x code maxLocals ret :: tables_1
/-- a 'code' word, met by the world's own term for the bytes: nothing is compared byte by byte -/
theorem code_word {y : MethodName} {bytes : ByteArray} {mx : Nat} {rt : Option FieldType} {a : Array Value} {s : State} {m : MethodId} {meth : Method} {c : Code} (h1 : s.methodNamed? y = some m) (h2 : s.vm.method? m = some meth) (h3 : meth.code = some c) (h4 : c.code = bytes)
    (h5 : (c.maxLocals == mx && c.exceptionTable.isEmpty && decide (c.maxStack ≤ mostOperands) && decide (meth.sig.returnType = rt) && !meth.locks && decide (parseMethodDescriptor y.desc = some meth.sig)) = true) : (Jvm.Cond.code y bytes mx rt).before a s = true := by
  simp only [Bool.and_eq_true, beq_iff_eq, Bool.not_eq_true', decide_eq_true_eq] at h5
  obtain ⟨⟨⟨⟨⟨g1, g2⟩, g3⟩, g4⟩, g5⟩, g6⟩ := h5
  simp [Cond.before, Cond.holds, Cond.value, h1, h2, h3, h4, g1, g2, g3, g4, g5, g6]
def isCode : Jvm.Cond → Bool
  | .code _ _ _ _ => true
  | _ => false
theorem all_split {L : List Jvm.Cond} {P : Jvm.Cond → Bool} (h1 : L.all (fun c => isCode c || P c) = true) (h2 : ∀ c ∈ L.filter isCode, P c = true) : L.all P = true := by
  refine List.all_eq_true.mpr fun c hc => ?_
  have h := List.all_eq_true.mp h1 c hc
  rcases Bool.eq_false_or_eq_true (isCode c) with hi | hi
  · exact h2 c (List.mem_filter.mpr ⟨hc, hi⟩)
  · simpa [hi] using h
set_option maxRecDepth 65536 in
theorem w_c0 : (Jvm.Cond.code x code maxLocals ret).before args0 about1 = true := code_word (m := ⟨1, 3⟩) (meth := k1m3) (c := k1c3) (by decide +kernel) rfl rfl rfl (by decide +kernel)
set_option maxRecDepth 65536 in
theorem w_c1 : (Jvm.Cond.code ({ cls := "com/example/parley/parley/random/SplitMix64", name := "<init>", desc := "(J)V" } : Jvm.MethodName) prog_73_method_1_code (3 : Nat) (Option.none : Option Jvm.ClassFile.FieldType)).before args0 about1 = true := code_word (m := ⟨2, 0⟩) (meth := k2m0) (c := k2c0) (by decide +kernel) rfl rfl rfl (by decide +kernel)
set_option maxRecDepth 65536 in
theorem w_c2 : (Jvm.Cond.code ({ cls := "java/lang/Object", name := "<init>", desc := "()V" } : Jvm.MethodName) object_method_1_code (1 : Nat) (Option.none : Option Jvm.ClassFile.FieldType)).before args0 about1 = true := code_word (m := ⟨0, 0⟩) (meth := k0m0) (c := k0c0) (by decide +kernel) rfl rfl rfl (by decide +kernel)
set_option maxRecDepth 65536 in
theorem w_c3 : (Jvm.Cond.code ({ cls := "com/example/parley/parley/random/SplitMix64", name := "nextLong", desc := "()J" } : Jvm.MethodName) prog_73_method_2_code (3 : Nat) (Option.some Jvm.ClassFile.FieldType.long)).before args0 about1 = true := code_word (m := ⟨2, 1⟩) (meth := k2m1) (c := k2c1) (by decide +kernel) rfl rfl rfl (by decide +kernel)
set_option maxRecDepth 65536 in
theorem w_c4 : (Jvm.Cond.code ({ cls := "com/example/parley/parley/random/SplitMix64NextLongPinLaw", name := "unmix", desc := "(J)J" } : Jvm.MethodName) method_3_code (2 : Nat) (Option.some Jvm.ClassFile.FieldType.long)).before args0 about1 = true := code_word (m := ⟨1, 2⟩) (meth := k1m2) (c := k1c2) (by decide +kernel) rfl rfl rfl (by decide +kernel)
set_option maxRecDepth 65536 in
theorem w_c5 : (Jvm.Cond.code ({ cls := "com/example/parley/parley/random/SplitMix64NextLongPinLaw", name := "inv", desc := "(J)J" } : Jvm.MethodName) method_2_code (4 : Nat) (Option.some Jvm.ClassFile.FieldType.long)).before args0 about1 = true := code_word (m := ⟨1, 1⟩) (meth := k1m1) (c := k1c1) (by decide +kernel) rfl rfl rfl (by decide +kernel)
def codes1 : List Jvm.Cond := [Jvm.Cond.code x code maxLocals ret, Jvm.Cond.code ({ cls := "com/example/parley/parley/random/SplitMix64", name := "<init>", desc := "(J)V" } : Jvm.MethodName) prog_73_method_1_code (3 : Nat) (Option.none : Option Jvm.ClassFile.FieldType), Jvm.Cond.code ({ cls := "java/lang/Object", name := "<init>", desc := "()V" } : Jvm.MethodName) object_method_1_code (1 : Nat) (Option.none : Option Jvm.ClassFile.FieldType), Jvm.Cond.code ({ cls := "com/example/parley/parley/random/SplitMix64", name := "nextLong", desc := "()J" } : Jvm.MethodName) prog_73_method_2_code (3 : Nat) (Option.some Jvm.ClassFile.FieldType.long), Jvm.Cond.code ({ cls := "com/example/parley/parley/random/SplitMix64NextLongPinLaw", name := "unmix", desc := "(J)J" } : Jvm.MethodName) method_3_code (2 : Nat) (Option.some Jvm.ClassFile.FieldType.long), Jvm.Cond.code ({ cls := "com/example/parley/parley/random/SplitMix64NextLongPinLaw", name := "inv", desc := "(J)J" } : Jvm.MethodName) method_2_code (4 : Nat) (Option.some Jvm.ClassFile.FieldType.long)]
set_option maxRecDepth 65536 in
theorem codes_eq : words1.filter isCode = codes1 := rfl
theorem w_codes : ∀ c ∈ words1.filter isCode, c.before args0 about1 = true := by
  rw [codes_eq]
  intro c hc
  simp only [codes1, List.mem_cons, List.not_mem_nil, or_false] at hc
  rcases hc with rfl | rfl | rfl | rfl | rfl | rfl
  · exact w_c0
  · exact w_c1
  · exact w_c2
  · exact w_c3
  · exact w_c4
  · exact w_c5
set_option maxRecDepth 65536 in
theorem w_t1 : (words1.take 24).all (fun c => isCode c || c.before args0 about1) = true := by decide +kernel
set_option maxRecDepth 65536 in
theorem w_t2 : (words1.drop 24).all (fun c => isCode c || c.before args0 about1) = true := by decide +kernel
theorem w_tables : (allAtoms (Jvm.Cond.code x code maxLocals ret :: tables_1)).before args0 about1 = true := by
  rw [allAtoms_all]
  show words1.all (fun c => c.before args0 about1) = true
  refine all_split ?_ w_codes
  rw [← List.take_append_drop 24 words1, List.all_append, w_t1, w_t2]
  rfl
set_option maxRecDepth 65536 in
theorem w_case : (Jvm.Cond.and given_1 narrow_1).before args0 about1 = true := by decide +kernel
theorem w_applies : (headSpec (Jvm.Cond.code x code maxLocals ret :: tables_1) room_1).applies x e0.platform about1 = true :=
  (Spec.applies_iff w_frames).mpr ⟨w_running, w_runnable, w_alone, w_named, w_hears, w_ripe, w_room, w_tables⟩
theorem atStart : AtStart classFile x code maxLocals ret World_1 tables_1 room_1 Calls_1 rest_1 Pre_1 launch0 p0 e0 about1 theMethod args0 below0 :=
  ⟨lists_1, trivial, launch0.admits_env _ _ _, launch0.least_env, fairChoices_fair.cas, fairChoices_fair.clock, w_frames, w_args, w_heap, w_applies, trivial, trivial, w_case⟩
end start1
theorem witness_1 : WitnessClaimed_1 := ⟨start1.p0, start1.e0, start1.about1, start1.theMethod, start1.args0, start1.below0, start1.atStart⟩
end Jvm.Pilot.@@N@@
