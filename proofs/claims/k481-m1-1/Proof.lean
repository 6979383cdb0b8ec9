import JvmDerived
import JvmDerived.Pilot.@@N@@Statement
import JvmDerived.Pilot.@@N@@Code
set_option linter.unusedVariables false
set_option linter.unusedSimpArgs false
@@BLOCK:NumsL.lean.txt@@
namespace Jvm.Pilot.@@N@@
open Jvm Jvm.ClassFile Sem Op Lib Jvm.Free Jvm.Stand Jvm.LawKit Jvm.RoadKit Bundle Jvm.Pilot.@@N@@.Jvm.D
/-- from here the run comes to a state of which P holds -/
def own_Go (tb : Tables) (e : Env) (below : List Frame) (P : State → Prop) (T : State) (g : JFrame) : Prop := ∃ t, Steps tb e below (T.setTop g) t ∧ P t
theorem own_st {tb : Tables} {e : Env} {below : List Frame} {P : State → Prop} {T T' : State} {g g' : JFrame} (h : ∀ t, Steps tb e below (T'.setTop g') t → Steps tb e below (T.setTop g) t) (k : own_Go tb e below P T' g') : own_Go tb e below P T g := by
  obtain ⟨t, a, b⟩ := k; exact ⟨t, h t a, b⟩
/-- what the end of a body must be -/
def own_P (s : State) (below : List Frame) (Q : Option Value → Heap → List Loc → Prop) (C S : Nat) (t : State) : Prop := t.status = .running ∧ ∃ o, Ended t below o ∧ ∃ v L, o = .returned v ∧ Q v t.heap L ∧ FrameEnd s o t L C S
/-- .. of a body that may have interned -/
def own_PW (s : State) (below : List Frame) (Q : Option Value → Heap → List Loc → Prop) (C S : Nat) (t : State) : Prop := t.status = .running ∧ ∃ o, Ended t below o ∧ ∃ v L, o = .returned v ∧ Q v t.heap L ∧ ReturnedEndW s o t L C S
section own
variable {p : Program} {l : Launch} {e : Env} {R : Room} {s : State} {m : MethodId} {args : Array Value} {below : List Frame} {meth : Method} {c : Code} {T : State} {locs : List Loc} {cells slots : Nat} {Qo : Option Value → Heap → List Loc → Prop} {C' S' : Nat}
theorem own_out (X : Stand p l e R s m args below meth c T locs cells slots) {v : Option Value} {g : JFrame} (hv : meth.sig.returnType = none → v = none) (hlocks : meth.locks = false)
    (hst : ∀ fs, (∀ (f : JFrame) (acts : List Action), f.method = m → f.locked = none → f.entered = [] → (doReturn e (T.setTop f) acts v).1 = T.setFrames fs) → Steps p.tables e below (T.setTop g) (T.setFrames fs))
    (hc : cells ≤ C') (hs : slots ≤ S') (hq : Qo v T.heap locs) : own_Go p.tables e below (own_P s below Qo C' S') T g := by
  obtain ⟨fs, hr, hrun, hended, hW, hsame⟩ := X.leave (v := v) hv hlocks
  exact ⟨_, hst fs hr, hrun, _, hended, _, _, rfl, hq, ⟨_, rfl⟩, hW, hsame.mono hc hs⟩
theorem own_outW {vm0 : Vm} (X : Stand p l e R (s.setVm vm0) m args below meth c T locs cells slots) {k0 : Nat} (hS : s.Since vm0 k0) (hk : k0 ≤ T.heap.size) {v : Option Value} {g : JFrame} (hv : meth.sig.returnType = none → v = none) (hlocks : meth.locks = false)
    (hst : ∀ fs, (∀ (f : JFrame) (acts : List Action), f.method = m → f.locked = none → f.entered = [] → (doReturn e (T.setTop f) acts v).1 = T.setFrames fs) → Steps p.tables e below (T.setTop g) (T.setFrames fs))
    (hc : cells ≤ C') (hs : slots ≤ S') (hq : Qo v T.heap locs) : own_Go p.tables e below (own_PW s below Qo C' S') T g := by
  obtain ⟨fs, hr, hrun, hended, hW⟩ := X.leaveW hS hk (v := v) hv hlocks
  exact ⟨_, hst fs hr, hrun, _, hended, _, _, rfl, hq, hW.1, hW.2.1, hW.2.2.1, hW.2.2.2.mono hc hs⟩
theorem own_retI (X : Stand p l e R s m args below meth c T locs cells slots) (hx : p.tables.exec = Jvm.exec) {pc : Nat} {Ls : Array Slot} {z : Int32} {rest : List Value} (hret : meth.sig.returnType = some .int) (hd : decode c.code pc = .ok (.ireturn, 1)) (fs : List Frame)
    (hl : ∀ (f : JFrame) (acts : List Action), f.method = m → f.locked = none → f.entered = [] → (doReturn e (T.setTop f) acts (some (.int z))).1 = T.setFrames fs) : Steps p.tables e below (T.setTop (mkF m pc Ls (.int z :: rest))) (T.setFrames fs) :=
  retOut X hx hret rfl (Or.inl ⟨rfl, Or.inl rfl, _, rfl⟩) hd hl
theorem own_retZ (X : Stand p l e R s m args below meth c T locs cells slots) (hx : p.tables.exec = Jvm.exec) {pc : Nat} {Ls : Array Slot} {z : Int32} {rest : List Value} (hret : meth.sig.returnType = some .boolean) (hd : decode c.code pc = .ok (.ireturn, 1)) (hb : z = 0 ∨ z = 1) (fs : List Frame)
    (hl : ∀ (f : JFrame) (acts : List Action), f.method = m → f.locked = none → f.entered = [] → (doReturn e (T.setTop f) acts (some (.int z))).1 = T.setFrames fs) : Steps p.tables e below (T.setTop (mkF m pc Ls (.int z :: rest))) (T.setFrames fs) := by
  have e1 : nar .boolean z = z := by rcases hb with rfl | rfl <;> decide
  exact retN X hx hret (Or.inl rfl) hd (by rw [e1]; exact hl)
theorem own_retJ (X : Stand p l e R s m args below meth c T locs cells slots) (hx : p.tables.exec = Jvm.exec) {pc : Nat} {Ls : Array Slot} {z : Int64} {rest : List Value} (hret : meth.sig.returnType = some .long) (hd : decode c.code pc = .ok (.lreturn, 1)) (fs : List Frame)
    (hl : ∀ (f : JFrame) (acts : List Action), f.method = m → f.locked = none → f.entered = [] → (doReturn e (T.setTop f) acts (some (.long z))).1 = T.setFrames fs) : Steps p.tables e below (T.setTop (mkF m pc Ls (.long z :: rest))) (T.setFrames fs) :=
  retOut X hx hret rfl (Or.inr (Or.inl ⟨rfl, rfl, _, rfl⟩)) hd hl
theorem own_retR (X : Stand p l e R s m args below meth c T locs cells slots) (hx : p.tables.exec = Jvm.exec) {pc : Nat} {Ls : Array Slot} {w : Value} {t : FieldType} {rest : List Value} (hret : meth.sig.returnType = some t) (ht : t.isReference = true) (hw : w.isRef = true) (hn : narrow t w = w) (hd : decode c.code pc = .ok (.areturn, 1)) (fs : List Frame)
    (hl : ∀ (f : JFrame) (acts : List Action), f.method = m → f.locked = none → f.entered = [] → (doReturn e (T.setTop f) acts (some w)).1 = T.setFrames fs) : Steps p.tables e below (T.setTop (mkF m pc Ls (w :: rest))) (T.setFrames fs) :=
  retOut X hx hret hn (Or.inr (Or.inr (Or.inr (Or.inr ⟨rfl, ht, hw⟩)))) hd hl
end own
/-- a private method is the one that is picked -/
theorem own_selp {s : State} {args : Array Value} {y : MethodName} {n : Nat} (hi : (Jvm.Cond.instantiable y.cls n).before args s = true) (hp : s.PrivateAt y) (hm : (Jvm.Cond.instanceMethod y).before args s = true) (hy : y.cls ≠ "java/lang/invoke/MethodHandle" ∧ y.cls ≠ "java/lang/invoke/VarHandle") : (Jvm.Cond.selects y.cls y y).before args s = true := by
  obtain ⟨c, k, h1, h2, -, h4, -⟩ := Cond.instantiable_spec hi
  exact selects_self_of_private h1 h2 (Bool.or_eq_false_iff.mp h4).1 hp hm hy
theorem own_staK {Z : State} {h h' : Heap} {C n d : String} {v : Value} {ws : List Addr} (F : Sta Z h C n d v) (K : Keep h h' ws) (q : ∀ x ∈ ws, ∃ D, Exa Z h x D) : Sta Z h' C n d v := by
  obtain ⟨cf, i, k, f, st, cell, h1, h2, h3, h4, h5, h6, h7⟩ := F
  refine ⟨cf, i, k, f, st, cell, h1, h2, h3, h4, K.2.1 st cell h5 (fun hm => ?_), h6, h7⟩
  obtain ⟨D, c', k', e1, -, -, e4, -⟩ := q st hm
  cases h5.symm.trans e1
  rw [h6] at e4; cases e4
/-- a reference or null -/
theorem own_refOf {w : Value} (h : w.isRef = true) (c : ¬ w = Value.null) : ∃ a, w = .ref a := (ref_cases h).resolve_left c
theorem own_nW {t : FieldType} {w : Value} (ht : t.isReference = true) (h : w.isRef = true) : narrow t w = w := by
  rcases ref_cases h with rfl | ⟨a, rfl⟩ <;> cases t <;> first | rfl | simp [FieldType.isReference] at ht
theorem own_fW {t : FieldType} {w : Value} (ht : t.isReference = true) (h : w.isRef = true) : fits t w = true := by
  rcases ref_cases h with rfl | ⟨a, rfl⟩ <;> cases t <;> first | rfl | simp [FieldType.isReference] at ht
theorem own_nb {z : Int32} (h : z = 0 ∨ z = 1) : narrow .boolean (.int z) = .int z := by rcases h with rfl | rfl <;> rfl
theorem own_fb {z : Int32} (h : z = 0 ∨ z = 1) : fits .boolean (.int z) = true := by rcases h with rfl | rfl <;> rfl
/-- lcmp and a branch, in one -/
def own_lcv : ClassFile.Cond → Int64 → Int64 → Prop
  | .lt, x, y => x < y | .ge, x, y => ¬ x < y | .gt, x, y => y < x | .le, x, y => ¬ y < x | .eq, x, y => x = y | .ne, x, y => ¬ x = y
theorem own_lcT {cd : ClassFile.Cond} {x y : Int64} (h : own_lcv cd x y) : ifCond.holds cd (lcmpW x y) = true := by
  rw [if0]
  cases cd
  · exact (teq ((lw_eq x y).mpr h)).1
  · exact (feq (fun q => h ((lw_eq x y).mp q))).2
  · exact (tlt ((lw_lt x y).mpr h)).1
  · exact (flt (fun q => h ((lw_lt x y).mp q))).2.1
  · exact (tlt ((lw_gt x y).mpr h)).2.2.1
  · exact (flt (fun q => h ((lw_gt x y).mp q))).2.2.2
theorem own_lcF {cd : ClassFile.Cond} {x y : Int64} (h : ¬ own_lcv cd x y) : ifCond.holds cd (lcmpW x y) = false := by
  rw [if0]
  cases cd
  · exact (feq (fun q => h ((lw_eq x y).mp q))).1
  · exact (teq (Classical.byContradiction fun q => h (fun r => q ((lw_eq x y).mpr r)))).2
  · exact (flt (fun q => h ((lw_lt x y).mp q))).1
  · exact (tlt (Classical.byContradiction fun q => h (fun r => q ((lw_lt x y).mpr r)))).2.1
  · exact (flt (fun q => h ((lw_gt x y).mp q))).2.2.1
  · exact (tlt (Classical.byContradiction fun q => h (fun r => q ((lw_gt x y).mpr r)))).2.2.2

theorem own_pd___V : parseMethodDescriptor "()V" = some ⟨[], none⟩ := by decide +kernel
theorem own_pd__I_J : parseMethodDescriptor "(I)J" = some ⟨[.int], some .long⟩ := by decide +kernel
theorem own_pd__JJ_V : parseMethodDescriptor "(JJ)V" = some ⟨[.long, .long], none⟩ := by decide +kernel
theorem own_pd___Z : parseMethodDescriptor "()Z" = some ⟨[], some .boolean⟩ := by decide +kernel
theorem own_pd__I_Lcom_example_portcullis_portcullis_IpAddress_ : parseMethodDescriptor "(I)Lcom/example/portcullis/portcullis/IpAddress;" = some ⟨[.int], some (.object "com/example/portcullis/portcullis/IpAddress")⟩ := by decide +kernel
theorem d1_0 : decode jdk_30_method_1_code 0 = .ok (.aload_n 0, 1) := by decide +kernel
theorem d1_1 : decode jdk_30_method_1_code 1 = .ok (.invokespecial 1, 3) := by decide +kernel
theorem d1_4 : decode jdk_30_method_1_code 4 = .ok (.return_, 1) := by decide +kernel
theorem own_pn1 : plainName "java/lang/Record" = true := by first | (simp [plainName, overriddenIn]; done) | decide +kernel
theorem own_ef1 (m : MethodId) (a : Addr) : entryFrame m #[(.ref a)] 1 = mkF m 0 #[.val (.ref a)] [] := by first | (simp [entryFrame, mkF, argsToLocals, Value.category]; done) | rfl
def Q1 (Z : State) (a : Addr) (h0 : Heap) (n0 : Nat) (v : Option Value) (h : Heap) (L : List Loc) : Prop := v = none ∧ Fr n0 L ∧ h = h0
set_option maxRecDepth 65536 in
set_option maxHeartbeats 40000000 in
theorem rm1 (l : Launch) (Z : State) (a0 : Array Value) (hw : ∀ d ∈ tables_1, d.before a0 Z = true) (ws : List Jvm.Cond) (a : Addr) (h0 : Heap) (n0 : Nat) (Z0 : n0 ≤ h0.size) :
    MetFree l (⟨"java/lang/Record", "<init>", "()V"⟩ : MethodName) (head1 (Jvm.Cond.code (⟨"java/lang/Record", "<init>", "()V"⟩ : MethodName) jdk_30_method_1_code 1 none :: ws) ({ frames := 1, cells := 0, slots := 0, locals := 12 } : Room)) (fun aW U => aW = #[(.ref a)] ∧ Z.Warmed39 U.vm ∧ U.heap = h0) (fun _ _ _ _ _ => True) (fun _ U o U' => ∃ v L, o = .returned v ∧ Q1 Z a h0 n0 v U'.heap L ∧ FrameEnd U o U' L ({ frames := 1, cells := 0, slots := 0, locals := 12 } : Room).cells ({ frames := 1, cells := 0, slots := 0, locals := 12 } : Room).slots) := by
  refine MetFree.of_bodySF (plainFor_of_name own_pn1) hisR ?_
  intro p e s m args below meth c s₁ Bd hml0 hP hK
  obtain ⟨rfl, hZ, hh⟩ := hP
  have hx := Bd.exec
  have hby := Bd.bytes
  have hml : c.maxLocals = 1 := hml0
  have hown : s.vm.findClass "java/lang/Record" = some m.cls := findClass_of_methodNamed Bd.named
  have hnm := (name_of_methodNamed Bd.named Bd.method).1
  have X0 : Stand p l e ({ frames := 1, cells := 0, slots := 0, locals := 12 } : Room) s m #[(.ref a)] below meth c s₁ [] 0 0 := Stand.of_body Bd
  have e0 : s₁.heap = h0 := by rw [← hh, Bd.state]; rfl
  have N0 := Fr.nil n0
  obtain ⟨Pq, hPq⟩ : ∃ P, P = own_P s below (fun v h L => Q1 Z a h0 n0 v h L) ({ frames := 1, cells := 0, slots := 0, locals := 12 } : Room).cells ({ frames := 1, cells := 0, slots := 0, locals := 12 } : Room).slots := ⟨_, rfl⟩
  suffices hgo : own_Go p.tables e below Pq s₁ (mkF m 0 #[.val (.ref a)] []) by
    subst hPq
    obtain ⟨t, k1, k2, o, k3, k4⟩ := hgo
    exact ⟨t, o, castTop (own_ef1 m a) k1, k2, k3, k4⟩
  show own_Go _ _ _ _ s₁ (mkF m 0 #[.val (.ref a)] [])
  refine own_st (fun t k => XS.aloadN X0.here hx rfl (hb hby d1_0) rfl rfl k) ?_
  show own_Go _ _ _ _ s₁ (mkF m 1 _ [(.ref a)])
  obtain ⟨T1, X1, e1, st1⟩ := initO X0 hx hZ hown (hw _ (List.mem_of_getElem? (i := 11) rfl)) (hw _ (List.mem_of_getElem? (i := 12) rfl)) (hw _ (List.mem_of_getElem? (i := 13) rfl)) e0 (g := (mkF m 1 #[.val (.ref a)] [(.ref a)])) rfl (by rw [hml]; rfl) rfl (hb hby d1_1) (by decide) (W := 0) (by show 2 * 0 + _ ≤ _; exact Nat.le_of_eq rfl) (by decide)
  refine own_st st1 ?_
  show own_Go _ _ _ _ T1 (mkF m 4 _ [])
  subst hPq
  refine own_out X1 (v := none) (fun _ => rfl) Bd.notSynchronized (fun fs hr => X1.returnOut hx Bd.returns (hb hby d1_4) hr) (by decide) (by decide) ?_
  show Q1 Z a h0 n0 _ T1.heap _
  rw [e1]
  exact ⟨rfl, N0, rfl⟩
theorem d2_0 : decode prog_36_method_1_code 0 = .ok (.aload_n 0, 1) := by decide +kernel
theorem d2_1 : decode prog_36_method_1_code 1 = .ok (.invokespecial 1, 3) := by decide +kernel
theorem d2_4 : decode prog_36_method_1_code 4 = .ok (.aload_n 0, 1) := by decide +kernel
theorem d2_5 : decode prog_36_method_1_code 5 = .ok (.lload_n 1, 1) := by decide +kernel
theorem d2_6 : decode prog_36_method_1_code 6 = .ok (.putfield 7, 3) := by decide +kernel
theorem d2_9 : decode prog_36_method_1_code 9 = .ok (.aload_n 0, 1) := by decide +kernel
theorem d2_10 : decode prog_36_method_1_code 10 = .ok (.lload_n 3, 1) := by decide +kernel
theorem d2_11 : decode prog_36_method_1_code 11 = .ok (.putfield 13, 3) := by decide +kernel
theorem d2_14 : decode prog_36_method_1_code 14 = .ok (.return_, 1) := by decide +kernel
theorem own_pn2 : plainName "com/example/portcullis/portcullis/IpAddress" = true := by first | (simp [plainName, overriddenIn]; done) | decide +kernel
theorem own_ef2 (m : MethodId) (a : Addr) (x0 : Int64) (x1 : Int64) : entryFrame m #[(.ref a), (.long x0), (.long x1)] 5 = mkF m 0 #[.val (.ref a), .val (.long x0), .second, .val (.long x1), .second] [] := by first | (simp [entryFrame, mkF, argsToLocals, Value.category]; done) | rfl
def Q2 (Z : State) (a : Addr) (x0 : Int64) (x1 : Int64) (u0 : Value) (u1 : Value) (h0 : Heap) (n0 : Nat) (v : Option Value) (h : Heap) (L : List Loc) : Prop := v = none ∧ Fr n0 L ∧ Keep h0 h [a] ∧ Exa Z h a "com/example/portcullis/portcullis/IpAddress" ∧ Fld Z h a "com/example/portcullis/portcullis/IpAddress" "high" "J" (.long x0) ∧ Fld Z h a "com/example/portcullis/portcullis/IpAddress" "low" "J" (.long x1)
set_option maxRecDepth 65536 in
set_option maxHeartbeats 40000000 in
theorem rm2 (l : Launch) (Z : State) (a0 : Array Value) (hw : ∀ d ∈ tables_1, d.before a0 Z = true) (ws : List Jvm.Cond) (a : Addr) (x0 : Int64) (x1 : Int64) (u0 : Value) (u1 : Value) (h0 : Heap) (n0 : Nat) (Z0 : n0 ≤ h0.size) (F0 : Exa Z h0 a "com/example/portcullis/portcullis/IpAddress") (F1 : Fld Z h0 a "com/example/portcullis/portcullis/IpAddress" "high" "J" u0) (F2 : Fld Z h0 a "com/example/portcullis/portcullis/IpAddress" "low" "J" u1) (g_a : n0 ≤ a) :
    MetFree l (⟨"com/example/portcullis/portcullis/IpAddress", "<init>", "(JJ)V"⟩ : MethodName) (head1 (Jvm.Cond.code (⟨"com/example/portcullis/portcullis/IpAddress", "<init>", "(JJ)V"⟩ : MethodName) prog_36_method_1_code 5 none :: ws) ({ frames := 2, cells := 0, slots := 0, locals := 24 } : Room)) (fun aW U => aW = #[(.ref a), (.long x0), (.long x1)] ∧ Z.Warmed39 U.vm ∧ U.heap = h0) (fun _ _ _ _ _ => True) (fun _ U o U' => ∃ v L, o = .returned v ∧ Q2 Z a x0 x1 u0 u1 h0 n0 v U'.heap L ∧ FrameEnd U o U' L ({ frames := 2, cells := 0, slots := 0, locals := 24 } : Room).cells ({ frames := 2, cells := 0, slots := 0, locals := 24 } : Room).slots) := by
  refine MetFree.of_bodySF (plainFor_of_name own_pn2) hisR ?_
  intro p e s m args below meth c s₁ Bd hml0 hP hK
  obtain ⟨rfl, hZ, hh⟩ := hP
  have hx := Bd.exec
  have hby := Bd.bytes
  have hml : c.maxLocals = 5 := hml0
  have hown : s.vm.findClass "com/example/portcullis/portcullis/IpAddress" = some m.cls := findClass_of_methodNamed Bd.named
  have hnm := (name_of_methodNamed Bd.named Bd.method).1
  have X0 : Stand p l e ({ frames := 2, cells := 0, slots := 0, locals := 24 } : Room) s m #[(.ref a), (.long x0), (.long x1)] below meth c s₁ [] 0 0 := Stand.of_body Bd
  have e0 : s₁.heap = h0 := by rw [← hh, Bd.state]; rfl
  have N0 := Fr.nil n0
  have K0 : Keep h0 h0 [a] := Keep.refl _ _
  obtain ⟨Pq, hPq⟩ : ∃ P, P = own_P s below (fun v h L => Q2 Z a x0 x1 u0 u1 h0 n0 v h L) ({ frames := 2, cells := 0, slots := 0, locals := 24 } : Room).cells ({ frames := 2, cells := 0, slots := 0, locals := 24 } : Room).slots := ⟨_, rfl⟩
  suffices hgo : own_Go p.tables e below Pq s₁ (mkF m 0 #[.val (.ref a), .val (.long x0), .second, .val (.long x1), .second] []) by
    subst hPq
    obtain ⟨t, k1, k2, o, k3, k4⟩ := hgo
    exact ⟨t, o, castTop (own_ef2 m a x0 x1) k1, k2, k3, k4⟩
  show own_Go _ _ _ _ s₁ (mkF m 0 #[.val (.ref a), .val (.long x0), .second, .val (.long x1), .second] [])
  refine own_st (fun t k => XS.aloadN X0.here hx rfl (hb hby d2_0) rfl rfl k) ?_
  show own_Go _ _ _ _ s₁ (mkF m 1 _ [(.ref a)])
  obtain ⟨_, _, ⟨T1, L1, k1, n1⟩, -, X1, ⟨Lc1, hQ1, l1, y1, z1⟩, st1⟩ := X0.specialBack hx (y := (⟨"java/lang/Record", "<init>", "()V"⟩ : MethodName)) rfl hown (mvT hZ (hw _ (List.mem_of_getElem? (i := 6) rfl))) (mvT hZ (hw _ (List.mem_of_getElem? (i := 7) rfl))) (mvT hZ (hw _ (List.mem_of_getElem? (i := 10) rfl))) (by decide) (backOf (W := 0) (rm1 l Z a0 hw [] a h0 n0 Z0 ) hZ (hw _ (List.mem_of_getElem? (i := 10) rfl)) (hw _ (List.mem_of_getElem? (i := 9) rfl)) (by decide) (by decide)) (g := (mkF m 1 #[.val (.ref a), .val (.long x0), .second, .val (.long x1), .second] [(.ref a)])) rfl (by rw [hml]; rfl) (Steps.refl _) (a := a) (argsL := []) (rest := []) (lenOf own_pd___V rfl) rfl (by show 2 * 0 + _ ≤ _; exact Nat.le_of_eq rfl) (hb hby d2_1) (fun _ _ => ⟨rfl, e0, (by decide : 0 + 0 ≤ _), (by decide : 0 + 0 ≤ _)⟩)
  dsimp only [Pt.U, Pt.locs, Pt.cells, Pt.slots] at X1 l1 y1 z1 st1 hQ1
  subst l1 y1 z1
  obtain ⟨rfl, NQ1, eq1⟩ := hQ1
  have N2 := Fr.app N0 NQ1
  refine own_st (fun t k => st1.trans k) ?_
  show own_Go _ _ _ _ T1 (mkF m 4 _ [])
  refine own_st (fun t k => XS.aloadN X1.here hx rfl (hb hby d2_4) rfl rfl k) ?_
  show own_Go _ _ _ _ T1 (mkF m 5 _ [(.ref a)])
  refine own_st (fun t k => XS.lloadN X1.here hx rfl (hb hby d2_5) rfl k) ?_
  show own_Go _ _ _ _ T1 (mkF m 6 _ [(.long x0), (.ref a)])
  obtain ⟨T3, h3, X3, e3, W3, st3⟩ := putF X1 hx hZ hown (host := "") (Or.inl (hw _ (List.mem_of_getElem? (i := 14) rfl))) Via.refl eq1 F1 F0 (Or.inr ⟨(hw _ (List.mem_of_getElem? (i := 15) rfl)), rfl, hnm⟩) (hw _ (List.mem_of_getElem? (i := 1) rfl)) (ty := .long) (by decide) rfl rfl (g := (mkF m 6 #[.val (.ref a), .val (.long x0), .second, .val (.long x1), .second] [(.long x0), (.ref a)])) rfl rfl (hb hby d2_6)
  refine own_st st3 ?_
  have f4 := F0.wr W3
  have f5 := F2.other W3 (Or.inr (slot_ne (Or.inr (hw _ (List.mem_of_getElem? (i := 17) rfl))) (Or.inr (hw _ (List.mem_of_getElem? (i := 15) rfl))) (by decide) (t := .long) (t' := .long) (by decide) (by decide)))
  have N6 := Fr.snoc X3 N2 g_a
  have Z7 : n0 ≤ h3.size := Nat.le_trans Z0 (Nat.le_of_eq W3.size.symm)
  have K8 : Keep h0 h3 [a] := K0.wr W3 (Or.inl (List.mem_of_getElem? (i := 0) rfl))
  have f9 := F1.same W3
  show own_Go _ _ _ _ T3 (mkF m 9 _ [])
  refine own_st (fun t k => XS.aloadN X3.here hx rfl (hb hby d2_9) rfl rfl k) ?_
  show own_Go _ _ _ _ T3 (mkF m 10 _ [(.ref a)])
  refine own_st (fun t k => XS.lloadN X3.here hx rfl (hb hby d2_10) rfl k) ?_
  show own_Go _ _ _ _ T3 (mkF m 11 _ [(.long x1), (.ref a)])
  obtain ⟨T10, h10, X10, e10, W10, st10⟩ := putF X3 hx hZ hown (host := "") (Or.inl (hw _ (List.mem_of_getElem? (i := 16) rfl))) Via.refl e3 f5 f4 (Or.inr ⟨(hw _ (List.mem_of_getElem? (i := 17) rfl)), rfl, hnm⟩) (hw _ (List.mem_of_getElem? (i := 1) rfl)) (ty := .long) (by decide) rfl rfl (g := (mkF m 11 #[.val (.ref a), .val (.long x0), .second, .val (.long x1), .second] [(.long x1), (.ref a)])) rfl rfl (hb hby d2_11)
  refine own_st st10 ?_
  have f11 := f4.wr W10
  have f12 := f9.other W10 (Or.inr (slot_ne (Or.inr (hw _ (List.mem_of_getElem? (i := 15) rfl))) (Or.inr (hw _ (List.mem_of_getElem? (i := 17) rfl))) (by decide) (t := .long) (t' := .long) (by decide) (by decide)))
  have N13 := Fr.snoc X10 N6 g_a
  have Z14 : n0 ≤ h10.size := Nat.le_trans Z7 (Nat.le_of_eq W10.size.symm)
  have K15 : Keep h0 h10 [a] := K8.wr W10 (Or.inl (List.mem_of_getElem? (i := 0) rfl))
  have f16 := f5.same W10
  show own_Go _ _ _ _ T10 (mkF m 14 _ [])
  subst hPq
  refine own_out X10 (v := none) (fun _ => rfl) Bd.notSynchronized (fun fs hr => X10.returnOut hx Bd.returns (hb hby d2_14) hr) (by decide) (by decide) ?_
  show Q2 Z a x0 x1 u0 u1 h0 n0 _ T10.heap _
  rw [e10]
  exact ⟨rfl, N13, K15, f11, f12, f16⟩
def own_is4 (hi : Int64) (lo : Int64) : Int32 := (if hi = (0 : Int64) then (if (lo &&& (-4294967296 : Int64)) = (281470681743360 : Int64) then (1 : Int32) else (0 : Int32)) else (0 : Int32))
theorem own_is4_b (hi : Int64) (lo : Int64) : (own_is4 hi lo) = 0 ∨ (own_is4 hi lo) = 1 := by
  unfold own_is4
  (repeat' split) <;> first | exact Or.inl rfl | exact Or.inr rfl
theorem d3_0 : decode prog_36_method_11_code 0 = .ok (.aload_n 0, 1) := by decide +kernel
theorem d3_1 : decode prog_36_method_11_code 1 = .ok (.getfield 7, 3) := by decide +kernel
theorem d3_4 : decode prog_36_method_11_code 4 = .ok (.lconst 0, 1) := by decide +kernel
theorem d3_5 : decode prog_36_method_11_code 5 = .ok (.lcmp, 1) := by decide +kernel
theorem d3_6 : decode prog_36_method_11_code 6 = .ok (.ifCond .ne 22, 3) := by decide +kernel
theorem d3_9 : decode prog_36_method_11_code 9 = .ok (.aload_n 0, 1) := by decide +kernel
theorem d3_10 : decode prog_36_method_11_code 10 = .ok (.getfield 13, 3) := by decide +kernel
theorem d3_13 : decode prog_36_method_11_code 13 = .ok (.ldc2_w 149, 3) := by decide +kernel
theorem d3_16 : decode prog_36_method_11_code 16 = .ok (.land, 1) := by decide +kernel
theorem d3_17 : decode prog_36_method_11_code 17 = .ok (.ldc2_w 16, 3) := by decide +kernel
theorem d3_20 : decode prog_36_method_11_code 20 = .ok (.lcmp, 1) := by decide +kernel
theorem d3_21 : decode prog_36_method_11_code 21 = .ok (.ifCond .ne 7, 3) := by decide +kernel
theorem d3_24 : decode prog_36_method_11_code 24 = .ok (.iconst 1, 1) := by decide +kernel
theorem d3_25 : decode prog_36_method_11_code 25 = .ok (.goto 4, 3) := by decide +kernel
theorem d3_28 : decode prog_36_method_11_code 28 = .ok (.iconst 0, 1) := by decide +kernel
theorem d3_29 : decode prog_36_method_11_code 29 = .ok (.ireturn, 1) := by decide +kernel
theorem own_pn3 : plainName "com/example/portcullis/portcullis/IpAddress" = true := by first | (simp [plainName, overriddenIn]; done) | decide +kernel
theorem own_ef3 (m : MethodId) (a : Addr) : entryFrame m #[(.ref a)] 1 = mkF m 0 #[.val (.ref a)] [] := by first | (simp [entryFrame, mkF, argsToLocals, Value.category]; done) | rfl
def Q3 (Z : State) (a : Addr) (hi : Int64) (lo : Int64) (h0 : Heap) (n0 : Nat) (v : Option Value) (h : Heap) (L : List Loc) : Prop := v = some (.int (own_is4 hi lo)) ∧ Fr n0 L ∧ h = h0
set_option maxRecDepth 65536 in
set_option maxHeartbeats 40000000 in
theorem rm3 (l : Launch) (Z : State) (a0 : Array Value) (hw : ∀ d ∈ tables_1, d.before a0 Z = true) (ws : List Jvm.Cond) (a : Addr) (hi : Int64) (lo : Int64) (h0 : Heap) (n0 : Nat) (Z0 : n0 ≤ h0.size) (F0 : Exa Z h0 a "com/example/portcullis/portcullis/IpAddress") (F1 : Fld Z h0 a "com/example/portcullis/portcullis/IpAddress" "high" "J" (.long hi)) (F2 : Fld Z h0 a "com/example/portcullis/portcullis/IpAddress" "low" "J" (.long lo)) :
    MetFree l (⟨"com/example/portcullis/portcullis/IpAddress", "isIpv4", "()Z"⟩ : MethodName) (head1 (Jvm.Cond.code (⟨"com/example/portcullis/portcullis/IpAddress", "isIpv4", "()Z"⟩ : MethodName) prog_36_method_11_code 1 (some .boolean) :: ws) ({ frames := 0, cells := 0, slots := 0, locals := 0 } : Room)) (fun aW U => aW = #[(.ref a)] ∧ Z.Warmed39 U.vm ∧ U.heap = h0) (fun _ _ _ _ _ => True) (fun _ U o U' => ∃ v L, o = .returned v ∧ Q3 Z a hi lo h0 n0 v U'.heap L ∧ FrameEnd U o U' L ({ frames := 0, cells := 0, slots := 0, locals := 0 } : Room).cells ({ frames := 0, cells := 0, slots := 0, locals := 0 } : Room).slots) := by
  refine MetFree.of_bodySF (plainFor_of_name own_pn3) hisR ?_
  intro p e s m args below meth c s₁ Bd hml0 hP hK
  obtain ⟨rfl, hZ, hh⟩ := hP
  have hx := Bd.exec
  have hby := Bd.bytes
  have hml : c.maxLocals = 1 := hml0
  have hown : s.vm.findClass "com/example/portcullis/portcullis/IpAddress" = some m.cls := findClass_of_methodNamed Bd.named
  have hnm := (name_of_methodNamed Bd.named Bd.method).1
  have X0 : Stand p l e ({ frames := 0, cells := 0, slots := 0, locals := 0 } : Room) s m #[(.ref a)] below meth c s₁ [] 0 0 := Stand.of_body Bd
  have e0 : s₁.heap = h0 := by rw [← hh, Bd.state]; rfl
  have N0 := Fr.nil n0
  obtain ⟨Pq, hPq⟩ : ∃ P, P = own_P s below (fun v h L => Q3 Z a hi lo h0 n0 v h L) ({ frames := 0, cells := 0, slots := 0, locals := 0 } : Room).cells ({ frames := 0, cells := 0, slots := 0, locals := 0 } : Room).slots := ⟨_, rfl⟩
  suffices hgo : own_Go p.tables e below Pq s₁ (mkF m 0 #[.val (.ref a)] []) by
    subst hPq
    obtain ⟨t, k1, k2, o, k3, k4⟩ := hgo
    exact ⟨t, o, castTop (own_ef3 m a) k1, k2, k3, k4⟩
  show own_Go _ _ _ _ s₁ (mkF m 0 #[.val (.ref a)] [])
  refine own_st (fun t k => XS.aloadN X0.here hx rfl (hb hby d3_0) rfl rfl k) ?_
  show own_Go _ _ _ _ s₁ (mkF m 1 _ [(.ref a)])
  obtain ⟨T1, X1, e1, st1⟩ := getF X0 hx hZ hown (host := "") (Or.inl (hw _ (List.mem_of_getElem? (i := 14) rfl))) Via.refl e0 F1 (g := (mkF m 1 #[.val (.ref a)] [(.ref a)])) rfl rfl (hb hby d3_1)
  refine own_st st1 ?_
  show own_Go _ _ _ _ T1 (mkF m 4 _ [(.long hi)])
  refine own_st (fun t k => XS.lconst X1.here hx rfl (hb hby d3_4) k) ?_
  show own_Go _ _ _ _ T1 (mkF m 5 _ [(.long (0 : Int64)), (.long hi)])
  refine own_st (fun t k => XS.lcmp X1.here hx rfl (hb hby d3_5) rfl k) ?_
  show own_Go _ _ _ _ T1 (mkF m 6 _ [(.int (lcmpW hi (0 : Int64)))])
  have J8 : ∀ (Tj8 : State) (Lj8 : List Loc) (p9 : Int32), Stand p l e ({ frames := 0, cells := 0, slots := 0, locals := 0 } : Room) s m #[(.ref a)] below meth c Tj8 Lj8 0 0 → Tj8.heap = h0 → Fr n0 Lj8 → p9 = (if hi = (0 : Int64) then (if (lo &&& (-4294967296 : Int64)) = (281470681743360 : Int64) then (1 : Int32) else (0 : Int32)) else (0 : Int32)) → own_Go p.tables e below Pq Tj8 (mkF m 29 #[.val (.ref a)] [(.int p9)]) := by
    intro Tj8 Lj8 p9 Xj8 ej8 Nj8 qp9
    show own_Go _ _ _ _ Tj8 (mkF m 29 _ [(.int p9)])
    have hb_p9 : p9 = 0 ∨ p9 = 1 := by rw [qp9]; (repeat' split) <;> first | exact Or.inl rfl | exact Or.inr rfl | assumption
    subst hPq
    refine own_out Xj8 (v := some (.int p9)) (fun h => by rw [Bd.returns] at h; cases h) Bd.notSynchronized (own_retZ Xj8 hx Bd.returns (hb hby d3_29) hb_p9) (by decide) (by decide) ?_
    show Q3 Z a hi lo h0 n0 _ Tj8.heap _
    rw [ej8]
    exact ⟨by subst_vars; rfl, Nj8, rfl⟩
  by_cases c2 : hi = (0 : Int64)
  · skip
    refine own_st (fun t k => XS.ifNo X1.here hx rfl (hb hby d3_6) rfl (own_lcF (cd := .ne) (not_not_intro c2)) k) ?_
    show own_Go _ _ _ _ T1 (mkF m 9 _ [])
    refine own_st (fun t k => XS.aloadN X1.here hx rfl (hb hby d3_9) rfl rfl k) ?_
    show own_Go _ _ _ _ T1 (mkF m 10 _ [(.ref a)])
    obtain ⟨T3, X3, e3, st3⟩ := getF X1 hx hZ hown (host := "") (Or.inl (hw _ (List.mem_of_getElem? (i := 16) rfl))) Via.refl e1 F2 (g := (mkF m 10 #[.val (.ref a)] [(.ref a)])) rfl rfl (hb hby d3_10)
    refine own_st st3 ?_
    show own_Go _ _ _ _ T3 (mkF m 13 _ [(.long lo)])
    refine own_st (fun t k => X3.ldc2Long hx hown (mvT hZ (hw _ (List.mem_of_getElem? (i := 34) rfl))) (g := (mkF m 13 #[.val (.ref a)] [(.long lo)])) rfl (hb hby d3_13) _ k) ?_
    show own_Go _ _ _ _ T3 (mkF m 16 _ [(.long (-4294967296 : Int64)), (.long lo)])
    refine own_st (fun t k => XS.land X3.here hx rfl (hb hby d3_16) rfl k) ?_
    show own_Go _ _ _ _ T3 (mkF m 17 _ [(.long (lo &&& (-4294967296 : Int64)))])
    refine own_st (fun t k => X3.ldc2Long hx hown (mvT hZ (hw _ (List.mem_of_getElem? (i := 27) rfl))) (g := (mkF m 17 #[.val (.ref a)] [(.long (lo &&& (-4294967296 : Int64)))])) rfl (hb hby d3_17) _ k) ?_
    show own_Go _ _ _ _ T3 (mkF m 20 _ [(.long (281470681743360 : Int64)), (.long (lo &&& (-4294967296 : Int64)))])
    refine own_st (fun t k => XS.lcmp X3.here hx rfl (hb hby d3_20) rfl k) ?_
    show own_Go _ _ _ _ T3 (mkF m 21 _ [(.int (lcmpW (lo &&& (-4294967296 : Int64)) (281470681743360 : Int64)))])
    by_cases c4 : (lo &&& (-4294967296 : Int64)) = (281470681743360 : Int64)
    · skip
      refine own_st (fun t k => XS.ifNo X3.here hx rfl (hb hby d3_21) rfl (own_lcF (cd := .ne) (not_not_intro c4)) k) ?_
      show own_Go _ _ _ _ T3 (mkF m 24 _ [])
      refine own_st (fun t k => XS.iconst X3.here hx rfl (hb hby d3_24) k) ?_
      show own_Go _ _ _ _ T3 (mkF m 25 _ [(.int (1 : Int32))])
      refine own_st (fun t k => XS.goto X3.here hx rfl (pc0 := 25) (pc' := 29) rfl (hb hby d3_25) (by decide) (by decide) k) ?_
      show own_Go _ _ _ _ T3 (mkF m 29 _ [(.int (1 : Int32))])
      exact J8 T3 _ _ X3 e3 N0 (by simp only [if_pos c2, if_pos c4])
    · skip
      refine own_st (fun t k => XS.ifYes X3.here hx rfl (pc0 := 21) (pc' := 28) rfl (hb hby d3_21) rfl (own_lcT (cd := .ne) c4) (by decide) (by decide) k) ?_
      show own_Go _ _ _ _ T3 (mkF m 28 _ [])
      refine own_st (fun t k => XS.iconst X3.here hx rfl (hb hby d3_28) k) ?_
      show own_Go _ _ _ _ T3 (mkF m 29 _ [(.int (0 : Int32))])
      exact J8 T3 _ _ X3 e3 N0 (by simp only [if_pos c2, if_neg c4])
  · skip
    refine own_st (fun t k => XS.ifYes X1.here hx rfl (pc0 := 6) (pc' := 28) rfl (hb hby d3_6) rfl (own_lcT (cd := .ne) c2) (by decide) (by decide) k) ?_
    show own_Go _ _ _ _ T1 (mkF m 28 _ [])
    refine own_st (fun t k => XS.iconst X1.here hx rfl (hb hby d3_28) k) ?_
    show own_Go _ _ _ _ T1 (mkF m 29 _ [(.int (0 : Int32))])
    exact J8 T1 _ _ X1 e1 N0 (by simp only [if_neg c2])
def own_tul (x0 : Int32) : Int64 := (x0.toInt64 &&& (4294967295 : Int64))
theorem d4_0 : decode jdk_33_method_42_code 0 = .ok (.iload_n 0, 1) := by decide +kernel
theorem d4_1 : decode jdk_33_method_42_code 1 = .ok (.i2l, 1) := by decide +kernel
theorem d4_2 : decode jdk_33_method_42_code 2 = .ok (.ldc2_w 262, 3) := by decide +kernel
theorem d4_5 : decode jdk_33_method_42_code 5 = .ok (.land, 1) := by decide +kernel
theorem d4_6 : decode jdk_33_method_42_code 6 = .ok (.lreturn, 1) := by decide +kernel
theorem own_pn4 : plainName "java/lang/Integer" = true := by first | (simp [plainName, overriddenIn]; done) | decide +kernel
theorem own_ef4 (m : MethodId) (x0 : Int32) : entryFrame m #[(.int x0)] 1 = mkF m 0 #[.val (.int x0)] [] := by first | (simp [entryFrame, mkF, argsToLocals, Value.category]; done) | rfl
def Q4 (Z : State) (x0 : Int32) (h0 : Heap) (n0 : Nat) (v : Option Value) (h : Heap) (L : List Loc) : Prop := v = some (.long (own_tul x0)) ∧ Fr n0 L ∧ h = h0
set_option maxRecDepth 65536 in
set_option maxHeartbeats 40000000 in
theorem rm4 (l : Launch) (Z : State) (a0 : Array Value) (hw : ∀ d ∈ tables_1, d.before a0 Z = true) (ws : List Jvm.Cond) (x0 : Int32) (h0 : Heap) (n0 : Nat) (Z0 : n0 ≤ h0.size) :
    MetFree l (⟨"java/lang/Integer", "toUnsignedLong", "(I)J"⟩ : MethodName) (head1 (Jvm.Cond.code (⟨"java/lang/Integer", "toUnsignedLong", "(I)J"⟩ : MethodName) jdk_33_method_42_code 1 (some .long) :: ws) ({ frames := 0, cells := 0, slots := 0, locals := 0 } : Room)) (fun aW U => aW = #[(.int x0)] ∧ Z.Warmed39 U.vm ∧ U.heap = h0) (fun _ _ _ _ _ => True) (fun _ U o U' => ∃ v L, o = .returned v ∧ Q4 Z x0 h0 n0 v U'.heap L ∧ FrameEnd U o U' L ({ frames := 0, cells := 0, slots := 0, locals := 0 } : Room).cells ({ frames := 0, cells := 0, slots := 0, locals := 0 } : Room).slots) := by
  refine MetFree.of_bodySF (plainFor_of_name own_pn4) hisR ?_
  intro p e s m args below meth c s₁ Bd hml0 hP hK
  obtain ⟨rfl, hZ, hh⟩ := hP
  have hx := Bd.exec
  have hby := Bd.bytes
  have hml : c.maxLocals = 1 := hml0
  have hown : s.vm.findClass "java/lang/Integer" = some m.cls := findClass_of_methodNamed Bd.named
  have hnm := (name_of_methodNamed Bd.named Bd.method).1
  have X0 : Stand p l e ({ frames := 0, cells := 0, slots := 0, locals := 0 } : Room) s m #[(.int x0)] below meth c s₁ [] 0 0 := Stand.of_body Bd
  have e0 : s₁.heap = h0 := by rw [← hh, Bd.state]; rfl
  have N0 := Fr.nil n0
  obtain ⟨Pq, hPq⟩ : ∃ P, P = own_P s below (fun v h L => Q4 Z x0 h0 n0 v h L) ({ frames := 0, cells := 0, slots := 0, locals := 0 } : Room).cells ({ frames := 0, cells := 0, slots := 0, locals := 0 } : Room).slots := ⟨_, rfl⟩
  suffices hgo : own_Go p.tables e below Pq s₁ (mkF m 0 #[.val (.int x0)] []) by
    subst hPq
    obtain ⟨t, k1, k2, o, k3, k4⟩ := hgo
    exact ⟨t, o, castTop (own_ef4 m x0) k1, k2, k3, k4⟩
  show own_Go _ _ _ _ s₁ (mkF m 0 #[.val (.int x0)] [])
  refine own_st (fun t k => XS.iloadN X0.here hx rfl (hb hby d4_0) rfl k) ?_
  show own_Go _ _ _ _ s₁ (mkF m 1 _ [(.int x0)])
  refine own_st (fun t k => XS.i2l X0.here hx rfl (hb hby d4_1) rfl k) ?_
  show own_Go _ _ _ _ s₁ (mkF m 2 _ [(.long x0.toInt64)])
  refine own_st (fun t k => X0.ldc2Long hx hown (mvT hZ (hw _ (List.mem_of_getElem? (i := 32) rfl))) (g := (mkF m 2 #[.val (.int x0)] [(.long x0.toInt64)])) rfl (hb hby d4_2) _ k) ?_
  show own_Go _ _ _ _ s₁ (mkF m 5 _ [(.long (4294967295 : Int64)), (.long x0.toInt64)])
  refine own_st (fun t k => XS.land X0.here hx rfl (hb hby d4_5) rfl k) ?_
  show own_Go _ _ _ _ s₁ (mkF m 6 _ [(.long (x0.toInt64 &&& (4294967295 : Int64)))])
  subst hPq
  refine own_out X0 (v := some (.long (x0.toInt64 &&& (4294967295 : Int64)))) (fun h => by rw [Bd.returns] at h; cases h) Bd.notSynchronized (own_retJ X0 hx Bd.returns (hb hby d4_6)) (by decide) (by decide) ?_
  show Q4 Z x0 h0 n0 _ s₁.heap _
  rw [e0]
  exact ⟨by subst_vars; rfl, N0, rfl⟩
theorem d5_0 : decode prog_36_method_2_code 0 = .ok (.new 8, 3) := by decide +kernel
theorem d5_3 : decode prog_36_method_2_code 3 = .ok (.dup, 1) := by decide +kernel
theorem d5_4 : decode prog_36_method_2_code 4 = .ok (.lconst 0, 1) := by decide +kernel
theorem d5_5 : decode prog_36_method_2_code 5 = .ok (.ldc2_w 16, 3) := by decide +kernel
theorem d5_8 : decode prog_36_method_2_code 8 = .ok (.iload_n 0, 1) := by decide +kernel
theorem d5_9 : decode prog_36_method_2_code 9 = .ok (.invokestatic 18, 3) := by decide +kernel
theorem d5_12 : decode prog_36_method_2_code 12 = .ok (.lor, 1) := by decide +kernel
theorem d5_13 : decode prog_36_method_2_code 13 = .ok (.invokespecial 24, 3) := by decide +kernel
theorem d5_16 : decode prog_36_method_2_code 16 = .ok (.areturn, 1) := by decide +kernel
theorem own_pn5 : plainName "com/example/portcullis/portcullis/IpAddress" = true := by first | (simp [plainName, overriddenIn]; done) | decide +kernel
theorem own_ef5 (m : MethodId) (x0 : Int32) : entryFrame m #[(.int x0)] 1 = mkF m 0 #[.val (.int x0)] [] := by first | (simp [entryFrame, mkF, argsToLocals, Value.category]; done) | rfl
def Q5 (Z : State) (x0 : Int32) (h0 : Heap) (n0 : Nat) (v : Option Value) (h : Heap) (L : List Loc) : Prop := ∃ (b : Addr), v = some (.ref b) ∧ Fr n0 L ∧ Keep h0 h [] ∧ n0 ≤ b ∧ h0.size ≤ b ∧ Exa Z h b "com/example/portcullis/portcullis/IpAddress" ∧ Fld Z h b "com/example/portcullis/portcullis/IpAddress" "high" "J" (.long (0 : Int64)) ∧ Fld Z h b "com/example/portcullis/portcullis/IpAddress" "low" "J" (.long ((281470681743360 : Int64) ||| (own_tul x0)))
set_option maxRecDepth 65536 in
set_option maxHeartbeats 40000000 in
theorem rm5 (l : Launch) (Z : State) (a0 : Array Value) (hw : ∀ d ∈ tables_1, d.before a0 Z = true) (ws : List Jvm.Cond) (x0 : Int32) (h0 : Heap) (n0 : Nat) (Z0 : n0 ≤ h0.size) :
    MetFree l (⟨"com/example/portcullis/portcullis/IpAddress", "ofIpv4", "(I)Lcom/example/portcullis/portcullis/IpAddress;"⟩ : MethodName) (head1 (Jvm.Cond.code (⟨"com/example/portcullis/portcullis/IpAddress", "ofIpv4", "(I)Lcom/example/portcullis/portcullis/IpAddress;"⟩ : MethodName) prog_36_method_2_code 1 (some (.object "com/example/portcullis/portcullis/IpAddress")) :: ws) ({ frames := 3, cells := 1, slots := 2, locals := 41 } : Room)) (fun aW U => aW = #[(.int x0)] ∧ Z.Warmed39 U.vm ∧ U.heap = h0) (fun _ _ _ _ _ => True) (fun _ U o U' => ∃ v L, o = .returned v ∧ Q5 Z x0 h0 n0 v U'.heap L ∧ FrameEnd U o U' L ({ frames := 3, cells := 1, slots := 2, locals := 41 } : Room).cells ({ frames := 3, cells := 1, slots := 2, locals := 41 } : Room).slots) := by
  refine MetFree.of_bodySF (plainFor_of_name own_pn5) hisR ?_
  intro p e s m args below meth c s₁ Bd hml0 hP hK
  obtain ⟨rfl, hZ, hh⟩ := hP
  have hx := Bd.exec
  have hby := Bd.bytes
  have hml : c.maxLocals = 1 := hml0
  have hown : s.vm.findClass "com/example/portcullis/portcullis/IpAddress" = some m.cls := findClass_of_methodNamed Bd.named
  have hnm := (name_of_methodNamed Bd.named Bd.method).1
  have X0 : Stand p l e ({ frames := 3, cells := 1, slots := 2, locals := 41 } : Room) s m #[(.int x0)] below meth c s₁ [] 0 0 := Stand.of_body Bd
  have e0 : s₁.heap = h0 := by rw [← hh, Bd.state]; rfl
  have N0 := Fr.nil n0
  have K0 : Keep h0 h0 [] := Keep.refl _ _
  obtain ⟨Pq, hPq⟩ : ∃ P, P = own_P s below (fun v h L => Q5 Z x0 h0 n0 v h L) ({ frames := 3, cells := 1, slots := 2, locals := 41 } : Room).cells ({ frames := 3, cells := 1, slots := 2, locals := 41 } : Room).slots := ⟨_, rfl⟩
  suffices hgo : own_Go p.tables e below Pq s₁ (mkF m 0 #[.val (.int x0)] []) by
    subst hPq
    obtain ⟨t, k1, k2, o, k3, k4⟩ := hgo
    exact ⟨t, o, castTop (own_ef5 m x0) k1, k2, k3, k4⟩
  show own_Go _ _ _ _ s₁ (mkF m 0 #[.val (.int x0)] [])
  obtain ⟨T1, h1, X1, e1, E1, A1, D1, -, st1⟩ := newO X0 hx hZ hown (hw _ (List.mem_of_getElem? (i := 26) rfl)) (hw _ (List.mem_of_getElem? (i := 1) rfl)) (hw _ (List.mem_of_getElem? (i := 2) rfl)) e0 (g := (mkF m 0 #[.val (.int x0)] [])) rfl (hb hby d5_0) (by decide) (by decide)
  obtain ⟨b1, g1⟩ : ∃ z, z = h0.size := ⟨_, rfl⟩
  rw [← g1] at A1 D1 st1
  refine own_st st1 ?_
  have gx2 : n0 ≤ b1 := Nat.le_trans Z0 (Nat.le_of_eq g1.symm)
  have Z3 : n0 ≤ h1.size := Nat.le_trans Z0 E1.1
  have sz5 : h0.size ≤ b1 := Nat.le_trans K0.1 (Nat.le_of_eq g1.symm)
  have K4 : Keep h0 h1 [] := K0.ext E1
  have f6 : Fld Z h1 b1 "com/example/portcullis/portcullis/IpAddress" "high" "J" (.long (0 : Int64)) := D1 (Or.inr (hw _ (List.mem_of_getElem? (i := 15) rfl))) (ty := .long) (by decide)
  have f7 : Fld Z h1 b1 "com/example/portcullis/portcullis/IpAddress" "low" "J" (.long (0 : Int64)) := D1 (Or.inr (hw _ (List.mem_of_getElem? (i := 17) rfl))) (ty := .long) (by decide)
  show own_Go _ _ _ _ T1 (mkF m 3 _ [(.ref b1)])
  refine own_st (fun t k => XS.dup X1.here hx rfl (hb hby d5_3) rfl rfl k) ?_
  show own_Go _ _ _ _ T1 (mkF m 4 _ [(.ref b1), (.ref b1)])
  refine own_st (fun t k => XS.lconst X1.here hx rfl (hb hby d5_4) k) ?_
  show own_Go _ _ _ _ T1 (mkF m 5 _ [(.long (0 : Int64)), (.ref b1), (.ref b1)])
  refine own_st (fun t k => X1.ldc2Long hx hown (mvT hZ (hw _ (List.mem_of_getElem? (i := 27) rfl))) (g := (mkF m 5 #[.val (.int x0)] [(.long (0 : Int64)), (.ref b1), (.ref b1)])) rfl (hb hby d5_5) _ k) ?_
  show own_Go _ _ _ _ T1 (mkF m 8 _ [(.long (281470681743360 : Int64)), (.long (0 : Int64)), (.ref b1), (.ref b1)])
  refine own_st (fun t k => XS.iloadN X1.here hx rfl (hb hby d5_8) rfl k) ?_
  show own_Go _ _ _ _ T1 (mkF m 9 _ [(.int x0), (.long (281470681743360 : Int64)), (.long (0 : Int64)), (.ref b1), (.ref b1)])
  obtain ⟨_, _, ⟨T8, L8, k8, n8⟩, -, X8, ⟨Lc8, hQ8, l8, y8, z8⟩, st8⟩ := Jvm.LawKit.callS X1 hx (y := (⟨"java/lang/Integer", "toUnsignedLong", "(I)J"⟩ : MethodName)) hown (mvT hZ (hw _ (List.mem_of_getElem? (i := 28) rfl))) (mvT hZ (hw _ (List.mem_of_getElem? (i := 29) rfl))) (mvT hZ (hw _ (List.mem_of_getElem? (i := 30) rfl))) (mvT hZ (hw _ (List.mem_of_getElem? (i := 31) rfl))) (by decide) (backOf (W := 6) (rm4 l Z a0 hw [] x0 h1 n0 Z3 ) hZ (hw _ (List.mem_of_getElem? (i := 31) rfl)) (hw _ (List.mem_of_getElem? (i := 30) rfl)) (by decide) (by decide)) (g := (mkF m 9 #[.val (.int x0)] [(.int x0), (.long (281470681743360 : Int64)), (.long (0 : Int64)), (.ref b1), (.ref b1)])) rfl (by rw [hml]; rfl) (argsL := [(.int x0)]) (rest := [(.long (281470681743360 : Int64)), (.long (0 : Int64)), (.ref b1), (.ref b1)]) (lenOf own_pd__I_J rfl) rfl (by show 2 * 0 + _ ≤ _; exact Nat.le_of_eq rfl) (hb hby d5_9) (fun _ _ => ⟨rfl, e1, (by decide : 1 + 0 ≤ _), (by decide : 2 + 0 ≤ _)⟩)
  dsimp only [Pt.U, Pt.locs, Pt.cells, Pt.slots] at X8 l8 y8 z8 st8 hQ8
  subst l8 y8 z8
  obtain ⟨rfl, NQ8, eq8⟩ := hQ8
  have N9 := Fr.app N0 NQ8
  refine own_st st8 ?_
  show own_Go _ _ _ _ T8 (mkF m 12 _ [(.long (own_tul x0)), (.long (281470681743360 : Int64)), (.long (0 : Int64)), (.ref b1), (.ref b1)])
  refine own_st (fun t k => XS.lor X8.here hx rfl (hb hby d5_12) rfl k) ?_
  show own_Go _ _ _ _ T8 (mkF m 13 _ [(.long ((281470681743360 : Int64) ||| (own_tul x0))), (.long (0 : Int64)), (.ref b1), (.ref b1)])
  obtain ⟨_, _, ⟨T10, L10, k10, n10⟩, -, X10, ⟨Lc10, hQ10, l10, y10, z10⟩, st10⟩ := X8.specialBack hx (y := (⟨"com/example/portcullis/portcullis/IpAddress", "<init>", "(JJ)V"⟩ : MethodName)) rfl hown (mvT hZ (hw _ (List.mem_of_getElem? (i := 33) rfl))) (mvT hZ (hw _ (List.mem_of_getElem? (i := 4) rfl))) (mvT hZ (hw _ (List.mem_of_getElem? (i := 5) rfl))) (by decide) (backOf (W := 1) (rm2 l Z a0 hw [] b1 (0 : Int64) ((281470681743360 : Int64) ||| (own_tul x0)) (.long (0 : Int64)) (.long (0 : Int64)) h1 n0 Z3 A1 f6 f7 gx2) hZ (hw _ (List.mem_of_getElem? (i := 5) rfl)) (hw _ (List.mem_of_getElem? (i := 2) rfl)) (by decide) (by decide)) (g := (mkF m 13 #[.val (.int x0)] [(.long ((281470681743360 : Int64) ||| (own_tul x0))), (.long (0 : Int64)), (.ref b1), (.ref b1)])) rfl (by rw [hml]; rfl) (Steps.refl _) (a := b1) (argsL := [(.long (0 : Int64)), (.long ((281470681743360 : Int64) ||| (own_tul x0)))]) (rest := [(.ref b1)]) (lenOf own_pd__JJ_V rfl) rfl (by show 2 * 0 + _ ≤ _; exact Nat.le_of_eq rfl) (hb hby d5_13) (fun _ _ => ⟨rfl, eq8, (by decide : 1 + 0 ≤ _), (by decide : 2 + 0 ≤ _)⟩)
  dsimp only [Pt.U, Pt.locs, Pt.cells, Pt.slots] at X10 l10 y10 z10 st10 hQ10
  subst l10 y10 z10
  obtain ⟨rfl, NQ10, K10, fq10_0, fq10_1, fq10_2⟩ := hQ10
  have N11 := Fr.app N9 NQ10
  refine own_st (fun t k => st10.trans k) ?_
  have f12 := A1.keep K10
  have Z13 : n0 ≤ T10.heap.size := Nat.le_trans Z3 K10.1
  have K14 : Keep h0 T10.heap [] := K4.trans K10 (allS (Or.inr sz5) all0)
  show own_Go _ _ _ _ T10 (mkF m 16 _ [(.ref b1)])
  subst hPq
  refine own_out X10 (v := some (.ref b1)) (fun h => by rw [Bd.returns] at h; cases h) Bd.notSynchronized (own_retR X10 hx (t := (.object "com/example/portcullis/portcullis/IpAddress")) Bd.returns rfl rfl rfl (hb hby d5_16)) (by decide) (by decide) ?_
  show Q5 Z x0 h0 n0 _ T10.heap _
  exact ⟨b1, rfl, N11, K14, gx2, sz5, fq10_0, fq10_1, fq10_2⟩
theorem own_hi (b : BitVec 64) : b &&& 18446744069414584320#64 = (b >>> 32) <<< 32 := by
  have hm : ∀ i : Fin 64, (18446744069414584320#64).getLsbD i.val = decide (32 ≤ i.val) := by decide
  apply BitVec.eq_of_getLsbD_eq
  intro i hi
  rw [BitVec.getLsbD_and, hm ⟨i, hi⟩, BitVec.getLsbD_shiftLeft, BitVec.getLsbD_ushiftRight]
  by_cases h : 32 ≤ i
  · have e : 32 + (i - 32) = i := by omega
    simp [h, hi, e, Nat.not_lt.mpr h]
  · simp [h, Nat.lt_of_not_le h]
theorem own_top (z : Int64) : (z &&& (-4294967296 : Int64)) = (281470681743360 : Int64) ↔ ((z.toUInt64 >>> ((32 : Int32) &&& 0x3f).toInt64.toUInt64).toInt64).toInt32 = (65535 : Int32) := by
  have e1 : ((z.toUInt64 >>> ((32 : Int32) &&& 0x3f).toInt64.toUInt64).toInt64).toInt32.toBitVec = (z.toBitVec >>> 32).setWidth 32 := by
    rw [Int64.toBitVec_toInt32, BitVec.signExtend_eq_setWidth_of_le _ (by decide)]; rfl
  rw [← Int64.toBitVec_inj, ← Int32.toBitVec_inj, e1, Int64.toBitVec_and]
  rw [show (-4294967296 : Int64).toBitVec = 18446744069414584320#64 from rfl, own_hi]
  generalize z.toBitVec = b
  rw [← BitVec.toNat_inj, ← BitVec.toNat_inj]
  rw [BitVec.toNat_shiftLeft, BitVec.toNat_setWidth, BitVec.toNat_ushiftRight, Nat.shiftRight_eq_div_pow, Nat.shiftLeft_eq]
  show _ = 281470681743360 ↔ _ = 65535
  have := b.isLt
  omega
theorem own_m44 (x : Int32) : own_is4 (0 : Int64) ((281470681743360 : Int64) ||| (own_tul x)) = 1 := by
  unfold own_is4 own_tul
  rw [if_pos rfl, if_pos]
  apply Int64.toBitVec_inj.mp
  rw [Int64.toBitVec_and, Int64.toBitVec_or, Int64.toBitVec_and]
  generalize x.toInt64.toBitVec = b
  have h : ∀ i : Fin 64, (((281470681743360 : Int64).toBitVec.getLsbD i.val || (4294967295 : Int64).toBitVec.getLsbD i.val) && (-4294967296 : Int64).toBitVec.getLsbD i.val) = (281470681743360 : Int64).toBitVec.getLsbD i.val := by decide
  have h2 : ∀ i : Fin 64, (((281470681743360 : Int64).toBitVec.getLsbD i.val || false) && (-4294967296 : Int64).toBitVec.getLsbD i.val) = (281470681743360 : Int64).toBitVec.getLsbD i.val := by decide
  apply BitVec.eq_of_getLsbD_eq
  intro i hi
  rw [BitVec.getLsbD_and, BitVec.getLsbD_or, BitVec.getLsbD_and]
  have a := h ⟨i, hi⟩; have c := h2 ⟨i, hi⟩
  cases b.getLsbD i
  · rw [Bool.false_and]; exact c
  · rw [Bool.true_and]; exact a
theorem own_pn0 : plainName "com/example/portcullis/portcullis/IpAddressIsIpv4PinLaw" = true := by first | (simp [plainName, overriddenIn]; done) | decide +kernel
theorem own_ef0 (m : MethodId) (x0 : Int64) (x1 : Int64) (x2 : Int32) : entryFrame m #[(.long x0), (.long x1), (.int x2)] maxLocals = mkF m 0 #[.val (.long x0), .second, .val (.long x1), .second, .val (.int x2), .unset, .unset, .unset, .unset, .unset, .unset, .unset] [] := by first | (simp [entryFrame, mkF, argsToLocals, Value.category, maxLocals]; done) | rfl
def Q0 (Z : State) (x0 : Int64) (x1 : Int64) (x2 : Int32) (h0 : Heap) (n0 : Nat) (v : Option Value) (h : Heap) (L : List Loc) : Prop := v = some (.int 1) ∧ Fr n0 L
theorem own_law (x0 : Int64) (x1 : Int64) (x2 : Int32) (p5 : Int64) (p10 : Int64) (p15 : Int64) (p22 : Int32) (v34 : Int32) (v44 : Int32) (p51 : Int32) (qp5 : p5 = (if (x2 &&& (1 : Int32)) = (0 : Int32) then x0 else (0 : Int64))) (qp10 : p10 = (if (x2 &&& (2 : Int32)) = (0 : Int32) then x1 else ((281470681743360 : Int64) ||| (x1 &&& (4294967295 : Int64))))) (qp15 : p15 = (if (x2 &&& (4 : Int32)) = (0 : Int32) then p10 else (p10 ^^^ ((1 : Int64) <<< (((32 : Int32) + (((x2.toUInt32 >>> ((3 : Int32) &&& 31).toUInt32).toInt32) &&& (31 : Int32))) &&& 0x3f).toInt64)))) (qp22 : p22 = (if p5 = (0 : Int64) then (if ((p15.toUInt64 >>> ((32 : Int32) &&& 0x3f).toInt64.toUInt64).toInt64).toInt32 = (65535 : Int32) then (1 : Int32) else (0 : Int32)) else (0 : Int32))) (hv34 : (own_is4 p5 p15) = v34) (hv44 : (own_is4 (0 : Int64) ((281470681743360 : Int64) ||| (own_tul x1.toInt32))) = v44) (qp51 : p51 = (if v34 = p22 then (if v44 = (0 : Int32) then (0 : Int32) else (1 : Int32)) else (0 : Int32))) : p51 = 1 := by
  have a : v34 = p22 := by
    rw [← hv34, qp22]; unfold own_is4
    by_cases h : p5 = 0
    · rw [if_pos h, if_pos h]
      by_cases g : (p15 &&& (-4294967296 : Int64)) = (281470681743360 : Int64)
      · rw [if_pos g, if_pos ((own_top p15).mp g)]
      · rw [if_neg g, if_neg (fun q => g ((own_top p15).mpr q))]
    · rw [if_neg h, if_neg h]
  rw [own_m44] at hv44
  rw [qp51, if_pos a, ← hv44]; rfl
set_option maxRecDepth 65536 in
set_option maxHeartbeats 40000000 in
theorem rm0 (l : Launch) (Z : State) (a0 : Array Value) (hw : ∀ d ∈ tables_1, d.before a0 Z = true) (ws : List Jvm.Cond) (x0 : Int64) (x1 : Int64) (x2 : Int32) (h0 : Heap) (n0 : Nat) (Z0 : n0 ≤ h0.size) :
    MetFree l x (head1 (Jvm.Cond.code x code maxLocals ret :: ws) room_1) (fun aW U => aW = #[(.long x0), (.long x1), (.int x2)] ∧ Z.Warmed39 U.vm ∧ U.heap = h0) (fun _ _ _ _ _ => True) (fun _ U o U' => ∃ v L, o = .returned v ∧ Q0 Z x0 x1 x2 h0 n0 v U'.heap L ∧ FrameEnd U o U' L 16 128) := by
  refine MetFree.of_bodySF (plainFor_of_name own_pn0) hisR ?_
  intro p e s m args below meth c s₁ Bd hml0 hP hK
  obtain ⟨rfl, hZ, hh⟩ := hP
  have hx := Bd.exec
  have hby := Bd.bytes
  have hml : c.maxLocals = 12 := hml0
  have hown : s.vm.findClass "com/example/portcullis/portcullis/IpAddressIsIpv4PinLaw" = some m.cls := findClass_of_methodNamed Bd.named
  have hnm := (name_of_methodNamed Bd.named Bd.method).1
  have X0 : Stand p l e room_1 s m #[(.long x0), (.long x1), (.int x2)] below meth c s₁ [] 0 0 := Stand.of_body Bd
  have e0 : s₁.heap = h0 := by rw [← hh, Bd.state]; rfl
  have N0 := Fr.nil n0
  obtain ⟨Pq, hPq⟩ : ∃ P, P = own_P s below (fun v h L => Q0 Z x0 x1 x2 h0 n0 v h L) 16 128 := ⟨_, rfl⟩
  suffices hgo : own_Go p.tables e below Pq s₁ (mkF m 0 #[.val (.long x0), .second, .val (.long x1), .second, .val (.int x2), .unset, .unset, .unset, .unset, .unset, .unset, .unset] []) by
    subst hPq
    obtain ⟨t, k1, k2, o, k3, k4⟩ := hgo
    exact ⟨t, o, castTop (own_ef0 m x0 x1 x2) k1, k2, k3, k4⟩
  show own_Go _ _ _ _ s₁ (mkF m 0 #[.val (.long x0), .second, .val (.long x1), .second, .val (.int x2), .unset, .unset, .unset, .unset, .unset, .unset, .unset] [])
  refine own_st (fun t k => XS.iload X0.here hx rfl (hb hby at_0) rfl k) ?_
  show own_Go _ _ _ _ s₁ (mkF m 2 _ [(.int x2)])
  refine own_st (fun t k => XS.iconst X0.here hx rfl (hb hby at_2) k) ?_
  show own_Go _ _ _ _ s₁ (mkF m 3 _ [(.int (1 : Int32)), (.int x2)])
  refine own_st (fun t k => XS.iand X0.here hx rfl (hb hby at_3) rfl k) ?_
  show own_Go _ _ _ _ s₁ (mkF m 4 _ [(.int (x2 &&& (1 : Int32)))])
  have J4 : ∀ (Tj4 : State) (Lj4 : List Loc) (p5 : Int64), Stand p l e room_1 s m #[(.long x0), (.long x1), (.int x2)] below meth c Tj4 Lj4 0 0 → Tj4.heap = h0 → Fr n0 Lj4 → p5 = (if (x2 &&& (1 : Int32)) = (0 : Int32) then x0 else (0 : Int64)) → own_Go p.tables e below Pq Tj4 (mkF m 12 #[.val (.long x0), .second, .val (.long x1), .second, .val (.int x2), .unset, .unset, .unset, .unset, .unset, .unset, .unset] [(.long p5)]) := by
    intro Tj4 Lj4 p5 Xj4 ej4 Nj4 qp5
    show own_Go _ _ _ _ Tj4 (mkF m 12 _ [(.long p5)])
    refine own_st (fun t k => XS.lstore Xj4.here hx rfl (hb hby at_12) rfl (l' := #[.val (.long x0), .second, .val (.long x1), .second, .val (.int x2), .val (.long p5), .second, .unset, .unset, .unset, .unset, .unset]) rfl k) ?_
    show own_Go _ _ _ _ Tj4 (mkF m 14 #[.val (.long x0), .second, .val (.long x1), .second, .val (.int x2), .val (.long p5), .second, .unset, .unset, .unset, .unset, .unset] [])
    refine own_st (fun t k => XS.iload Xj4.here hx rfl (hb hby at_14) rfl k) ?_
    show own_Go _ _ _ _ Tj4 (mkF m 16 _ [(.int x2)])
    refine own_st (fun t k => XS.iconst Xj4.here hx rfl (hb hby at_16) k) ?_
    show own_Go _ _ _ _ Tj4 (mkF m 17 _ [(.int (2 : Int32)), (.int x2)])
    refine own_st (fun t k => XS.iand Xj4.here hx rfl (hb hby at_17) rfl k) ?_
    show own_Go _ _ _ _ Tj4 (mkF m 18 _ [(.int (x2 &&& (2 : Int32)))])
    have J9 : ∀ (Tj9 : State) (Lj9 : List Loc) (p10 : Int64), Stand p l e room_1 s m #[(.long x0), (.long x1), (.int x2)] below meth c Tj9 Lj9 0 0 → Tj9.heap = h0 → Fr n0 Lj9 → p10 = (if (x2 &&& (2 : Int32)) = (0 : Int32) then x1 else ((281470681743360 : Int64) ||| (x1 &&& (4294967295 : Int64)))) → own_Go p.tables e below Pq Tj9 (mkF m 34 #[.val (.long x0), .second, .val (.long x1), .second, .val (.int x2), .val (.long p5), .second, .unset, .unset, .unset, .unset, .unset] [(.long p10)]) := by
      intro Tj9 Lj9 p10 Xj9 ej9 Nj9 qp10
      show own_Go _ _ _ _ Tj9 (mkF m 34 _ [(.long p10)])
      refine own_st (fun t k => XS.lstore Xj9.here hx rfl (hb hby at_34) rfl (l' := #[.val (.long x0), .second, .val (.long x1), .second, .val (.int x2), .val (.long p5), .second, .val (.long p10), .second, .unset, .unset, .unset]) rfl k) ?_
      show own_Go _ _ _ _ Tj9 (mkF m 36 #[.val (.long x0), .second, .val (.long x1), .second, .val (.int x2), .val (.long p5), .second, .val (.long p10), .second, .unset, .unset, .unset] [])
      refine own_st (fun t k => XS.iload Xj9.here hx rfl (hb hby at_36) rfl k) ?_
      show own_Go _ _ _ _ Tj9 (mkF m 38 _ [(.int x2)])
      refine own_st (fun t k => XS.iconst Xj9.here hx rfl (hb hby at_38) k) ?_
      show own_Go _ _ _ _ Tj9 (mkF m 39 _ [(.int (4 : Int32)), (.int x2)])
      refine own_st (fun t k => XS.iand Xj9.here hx rfl (hb hby at_39) rfl k) ?_
      show own_Go _ _ _ _ Tj9 (mkF m 40 _ [(.int (x2 &&& (4 : Int32)))])
      have J14 : ∀ (Tj14 : State) (Lj14 : List Loc) (p15 : Int64), Stand p l e room_1 s m #[(.long x0), (.long x1), (.int x2)] below meth c Tj14 Lj14 0 0 → Tj14.heap = h0 → Fr n0 Lj14 → p15 = (if (x2 &&& (4 : Int32)) = (0 : Int32) then p10 else (p10 ^^^ ((1 : Int64) <<< (((32 : Int32) + (((x2.toUInt32 >>> ((3 : Int32) &&& 31).toUInt32).toInt32) &&& (31 : Int32))) &&& 0x3f).toInt64))) → own_Go p.tables e below Pq Tj14 (mkF m 60 #[.val (.long x0), .second, .val (.long x1), .second, .val (.int x2), .val (.long p5), .second, .val (.long p15), .second, .unset, .unset, .unset] []) := by
        intro Tj14 Lj14 p15 Xj14 ej14 Nj14 qp15
        show own_Go _ _ _ _ Tj14 (mkF m 60 #[.val (.long x0), .second, .val (.long x1), .second, .val (.int x2), .val (.long p5), .second, .val (.long p15), .second, .unset, .unset, .unset] [])
        refine own_st (fun t k => XS.lload Xj14.here hx rfl (hb hby at_60) rfl k) ?_
        show own_Go _ _ _ _ Tj14 (mkF m 62 _ [(.long p5)])
        refine own_st (fun t k => XS.lconst Xj14.here hx rfl (hb hby at_62) k) ?_
        show own_Go _ _ _ _ Tj14 (mkF m 63 _ [(.long (0 : Int64)), (.long p5)])
        refine own_st (fun t k => XS.lcmp Xj14.here hx rfl (hb hby at_63) rfl k) ?_
        show own_Go _ _ _ _ Tj14 (mkF m 64 _ [(.int (lcmpW p5 (0 : Int64)))])
        have J21 : ∀ (Tj21 : State) (Lj21 : List Loc) (p22 : Int32), Stand p l e room_1 s m #[(.long x0), (.long x1), (.int x2)] below meth c Tj21 Lj21 0 0 → Tj21.heap = h0 → Fr n0 Lj21 → p22 = (if p5 = (0 : Int64) then (if ((p15.toUInt64 >>> ((32 : Int32) &&& 0x3f).toInt64.toUInt64).toInt64).toInt32 = (65535 : Int32) then (1 : Int32) else (0 : Int32)) else (0 : Int32)) → own_Go p.tables e below Pq Tj21 (mkF m 83 #[.val (.long x0), .second, .val (.long x1), .second, .val (.int x2), .val (.long p5), .second, .val (.long p15), .second, .unset, .unset, .unset] [(.int p22)]) := by
          intro Tj21 Lj21 p22 Xj21 ej21 Nj21 qp22
          show own_Go _ _ _ _ Tj21 (mkF m 83 _ [(.int p22)])
          refine own_st (fun t k => XS.istore Xj21.here hx rfl (hb hby at_83) rfl (l' := #[.val (.long x0), .second, .val (.long x1), .second, .val (.int x2), .val (.long p5), .second, .val (.long p15), .second, .val (.int p22), .unset, .unset]) rfl k) ?_
          show own_Go _ _ _ _ Tj21 (mkF m 85 #[.val (.long x0), .second, .val (.long x1), .second, .val (.int x2), .val (.long p5), .second, .val (.long p15), .second, .val (.int p22), .unset, .unset] [])
          obtain ⟨T23, h23, X23, e23, E23, A23, D23, -, st23⟩ := newO Xj21 hx hZ hown (hw _ (List.mem_of_getElem? (i := 0) rfl)) (hw _ (List.mem_of_getElem? (i := 1) rfl)) (hw _ (List.mem_of_getElem? (i := 2) rfl)) ej21 (g := (mkF m 85 #[.val (.long x0), .second, .val (.long x1), .second, .val (.int x2), .val (.long p5), .second, .val (.long p15), .second, .val (.int p22), .unset, .unset] [])) rfl (hb hby at_85) (by decide) (by decide)
          obtain ⟨b23, g23⟩ : ∃ z, z = h0.size := ⟨_, rfl⟩
          rw [← g23] at A23 D23 st23
          refine own_st st23 ?_
          have gx24 : n0 ≤ b23 := Nat.le_trans Z0 (Nat.le_of_eq g23.symm)
          have Z25 : n0 ≤ h23.size := Nat.le_trans Z0 E23.1
          have f26 : Fld Z h23 b23 "com/example/portcullis/portcullis/IpAddress" "high" "J" (.long (0 : Int64)) := D23 (Or.inr (hw _ (List.mem_of_getElem? (i := 15) rfl))) (ty := .long) (by decide)
          have f27 : Fld Z h23 b23 "com/example/portcullis/portcullis/IpAddress" "low" "J" (.long (0 : Int64)) := D23 (Or.inr (hw _ (List.mem_of_getElem? (i := 17) rfl))) (ty := .long) (by decide)
          show own_Go _ _ _ _ T23 (mkF m 88 _ [(.ref b23)])
          refine own_st (fun t k => XS.dup X23.here hx rfl (hb hby at_88) rfl rfl k) ?_
          show own_Go _ _ _ _ T23 (mkF m 89 _ [(.ref b23), (.ref b23)])
          refine own_st (fun t k => XS.lload X23.here hx rfl (hb hby at_89) rfl k) ?_
          show own_Go _ _ _ _ T23 (mkF m 91 _ [(.long p5), (.ref b23), (.ref b23)])
          refine own_st (fun t k => XS.lload X23.here hx rfl (hb hby at_91) rfl k) ?_
          show own_Go _ _ _ _ T23 (mkF m 93 _ [(.long p15), (.long p5), (.ref b23), (.ref b23)])
          obtain ⟨_, _, ⟨T28, L28, k28, n28⟩, -, X28, ⟨Lc28, hQ28, l28, y28, z28⟩, st28⟩ := X23.specialBack hx (y := (⟨"com/example/portcullis/portcullis/IpAddress", "<init>", "(JJ)V"⟩ : MethodName)) rfl hown (mvT hZ (hw _ (List.mem_of_getElem? (i := 3) rfl))) (mvT hZ (hw _ (List.mem_of_getElem? (i := 4) rfl))) (mvT hZ (hw _ (List.mem_of_getElem? (i := 5) rfl))) (by decide) (backOf (W := 1) (rm2 l Z a0 hw [] b23 p5 p15 (.long (0 : Int64)) (.long (0 : Int64)) h23 n0 Z25 A23 f26 f27 gx24) hZ (hw _ (List.mem_of_getElem? (i := 5) rfl)) (hw _ (List.mem_of_getElem? (i := 2) rfl)) (by decide) (by decide)) (g := (mkF m 93 #[.val (.long x0), .second, .val (.long x1), .second, .val (.int x2), .val (.long p5), .second, .val (.long p15), .second, .val (.int p22), .unset, .unset] [(.long p15), (.long p5), (.ref b23), (.ref b23)])) rfl (by rw [hml]; rfl) (Steps.refl _) (a := b23) (argsL := [(.long p5), (.long p15)]) (rest := [(.ref b23)]) (lenOf own_pd__JJ_V rfl) rfl (by show 2 * 0 + _ ≤ _; exact Nat.le_of_eq rfl) (hb hby at_93) (fun _ _ => ⟨rfl, e23, (by decide : 1 + 0 ≤ _), (by decide : 2 + 0 ≤ _)⟩)
          dsimp only [Pt.U, Pt.locs, Pt.cells, Pt.slots] at X28 l28 y28 z28 st28 hQ28
          subst l28 y28 z28
          obtain ⟨rfl, NQ28, K28, fq28_0, fq28_1, fq28_2⟩ := hQ28
          have N29 := Fr.app Nj21 NQ28
          refine own_st (fun t k => st28.trans k) ?_
          have f30 := A23.keep K28
          have Z31 : n0 ≤ T28.heap.size := Nat.le_trans Z25 K28.1
          show own_Go _ _ _ _ T28 (mkF m 96 _ [(.ref b23)])
          obtain ⟨cq32, kq32, q32a, q32b, q32c⟩ := isOf hZ rfl fq28_0
          obtain ⟨_, _, ⟨T32, L32, k32, n32⟩, -, X32, ⟨Lc32, hQ32, l32, y32, z32⟩, st32⟩ := X28.virtualBack hx (y := (⟨"com/example/portcullis/portcullis/IpAddress", "isIpv4", "()Z"⟩ : MethodName)) (z := (⟨"com/example/portcullis/portcullis/IpAddress", "isIpv4", "()Z"⟩ : MethodName)) hown (mvT hZ (hw _ (List.mem_of_getElem? (i := 18) rfl))) (mvT hZ (hw _ (List.mem_of_getElem? (i := 19) rfl))) (notFace_of_selects (args := #[]) (mvT hZ (hw _ (List.mem_of_getElem? (i := 21) rfl)))) (mvT hZ (hw _ (List.mem_of_getElem? (i := 21) rfl))) (mvT hZ (hw _ (List.mem_of_getElem? (i := 20) rfl))) (by decide) (backOf (W := 0) (rm3 l Z a0 hw [] b23 p5 p15 T28.heap n0 Z31 fq28_0 fq28_1 fq28_2) hZ (hw _ (List.mem_of_getElem? (i := 22) rfl)) (hw _ (List.mem_of_getElem? (i := 2) rfl)) (by decide) (by decide)) q32a q32c (g := (mkF m 96 #[.val (.long x0), .second, .val (.long x1), .second, .val (.int x2), .val (.long p5), .second, .val (.long p15), .second, .val (.int p22), .unset, .unset] [(.ref b23)])) rfl (by rw [hml]; rfl) (Steps.refl _) (argsL := []) (rest := []) (lenOf own_pd___Z rfl) rfl (by show 2 * 0 + _ ≤ _; exact Nat.le_of_eq rfl) (hb hby at_96) (fun _ _ => ⟨rfl, rfl, (by decide : 1 + 0 ≤ _), (by decide : 2 + 0 ≤ _)⟩)
          dsimp only [Pt.U, Pt.locs, Pt.cells, Pt.slots] at X32 l32 y32 z32 st32 hQ32
          subst l32 y32 z32
          obtain ⟨rfl, NQ32, eq32⟩ := hQ32
          have N33 := Fr.app N29 NQ32
          refine own_st (fun t k => st32.trans k) ?_
          show own_Go _ _ _ _ T32 (mkF m 99 _ [(.int (own_is4 p5 p15))])
          generalize hv34 : (own_is4 p5 p15) = v34
          refine own_st (fun t k => XS.istore X32.here hx rfl (hb hby at_99) rfl (l' := #[.val (.long x0), .second, .val (.long x1), .second, .val (.int x2), .val (.long p5), .second, .val (.long p15), .second, .val (.int p22), .val (.int v34), .unset]) rfl k) ?_
          show own_Go _ _ _ _ T32 (mkF m 101 #[.val (.long x0), .second, .val (.long x1), .second, .val (.int x2), .val (.long p5), .second, .val (.long p15), .second, .val (.int p22), .val (.int v34), .unset] [])
          refine own_st (fun t k => XS.lloadN X32.here hx rfl (hb hby at_101) rfl k) ?_
          show own_Go _ _ _ _ T32 (mkF m 102 _ [(.long x1)])
          refine own_st (fun t k => XS.l2i X32.here hx rfl (hb hby at_102) rfl k) ?_
          show own_Go _ _ _ _ T32 (mkF m 103 _ [(.int x1.toInt32)])
          obtain ⟨_, _, ⟨T35, L35, k35, n35⟩, -, X35, ⟨Lc35, hQ35, l35, y35, z35⟩, st35⟩ := Jvm.LawKit.callS X32 hx (y := (⟨"com/example/portcullis/portcullis/IpAddress", "ofIpv4", "(I)Lcom/example/portcullis/portcullis/IpAddress;"⟩ : MethodName)) hown (mvT hZ (hw _ (List.mem_of_getElem? (i := 23) rfl))) (mvT hZ (hw _ (List.mem_of_getElem? (i := 24) rfl))) (mvT hZ (hw _ (List.mem_of_getElem? (i := 2) rfl))) (mvT hZ (hw _ (List.mem_of_getElem? (i := 25) rfl))) (by decide) (backOf (W := 0) (rm5 l Z a0 hw [] x1.toInt32 T28.heap n0 Z31 ) hZ (hw _ (List.mem_of_getElem? (i := 25) rfl)) (hw _ (List.mem_of_getElem? (i := 2) rfl)) (by decide) (by decide)) (g := (mkF m 103 #[.val (.long x0), .second, .val (.long x1), .second, .val (.int x2), .val (.long p5), .second, .val (.long p15), .second, .val (.int p22), .val (.int v34), .unset] [(.int x1.toInt32)])) rfl (by rw [hml]; rfl) (argsL := [(.int x1.toInt32)]) (rest := []) (lenOf own_pd__I_Lcom_example_portcullis_portcullis_IpAddress_ rfl) rfl (by show 2 * 0 + _ ≤ _; exact Nat.le_of_eq rfl) (hb hby at_103) (fun _ _ => ⟨rfl, eq32, (by decide : 1 + 1 ≤ _), (by decide : 2 + 2 ≤ _)⟩)
          dsimp only [Pt.U, Pt.locs, Pt.cells, Pt.slots] at X35 l35 y35 z35 st35 hQ35
          subst l35 y35 z35
          obtain ⟨b35_b, rfl, NQ35, K35, gx_b35_b, sz_b35_b, fq35_0, fq35_1, fq35_2⟩ := hQ35
          have N36 := Fr.app N33 NQ35
          refine own_st st35 ?_
          have f37 := fq28_0.keep K35
          have f38 := fq28_1.keep K35 nin0
          have f39 := fq28_2.keep K35 nin0
          have Z40 : n0 ≤ T35.heap.size := Nat.le_trans Z31 K35.1
          have ne41 : b23 ≠ b35_b := Nat.ne_of_lt (Nat.lt_of_lt_of_le fq28_0.lt sz_b35_b)
          show own_Go _ _ _ _ T35 (mkF m 106 _ [(.ref b35_b)])
          obtain ⟨cq42, kq42, q42a, q42b, q42c⟩ := isOf hZ rfl fq35_0
          obtain ⟨_, _, ⟨T42, L42, k42, n42⟩, -, X42, ⟨Lc42, hQ42, l42, y42, z42⟩, st42⟩ := X35.virtualBack hx (y := (⟨"com/example/portcullis/portcullis/IpAddress", "isIpv4", "()Z"⟩ : MethodName)) (z := (⟨"com/example/portcullis/portcullis/IpAddress", "isIpv4", "()Z"⟩ : MethodName)) hown (mvT hZ (hw _ (List.mem_of_getElem? (i := 18) rfl))) (mvT hZ (hw _ (List.mem_of_getElem? (i := 19) rfl))) (notFace_of_selects (args := #[]) (mvT hZ (hw _ (List.mem_of_getElem? (i := 21) rfl)))) (mvT hZ (hw _ (List.mem_of_getElem? (i := 21) rfl))) (mvT hZ (hw _ (List.mem_of_getElem? (i := 20) rfl))) (by decide) (backOf (W := 0) (rm3 l Z a0 hw [] b35_b (0 : Int64) ((281470681743360 : Int64) ||| (own_tul x1.toInt32)) T35.heap n0 Z40 fq35_0 fq35_1 fq35_2) hZ (hw _ (List.mem_of_getElem? (i := 22) rfl)) (hw _ (List.mem_of_getElem? (i := 2) rfl)) (by decide) (by decide)) q42a q42c (g := (mkF m 106 #[.val (.long x0), .second, .val (.long x1), .second, .val (.int x2), .val (.long p5), .second, .val (.long p15), .second, .val (.int p22), .val (.int v34), .unset] [(.ref b35_b)])) rfl (by rw [hml]; rfl) (Steps.refl _) (argsL := []) (rest := []) (lenOf own_pd___Z rfl) rfl (by show 2 * 0 + _ ≤ _; exact Nat.le_of_eq rfl) (hb hby at_106) (fun _ _ => ⟨rfl, rfl, (by decide : 2 + 0 ≤ _), (by decide : 4 + 0 ≤ _)⟩)
          dsimp only [Pt.U, Pt.locs, Pt.cells, Pt.slots] at X42 l42 y42 z42 st42 hQ42
          subst l42 y42 z42
          obtain ⟨rfl, NQ42, eq42⟩ := hQ42
          have N43 := Fr.app N36 NQ42
          refine own_st (fun t k => st42.trans k) ?_
          show own_Go _ _ _ _ T42 (mkF m 109 _ [(.int (own_is4 (0 : Int64) ((281470681743360 : Int64) ||| (own_tul x1.toInt32))))])
          generalize hv44 : (own_is4 (0 : Int64) ((281470681743360 : Int64) ||| (own_tul x1.toInt32))) = v44
          refine own_st (fun t k => XS.istore X42.here hx rfl (hb hby at_109) rfl (l' := #[.val (.long x0), .second, .val (.long x1), .second, .val (.int x2), .val (.long p5), .second, .val (.long p15), .second, .val (.int p22), .val (.int v34), .val (.int v44)]) rfl k) ?_
          show own_Go _ _ _ _ T42 (mkF m 111 #[.val (.long x0), .second, .val (.long x1), .second, .val (.int x2), .val (.long p5), .second, .val (.long p15), .second, .val (.int p22), .val (.int v34), .val (.int v44)] [])
          refine own_st (fun t k => XS.iload X42.here hx rfl (hb hby at_111) rfl k) ?_
          show own_Go _ _ _ _ T42 (mkF m 113 _ [(.int v34)])
          refine own_st (fun t k => XS.iload X42.here hx rfl (hb hby at_113) rfl k) ?_
          show own_Go _ _ _ _ T42 (mkF m 115 _ [(.int p22), (.int v34)])
          have J50 : ∀ (Tj50 : State) (Lj50 : List Loc) (p51 : Int32), Stand p l e room_1 s m #[(.long x0), (.long x1), (.int x2)] below meth c Tj50 Lj50 2 4 → Tj50.heap = T35.heap → Fr n0 Lj50 → p51 = (if v34 = p22 then (if v44 = (0 : Int32) then (0 : Int32) else (1 : Int32)) else (0 : Int32)) → own_Go p.tables e below Pq Tj50 (mkF m 128 #[.val (.long x0), .second, .val (.long x1), .second, .val (.int x2), .val (.long p5), .second, .val (.long p15), .second, .val (.int p22), .val (.int v34), .val (.int v44)] [(.int p51)]) := by
            intro Tj50 Lj50 p51 Xj50 ej50 Nj50 qp51
            show own_Go _ _ _ _ Tj50 (mkF m 128 _ [(.int p51)])
            subst hPq
            refine own_out Xj50 (v := some (.int (nar .boolean p51))) (fun h => by rw [Bd.returns] at h; cases h) Bd.notSynchronized (fun fs hr => retN Xj50 hx (t := .boolean) Bd.returns (by simp) (hb hby at_128) hr) (by decide) (by decide) ?_
            show Q0 Z x0 x1 x2 h0 n0 _ Tj50.heap _
            rw [ej50]
            exact ⟨congrArg (fun z => some (Value.int (nar .boolean z))) (own_law x0 x1 x2 p5 p10 p15 p22 v34 v44 p51 qp5 qp10 qp15 qp22 hv34 hv44 qp51), Nj50⟩
          by_cases c45 : v34 = p22
          · skip
            refine own_st (fun t k => XS.icmpNo X42.here hx rfl (hb hby at_115) rfl (teq c45).2 k) ?_
            show own_Go _ _ _ _ T42 (mkF m 118 _ [])
            refine own_st (fun t k => XS.iload X42.here hx rfl (hb hby at_118) rfl k) ?_
            show own_Go _ _ _ _ T42 (mkF m 120 _ [(.int v44)])
            by_cases c46 : v44 = (0 : Int32)
            · skip
              refine own_st (fun t k => XS.ifYes X42.here hx rfl (pc0 := 120) (pc' := 127) rfl (hb hby at_120) rfl ((if0 _ _).trans (teq c46).1) (by decide) (by decide) k) ?_
              show own_Go _ _ _ _ T42 (mkF m 127 _ [])
              refine own_st (fun t k => XS.iconst X42.here hx rfl (hb hby at_127) k) ?_
              show own_Go _ _ _ _ T42 (mkF m 128 _ [(.int (0 : Int32))])
              exact J50 T42 _ _ X42 eq42 N43 (by simp only [if_pos c45, if_pos c46])
            · skip
              refine own_st (fun t k => XS.ifNo X42.here hx rfl (hb hby at_120) rfl ((if0 _ _).trans (feq c46).1) k) ?_
              show own_Go _ _ _ _ T42 (mkF m 123 _ [])
              refine own_st (fun t k => XS.iconst X42.here hx rfl (hb hby at_123) k) ?_
              show own_Go _ _ _ _ T42 (mkF m 124 _ [(.int (1 : Int32))])
              refine own_st (fun t k => XS.goto X42.here hx rfl (pc0 := 124) (pc' := 128) rfl (hb hby at_124) (by decide) (by decide) k) ?_
              show own_Go _ _ _ _ T42 (mkF m 128 _ [(.int (1 : Int32))])
              exact J50 T42 _ _ X42 eq42 N43 (by simp only [if_pos c45, if_neg c46])
          · skip
            refine own_st (fun t k => XS.icmpYes X42.here hx rfl (pc0 := 115) (pc' := 127) rfl (hb hby at_115) rfl (feq c45).2 (by decide) (by decide) k) ?_
            show own_Go _ _ _ _ T42 (mkF m 127 _ [])
            refine own_st (fun t k => XS.iconst X42.here hx rfl (hb hby at_127) k) ?_
            show own_Go _ _ _ _ T42 (mkF m 128 _ [(.int (0 : Int32))])
            exact J50 T42 _ _ X42 eq42 N43 (by simp only [if_neg c45])
        by_cases c16 : p5 = (0 : Int64)
        · skip
          refine own_st (fun t k => XS.ifNo Xj14.here hx rfl (hb hby at_64) rfl (own_lcF (cd := .ne) (not_not_intro c16)) k) ?_
          show own_Go _ _ _ _ Tj14 (mkF m 67 _ [])
          refine own_st (fun t k => XS.lload Xj14.here hx rfl (hb hby at_67) rfl k) ?_
          show own_Go _ _ _ _ Tj14 (mkF m 69 _ [(.long p15)])
          refine own_st (fun t k => XS.bipush Xj14.here hx rfl (hb hby at_69) k) ?_
          show own_Go _ _ _ _ Tj14 (mkF m 71 _ [(.int (32 : Int32)), (.long p15)])
          refine own_st (fun t k => XS.lushr Xj14.here hx rfl (hb hby at_71) rfl k) ?_
          show own_Go _ _ _ _ Tj14 (mkF m 72 _ [(.long ((p15.toUInt64 >>> ((32 : Int32) &&& 0x3f).toInt64.toUInt64).toInt64))])
          refine own_st (fun t k => XS.l2i Xj14.here hx rfl (hb hby at_72) rfl k) ?_
          show own_Go _ _ _ _ Tj14 (mkF m 73 _ [(.int ((p15.toUInt64 >>> ((32 : Int32) &&& 0x3f).toInt64.toUInt64).toInt64).toInt32)])
          refine own_st (fun t k => Xj14.ldcInt hx hown (mvT hZ (hw _ (List.mem_of_getElem? (i := 37) rfl))) (g := (mkF m 73 #[.val (.long x0), .second, .val (.long x1), .second, .val (.int x2), .val (.long p5), .second, .val (.long p15), .second, .unset, .unset, .unset] [(.int ((p15.toUInt64 >>> ((32 : Int32) &&& 0x3f).toInt64.toUInt64).toInt64).toInt32)])) rfl (hb hby at_73) _ k) ?_
          show own_Go _ _ _ _ Tj14 (mkF m 75 _ [(.int (65535 : Int32)), (.int ((p15.toUInt64 >>> ((32 : Int32) &&& 0x3f).toInt64.toUInt64).toInt64).toInt32)])
          by_cases c17 : ((p15.toUInt64 >>> ((32 : Int32) &&& 0x3f).toInt64.toUInt64).toInt64).toInt32 = (65535 : Int32)
          · skip
            refine own_st (fun t k => XS.icmpNo Xj14.here hx rfl (hb hby at_75) rfl (teq c17).2 k) ?_
            show own_Go _ _ _ _ Tj14 (mkF m 78 _ [])
            refine own_st (fun t k => XS.iconst Xj14.here hx rfl (hb hby at_78) k) ?_
            show own_Go _ _ _ _ Tj14 (mkF m 79 _ [(.int (1 : Int32))])
            refine own_st (fun t k => XS.goto Xj14.here hx rfl (pc0 := 79) (pc' := 83) rfl (hb hby at_79) (by decide) (by decide) k) ?_
            show own_Go _ _ _ _ Tj14 (mkF m 83 _ [(.int (1 : Int32))])
            exact J21 Tj14 _ _ (Xj14.mono (by decide) (by decide)) ej14 Nj14 (by simp only [if_pos c16, if_pos c17])
          · skip
            refine own_st (fun t k => XS.icmpYes Xj14.here hx rfl (pc0 := 75) (pc' := 82) rfl (hb hby at_75) rfl (feq c17).2 (by decide) (by decide) k) ?_
            show own_Go _ _ _ _ Tj14 (mkF m 82 _ [])
            refine own_st (fun t k => XS.iconst Xj14.here hx rfl (hb hby at_82) k) ?_
            show own_Go _ _ _ _ Tj14 (mkF m 83 _ [(.int (0 : Int32))])
            exact J21 Tj14 _ _ (Xj14.mono (by decide) (by decide)) ej14 Nj14 (by simp only [if_pos c16, if_neg c17])
        · skip
          refine own_st (fun t k => XS.ifYes Xj14.here hx rfl (pc0 := 64) (pc' := 82) rfl (hb hby at_64) rfl (own_lcT (cd := .ne) c16) (by decide) (by decide) k) ?_
          show own_Go _ _ _ _ Tj14 (mkF m 82 _ [])
          refine own_st (fun t k => XS.iconst Xj14.here hx rfl (hb hby at_82) k) ?_
          show own_Go _ _ _ _ Tj14 (mkF m 83 _ [(.int (0 : Int32))])
          exact J21 Tj14 _ _ (Xj14.mono (by decide) (by decide)) ej14 Nj14 (by simp only [if_neg c16])
      by_cases c11 : (x2 &&& (4 : Int32)) = (0 : Int32)
      · skip
        refine own_st (fun t k => XS.ifYes Xj9.here hx rfl (pc0 := 40) (pc' := 60) rfl (hb hby at_40) rfl ((if0 _ _).trans (teq c11).1) (by decide) (by decide) k) ?_
        show own_Go _ _ _ _ Tj9 (mkF m 60 _ [])
        exact J14 Tj9 _ _ Xj9 ej9 Nj9 (by simp only [if_pos c11])
      · skip
        refine own_st (fun t k => XS.ifNo Xj9.here hx rfl (hb hby at_40) rfl ((if0 _ _).trans (feq c11).1) k) ?_
        show own_Go _ _ _ _ Tj9 (mkF m 43 _ [])
        refine own_st (fun t k => XS.lload Xj9.here hx rfl (hb hby at_43) rfl k) ?_
        show own_Go _ _ _ _ Tj9 (mkF m 45 _ [(.long p10)])
        refine own_st (fun t k => XS.lconst Xj9.here hx rfl (hb hby at_45) k) ?_
        show own_Go _ _ _ _ Tj9 (mkF m 46 _ [(.long (1 : Int64)), (.long p10)])
        refine own_st (fun t k => XS.bipush Xj9.here hx rfl (hb hby at_46) k) ?_
        show own_Go _ _ _ _ Tj9 (mkF m 48 _ [(.int (32 : Int32)), (.long (1 : Int64)), (.long p10)])
        refine own_st (fun t k => XS.iload Xj9.here hx rfl (hb hby at_48) rfl k) ?_
        show own_Go _ _ _ _ Tj9 (mkF m 50 _ [(.int x2), (.int (32 : Int32)), (.long (1 : Int64)), (.long p10)])
        refine own_st (fun t k => XS.iconst Xj9.here hx rfl (hb hby at_50) k) ?_
        show own_Go _ _ _ _ Tj9 (mkF m 51 _ [(.int (3 : Int32)), (.int x2), (.int (32 : Int32)), (.long (1 : Int64)), (.long p10)])
        refine own_st (fun t k => XS.iushr Xj9.here hx rfl (hb hby at_51) rfl k) ?_
        show own_Go _ _ _ _ Tj9 (mkF m 52 _ [(.int ((x2.toUInt32 >>> ((3 : Int32) &&& 31).toUInt32).toInt32)), (.int (32 : Int32)), (.long (1 : Int64)), (.long p10)])
        refine own_st (fun t k => XS.bipush Xj9.here hx rfl (hb hby at_52) k) ?_
        show own_Go _ _ _ _ Tj9 (mkF m 54 _ [(.int (31 : Int32)), (.int ((x2.toUInt32 >>> ((3 : Int32) &&& 31).toUInt32).toInt32)), (.int (32 : Int32)), (.long (1 : Int64)), (.long p10)])
        refine own_st (fun t k => XS.iand Xj9.here hx rfl (hb hby at_54) rfl k) ?_
        show own_Go _ _ _ _ Tj9 (mkF m 55 _ [(.int (((x2.toUInt32 >>> ((3 : Int32) &&& 31).toUInt32).toInt32) &&& (31 : Int32))), (.int (32 : Int32)), (.long (1 : Int64)), (.long p10)])
        refine own_st (fun t k => XS.iadd Xj9.here hx rfl (hb hby at_55) rfl k) ?_
        show own_Go _ _ _ _ Tj9 (mkF m 56 _ [(.int ((32 : Int32) + (((x2.toUInt32 >>> ((3 : Int32) &&& 31).toUInt32).toInt32) &&& (31 : Int32)))), (.long (1 : Int64)), (.long p10)])
        refine own_st (fun t k => XS.lshl Xj9.here hx rfl (hb hby at_56) rfl k) ?_
        show own_Go _ _ _ _ Tj9 (mkF m 57 _ [(.long ((1 : Int64) <<< (((32 : Int32) + (((x2.toUInt32 >>> ((3 : Int32) &&& 31).toUInt32).toInt32) &&& (31 : Int32))) &&& 0x3f).toInt64)), (.long p10)])
        refine own_st (fun t k => XS.lxor Xj9.here hx rfl (hb hby at_57) rfl k) ?_
        show own_Go _ _ _ _ Tj9 (mkF m 58 _ [(.long (p10 ^^^ ((1 : Int64) <<< (((32 : Int32) + (((x2.toUInt32 >>> ((3 : Int32) &&& 31).toUInt32).toInt32) &&& (31 : Int32))) &&& 0x3f).toInt64)))])
        refine own_st (fun t k => XS.lstore Xj9.here hx rfl (hb hby at_58) rfl (l' := #[.val (.long x0), .second, .val (.long x1), .second, .val (.int x2), .val (.long p5), .second, .val (.long (p10 ^^^ ((1 : Int64) <<< (((32 : Int32) + (((x2.toUInt32 >>> ((3 : Int32) &&& 31).toUInt32).toInt32) &&& (31 : Int32))) &&& 0x3f).toInt64))), .second, .unset, .unset, .unset]) rfl k) ?_
        show own_Go _ _ _ _ Tj9 (mkF m 60 #[.val (.long x0), .second, .val (.long x1), .second, .val (.int x2), .val (.long p5), .second, .val (.long (p10 ^^^ ((1 : Int64) <<< (((32 : Int32) + (((x2.toUInt32 >>> ((3 : Int32) &&& 31).toUInt32).toInt32) &&& (31 : Int32))) &&& 0x3f).toInt64))), .second, .unset, .unset, .unset] [])
        exact J14 Tj9 _ _ Xj9 ej9 Nj9 (by simp only [if_neg c11])
    by_cases c6 : (x2 &&& (2 : Int32)) = (0 : Int32)
    · skip
      refine own_st (fun t k => XS.ifYes Xj4.here hx rfl (pc0 := 18) (pc' := 33) rfl (hb hby at_18) rfl ((if0 _ _).trans (teq c6).1) (by decide) (by decide) k) ?_
      show own_Go _ _ _ _ Tj4 (mkF m 33 _ [])
      refine own_st (fun t k => XS.lloadN Xj4.here hx rfl (hb hby at_33) rfl k) ?_
      show own_Go _ _ _ _ Tj4 (mkF m 34 _ [(.long x1)])
      exact J9 Tj4 _ _ Xj4 ej4 Nj4 (by simp only [if_pos c6])
    · skip
      refine own_st (fun t k => XS.ifNo Xj4.here hx rfl (hb hby at_18) rfl ((if0 _ _).trans (feq c6).1) k) ?_
      show own_Go _ _ _ _ Tj4 (mkF m 21 _ [])
      refine own_st (fun t k => Xj4.ldc2Long hx hown (mvT hZ (hw _ (List.mem_of_getElem? (i := 35) rfl))) (g := (mkF m 21 #[.val (.long x0), .second, .val (.long x1), .second, .val (.int x2), .val (.long p5), .second, .unset, .unset, .unset, .unset, .unset] [])) rfl (hb hby at_21) _ k) ?_
      show own_Go _ _ _ _ Tj4 (mkF m 24 _ [(.long (281470681743360 : Int64))])
      refine own_st (fun t k => XS.lloadN Xj4.here hx rfl (hb hby at_24) rfl k) ?_
      show own_Go _ _ _ _ Tj4 (mkF m 25 _ [(.long x1), (.long (281470681743360 : Int64))])
      refine own_st (fun t k => Xj4.ldc2Long hx hown (mvT hZ (hw _ (List.mem_of_getElem? (i := 36) rfl))) (g := (mkF m 25 #[.val (.long x0), .second, .val (.long x1), .second, .val (.int x2), .val (.long p5), .second, .unset, .unset, .unset, .unset, .unset] [(.long x1), (.long (281470681743360 : Int64))])) rfl (hb hby at_25) _ k) ?_
      show own_Go _ _ _ _ Tj4 (mkF m 28 _ [(.long (4294967295 : Int64)), (.long x1), (.long (281470681743360 : Int64))])
      refine own_st (fun t k => XS.land Xj4.here hx rfl (hb hby at_28) rfl k) ?_
      show own_Go _ _ _ _ Tj4 (mkF m 29 _ [(.long (x1 &&& (4294967295 : Int64))), (.long (281470681743360 : Int64))])
      refine own_st (fun t k => XS.lor Xj4.here hx rfl (hb hby at_29) rfl k) ?_
      show own_Go _ _ _ _ Tj4 (mkF m 30 _ [(.long ((281470681743360 : Int64) ||| (x1 &&& (4294967295 : Int64))))])
      refine own_st (fun t k => XS.goto Xj4.here hx rfl (pc0 := 30) (pc' := 34) rfl (hb hby at_30) (by decide) (by decide) k) ?_
      show own_Go _ _ _ _ Tj4 (mkF m 34 _ [(.long ((281470681743360 : Int64) ||| (x1 &&& (4294967295 : Int64))))])
      exact J9 Tj4 _ _ Xj4 ej4 Nj4 (by simp only [if_neg c6])
  by_cases c1 : (x2 &&& (1 : Int32)) = (0 : Int32)
  · skip
    refine own_st (fun t k => XS.ifYes X0.here hx rfl (pc0 := 4) (pc' := 11) rfl (hb hby at_4) rfl ((if0 _ _).trans (teq c1).1) (by decide) (by decide) k) ?_
    show own_Go _ _ _ _ s₁ (mkF m 11 _ [])
    refine own_st (fun t k => XS.lloadN X0.here hx rfl (hb hby at_11) rfl k) ?_
    show own_Go _ _ _ _ s₁ (mkF m 12 _ [(.long x0)])
    exact J4 s₁ _ _ X0 e0 N0 (by simp only [if_pos c1])
  · skip
    refine own_st (fun t k => XS.ifNo X0.here hx rfl (hb hby at_4) rfl ((if0 _ _).trans (feq c1).1) k) ?_
    show own_Go _ _ _ _ s₁ (mkF m 7 _ [])
    refine own_st (fun t k => XS.lconst X0.here hx rfl (hb hby at_7) k) ?_
    show own_Go _ _ _ _ s₁ (mkF m 8 _ [(.long (0 : Int64))])
    refine own_st (fun t k => XS.goto X0.here hx rfl (pc0 := 8) (pc' := 12) rfl (hb hby at_8) (by decide) (by decide) k) ?_
    show own_Go _ _ _ _ s₁ (mkF m 12 _ [(.long (0 : Int64))])
    exact J4 s₁ _ _ X0 e0 N0 (by simp only [if_neg c1])
set_option maxRecDepth 65536 in
set_option maxHeartbeats 40000000 in
theorem own_comes {Post : Tables → Env → Array Value → State → Outcome → State → Prop} (hpost : ∀ tb e args s v u, (limb_1_1.after args s (.returned v) u = true ∧ limb_1_2.after args s (.returned v) u = true ∧ True) → FrameEnd s (.returned v) u (Jvm.fieldLocs frame_1_writes args s ++ Jvm.arrayLocs frame_1_arrays args s ++ Jvm.staticLocs frame_1_statics s) 16 128 → Post tb e args s (.returned v) u) :
    ArmFor flags0 classFile x code maxLocals ret World_1 tables_1 room_1 Calls_1 rest_1 Pre_1 Post := by
  intro l hfl _ _ p e ha hc hk s m args below hf hA hF happ hP
  obtain ⟨hcalls, hrest, hpre⟩ := hP
  obtain ⟨-, -, -, hnamed, -, -, -, hat⟩ := (Spec.applies_iff hf).mp happ
  obtain ⟨hg, hn⟩ := and_e (Cond.before_iff.mp (show (Jvm.Cond.and given_1 narrow_1).before args s = true from hpre))
  obtain ⟨g0, r0⟩ := and_e hg
  obtain ⟨g1, r1⟩ := and_e r0
  obtain ⟨g2, r2⟩ := and_e r1
  obtain ⟨w0, w1, w2, rfl⟩ : ∃ w0 w1 w2 : Value, args = #[w0, w1, w2] := by
    have hs : args.size = 3 := by simpa [Cond.value, given_1] using g0
    obtain ⟨L⟩ := args
    match L, hs with
    | [w0, w1, w2], _ => exact ⟨w0, w1, w2, rfl⟩
  have hw := fun d (hd : d ∈ tables_1) => atoms_spec (ws := Jvm.Cond.code x code maxLocals ret :: tables_1) hat d (List.mem_cons_of_mem _ hd)
  obtain ⟨i0, ei0⟩ := isL_v g1
  obtain rfl : w0 = (.long i0) := Option.some.inj ei0
  obtain ⟨i1, ei1⟩ := isL_v g2
  obtain rfl : w1 = (.long i1) := Option.some.inj ei1
  obtain ⟨i2, ei2⟩ := is_v r2
  obtain rfl : w2 = (.int i2) := Option.some.inj ei2
  obtain ⟨n, o, h1, h2, h3, _, L, rfl, ⟨rfl, N⟩, hq⟩ := rm0 l s _ hw tables_1 i0 i1 i2 s.heap s.heap.size (Nat.le_refl _) p e ha hc hk s m _ below hf ((Spec.applies_iff_loose hf).mp happ).1 ⟨rfl, State.Warmed39.refl s, rfl⟩ trivial
  refine ⟨n, _, h1, h2, h3, hpost _ _ _ _ _ _ ⟨Cond.after_iff.mpr rfl, Cond.after_iff.mpr (eq_i res_at (Term.int_eval (1)) rfl), trivial⟩ ⟨hq.1, hq.2.1, (hq.2.2.sift fun y hy => Or.inr (N y hy)).mono (by decide) (by decide)⟩⟩
theorem main_1_1 : Claimed_1_1 := own_comes fun _ _ _ _ _ _ h hF => ⟨h.1, hF⟩
theorem main_1_2 : Claimed_1_2 := own_comes fun _ _ _ _ _ _ h hF => ⟨h.2.1, hF⟩
end Jvm.Pilot.@@N@@
namespace Jvm.Pilot.@@N@@
open Jvm Jvm.ClassFile Sem Op Lib Jvm.Free Jvm.Stand Jvm.Pilot.@@N@@.Jvm.D
/-! MADE BY PROGRAM (witnessworld.py) out of the Statement's table words and the real class files: 15 classes; the members and pool entries that the words name. The judged class is class 1, her method 1. -/
namespace start1
open Jvm.ClassFile
def u (s : String) : CpInfo := .utf8 (stringToUtf16 s)
/-- a pool by its gaps: so many unusable entries, then the entry; so many at the end -/
def gap : Nat → List CpInfo → List CpInfo
  | 0, r => r
  | n + 1, r => .unusable :: gap n r
def poolList (es : List (Nat × CpInfo)) (last : Nat) : List CpInfo := es.foldr (fun e r => gap e.1 (e.2 :: r)) (gap last [])
def pool (es : List (Nat × CpInfo)) (last : Nat) : Array CpInfo := ⟨poolList es last⟩
def fileOf (pool : Array CpInfo) (this : Nat) (attrs : Array Attribute := #[]) (ms : Array MethodInfo := #[]) (fl : Nat := 33) (sup : Nat := 0) (ifs : Array Nat := #[]) (fds : Array FieldInfo := #[]) : ClassFile where
  minorVersion := 0
  majorVersion := 65
  constantPool := pool
  accessFlags := fl
  thisClass := this
  superClass := sup
  interfaces := ifs
  fields := fds
  methods := ms
  attributes := attrs
def plain (name : String) (sup : Option ClassId) : Class where
  name := name
  kind := .ordinary
  loader := none
  accessFlags := 33
  super := sup
  interfaces := #[]
  cf := none
  fields := #[]
  methods := #[]
  instanceTypes := #[]
  staticTypes := #[]
  resolved := #[]
  callSites := []
  init := .initialized
  statics := none
  mirror := none

def pool0 : Array CpInfo := pool [(5, u "<init>"), (0, u "()V"), (1, .class_ 10), (1, u "java/lang/Object")] 113

def k0c0 : Code := { maxStack := 0, maxLocals := 1, code := object_method_1_code, exceptionTable := #[], attributes := #[] }
def k0m0 : Method := { name := "<init>", desc := "()V", sig := { parameters := [], returnType := none }, accessFlags := 1, code := some k0c0 }
/-- java/lang/Object -/
def k0 : Class := { plain "java/lang/Object" none with
  accessFlags := 33
  interfaces := #[]
  cf := some (fileOf pool0 8 #[] #[{ accessFlags := 1, nameIndex := 5, descriptorIndex := 6, attributes := #[] }] 33 0 #[] #[])
  fields := #[]
  methods := #[k0m0]
  instanceTypes := #[]
  staticTypes := #[]
  resolved := Array.replicate 124 none
  statics := none }

def pool1 : Array CpInfo := pool [(2, .class_ 4), (1, u "java/lang/Object"), (0, u "<init>"), (0, u "()V"), (0, .long 281470681743360), (1, .long 4294967295), (1, .integer 65535), (0, .class_ 13), (0, u "com/example/portcullis/portcullis/IpAddress"), (0, .methodref 12 15), (0, .nameAndType 5 16), (0, u "(JJ)V"), (0, .methodref 12 18), (0, .nameAndType 19 20), (0, u "isIpv4"), (0, u "()Z"), (0, .methodref 12 22), (0, .nameAndType 23 24), (0, u "ofIpv4"), (0, u "(I)Lcom/example/portcullis/portcullis/IpAddress;"), (0, .class_ 26), (0, u "com/example/portcullis/portcullis/IpAddressIsIpv4PinLaw"), (2, u "law"), (0, u "(JJI)Z")] 3

def k1m0 : Method := { name := "<init>", desc := "()V", sig := { parameters := [], returnType := none }, accessFlags := 2, code := none }
def k1c1 : Code := { maxStack := 7, maxLocals := 12, code := code, exceptionTable := #[], attributes := #[] }
def k1m1 : Method := { name := "law", desc := "(JJI)Z", sig := { parameters := [.long, .long, .int], returnType := some .boolean }, accessFlags := 9, code := some k1c1 }
/-- com/example/portcullis/portcullis/IpAddressIsIpv4PinLaw -/
def k1 : Class := { plain "com/example/portcullis/portcullis/IpAddressIsIpv4PinLaw" (some 0) with
  accessFlags := 49
  interfaces := #[]
  cf := some (fileOf pool1 25 #[] #[{ accessFlags := 2, nameIndex := 5, descriptorIndex := 6, attributes := #[] }, { accessFlags := 9, nameIndex := 29, descriptorIndex := 30, attributes := #[] }] 49 2 #[] #[])
  fields := #[]
  methods := #[k1m0, k1m1]
  instanceTypes := #[]
  staticTypes := #[]
  resolved := Array.replicate 34 none
  statics := none }

def pool2 : Array CpInfo := pool [(1, .methodref 2 3), (0, .class_ 4), (0, .nameAndType 5 6), (0, u "java/lang/Object"), (0, u "<init>"), (0, u "()V"), (0, .class_ 8), (0, u "java/lang/Record")] 13

def k2c0 : Code := { maxStack := 1, maxLocals := 1, code := jdk_30_method_1_code, exceptionTable := #[], attributes := #[] }
def k2m0 : Method := { name := "<init>", desc := "()V", sig := { parameters := [], returnType := none }, accessFlags := 4, code := some k2c0 }
/-- java/lang/Record -/
def k2 : Class := { plain "java/lang/Record" (some 0) with
  accessFlags := 1057
  interfaces := #[]
  cf := some (fileOf pool2 7 #[] #[{ accessFlags := 4, nameIndex := 5, descriptorIndex := 6, attributes := #[] }] 1057 2 #[] #[])
  fields := #[]
  methods := #[k2m0]
  instanceTypes := #[]
  staticTypes := #[]
  resolved := Array.replicate 22 none
  statics := none }

def pool3 : Array CpInfo := pool [(1, .methodref 2 3), (0, .class_ 4), (0, .nameAndType 5 6), (0, u "java/lang/Record"), (0, u "<init>"), (0, u "()V"), (0, .fieldref 8 9), (0, .class_ 10), (0, .nameAndType 11 12), (0, u "com/example/portcullis/portcullis/IpAddress"), (0, u "high"), (0, u "J"), (0, .fieldref 8 14), (0, .nameAndType 15 12), (0, u "low"), (0, .long 281470681743360), (1, .methodref 19 20), (0, .class_ 21), (0, .nameAndType 22 23), (0, u "java/lang/Integer"), (0, u "toUnsignedLong"), (0, u "(I)J"), (0, .methodref 8 25), (0, .nameAndType 5 26), (0, u "(JJ)V"), (16, u "ofIpv4"), (0, u "(I)Lcom/example/portcullis/portcullis/IpAddress;"), (35, u "()Z"), (68, .long 18446744069414584320), (34, u "IPV4_MAPPED"), (11, u "isIpv4")] 52

def k3c0 : Code := { maxStack := 3, maxLocals := 5, code := prog_36_method_1_code, exceptionTable := #[], attributes := #[] }
def k3m0 : Method := { name := "<init>", desc := "(JJ)V", sig := { parameters := [.long, .long], returnType := none }, accessFlags := 0, code := some k3c0 }
def k3c1 : Code := { maxStack := 8, maxLocals := 1, code := prog_36_method_2_code, exceptionTable := #[], attributes := #[] }
def k3m1 : Method := { name := "ofIpv4", desc := "(I)Lcom/example/portcullis/portcullis/IpAddress;", sig := { parameters := [.int], returnType := some (.object "com/example/portcullis/portcullis/IpAddress") }, accessFlags := 8, code := some k3c1 }
def k3c2 : Code := { maxStack := 4, maxLocals := 1, code := prog_36_method_11_code, exceptionTable := #[], attributes := #[] }
def k3m2 : Method := { name := "isIpv4", desc := "()Z", sig := { parameters := [], returnType := some .boolean }, accessFlags := 0, code := some k3c2 }
/-- com/example/portcullis/portcullis/IpAddress -/
def k3 : Class := { plain "com/example/portcullis/portcullis/IpAddress" (some 2) with
  accessFlags := 48
  interfaces := #[]
  cf := some (fileOf pool3 8 #[] #[{ accessFlags := 0, nameIndex := 5, descriptorIndex := 26, attributes := #[] }, { accessFlags := 8, nameIndex := 43, descriptorIndex := 44, attributes := #[] }, { accessFlags := 0, nameIndex := 196, descriptorIndex := 80, attributes := #[] }] 48 2 #[] #[{ accessFlags := 18, nameIndex := 11, descriptorIndex := 12, attributes := #[] }, { accessFlags := 18, nameIndex := 15, descriptorIndex := 12, attributes := #[] }, { accessFlags := 26, nameIndex := 184, descriptorIndex := 12, attributes := #[] }])
  fields := #[{ name := "high", type := .long, accessFlags := 18, slot := 0, constantValue := 0 }, { name := "low", type := .long, accessFlags := 18, slot := 1, constantValue := 0 }, { name := "IPV4_MAPPED", type := .long, accessFlags := 26, slot := 0, constantValue := 0 }]
  methods := #[k3m0, k3m1, k3m2]
  instanceTypes := #[.long, .long]
  staticTypes := #[.long]
  resolved := Array.replicate 249 none
  statics := none }

def pool4 : Array CpInfo := pool [(1, .class_ 2), (0, u "java/io/Serializable"), (0, .class_ 4), (0, u "java/lang/Object")] 2

/-- java/io/Serializable -/
def k4 : Class := { plain "java/io/Serializable" (some 0) with
  accessFlags := 1537
  interfaces := #[]
  cf := some (fileOf pool4 1 #[] #[] 1537 3 #[] #[])
  fields := #[]
  methods := #[]
  instanceTypes := #[]
  staticTypes := #[]
  resolved := Array.replicate 7 none
  statics := none }

def pool5 : Array CpInfo := pool [(2, .class_ 4), (1, u "java/lang/Object"), (0, u "<init>"), (0, u "()V"), (1, .class_ 10), (1, u "java/lang/Number"), (2, .class_ 14), (0, u "java/io/Serializable"), (0, u "serialVersionUID"), (0, u "J")] 20

def k5m0 : Method := { name := "<init>", desc := "()V", sig := { parameters := [], returnType := none }, accessFlags := 1, code := none }
/-- java/lang/Number -/
def k5 : Class := { plain "java/lang/Number" (some 0) with
  accessFlags := 1057
  interfaces := #[4]
  cf := some (fileOf pool5 8 #[] #[{ accessFlags := 1, nameIndex := 5, descriptorIndex := 6, attributes := #[] }] 1057 2 #[13] #[{ accessFlags := 26, nameIndex := 15, descriptorIndex := 16, attributes := #[] }])
  fields := #[{ name := "serialVersionUID", type := .long, accessFlags := 26, slot := 0, constantValue := 0 }]
  methods := #[k5m0]
  instanceTypes := #[]
  staticTypes := #[.long]
  resolved := Array.replicate 37 none
  statics := none }

def pool6 : Array CpInfo := pool [(1, .class_ 2), (0, u "java/lang/Comparable"), (0, .class_ 4), (0, u "java/lang/Object")] 7

/-- java/lang/Comparable -/
def k6 : Class := { plain "java/lang/Comparable" (some 0) with
  accessFlags := 1537
  interfaces := #[]
  cf := some (fileOf pool6 1 #[] #[] 1537 3 #[] #[])
  fields := #[]
  methods := #[]
  instanceTypes := #[]
  staticTypes := #[]
  resolved := Array.replicate 12 none
  statics := none }

def pool7 : Array CpInfo := pool [(1, .class_ 2), (0, u "java/lang/constant/Constable"), (0, .class_ 4), (0, u "java/lang/Object")] 6

/-- java/lang/constant/Constable -/
def k7 : Class := { plain "java/lang/constant/Constable" (some 0) with
  accessFlags := 1537
  interfaces := #[]
  cf := some (fileOf pool7 1 #[] #[] 1537 3 #[] #[])
  fields := #[]
  methods := #[]
  instanceTypes := #[]
  staticTypes := #[]
  resolved := Array.replicate 11 none
  statics := none }

def pool8 : Array CpInfo := pool [(1, .class_ 2), (0, u "java/lang/constant/ConstantDesc"), (0, .class_ 4), (0, u "java/lang/Object")] 32

/-- java/lang/constant/ConstantDesc -/
def k8 : Class := { plain "java/lang/constant/ConstantDesc" (some 0) with
  accessFlags := 1537
  interfaces := #[]
  cf := some (fileOf pool8 1 #[] #[] 1537 3 #[] #[])
  fields := #[]
  methods := #[]
  instanceTypes := #[]
  staticTypes := #[]
  resolved := Array.replicate 37 none
  statics := none }

def pool9 : Array CpInfo := pool [(1, .class_ 2), (0, u "java/lang/Integer"), (16, u "digits"), (0, u "[C"), (19, u "toUnsignedLong"), (0, u "(I)J"), (43, u "DigitOnes"), (0, u "[B"), (2, u "DigitTens"), (99, .class_ 190), (0, u "java/lang/Integer$IntegerCache"), (3, u "I"), (8, .class_ 204), (0, u "java/lang/Number"), (2, u "value"), (54, .long 4294967295), (39, u "TYPE"), (0, u "Ljava/lang/Class;"), (0, .class_ 305), (0, u "java/lang/Comparable"), (0, .class_ 307), (0, u "java/lang/constant/Constable"), (0, .class_ 309), (0, u "java/lang/constant/ConstantDesc"), (0, u "MIN_VALUE"), (1, u "MAX_VALUE"), (3, u "SIZE"), (1, u "BYTES"), (1, u "serialVersionUID"), (0, u "J")] 131

def k9c0 : Code := { maxStack := 4, maxLocals := 1, code := jdk_33_method_42_code, exceptionTable := #[], attributes := #[] }
def k9m0 : Method := { name := "toUnsignedLong", desc := "(I)J", sig := { parameters := [.int], returnType := some .long }, accessFlags := 9, code := some k9c0 }
/-- java/lang/Integer -/
def k9 : Class := { plain "java/lang/Integer" (some 5) with
  accessFlags := 49
  interfaces := #[6, 7, 8]
  cf := some (fileOf pool9 1 #[.nestMembers #[189]] #[{ accessFlags := 9, nameIndex := 40, descriptorIndex := 41, attributes := #[] }] 49 203 #[304, 306, 308] #[{ accessFlags := 25, nameIndex := 310, descriptorIndex := 194, attributes := #[] }, { accessFlags := 25, nameIndex := 312, descriptorIndex := 194, attributes := #[] }, { accessFlags := 25, nameIndex := 302, descriptorIndex := 303, attributes := #[] }, { accessFlags := 24, nameIndex := 19, descriptorIndex := 20, attributes := #[] }, { accessFlags := 24, nameIndex := 89, descriptorIndex := 86, attributes := #[] }, { accessFlags := 24, nameIndex := 85, descriptorIndex := 86, attributes := #[] }, { accessFlags := 18, nameIndex := 207, descriptorIndex := 194, attributes := #[] }, { accessFlags := 25, nameIndex := 316, descriptorIndex := 194, attributes := #[] }, { accessFlags := 25, nameIndex := 318, descriptorIndex := 194, attributes := #[] }, { accessFlags := 26, nameIndex := 320, descriptorIndex := 321, attributes := #[] }])
  fields := #[{ name := "MIN_VALUE", type := .int, accessFlags := 25, slot := 0, constantValue := 0 }, { name := "MAX_VALUE", type := .int, accessFlags := 25, slot := 1, constantValue := 0 }, { name := "TYPE", type := (.object "java/lang/Class"), accessFlags := 25, slot := 2, constantValue := 0 }, { name := "digits", type := (.array .char), accessFlags := 24, slot := 3, constantValue := 0 }, { name := "DigitTens", type := (.array .byte), accessFlags := 24, slot := 4, constantValue := 0 }, { name := "DigitOnes", type := (.array .byte), accessFlags := 24, slot := 5, constantValue := 0 }, { name := "value", type := .int, accessFlags := 18, slot := 0, constantValue := 0 }, { name := "SIZE", type := .int, accessFlags := 25, slot := 6, constantValue := 0 }, { name := "BYTES", type := .int, accessFlags := 25, slot := 7, constantValue := 0 }, { name := "serialVersionUID", type := .long, accessFlags := 26, slot := 8, constantValue := 0 }]
  methods := #[k9m0]
  instanceTypes := #[.int]
  staticTypes := #[.int, .int, (.object "java/lang/Class"), (.array .char), (.array .byte), (.array .byte), .int, .int, .long]
  resolved := Array.replicate 453 none
  statics := none }

def pool10 : Array CpInfo := pool [(1, u "java/lang/Cloneable"), (0, .class_ 1), (0, u "java/lang/Object"), (0, .class_ 3)] 3

/-- java/lang/Cloneable -/
def k10 : Class := { plain "java/lang/Cloneable" (some 0) with
  accessFlags := 1537
  interfaces := #[]
  cf := some (fileOf pool10 2 #[] #[] 1537 4 #[] #[])
  fields := #[]
  methods := #[]
  instanceTypes := #[]
  staticTypes := #[]
  resolved := Array.replicate 8 none
  statics := none }

/-- the primitive byte -/
def k11 : Class := { plain "byte" none with kind := .primitive 'B', accessFlags := 0x411 }
/-- [B -/
def k12 : Class := { plain "[B" (some 0) with kind := .array 11 .byte, interfaces := #[10, 4], accessFlags := 1041 }

/-- the primitive int -/
def k13 : Class := { plain "int" none with kind := .primitive 'I', accessFlags := 0x411 }
/-- [I -/
def k14 : Class := { plain "[I" (some 0) with kind := .array 13 .int, interfaces := #[10, 4], accessFlags := 1041 }

def heap : Heap := #[]
def classes : Array Class := #[k0, k1, k2, k3, k4, k5, k6, k7, k8, k9, k10, k11, k12, k13, k14]
def interned : List (Array UInt16 × Addr) := []
def slotsUsed : Nat := 0
def theMethod : MethodId := ⟨1, 1⟩
def args0 : Array Value := #[.long 5, .long 5, .int 5]
def aboutOver (below : List Frame) : State where
  vm := { classes := classes, interned := interned.toArray }
  heap := heap
  slotsUsed := slotsUsed
  threads := #[{ frames := .invoking theMethod args0 :: below }]
def below0 : List Frame := [.native { method := ⟨0, 0⟩, args := #[] }]
def about1 : State := aboutOver below0
def p0 : Program := .bare "" "" ""
def e0 : Env := launch0.env 0 0 0
theorem w_frames : about1.frames = Frame.invoking theMethod args0 :: below0 := rfl
set_option maxRecDepth 65536 in
theorem w_args : argsFit about1.vm theMethod args0 = true := by decide +kernel
set_option maxRecDepth 65536 in
theorem w_heap : heapFits about1 = true := by decide +kernel
set_option maxRecDepth 65536 in
theorem w_runnable : about1.curStatus? = some .runnable := by decide +kernel
set_option maxRecDepth 65536 in
theorem w_alone : about1.alone = true := by decide +kernel
set_option maxRecDepth 65536 in
theorem w_named : about1.methodNamed? x = some theMethod := by decide +kernel
set_option maxRecDepth 65536 in
theorem w_hears : about1.hears theMethod below0 = true := by decide +kernel
set_option maxRecDepth 65536 in
theorem w_ripe : about1.ripe theMethod args0 below0 = true := by decide +kernel
theorem w_running : about1.status = .running := rfl
set_option maxRecDepth 65536 in
theorem w_room : about1.hasRoom e0.platform room_1 = true :=
  launch0.hasRoom_least _ room_1 (by decide +kernel) (by decide +kernel) (by decide +kernel) (by decide +kernel) (by decide +kernel) (by decide +kernel)
theorem allAtoms_all (ts : List Jvm.Cond) (a : Array Jvm.Value) (st : Jvm.State) : (allAtoms ts).before a st = ts.all (fun c => c.before a st) := by
  induction ts with
  | nil => rfl
  | cons c t ih =>
    show (Jvm.Cond.and c (allAtoms t)).before a st = _
    rw [Jvm.Cond.before_and, ih, List.all_cons]
def words1 : List Jvm.Cond := Jvm.Cond.code x code maxLocals ret :: tables_1
/-- a 'code' word, met by the world's own term for the bytes: nothing is compared byte by byte -/
theorem code_word {y : MethodName} {bytes : ByteArray} {mx : Nat} {rt : Option FieldType} {a : Array Value} {s : State} {m : MethodId} {meth : Method} {c : Code} (h1 : s.methodNamed? y = some m) (h2 : s.vm.method? m = some meth) (h3 : meth.code = some c) (h4 : c.code = bytes)
    (h5 : (c.maxLocals == mx && c.exceptionTable.isEmpty && decide (c.maxStack ≤ mostOperands) && decide (meth.sig.returnType = rt) && !meth.locks && decide (parseMethodDescriptor y.desc = some meth.sig)) = true) : (Jvm.Cond.code y bytes mx rt).before a s = true := by
  simp only [Bool.and_eq_true, beq_iff_eq, Bool.not_eq_true', decide_eq_true_eq] at h5
  obtain ⟨⟨⟨⟨⟨g1, g2⟩, g3⟩, g4⟩, g5⟩, g6⟩ := h5
  simp [Cond.before, Cond.holds, Cond.value, h1, h2, h3, h4, g1, g2, g3, g4, g5, g6]
def isCode : Jvm.Cond → Bool
  | .code _ _ _ _ => true
  | _ => false
theorem all_split {L : List Jvm.Cond} {P : Jvm.Cond → Bool} (h1 : L.all (fun c => isCode c || P c) = true) (h2 : ∀ c ∈ L.filter isCode, P c = true) : L.all P = true := by
  refine List.all_eq_true.mpr fun c hc => ?_
  have h := List.all_eq_true.mp h1 c hc
  rcases Bool.eq_false_or_eq_true (isCode c) with hi | hi
  · exact h2 c (List.mem_filter.mpr ⟨hc, hi⟩)
  · simpa [hi] using h
set_option maxRecDepth 65536 in
theorem w_c0 : (Jvm.Cond.code x code maxLocals ret).before args0 about1 = true := code_word (m := ⟨1, 1⟩) (meth := k1m1) (c := k1c1) (by decide +kernel) rfl rfl rfl (by decide +kernel)
set_option maxRecDepth 65536 in
theorem w_c1 : (Jvm.Cond.code ({ cls := "com/example/portcullis/portcullis/IpAddress", name := "<init>", desc := "(JJ)V" } : Jvm.MethodName) prog_36_method_1_code (5 : Nat) (Option.none : Option Jvm.ClassFile.FieldType)).before args0 about1 = true := code_word (m := ⟨3, 0⟩) (meth := k3m0) (c := k3c0) (by decide +kernel) rfl rfl rfl (by decide +kernel)
set_option maxRecDepth 65536 in
theorem w_c2 : (Jvm.Cond.code ({ cls := "java/lang/Record", name := "<init>", desc := "()V" } : Jvm.MethodName) jdk_30_method_1_code (1 : Nat) (Option.none : Option Jvm.ClassFile.FieldType)).before args0 about1 = true := code_word (m := ⟨2, 0⟩) (meth := k2m0) (c := k2c0) (by decide +kernel) rfl rfl rfl (by decide +kernel)
set_option maxRecDepth 65536 in
theorem w_c3 : (Jvm.Cond.code ({ cls := "java/lang/Object", name := "<init>", desc := "()V" } : Jvm.MethodName) object_method_1_code (1 : Nat) (Option.none : Option Jvm.ClassFile.FieldType)).before args0 about1 = true := code_word (m := ⟨0, 0⟩) (meth := k0m0) (c := k0c0) (by decide +kernel) rfl rfl rfl (by decide +kernel)
set_option maxRecDepth 65536 in
theorem w_c4 : (Jvm.Cond.code ({ cls := "com/example/portcullis/portcullis/IpAddress", name := "isIpv4", desc := "()Z" } : Jvm.MethodName) prog_36_method_11_code (1 : Nat) (Option.some Jvm.ClassFile.FieldType.boolean)).before args0 about1 = true := code_word (m := ⟨3, 2⟩) (meth := k3m2) (c := k3c2) (by decide +kernel) rfl rfl rfl (by decide +kernel)
set_option maxRecDepth 65536 in
theorem w_c5 : (Jvm.Cond.code ({ cls := "com/example/portcullis/portcullis/IpAddress", name := "ofIpv4", desc := "(I)Lcom/example/portcullis/portcullis/IpAddress;" } : Jvm.MethodName) prog_36_method_2_code (1 : Nat) (Option.some (Jvm.ClassFile.FieldType.object "com/example/portcullis/portcullis/IpAddress"))).before args0 about1 = true := code_word (m := ⟨3, 1⟩) (meth := k3m1) (c := k3c1) (by decide +kernel) rfl rfl rfl (by decide +kernel)
set_option maxRecDepth 65536 in
theorem w_c6 : (Jvm.Cond.code ({ cls := "java/lang/Integer", name := "toUnsignedLong", desc := "(I)J" } : Jvm.MethodName) jdk_33_method_42_code (1 : Nat) (Option.some Jvm.ClassFile.FieldType.long)).before args0 about1 = true := code_word (m := ⟨9, 0⟩) (meth := k9m0) (c := k9c0) (by decide +kernel) rfl rfl rfl (by decide +kernel)
def codes1 : List Jvm.Cond := [Jvm.Cond.code x code maxLocals ret, Jvm.Cond.code ({ cls := "com/example/portcullis/portcullis/IpAddress", name := "<init>", desc := "(JJ)V" } : Jvm.MethodName) prog_36_method_1_code (5 : Nat) (Option.none : Option Jvm.ClassFile.FieldType), Jvm.Cond.code ({ cls := "java/lang/Record", name := "<init>", desc := "()V" } : Jvm.MethodName) jdk_30_method_1_code (1 : Nat) (Option.none : Option Jvm.ClassFile.FieldType), Jvm.Cond.code ({ cls := "java/lang/Object", name := "<init>", desc := "()V" } : Jvm.MethodName) object_method_1_code (1 : Nat) (Option.none : Option Jvm.ClassFile.FieldType), Jvm.Cond.code ({ cls := "com/example/portcullis/portcullis/IpAddress", name := "isIpv4", desc := "()Z" } : Jvm.MethodName) prog_36_method_11_code (1 : Nat) (Option.some Jvm.ClassFile.FieldType.boolean), Jvm.Cond.code ({ cls := "com/example/portcullis/portcullis/IpAddress", name := "ofIpv4", desc := "(I)Lcom/example/portcullis/portcullis/IpAddress;" } : Jvm.MethodName) prog_36_method_2_code (1 : Nat) (Option.some (Jvm.ClassFile.FieldType.object "com/example/portcullis/portcullis/IpAddress")), Jvm.Cond.code ({ cls := "java/lang/Integer", name := "toUnsignedLong", desc := "(I)J" } : Jvm.MethodName) jdk_33_method_42_code (1 : Nat) (Option.some Jvm.ClassFile.FieldType.long)]
set_option maxRecDepth 65536 in
theorem codes_eq : words1.filter isCode = codes1 := rfl
theorem w_codes : ∀ c ∈ words1.filter isCode, c.before args0 about1 = true := by
  rw [codes_eq]
  intro c hc
  simp only [codes1, List.mem_cons, List.not_mem_nil, or_false] at hc
  rcases hc with rfl | rfl | rfl | rfl | rfl | rfl | rfl
  · exact w_c0
  · exact w_c1
  · exact w_c2
  · exact w_c3
  · exact w_c4
  · exact w_c5
  · exact w_c6
set_option maxRecDepth 65536 in
theorem w_t1 : (words1.take 24).all (fun c => isCode c || c.before args0 about1) = true := by decide +kernel
set_option maxRecDepth 65536 in
theorem w_t2 : (words1.drop 24).all (fun c => isCode c || c.before args0 about1) = true := by decide +kernel
theorem w_tables : (allAtoms (Jvm.Cond.code x code maxLocals ret :: tables_1)).before args0 about1 = true := by
  rw [allAtoms_all]
  show words1.all (fun c => c.before args0 about1) = true
  refine all_split ?_ w_codes
  rw [← List.take_append_drop 24 words1, List.all_append, w_t1, w_t2]
  rfl
set_option maxRecDepth 65536 in
theorem w_case : (Jvm.Cond.and given_1 narrow_1).before args0 about1 = true := by decide +kernel
theorem w_applies : (headSpec (Jvm.Cond.code x code maxLocals ret :: tables_1) room_1).applies x e0.platform about1 = true :=
  (Spec.applies_iff w_frames).mpr ⟨w_running, w_runnable, w_alone, w_named, w_hears, w_ripe, w_room, w_tables⟩
theorem atStart : AtStart classFile x code maxLocals ret World_1 tables_1 room_1 Calls_1 rest_1 Pre_1 launch0 p0 e0 about1 theMethod args0 below0 :=
  ⟨lists_1, trivial, launch0.admits_env _ _ _, launch0.least_env, fairChoices_fair.cas, fairChoices_fair.clock, w_frames, w_args, w_heap, w_applies, trivial, trivial, w_case⟩
end start1
theorem witness_1 : WitnessClaimed_1 := ⟨start1.p0, start1.e0, start1.about1, start1.theMethod, start1.args0, start1.below0, start1.atStart⟩
end Jvm.Pilot.@@N@@
