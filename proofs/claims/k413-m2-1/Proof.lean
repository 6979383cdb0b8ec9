import JvmDerived
import JvmDerived.Pilot.@@N@@Statement
import JvmDerived.Pilot.@@N@@Code
set_option linter.unusedVariables false
set_option linter.unusedSimpArgs false
@@BLOCK:NumsL.lean.txt@@
namespace Jvm.Pilot.@@N@@
open Jvm Jvm.ClassFile Sem Op Lib Jvm.Free Jvm.Stand Jvm.LawKit Jvm.RoadKit Bundle Jvm.Pilot.@@N@@.Jvm.D
/-- from here the run comes to a state of which P holds -/
def own_Go (tb : Tables) (e : Env) (below : List Frame) (P : State → Prop) (T : State) (g : JFrame) : Prop := ∃ t, Steps tb e below (T.setTop g) t ∧ P t
theorem own_st {tb : Tables} {e : Env} {below : List Frame} {P : State → Prop} {T T' : State} {g g' : JFrame} (h : ∀ t, Steps tb e below (T'.setTop g') t → Steps tb e below (T.setTop g) t) (k : own_Go tb e below P T' g') : own_Go tb e below P T g := by
  obtain ⟨t, a, b⟩ := k; exact ⟨t, h t a, b⟩
/-- what the end of a body must be -/
def own_P (s : State) (below : List Frame) (Q : Option Value → Heap → List Loc → Prop) (C S : Nat) (t : State) : Prop := t.status = .running ∧ ∃ o, Ended t below o ∧ ∃ v L, o = .returned v ∧ Q v t.heap L ∧ FrameEnd s o t L C S
/-- .. of a body that may have interned -/
def own_PW (s : State) (below : List Frame) (Q : Option Value → Heap → List Loc → Prop) (C S : Nat) (t : State) : Prop := t.status = .running ∧ ∃ o, Ended t below o ∧ ∃ v L, o = .returned v ∧ Q v t.heap L ∧ ReturnedEndW s o t L C S
section own
variable {p : Program} {l : Launch} {e : Env} {R : Room} {s : State} {m : MethodId} {args : Array Value} {below : List Frame} {meth : Method} {c : Code} {T : State} {locs : List Loc} {cells slots : Nat} {Qo : Option Value → Heap → List Loc → Prop} {C' S' : Nat}
theorem own_out (X : Stand p l e R s m args below meth c T locs cells slots) {v : Option Value} {g : JFrame} (hv : meth.sig.returnType = none → v = none) (hlocks : meth.locks = false)
    (hst : ∀ fs, (∀ (f : JFrame) (acts : List Action), f.method = m → f.locked = none → f.entered = [] → (doReturn e (T.setTop f) acts v).1 = T.setFrames fs) → Steps p.tables e below (T.setTop g) (T.setFrames fs))
    (hc : cells ≤ C') (hs : slots ≤ S') (hq : Qo v T.heap locs) : own_Go p.tables e below (own_P s below Qo C' S') T g := by
  obtain ⟨fs, hr, hrun, hended, hW, hsame⟩ := X.leave (v := v) hv hlocks
  exact ⟨_, hst fs hr, hrun, _, hended, _, _, rfl, hq, ⟨_, rfl⟩, hW, hsame.mono hc hs⟩
theorem own_outW {vm0 : Vm} (X : Stand p l e R (s.setVm vm0) m args below meth c T locs cells slots) {k0 : Nat} (hS : s.Since vm0 k0) (hk : k0 ≤ T.heap.size) {v : Option Value} {g : JFrame} (hv : meth.sig.returnType = none → v = none) (hlocks : meth.locks = false)
    (hst : ∀ fs, (∀ (f : JFrame) (acts : List Action), f.method = m → f.locked = none → f.entered = [] → (doReturn e (T.setTop f) acts v).1 = T.setFrames fs) → Steps p.tables e below (T.setTop g) (T.setFrames fs))
    (hc : cells ≤ C') (hs : slots ≤ S') (hq : Qo v T.heap locs) : own_Go p.tables e below (own_PW s below Qo C' S') T g := by
  obtain ⟨fs, hr, hrun, hended, hW⟩ := X.leaveW hS hk (v := v) hv hlocks
  exact ⟨_, hst fs hr, hrun, _, hended, _, _, rfl, hq, hW.1, hW.2.1, hW.2.2.1, hW.2.2.2.mono hc hs⟩
theorem own_retI (X : Stand p l e R s m args below meth c T locs cells slots) (hx : p.tables.exec = Jvm.exec) {pc : Nat} {Ls : Array Slot} {z : Int32} {rest : List Value} (hret : meth.sig.returnType = some .int) (hd : decode c.code pc = .ok (.ireturn, 1)) (fs : List Frame)
    (hl : ∀ (f : JFrame) (acts : List Action), f.method = m → f.locked = none → f.entered = [] → (doReturn e (T.setTop f) acts (some (.int z))).1 = T.setFrames fs) : Steps p.tables e below (T.setTop (mkF m pc Ls (.int z :: rest))) (T.setFrames fs) :=
  retOut X hx hret rfl (Or.inl ⟨rfl, Or.inl rfl, _, rfl⟩) hd hl
theorem own_retZ (X : Stand p l e R s m args below meth c T locs cells slots) (hx : p.tables.exec = Jvm.exec) {pc : Nat} {Ls : Array Slot} {z : Int32} {rest : List Value} (hret : meth.sig.returnType = some .boolean) (hd : decode c.code pc = .ok (.ireturn, 1)) (hb : z = 0 ∨ z = 1) (fs : List Frame)
    (hl : ∀ (f : JFrame) (acts : List Action), f.method = m → f.locked = none → f.entered = [] → (doReturn e (T.setTop f) acts (some (.int z))).1 = T.setFrames fs) : Steps p.tables e below (T.setTop (mkF m pc Ls (.int z :: rest))) (T.setFrames fs) := by
  have e1 : nar .boolean z = z := by rcases hb with rfl | rfl <;> decide
  exact retN X hx hret (Or.inl rfl) hd (by rw [e1]; exact hl)
theorem own_retJ (X : Stand p l e R s m args below meth c T locs cells slots) (hx : p.tables.exec = Jvm.exec) {pc : Nat} {Ls : Array Slot} {z : Int64} {rest : List Value} (hret : meth.sig.returnType = some .long) (hd : decode c.code pc = .ok (.lreturn, 1)) (fs : List Frame)
    (hl : ∀ (f : JFrame) (acts : List Action), f.method = m → f.locked = none → f.entered = [] → (doReturn e (T.setTop f) acts (some (.long z))).1 = T.setFrames fs) : Steps p.tables e below (T.setTop (mkF m pc Ls (.long z :: rest))) (T.setFrames fs) :=
  retOut X hx hret rfl (Or.inr (Or.inl ⟨rfl, rfl, _, rfl⟩)) hd hl
theorem own_retR (X : Stand p l e R s m args below meth c T locs cells slots) (hx : p.tables.exec = Jvm.exec) {pc : Nat} {Ls : Array Slot} {w : Value} {t : FieldType} {rest : List Value} (hret : meth.sig.returnType = some t) (ht : t.isReference = true) (hw : w.isRef = true) (hn : narrow t w = w) (hd : decode c.code pc = .ok (.areturn, 1)) (fs : List Frame)
    (hl : ∀ (f : JFrame) (acts : List Action), f.method = m → f.locked = none → f.entered = [] → (doReturn e (T.setTop f) acts (some w)).1 = T.setFrames fs) : Steps p.tables e below (T.setTop (mkF m pc Ls (w :: rest))) (T.setFrames fs) :=
  retOut X hx hret hn (Or.inr (Or.inr (Or.inr (Or.inr ⟨rfl, ht, hw⟩)))) hd hl
end own
/-- a private method is the one that is picked -/
theorem own_selp {s : State} {args : Array Value} {y : MethodName} {n : Nat} (hi : (Jvm.Cond.instantiable y.cls n).before args s = true) (hp : s.PrivateAt y) (hm : (Jvm.Cond.instanceMethod y).before args s = true) (hy : y.cls ≠ "java/lang/invoke/MethodHandle" ∧ y.cls ≠ "java/lang/invoke/VarHandle") : (Jvm.Cond.selects y.cls y y).before args s = true := by
  obtain ⟨c, k, h1, h2, -, h4, -⟩ := Cond.instantiable_spec hi
  exact selects_self_of_private h1 h2 (Bool.or_eq_false_iff.mp h4).1 hp hm hy
theorem own_staK {Z : State} {h h' : Heap} {C n d : String} {v : Value} {ws : List Addr} (F : Sta Z h C n d v) (K : Keep h h' ws) (q : ∀ x ∈ ws, ∃ D, Exa Z h x D) : Sta Z h' C n d v := by
  obtain ⟨cf, i, k, f, st, cell, h1, h2, h3, h4, h5, h6, h7⟩ := F
  refine ⟨cf, i, k, f, st, cell, h1, h2, h3, h4, K.2.1 st cell h5 (fun hm => ?_), h6, h7⟩
  obtain ⟨D, c', k', e1, -, -, e4, -⟩ := q st hm
  cases h5.symm.trans e1
  rw [h6] at e4; cases e4
/-- a reference or null -/
theorem own_refOf {w : Value} (h : w.isRef = true) (c : ¬ w = Value.null) : ∃ a, w = .ref a := (ref_cases h).resolve_left c
theorem own_nW {t : FieldType} {w : Value} (ht : t.isReference = true) (h : w.isRef = true) : narrow t w = w := by
  rcases ref_cases h with rfl | ⟨a, rfl⟩ <;> cases t <;> first | rfl | simp [FieldType.isReference] at ht
theorem own_fW {t : FieldType} {w : Value} (ht : t.isReference = true) (h : w.isRef = true) : fits t w = true := by
  rcases ref_cases h with rfl | ⟨a, rfl⟩ <;> cases t <;> first | rfl | simp [FieldType.isReference] at ht
theorem own_nb {z : Int32} (h : z = 0 ∨ z = 1) : narrow .boolean (.int z) = .int z := by rcases h with rfl | rfl <;> rfl
theorem own_fb {z : Int32} (h : z = 0 ∨ z = 1) : fits .boolean (.int z) = true := by rcases h with rfl | rfl <;> rfl
/-- lcmp and a branch, in one -/
def own_lcv : ClassFile.Cond → Int64 → Int64 → Prop
  | .lt, x, y => x < y | .ge, x, y => ¬ x < y | .gt, x, y => y < x | .le, x, y => ¬ y < x | .eq, x, y => x = y | .ne, x, y => ¬ x = y
theorem own_lcT {cd : ClassFile.Cond} {x y : Int64} (h : own_lcv cd x y) : ifCond.holds cd (lcmpW x y) = true := by
  rw [if0]
  cases cd
  · exact (teq ((lw_eq x y).mpr h)).1
  · exact (feq (fun q => h ((lw_eq x y).mp q))).2
  · exact (tlt ((lw_lt x y).mpr h)).1
  · exact (flt (fun q => h ((lw_lt x y).mp q))).2.1
  · exact (tlt ((lw_gt x y).mpr h)).2.2.1
  · exact (flt (fun q => h ((lw_gt x y).mp q))).2.2.2
theorem own_lcF {cd : ClassFile.Cond} {x y : Int64} (h : ¬ own_lcv cd x y) : ifCond.holds cd (lcmpW x y) = false := by
  rw [if0]
  cases cd
  · exact (feq (fun q => h ((lw_eq x y).mp q))).1
  · exact (teq (Classical.byContradiction fun q => h (fun r => q ((lw_eq x y).mpr r)))).2
  · exact (flt (fun q => h ((lw_lt x y).mp q))).1
  · exact (tlt (Classical.byContradiction fun q => h (fun r => q ((lw_lt x y).mpr r)))).2.1
  · exact (flt (fun q => h ((lw_gt x y).mp q))).2.2.1
  · exact (tlt (Classical.byContradiction fun q => h (fun r => q ((lw_gt x y).mpr r)))).2.2.2

theorem own_pd___V : parseMethodDescriptor "()V" = some ⟨[], none⟩ := by decide +kernel
theorem own_pd___IIII_I : parseMethodDescriptor "([IIII)I" = some ⟨[(.array .int), .int, .int, .int], some .int⟩ := by decide +kernel
theorem own_pd___II_I : parseMethodDescriptor "([II)I" = some ⟨[(.array .int), .int], some .int⟩ := by decide +kernel
theorem own_pd___I_V : parseMethodDescriptor "([I)V" = some ⟨[(.array .int)], none⟩ := by decide +kernel
theorem own_pd___I : parseMethodDescriptor "()I" = some ⟨[], some .int⟩ := by decide +kernel
theorem own_pd__I_Z : parseMethodDescriptor "(I)Z" = some ⟨[.int], some .boolean⟩ := by decide +kernel
def own_updI (g : Nat → Int32) (j : Nat) (x : Int32) : Nat → Int32 := fun i => if i = j then x else g i
def own_updJ (g : Nat → Int64) (j : Nat) (x : Int64) : Nat → Int64 := fun i => if i = j then x else g i
theorem own_lt {c : Cell} {j : Int32} (q : ¬ (j < 0 ∨ c.slots.size ≤ j.toNatClampNeg)) : j.toNatClampNeg < c.slots.size := Nat.lt_of_not_le fun y => q (Or.inr y)
/-- an array of her own kind, its content as a function -/
def own_AI (Z : State) (h : Heap) (a : Addr) (k : ClassId) (z : Int32) (g : Nat → Int32) : Prop := ∃ c : Cell, Arr Z h a c .int ∧ c.cls = k ∧ c.slots.size = z.toNatClampNeg ∧ ¬ z < 0 ∧ ∀ i, i < c.slots.size → c.slots[i]? = some (.int (g i))
section own_AI
variable {Z : State} {h h' : Heap} {a b : Addr} {k : ClassId} {z j : Int32} {g : Nat → Int32} {sl : Nat} {v : Value} {ws : List Addr}
theorem own_AI.lt (F : own_AI Z h a k z g) : a < h.size := by obtain ⟨c, A, -⟩ := F; exact A.lt
theorem own_AI.ext (F : own_AI Z h a k z g) (E : Ext h h') : own_AI Z h' a k z g := by obtain ⟨c, A, r⟩ := F; exact ⟨c, A.ext E, r⟩
theorem own_AI.other (F : own_AI Z h b k z g) (W : Wr h h' a sl v) (q : b ≠ a) : own_AI Z h' b k z g := by obtain ⟨c, A, r⟩ := F; exact ⟨c, A.other W q, r⟩
theorem own_AI.keep (F : own_AI Z h a k z g) (K : Keep h h' ws) (q : a ∉ ws) : own_AI Z h' a k z g := by obtain ⟨c, A, r⟩ := F; exact ⟨c, ⟨K.2.1 a c A.1 q, A.2⟩, r⟩
theorem own_AI.new (A : Arr Z h a (newA k .int z) .int) (q : ¬ z < 0) : own_AI Z h a k z (fun _ => 0) := by
  obtain ⟨c, r1, r2, r3, r4, r5, -⟩ := Arv.new A q
  exact ⟨c, r1, r2, r3, r4, fun i hi => by rw [r5 i hi]; rfl⟩
theorem own_AI.set {x : Int32} (F : own_AI Z h a k z g) (W : Wr h h' a j.toNatClampNeg (.int x)) : own_AI Z h' a k z (own_updI g j.toNatClampNeg x) := by
  obtain ⟨c, r1, r2, r3, r4, r5⟩ := F
  refine ⟨_, r1.same W, r2, by rw [sz_set]; exact r3, r4, fun i hi => ?_⟩
  rw [sz_set] at hi
  unfold own_updI
  by_cases u : i = j.toNatClampNeg
  · subst u; simp [Cell.setSlot, hi]
  · rw [if_neg u]; have := r5 i hi; simp only [Cell.setSlot] at this ⊢; rw [Array.getElem?_setIfInBounds_ne (Ne.symm u)]; exact this
theorem own_fitI {c : Cell} (A : Arr Z h a c .int) (H : ∀ i, i < c.slots.size → c.slots[i]? = some (.int (g i))) : FitC Z c := fitC_of A fun i hi v hv => by rw [H i hi] at hv; cases hv; rfl
theorem own_AI.clone {c : Cell} (H : ∀ i, i < c.slots.size → c.slots[i]? = some (.int (g i))) (q : c.cls = k) (S : c.slots.size = z.toNatClampNeg) (N : ¬ z < 0) (A : Arr Z h' b (cloneOf c) .int) : own_AI Z h' b k z g := ⟨_, A, q, S, N, H⟩
end own_AI

/-- an array of her own kind, its content as a function -/
def own_AJ (Z : State) (h : Heap) (a : Addr) (k : ClassId) (z : Int32) (g : Nat → Int64) : Prop := ∃ c : Cell, Arr Z h a c .long ∧ c.cls = k ∧ c.slots.size = z.toNatClampNeg ∧ ¬ z < 0 ∧ ∀ i, i < c.slots.size → c.slots[i]? = some (.long (g i))
section own_AJ
variable {Z : State} {h h' : Heap} {a b : Addr} {k : ClassId} {z j : Int32} {g : Nat → Int64} {sl : Nat} {v : Value} {ws : List Addr}
theorem own_AJ.lt (F : own_AJ Z h a k z g) : a < h.size := by obtain ⟨c, A, -⟩ := F; exact A.lt
theorem own_AJ.ext (F : own_AJ Z h a k z g) (E : Ext h h') : own_AJ Z h' a k z g := by obtain ⟨c, A, r⟩ := F; exact ⟨c, A.ext E, r⟩
theorem own_AJ.other (F : own_AJ Z h b k z g) (W : Wr h h' a sl v) (q : b ≠ a) : own_AJ Z h' b k z g := by obtain ⟨c, A, r⟩ := F; exact ⟨c, A.other W q, r⟩
theorem own_AJ.keep (F : own_AJ Z h a k z g) (K : Keep h h' ws) (q : a ∉ ws) : own_AJ Z h' a k z g := by obtain ⟨c, A, r⟩ := F; exact ⟨c, ⟨K.2.1 a c A.1 q, A.2⟩, r⟩
theorem own_AJ.new (A : Arr Z h a (newA k .long z) .long) (q : ¬ z < 0) : own_AJ Z h a k z (fun _ => 0) := by
  obtain ⟨c, r1, r2, r3, r4, r5, -⟩ := Arv.new A q
  exact ⟨c, r1, r2, r3, r4, fun i hi => by rw [r5 i hi]; rfl⟩
theorem own_AJ.set {x : Int64} (F : own_AJ Z h a k z g) (W : Wr h h' a j.toNatClampNeg (.long x)) : own_AJ Z h' a k z (own_updJ g j.toNatClampNeg x) := by
  obtain ⟨c, r1, r2, r3, r4, r5⟩ := F
  refine ⟨_, r1.same W, r2, by rw [sz_set]; exact r3, r4, fun i hi => ?_⟩
  rw [sz_set] at hi
  unfold own_updJ
  by_cases u : i = j.toNatClampNeg
  · subst u; simp [Cell.setSlot, hi]
  · rw [if_neg u]; have := r5 i hi; simp only [Cell.setSlot] at this ⊢; rw [Array.getElem?_setIfInBounds_ne (Ne.symm u)]; exact this
theorem own_fitJ {c : Cell} (A : Arr Z h a c .long) (H : ∀ i, i < c.slots.size → c.slots[i]? = some (.long (g i))) : FitC Z c := fitC_of A fun i hi v hv => by rw [H i hi] at hv; cases hv; rfl
theorem own_AJ.clone {c : Cell} (H : ∀ i, i < c.slots.size → c.slots[i]? = some (.long (g i))) (q : c.cls = k) (S : c.slots.size = z.toNatClampNeg) (N : ¬ z < 0) (A : Arr Z h' b (cloneOf c) .long) : own_AJ Z h' b k z g := ⟨_, A, q, S, N, H⟩
end own_AJ

theorem d1_0 : decode jdk_30_method_1_code 0 = .ok (.aload_n 0, 1) := by decide +kernel
theorem d1_1 : decode jdk_30_method_1_code 1 = .ok (.invokespecial 1, 3) := by decide +kernel
theorem d1_4 : decode jdk_30_method_1_code 4 = .ok (.return_, 1) := by decide +kernel
theorem own_pn1 : plainName "java/lang/Record" = true := by first | (simp [plainName, overriddenIn]; done) | decide +kernel
theorem own_ef1 (m : MethodId) (a : Addr) : entryFrame m #[(.ref a)] 1 = mkF m 0 #[.val (.ref a)] [] := by first | (simp [entryFrame, mkF, argsToLocals, Value.category]; done) | rfl
def Q1 (Z : State) (a : Addr) (h0 : Heap) (n0 : Nat) (v : Option Value) (h : Heap) (L : List Loc) : Prop := v = none ∧ Fr n0 L ∧ h = h0
set_option maxRecDepth 65536 in
set_option maxHeartbeats 4000000 in
theorem rm1 (l : Launch) (Z : State) (a0 : Array Value) (hw : ∀ d ∈ tables_1, d.before a0 Z = true) (ws : List Jvm.Cond) (a : Addr) (h0 : Heap) (n0 : Nat) (Z0 : n0 ≤ h0.size) :
    MetFree l (⟨"java/lang/Record", "<init>", "()V"⟩ : MethodName) (head1 (Jvm.Cond.code (⟨"java/lang/Record", "<init>", "()V"⟩ : MethodName) jdk_30_method_1_code 1 none :: ws) ({ frames := 1, cells := 0, slots := 0, locals := 12 } : Room)) (fun aW U => aW = #[(.ref a)] ∧ Z.Warmed39 U.vm ∧ U.heap = h0) (fun _ _ _ _ _ => True) (fun _ U o U' => ∃ v L, o = .returned v ∧ Q1 Z a h0 n0 v U'.heap L ∧ FrameEnd U o U' L ({ frames := 1, cells := 0, slots := 0, locals := 12 } : Room).cells ({ frames := 1, cells := 0, slots := 0, locals := 12 } : Room).slots) := by
  refine MetFree.of_bodySF (plainFor_of_name own_pn1) hisR ?_
  intro p e s m args below meth c s₁ Bd hml0 hP hK
  obtain ⟨rfl, hZ, hh⟩ := hP
  have hx := Bd.exec
  have hby := Bd.bytes
  have hml : c.maxLocals = 1 := hml0
  have hown : s.vm.findClass "java/lang/Record" = some m.cls := findClass_of_methodNamed Bd.named
  have hnm := (name_of_methodNamed Bd.named Bd.method).1
  have X0 : Stand p l e ({ frames := 1, cells := 0, slots := 0, locals := 12 } : Room) s m #[(.ref a)] below meth c s₁ [] 0 0 := Stand.of_body Bd
  have e0 : s₁.heap = h0 := by rw [← hh, Bd.state]; rfl
  have N0 := Fr.nil n0
  obtain ⟨Pq, hPq⟩ : ∃ P, P = own_P s below (fun v h L => Q1 Z a h0 n0 v h L) ({ frames := 1, cells := 0, slots := 0, locals := 12 } : Room).cells ({ frames := 1, cells := 0, slots := 0, locals := 12 } : Room).slots := ⟨_, rfl⟩
  suffices hgo : own_Go p.tables e below Pq s₁ (mkF m 0 #[.val (.ref a)] []) by
    subst hPq
    obtain ⟨t, k1, k2, o, k3, k4⟩ := hgo
    exact ⟨t, o, castTop (own_ef1 m a) k1, k2, k3, k4⟩
  show own_Go _ _ _ _ s₁ (mkF m 0 #[.val (.ref a)] [])
  refine own_st (fun t k => XS.aloadN X0.here hx rfl (hb hby d1_0) rfl rfl k) ?_
  show own_Go _ _ _ _ s₁ (mkF m 1 _ [(.ref a)])
  obtain ⟨T1, X1, e1, st1⟩ := initO X0 hx hZ hown (hw _ (List.mem_of_getElem? (i := 14) rfl)) (hw _ (List.mem_of_getElem? (i := 15) rfl)) (hw _ (List.mem_of_getElem? (i := 16) rfl)) e0 (g := (mkF m 1 #[.val (.ref a)] [(.ref a)])) rfl (by rw [hml]; rfl) rfl (hb hby d1_1) (by decide) (W := 0) (by show 2 * 0 + _ ≤ _; exact Nat.le_of_eq rfl) (by decide)
  refine own_st st1 ?_
  show own_Go _ _ _ _ T1 (mkF m 4 _ [])
  subst hPq
  refine own_out X1 (v := none) (fun _ => rfl) Bd.notSynchronized (fun fs hr => X1.returnOut hx Bd.returns (hb hby d1_4) hr) (by decide) (by decide) ?_
  show Q1 Z a h0 n0 _ T1.heap _
  rw [e1]
  exact ⟨rfl, N0, rfl⟩
theorem d2_0 : decode prog_38_method_1_code 0 = .ok (.aload_n 0, 1) := by decide +kernel
theorem d2_1 : decode prog_38_method_1_code 1 = .ok (.invokespecial 1, 3) := by decide +kernel
theorem d2_4 : decode prog_38_method_1_code 4 = .ok (.aload_n 0, 1) := by decide +kernel
theorem d2_5 : decode prog_38_method_1_code 5 = .ok (.aload_n 1, 1) := by decide +kernel
theorem d2_6 : decode prog_38_method_1_code 6 = .ok (.putfield 7, 3) := by decide +kernel
theorem d2_9 : decode prog_38_method_1_code 9 = .ok (.return_, 1) := by decide +kernel
theorem own_pn2 : plainName "com/example/premise/premise/regex/RegexProgram$Ranges" = true := by first | (simp [plainName, overriddenIn]; done) | decide +kernel
theorem own_ef2 (m : MethodId) (a : Addr) (x0 : Addr) : entryFrame m #[(.ref a), (.ref x0)] 2 = mkF m 0 #[.val (.ref a), .val (.ref x0)] [] := by first | (simp [entryFrame, mkF, argsToLocals, Value.category]; done) | rfl
def Q2 (Z : State) (a : Addr) (x0 : Addr) (u0 : Value) (h0 : Heap) (n0 : Nat) (v : Option Value) (h : Heap) (L : List Loc) : Prop := v = none ∧ Fr n0 L ∧ Keep h0 h [a] ∧ Exa Z h a "com/example/premise/premise/regex/RegexProgram$Ranges" ∧ Fld Z h a "com/example/premise/premise/regex/RegexProgram$Ranges" "bounds" "[I" (.ref x0)
set_option maxRecDepth 65536 in
set_option maxHeartbeats 4000000 in
theorem rm2 (l : Launch) (Z : State) (a0 : Array Value) (hw : ∀ d ∈ tables_1, d.before a0 Z = true) (ws : List Jvm.Cond) (a : Addr) (x0 : Addr) (u0 : Value) (h0 : Heap) (n0 : Nat) (Z0 : n0 ≤ h0.size) (F0 : Exa Z h0 a "com/example/premise/premise/regex/RegexProgram$Ranges") (F1 : Fld Z h0 a "com/example/premise/premise/regex/RegexProgram$Ranges" "bounds" "[I" u0) (g_a : n0 ≤ a) :
    MetFree l (⟨"com/example/premise/premise/regex/RegexProgram$Ranges", "<init>", "([I)V"⟩ : MethodName) (head1 (Jvm.Cond.code (⟨"com/example/premise/premise/regex/RegexProgram$Ranges", "<init>", "([I)V"⟩ : MethodName) prog_38_method_1_code 2 none :: ws) ({ frames := 2, cells := 0, slots := 0, locals := 24 } : Room)) (fun aW U => aW = #[(.ref a), (.ref x0)] ∧ Z.Warmed39 U.vm ∧ U.heap = h0) (fun _ _ _ _ _ => True) (fun _ U o U' => ∃ v L, o = .returned v ∧ Q2 Z a x0 u0 h0 n0 v U'.heap L ∧ FrameEnd U o U' L ({ frames := 2, cells := 0, slots := 0, locals := 24 } : Room).cells ({ frames := 2, cells := 0, slots := 0, locals := 24 } : Room).slots) := by
  refine MetFree.of_bodySF (plainFor_of_name own_pn2) hisR ?_
  intro p e s m args below meth c s₁ Bd hml0 hP hK
  obtain ⟨rfl, hZ, hh⟩ := hP
  have hx := Bd.exec
  have hby := Bd.bytes
  have hml : c.maxLocals = 2 := hml0
  have hown : s.vm.findClass "com/example/premise/premise/regex/RegexProgram$Ranges" = some m.cls := findClass_of_methodNamed Bd.named
  have hnm := (name_of_methodNamed Bd.named Bd.method).1
  have X0 : Stand p l e ({ frames := 2, cells := 0, slots := 0, locals := 24 } : Room) s m #[(.ref a), (.ref x0)] below meth c s₁ [] 0 0 := Stand.of_body Bd
  have e0 : s₁.heap = h0 := by rw [← hh, Bd.state]; rfl
  have N0 := Fr.nil n0
  have K0 : Keep h0 h0 [a] := Keep.refl _ _
  obtain ⟨Pq, hPq⟩ : ∃ P, P = own_P s below (fun v h L => Q2 Z a x0 u0 h0 n0 v h L) ({ frames := 2, cells := 0, slots := 0, locals := 24 } : Room).cells ({ frames := 2, cells := 0, slots := 0, locals := 24 } : Room).slots := ⟨_, rfl⟩
  suffices hgo : own_Go p.tables e below Pq s₁ (mkF m 0 #[.val (.ref a), .val (.ref x0)] []) by
    subst hPq
    obtain ⟨t, k1, k2, o, k3, k4⟩ := hgo
    exact ⟨t, o, castTop (own_ef2 m a x0) k1, k2, k3, k4⟩
  show own_Go _ _ _ _ s₁ (mkF m 0 #[.val (.ref a), .val (.ref x0)] [])
  refine own_st (fun t k => XS.aloadN X0.here hx rfl (hb hby d2_0) rfl rfl k) ?_
  show own_Go _ _ _ _ s₁ (mkF m 1 _ [(.ref a)])
  obtain ⟨_, _, ⟨T1, L1, k1, n1⟩, -, X1, ⟨Lc1, hQ1, l1, y1, z1⟩, st1⟩ := X0.specialBack hx (y := (⟨"java/lang/Record", "<init>", "()V"⟩ : MethodName)) rfl hown (mvT hZ (hw _ (List.mem_of_getElem? (i := 9) rfl))) (mvT hZ (hw _ (List.mem_of_getElem? (i := 10) rfl))) (mvT hZ (hw _ (List.mem_of_getElem? (i := 13) rfl))) (by decide) (backOf (W := 0) (rm1 l Z a0 hw [] a h0 n0 Z0 ) hZ (hw _ (List.mem_of_getElem? (i := 13) rfl)) (hw _ (List.mem_of_getElem? (i := 12) rfl)) (by decide) (by decide)) (g := (mkF m 1 #[.val (.ref a), .val (.ref x0)] [(.ref a)])) rfl (by rw [hml]; rfl) (Steps.refl _) (a := a) (argsL := []) (rest := []) (lenOf own_pd___V rfl) rfl (by show 2 * 0 + _ ≤ _; exact Nat.le_of_eq rfl) (hb hby d2_1) (fun _ _ => ⟨rfl, e0, (by decide : 0 + 0 ≤ _), (by decide : 0 + 0 ≤ _)⟩)
  dsimp only [Pt.U, Pt.locs, Pt.cells, Pt.slots] at X1 l1 y1 z1 st1 hQ1
  subst l1 y1 z1
  obtain ⟨rfl, NQ1, eq1⟩ := hQ1
  have N2 := Fr.app N0 NQ1
  refine own_st (fun t k => st1.trans k) ?_
  show own_Go _ _ _ _ T1 (mkF m 4 _ [])
  refine own_st (fun t k => XS.aloadN X1.here hx rfl (hb hby d2_4) rfl rfl k) ?_
  show own_Go _ _ _ _ T1 (mkF m 5 _ [(.ref a)])
  refine own_st (fun t k => XS.aloadN X1.here hx rfl (hb hby d2_5) rfl rfl k) ?_
  show own_Go _ _ _ _ T1 (mkF m 6 _ [(.ref x0), (.ref a)])
  obtain ⟨T3, h3, X3, e3, W3, st3⟩ := putF X1 hx hZ hown (host := "") (Or.inl (hw _ (List.mem_of_getElem? (i := 17) rfl))) Via.refl eq1 F1 F0 (Or.inr ⟨(hw _ (List.mem_of_getElem? (i := 18) rfl)), rfl, hnm⟩) (hw _ (List.mem_of_getElem? (i := 4) rfl)) (ty := (.array .int)) (by decide) rfl rfl (g := (mkF m 6 #[.val (.ref a), .val (.ref x0)] [(.ref x0), (.ref a)])) rfl rfl (hb hby d2_6)
  refine own_st st3 ?_
  have f4 := F0.wr W3
  have N5 := Fr.snoc X3 N2 g_a
  have Z6 : n0 ≤ h3.size := Nat.le_trans Z0 (Nat.le_of_eq W3.size.symm)
  have K7 : Keep h0 h3 [a] := K0.wr W3 (Or.inl (List.mem_of_getElem? (i := 0) rfl))
  have f8 := F1.same W3
  show own_Go _ _ _ _ T3 (mkF m 9 _ [])
  subst hPq
  refine own_out X3 (v := none) (fun _ => rfl) Bd.notSynchronized (fun fs hr => X3.returnOut hx Bd.returns (hb hby d2_9) hr) (by decide) (by decide) ?_
  show Q2 Z a x0 u0 h0 n0 _ T3.heap _
  rw [e3]
  exact ⟨rfl, N5, K7, f4, f8⟩
def own_single (z : Int32) (gf : Nat → Int32) : Int32 := (if z = (2 : Int32) then (if (gf 0) = (gf 1) then (gf 0) else (-1 : Int32)) else (-1 : Int32))
theorem d3_0 : decode prog_38_method_3_code 0 = .ok (.aload_n 0, 1) := by decide +kernel
theorem d3_1 : decode prog_38_method_3_code 1 = .ok (.getfield 7, 3) := by decide +kernel
theorem d3_4 : decode prog_38_method_3_code 4 = .ok (.arraylength, 1) := by decide +kernel
theorem d3_5 : decode prog_38_method_3_code 5 = .ok (.iconst 2, 1) := by decide +kernel
theorem d3_6 : decode prog_38_method_3_code 6 = .ok (.if_icmp .ne 27, 3) := by decide +kernel
theorem d3_9 : decode prog_38_method_3_code 9 = .ok (.aload_n 0, 1) := by decide +kernel
theorem d3_10 : decode prog_38_method_3_code 10 = .ok (.getfield 7, 3) := by decide +kernel
theorem d3_13 : decode prog_38_method_3_code 13 = .ok (.iconst 0, 1) := by decide +kernel
theorem d3_14 : decode prog_38_method_3_code 14 = .ok (.iaload, 1) := by decide +kernel
theorem d3_15 : decode prog_38_method_3_code 15 = .ok (.aload_n 0, 1) := by decide +kernel
theorem d3_16 : decode prog_38_method_3_code 16 = .ok (.getfield 7, 3) := by decide +kernel
theorem d3_19 : decode prog_38_method_3_code 19 = .ok (.iconst 1, 1) := by decide +kernel
theorem d3_20 : decode prog_38_method_3_code 20 = .ok (.iaload, 1) := by decide +kernel
theorem d3_21 : decode prog_38_method_3_code 21 = .ok (.if_icmp .ne 12, 3) := by decide +kernel
theorem d3_24 : decode prog_38_method_3_code 24 = .ok (.aload_n 0, 1) := by decide +kernel
theorem d3_25 : decode prog_38_method_3_code 25 = .ok (.getfield 7, 3) := by decide +kernel
theorem d3_28 : decode prog_38_method_3_code 28 = .ok (.iconst 0, 1) := by decide +kernel
theorem d3_29 : decode prog_38_method_3_code 29 = .ok (.iaload, 1) := by decide +kernel
theorem d3_30 : decode prog_38_method_3_code 30 = .ok (.goto 4, 3) := by decide +kernel
theorem d3_33 : decode prog_38_method_3_code 33 = .ok (.iconst (-1), 1) := by decide +kernel
theorem d3_34 : decode prog_38_method_3_code 34 = .ok (.ireturn, 1) := by decide +kernel
theorem own_pn3 : plainName "com/example/premise/premise/regex/RegexProgram$Ranges" = true := by first | (simp [plainName, overriddenIn]; done) | decide +kernel
theorem own_ef3 (m : MethodId) (a : Addr) : entryFrame m #[(.ref a)] 1 = mkF m 0 #[.val (.ref a)] [] := by first | (simp [entryFrame, mkF, argsToLocals, Value.category]; done) | rfl
def Q3 (Z : State) (a : Addr) (ar : Addr) (kc : ClassId) (z : Int32) (gf : Nat → Int32) (h0 : Heap) (n0 : Nat) (v : Option Value) (h : Heap) (L : List Loc) : Prop := v = some (.int (own_single z gf)) ∧ Fr n0 L ∧ h = h0
set_option maxRecDepth 65536 in
set_option maxHeartbeats 4000000 in
theorem rm3 (l : Launch) (Z : State) (a0 : Array Value) (hw : ∀ d ∈ tables_1, d.before a0 Z = true) (ws : List Jvm.Cond) (a : Addr) (ar : Addr) (kc : ClassId) (z : Int32) (gf : Nat → Int32) (h0 : Heap) (n0 : Nat) (Z0 : n0 ≤ h0.size) (F0 : Exa Z h0 a "com/example/premise/premise/regex/RegexProgram$Ranges") (F1 : Fld Z h0 a "com/example/premise/premise/regex/RegexProgram$Ranges" "bounds" "[I" (.ref ar)) (F2 : own_AI Z h0 ar kc z gf) :
    MetFree l (⟨"com/example/premise/premise/regex/RegexProgram$Ranges", "single", "()I"⟩ : MethodName) (head1 (Jvm.Cond.code (⟨"com/example/premise/premise/regex/RegexProgram$Ranges", "single", "()I"⟩ : MethodName) prog_38_method_3_code 1 (some .int) :: ws) ({ frames := 0, cells := 0, slots := 0, locals := 0 } : Room)) (fun aW U => aW = #[(.ref a)] ∧ Z.Warmed39 U.vm ∧ U.heap = h0) (fun _ _ _ _ _ => True) (fun _ U o U' => ∃ v L, o = .returned v ∧ Q3 Z a ar kc z gf h0 n0 v U'.heap L ∧ FrameEnd U o U' L ({ frames := 0, cells := 0, slots := 0, locals := 0 } : Room).cells ({ frames := 0, cells := 0, slots := 0, locals := 0 } : Room).slots) := by
  refine MetFree.of_bodySF (plainFor_of_name own_pn3) hisR ?_
  intro p e s m args below meth c s₁ Bd hml0 hP hK
  obtain ⟨rfl, hZ, hh⟩ := hP
  have hx := Bd.exec
  have hby := Bd.bytes
  have hml : c.maxLocals = 1 := hml0
  have hown : s.vm.findClass "com/example/premise/premise/regex/RegexProgram$Ranges" = some m.cls := findClass_of_methodNamed Bd.named
  have hnm := (name_of_methodNamed Bd.named Bd.method).1
  have X0 : Stand p l e ({ frames := 0, cells := 0, slots := 0, locals := 0 } : Room) s m #[(.ref a)] below meth c s₁ [] 0 0 := Stand.of_body Bd
  have e0 : s₁.heap = h0 := by rw [← hh, Bd.state]; rfl
  have N0 := Fr.nil n0
  obtain ⟨Pq, hPq⟩ : ∃ P, P = own_P s below (fun v h L => Q3 Z a ar kc z gf h0 n0 v h L) ({ frames := 0, cells := 0, slots := 0, locals := 0 } : Room).cells ({ frames := 0, cells := 0, slots := 0, locals := 0 } : Room).slots := ⟨_, rfl⟩
  suffices hgo : own_Go p.tables e below Pq s₁ (mkF m 0 #[.val (.ref a)] []) by
    subst hPq
    obtain ⟨t, k1, k2, o, k3, k4⟩ := hgo
    exact ⟨t, o, castTop (own_ef3 m a) k1, k2, k3, k4⟩
  show own_Go _ _ _ _ s₁ (mkF m 0 #[.val (.ref a)] [])
  refine own_st (fun t k => XS.aloadN X0.here hx rfl (hb hby d3_0) rfl rfl k) ?_
  show own_Go _ _ _ _ s₁ (mkF m 1 _ [(.ref a)])
  obtain ⟨T1, X1, e1, st1⟩ := getF X0 hx hZ hown (host := "") (Or.inl (hw _ (List.mem_of_getElem? (i := 17) rfl))) Via.refl e0 F1 (g := (mkF m 1 #[.val (.ref a)] [(.ref a)])) rfl rfl (hb hby d3_1)
  refine own_st st1 ?_
  show own_Go _ _ _ _ T1 (mkF m 4 _ [(.ref ar)])
  obtain ⟨c2, Ar2, q2, S2, N2, H2⟩ := id F2
  refine own_st (fun t k => X1.arraylength hx (by rw [e1]; exact Ar2.1) (State.isArrayOf_alike hZ.alike Ar2.2.1) (g := (mkF m 4 #[.val (.ref a)] [(.ref ar)])) rfl rfl (hb hby d3_4) _ k) ?_
  rw [len_of S2 N2]
  show own_Go _ _ _ _ T1 (mkF m 5 _ [(.int z)])
  refine own_st (fun t k => XS.iconst X1.here hx rfl (hb hby d3_5) k) ?_
  show own_Go _ _ _ _ T1 (mkF m 6 _ [(.int (2 : Int32)), (.int z)])
  have J14 : ∀ (Tj14 : State) (Lj14 : List Loc) (p15 : Int32), Stand p l e ({ frames := 0, cells := 0, slots := 0, locals := 0 } : Room) s m #[(.ref a)] below meth c Tj14 Lj14 0 0 → Tj14.heap = h0 → Fr n0 Lj14 → p15 = (if z = (2 : Int32) then (if (gf 0) = (gf 1) then (gf 0) else (-1 : Int32)) else (-1 : Int32)) → own_Go p.tables e below Pq Tj14 (mkF m 34 #[.val (.ref a)] [(.int p15)]) := by
    intro Tj14 Lj14 p15 Xj14 ej14 Nj14 qp15
    show own_Go _ _ _ _ Tj14 (mkF m 34 _ [(.int p15)])
    subst hPq
    refine own_out Xj14 (v := some (.int p15)) (fun h => by rw [Bd.returns] at h; cases h) Bd.notSynchronized (own_retI Xj14 hx Bd.returns (hb hby d3_34)) (by decide) (by decide) ?_
    show Q3 Z a ar kc z gf h0 n0 _ Tj14.heap _
    rw [ej14]
    exact ⟨by subst_vars; rfl, Nj14, rfl⟩
  by_cases c3 : z = (2 : Int32)
  · skip
    refine own_st (fun t k => XS.icmpNo X1.here hx rfl (hb hby d3_6) rfl (teq c3).2 k) ?_
    show own_Go _ _ _ _ T1 (mkF m 9 _ [])
    refine own_st (fun t k => XS.aloadN X1.here hx rfl (hb hby d3_9) rfl rfl k) ?_
    show own_Go _ _ _ _ T1 (mkF m 10 _ [(.ref a)])
    obtain ⟨T4, X4, e4, st4⟩ := getF X1 hx hZ hown (host := "") (Or.inl (hw _ (List.mem_of_getElem? (i := 17) rfl))) Via.refl e1 F1 (g := (mkF m 10 #[.val (.ref a)] [(.ref a)])) rfl rfl (hb hby d3_10)
    refine own_st st4 ?_
    show own_Go _ _ _ _ T4 (mkF m 13 _ [(.ref ar)])
    refine own_st (fun t k => XS.iconst X4.here hx rfl (hb hby d3_13) k) ?_
    show own_Go _ _ _ _ T4 (mkF m 14 _ [(.int (0 : Int32)), (.ref ar)])
    obtain ⟨c5, Ar5, q5, S5, N5, H5⟩ := id F2
    refine own_st (fun t k => X4.iaload hx (j := (0 : Int32)) (v := (.int (gf 0))) (by rw [e4]; exact Ar5.1) (State.isArrayOf_alike hZ.alike Ar5.2.1) Ar5.2.2 (inb_of S5 ⟨by decide, by rw [c3]; decide⟩) (H5 _ (own_lt (inb_of S5 ⟨by decide, by rw [c3]; decide⟩))) (g := (mkF m 14 #[.val (.ref a)] [(.int (0 : Int32)), (.ref ar)])) rfl rfl (hb hby d3_14) _ k) ?_
    show own_Go _ _ _ _ T4 (mkF m 15 _ [(.int (gf 0))])
    refine own_st (fun t k => XS.aloadN X4.here hx rfl (hb hby d3_15) rfl rfl k) ?_
    show own_Go _ _ _ _ T4 (mkF m 16 _ [(.ref a), (.int (gf 0))])
    obtain ⟨T6, X6, e6, st6⟩ := getF X4 hx hZ hown (host := "") (Or.inl (hw _ (List.mem_of_getElem? (i := 17) rfl))) Via.refl e4 F1 (g := (mkF m 16 #[.val (.ref a)] [(.ref a), (.int (gf 0))])) rfl rfl (hb hby d3_16)
    refine own_st st6 ?_
    show own_Go _ _ _ _ T6 (mkF m 19 _ [(.ref ar), (.int (gf 0))])
    refine own_st (fun t k => XS.iconst X6.here hx rfl (hb hby d3_19) k) ?_
    show own_Go _ _ _ _ T6 (mkF m 20 _ [(.int (1 : Int32)), (.ref ar), (.int (gf 0))])
    obtain ⟨c7, Ar7, q7, S7, N7, H7⟩ := id F2
    refine own_st (fun t k => X6.iaload hx (j := (1 : Int32)) (v := (.int (gf 1))) (by rw [e6]; exact Ar7.1) (State.isArrayOf_alike hZ.alike Ar7.2.1) Ar7.2.2 (inb_of S7 ⟨by decide, by rw [c3]; decide⟩) (H7 _ (own_lt (inb_of S7 ⟨by decide, by rw [c3]; decide⟩))) (g := (mkF m 20 #[.val (.ref a)] [(.int (1 : Int32)), (.ref ar), (.int (gf 0))])) rfl rfl (hb hby d3_20) _ k) ?_
    show own_Go _ _ _ _ T6 (mkF m 21 _ [(.int (gf 1)), (.int (gf 0))])
    by_cases c8 : (gf 0) = (gf 1)
    · skip
      refine own_st (fun t k => XS.icmpNo X6.here hx rfl (hb hby d3_21) rfl (teq c8).2 k) ?_
      show own_Go _ _ _ _ T6 (mkF m 24 _ [])
      refine own_st (fun t k => XS.aloadN X6.here hx rfl (hb hby d3_24) rfl rfl k) ?_
      show own_Go _ _ _ _ T6 (mkF m 25 _ [(.ref a)])
      obtain ⟨T9, X9, e9, st9⟩ := getF X6 hx hZ hown (host := "") (Or.inl (hw _ (List.mem_of_getElem? (i := 17) rfl))) Via.refl e6 F1 (g := (mkF m 25 #[.val (.ref a)] [(.ref a)])) rfl rfl (hb hby d3_25)
      refine own_st st9 ?_
      show own_Go _ _ _ _ T9 (mkF m 28 _ [(.ref ar)])
      refine own_st (fun t k => XS.iconst X9.here hx rfl (hb hby d3_28) k) ?_
      show own_Go _ _ _ _ T9 (mkF m 29 _ [(.int (0 : Int32)), (.ref ar)])
      obtain ⟨c10, Ar10, q10, S10, N10, H10⟩ := id F2
      refine own_st (fun t k => X9.iaload hx (j := (0 : Int32)) (v := (.int (gf 0))) (by rw [e9]; exact Ar10.1) (State.isArrayOf_alike hZ.alike Ar10.2.1) Ar10.2.2 (inb_of S10 ⟨by decide, by rw [c3]; decide⟩) (H10 _ (own_lt (inb_of S10 ⟨by decide, by rw [c3]; decide⟩))) (g := (mkF m 29 #[.val (.ref a)] [(.int (0 : Int32)), (.ref ar)])) rfl rfl (hb hby d3_29) _ k) ?_
      show own_Go _ _ _ _ T9 (mkF m 30 _ [(.int (gf 0))])
      refine own_st (fun t k => XS.goto X9.here hx rfl (pc0 := 30) (pc' := 34) rfl (hb hby d3_30) (by decide) (by decide) k) ?_
      show own_Go _ _ _ _ T9 (mkF m 34 _ [(.int (gf 0))])
      exact J14 T9 _ _ X9 e9 N0 (by simp only [if_pos c3, if_pos c8])
    · skip
      refine own_st (fun t k => XS.icmpYes X6.here hx rfl (pc0 := 21) (pc' := 33) rfl (hb hby d3_21) rfl (feq c8).2 (by decide) (by decide) k) ?_
      show own_Go _ _ _ _ T6 (mkF m 33 _ [])
      refine own_st (fun t k => XS.iconst X6.here hx rfl (hb hby d3_33) k) ?_
      show own_Go _ _ _ _ T6 (mkF m 34 _ [(.int (-1 : Int32))])
      exact J14 T6 _ _ X6 e6 N0 (by simp only [if_pos c3, if_neg c8])
  · skip
    refine own_st (fun t k => XS.icmpYes X1.here hx rfl (pc0 := 6) (pc' := 33) rfl (hb hby d3_6) rfl (feq c3).2 (by decide) (by decide) k) ?_
    show own_Go _ _ _ _ T1 (mkF m 33 _ [])
    refine own_st (fun t k => XS.iconst X1.here hx rfl (hb hby d3_33) k) ?_
    show own_Go _ _ _ _ T1 (mkF m 34 _ [(.int (-1 : Int32))])
    exact J14 T1 _ _ X1 e1 N0 (by simp only [if_neg c3])
theorem own_irr {x y : Int32} (h : x = y) : ¬ x < y := by rw [h, Int32.lt_iff_toInt_lt]; omega
theorem d4_0 : decode jdk_65_method_59_code 0 = .ok (.iload_n 1, 1) := by decide +kernel
theorem d4_1 : decode jdk_65_method_59_code 1 = .ok (.istore 4, 2) := by decide +kernel
theorem d4_3 : decode jdk_65_method_59_code 3 = .ok (.iload_n 2, 1) := by decide +kernel
theorem d4_4 : decode jdk_65_method_59_code 4 = .ok (.iconst 1, 1) := by decide +kernel
theorem d4_5 : decode jdk_65_method_59_code 5 = .ok (.isub, 1) := by decide +kernel
theorem d4_6 : decode jdk_65_method_59_code 6 = .ok (.istore 5, 2) := by decide +kernel
theorem d4_8 : decode jdk_65_method_59_code 8 = .ok (.iload 4, 2) := by decide +kernel
theorem d4_10 : decode jdk_65_method_59_code 10 = .ok (.iload 5, 2) := by decide +kernel
theorem d4_12 : decode jdk_65_method_59_code 12 = .ok (.if_icmp .gt 54, 3) := by decide +kernel
theorem d4_15 : decode jdk_65_method_59_code 15 = .ok (.iload 4, 2) := by decide +kernel
theorem d4_17 : decode jdk_65_method_59_code 17 = .ok (.iload 5, 2) := by decide +kernel
theorem d4_19 : decode jdk_65_method_59_code 19 = .ok (.iadd, 1) := by decide +kernel
theorem d4_20 : decode jdk_65_method_59_code 20 = .ok (.iconst 1, 1) := by decide +kernel
theorem d4_21 : decode jdk_65_method_59_code 21 = .ok (.iushr, 1) := by decide +kernel
theorem d4_22 : decode jdk_65_method_59_code 22 = .ok (.istore 6, 2) := by decide +kernel
theorem d4_24 : decode jdk_65_method_59_code 24 = .ok (.aload_n 0, 1) := by decide +kernel
theorem d4_25 : decode jdk_65_method_59_code 25 = .ok (.iload 6, 2) := by decide +kernel
theorem d4_27 : decode jdk_65_method_59_code 27 = .ok (.iaload, 1) := by decide +kernel
theorem d4_28 : decode jdk_65_method_59_code 28 = .ok (.istore 7, 2) := by decide +kernel
theorem d4_30 : decode jdk_65_method_59_code 30 = .ok (.iload 7, 2) := by decide +kernel
theorem d4_32 : decode jdk_65_method_59_code 32 = .ok (.iload_n 3, 1) := by decide +kernel
theorem d4_33 : decode jdk_65_method_59_code 33 = .ok (.if_icmp .ge 12, 3) := by decide +kernel
theorem d4_45 : decode jdk_65_method_59_code 45 = .ok (.iload 7, 2) := by decide +kernel
theorem d4_47 : decode jdk_65_method_59_code 47 = .ok (.iload_n 3, 1) := by decide +kernel
theorem d4_48 : decode jdk_65_method_59_code 48 = .ok (.if_icmp .le 12, 3) := by decide +kernel
theorem d4_60 : decode jdk_65_method_59_code 60 = .ok (.iload 6, 2) := by decide +kernel
theorem d4_62 : decode jdk_65_method_59_code 62 = .ok (.ireturn, 1) := by decide +kernel
theorem own_pn4 : plainName "java/util/Arrays" = true := by first | (simp [plainName, overriddenIn]; done) | decide +kernel
theorem own_ef4 (m : MethodId) (ar : Addr) (key : Int32) : entryFrame m #[(.ref ar), (.int (0 : Int32)), (.int (2 : Int32)), (.int key)] 8 = mkF m 0 #[.val (.ref ar), .val (.int (0 : Int32)), .val (.int (2 : Int32)), .val (.int key), .unset, .unset, .unset, .unset] [] := by first | (simp [entryFrame, mkF, argsToLocals, Value.category]; done) | rfl
def Q4 (Z : State) (ar : Addr) (key : Int32) (kc : ClassId) (gf : Nat → Int32) (h0 : Heap) (n0 : Nat) (v : Option Value) (h : Heap) (L : List Loc) : Prop := v = some (.int (0 : Int32)) ∧ Fr n0 L ∧ h = h0
set_option maxRecDepth 65536 in
set_option maxHeartbeats 4000000 in
theorem rm4 (l : Launch) (Z : State) (a0 : Array Value) (hw : ∀ d ∈ tables_1, d.before a0 Z = true) (ws : List Jvm.Cond) (ar : Addr) (key : Int32) (kc : ClassId) (gf : Nat → Int32) (h0 : Heap) (n0 : Nat) (Z0 : n0 ≤ h0.size) (F0 : own_AI Z h0 ar kc (2 : Int32) gf) (hk : (gf 0) = key) :
    MetFree l (⟨"java/util/Arrays", "binarySearch0", "([IIII)I"⟩ : MethodName) (head1 (Jvm.Cond.code (⟨"java/util/Arrays", "binarySearch0", "([IIII)I"⟩ : MethodName) jdk_65_method_59_code 8 (some .int) :: ws) ({ frames := 0, cells := 0, slots := 0, locals := 0 } : Room)) (fun aW U => aW = #[(.ref ar), (.int (0 : Int32)), (.int (2 : Int32)), (.int key)] ∧ Z.Warmed39 U.vm ∧ U.heap = h0) (fun _ _ _ _ _ => True) (fun _ U o U' => ∃ v L, o = .returned v ∧ Q4 Z ar key kc gf h0 n0 v U'.heap L ∧ FrameEnd U o U' L ({ frames := 0, cells := 0, slots := 0, locals := 0 } : Room).cells ({ frames := 0, cells := 0, slots := 0, locals := 0 } : Room).slots) := by
  refine MetFree.of_bodySF (plainFor_of_name own_pn4) hisR ?_
  intro p e s m args below meth c s₁ Bd hml0 hP hK
  obtain ⟨rfl, hZ, hh⟩ := hP
  have hx := Bd.exec
  have hby := Bd.bytes
  have hml : c.maxLocals = 8 := hml0
  have hown : s.vm.findClass "java/util/Arrays" = some m.cls := findClass_of_methodNamed Bd.named
  have hnm := (name_of_methodNamed Bd.named Bd.method).1
  have X0 : Stand p l e ({ frames := 0, cells := 0, slots := 0, locals := 0 } : Room) s m #[(.ref ar), (.int (0 : Int32)), (.int (2 : Int32)), (.int key)] below meth c s₁ [] 0 0 := Stand.of_body Bd
  have e0 : s₁.heap = h0 := by rw [← hh, Bd.state]; rfl
  have N0 := Fr.nil n0
  obtain ⟨Pq, hPq⟩ : ∃ P, P = own_P s below (fun v h L => Q4 Z ar key kc gf h0 n0 v h L) ({ frames := 0, cells := 0, slots := 0, locals := 0 } : Room).cells ({ frames := 0, cells := 0, slots := 0, locals := 0 } : Room).slots := ⟨_, rfl⟩
  suffices hgo : own_Go p.tables e below Pq s₁ (mkF m 0 #[.val (.ref ar), .val (.int (0 : Int32)), .val (.int (2 : Int32)), .val (.int key), .unset, .unset, .unset, .unset] []) by
    subst hPq
    obtain ⟨t, k1, k2, o, k3, k4⟩ := hgo
    exact ⟨t, o, castTop (own_ef4 m ar key) k1, k2, k3, k4⟩
  show own_Go _ _ _ _ s₁ (mkF m 0 #[.val (.ref ar), .val (.int (0 : Int32)), .val (.int (2 : Int32)), .val (.int key), .unset, .unset, .unset, .unset] [])
  refine own_st (fun t k => XS.iloadN X0.here hx rfl (hb hby d4_0) rfl k) ?_
  show own_Go _ _ _ _ s₁ (mkF m 1 _ [(.int (0 : Int32))])
  refine own_st (fun t k => XS.istore X0.here hx rfl (hb hby d4_1) rfl (l' := #[.val (.ref ar), .val (.int (0 : Int32)), .val (.int (2 : Int32)), .val (.int key), .val (.int (0 : Int32)), .unset, .unset, .unset]) rfl k) ?_
  show own_Go _ _ _ _ s₁ (mkF m 3 #[.val (.ref ar), .val (.int (0 : Int32)), .val (.int (2 : Int32)), .val (.int key), .val (.int (0 : Int32)), .unset, .unset, .unset] [])
  refine own_st (fun t k => XS.iloadN X0.here hx rfl (hb hby d4_3) rfl k) ?_
  show own_Go _ _ _ _ s₁ (mkF m 4 _ [(.int (2 : Int32))])
  refine own_st (fun t k => XS.iconst X0.here hx rfl (hb hby d4_4) k) ?_
  show own_Go _ _ _ _ s₁ (mkF m 5 _ [(.int (1 : Int32)), (.int (2 : Int32))])
  refine own_st (fun t k => XS.isub X0.here hx rfl (hb hby d4_5) rfl k) ?_
  show own_Go _ _ _ _ s₁ (mkF m 6 _ [(.int (1 : Int32))])
  refine own_st (fun t k => XS.istore X0.here hx rfl (hb hby d4_6) rfl (l' := #[.val (.ref ar), .val (.int (0 : Int32)), .val (.int (2 : Int32)), .val (.int key), .val (.int (0 : Int32)), .val (.int (1 : Int32)), .unset, .unset]) rfl k) ?_
  show own_Go _ _ _ _ s₁ (mkF m 8 #[.val (.ref ar), .val (.int (0 : Int32)), .val (.int (2 : Int32)), .val (.int key), .val (.int (0 : Int32)), .val (.int (1 : Int32)), .unset, .unset] [])
  refine own_st (fun t k => XS.iload X0.here hx rfl (hb hby d4_8) rfl k) ?_
  show own_Go _ _ _ _ s₁ (mkF m 10 _ [(.int (0 : Int32))])
  refine own_st (fun t k => XS.iload X0.here hx rfl (hb hby d4_10) rfl k) ?_
  show own_Go _ _ _ _ s₁ (mkF m 12 _ [(.int (1 : Int32)), (.int (0 : Int32))])
  refine own_st (fun t k => XS.icmpNo X0.here hx rfl (hb hby d4_12) rfl (flt (by decide : ¬ ((1 : Int32) < (0 : Int32)))).2.2.1 k) ?_
  show own_Go _ _ _ _ s₁ (mkF m 15 _ [])
  refine own_st (fun t k => XS.iload X0.here hx rfl (hb hby d4_15) rfl k) ?_
  show own_Go _ _ _ _ s₁ (mkF m 17 _ [(.int (0 : Int32))])
  refine own_st (fun t k => XS.iload X0.here hx rfl (hb hby d4_17) rfl k) ?_
  show own_Go _ _ _ _ s₁ (mkF m 19 _ [(.int (1 : Int32)), (.int (0 : Int32))])
  refine own_st (fun t k => XS.iadd X0.here hx rfl (hb hby d4_19) rfl k) ?_
  show own_Go _ _ _ _ s₁ (mkF m 20 _ [(.int (1 : Int32))])
  refine own_st (fun t k => XS.iconst X0.here hx rfl (hb hby d4_20) k) ?_
  show own_Go _ _ _ _ s₁ (mkF m 21 _ [(.int (1 : Int32)), (.int (1 : Int32))])
  refine own_st (fun t k => XS.iushr X0.here hx rfl (hb hby d4_21) rfl k) ?_
  show own_Go _ _ _ _ s₁ (mkF m 22 _ [(.int (0 : Int32))])
  refine own_st (fun t k => XS.istore X0.here hx rfl (hb hby d4_22) rfl (l' := #[.val (.ref ar), .val (.int (0 : Int32)), .val (.int (2 : Int32)), .val (.int key), .val (.int (0 : Int32)), .val (.int (1 : Int32)), .val (.int (0 : Int32)), .unset]) rfl k) ?_
  show own_Go _ _ _ _ s₁ (mkF m 24 #[.val (.ref ar), .val (.int (0 : Int32)), .val (.int (2 : Int32)), .val (.int key), .val (.int (0 : Int32)), .val (.int (1 : Int32)), .val (.int (0 : Int32)), .unset] [])
  refine own_st (fun t k => XS.aloadN X0.here hx rfl (hb hby d4_24) rfl rfl k) ?_
  show own_Go _ _ _ _ s₁ (mkF m 25 _ [(.ref ar)])
  refine own_st (fun t k => XS.iload X0.here hx rfl (hb hby d4_25) rfl k) ?_
  show own_Go _ _ _ _ s₁ (mkF m 27 _ [(.int (0 : Int32)), (.ref ar)])
  obtain ⟨c1, Ar1, q1, S1, N1, H1⟩ := id F0
  refine own_st (fun t k => X0.iaload hx (j := (0 : Int32)) (v := (.int (gf 0))) (by rw [e0]; exact Ar1.1) (State.isArrayOf_alike hZ.alike Ar1.2.1) Ar1.2.2 (inb_of S1 ⟨by decide, by decide⟩) (H1 _ (own_lt (inb_of S1 ⟨by decide, by decide⟩))) (g := (mkF m 27 #[.val (.ref ar), .val (.int (0 : Int32)), .val (.int (2 : Int32)), .val (.int key), .val (.int (0 : Int32)), .val (.int (1 : Int32)), .val (.int (0 : Int32)), .unset] [(.int (0 : Int32)), (.ref ar)])) rfl rfl (hb hby d4_27) _ k) ?_
  show own_Go _ _ _ _ s₁ (mkF m 28 _ [(.int (gf 0))])
  refine own_st (fun t k => XS.istore X0.here hx rfl (hb hby d4_28) rfl (l' := #[.val (.ref ar), .val (.int (0 : Int32)), .val (.int (2 : Int32)), .val (.int key), .val (.int (0 : Int32)), .val (.int (1 : Int32)), .val (.int (0 : Int32)), .val (.int (gf 0))]) rfl k) ?_
  show own_Go _ _ _ _ s₁ (mkF m 30 #[.val (.ref ar), .val (.int (0 : Int32)), .val (.int (2 : Int32)), .val (.int key), .val (.int (0 : Int32)), .val (.int (1 : Int32)), .val (.int (0 : Int32)), .val (.int (gf 0))] [])
  refine own_st (fun t k => XS.iload X0.here hx rfl (hb hby d4_30) rfl k) ?_
  show own_Go _ _ _ _ s₁ (mkF m 32 _ [(.int (gf 0))])
  refine own_st (fun t k => XS.iloadN X0.here hx rfl (hb hby d4_32) rfl k) ?_
  show own_Go _ _ _ _ s₁ (mkF m 33 _ [(.int key), (.int (gf 0))])
  refine own_st (fun t k => XS.icmpYes X0.here hx rfl (pc0 := 33) (pc' := 45) rfl (hb hby d4_33) rfl (flt (own_irr hk)).2.1 (by decide) (by decide) k) ?_
  show own_Go _ _ _ _ s₁ (mkF m 45 _ [])
  refine own_st (fun t k => XS.iload X0.here hx rfl (hb hby d4_45) rfl k) ?_
  show own_Go _ _ _ _ s₁ (mkF m 47 _ [(.int (gf 0))])
  refine own_st (fun t k => XS.iloadN X0.here hx rfl (hb hby d4_47) rfl k) ?_
  show own_Go _ _ _ _ s₁ (mkF m 48 _ [(.int key), (.int (gf 0))])
  refine own_st (fun t k => XS.icmpYes X0.here hx rfl (pc0 := 48) (pc' := 60) rfl (hb hby d4_48) rfl (flt (own_irr hk.symm)).2.2.2 (by decide) (by decide) k) ?_
  show own_Go _ _ _ _ s₁ (mkF m 60 _ [])
  refine own_st (fun t k => XS.iload X0.here hx rfl (hb hby d4_60) rfl k) ?_
  show own_Go _ _ _ _ s₁ (mkF m 62 _ [(.int (0 : Int32))])
  subst hPq
  refine own_out X0 (v := some (.int (0 : Int32))) (fun h => by rw [Bd.returns] at h; cases h) Bd.notSynchronized (own_retI X0 hx Bd.returns (hb hby d4_62)) (by decide) (by decide) ?_
  show Q4 Z ar key kc gf h0 n0 _ s₁.heap _
  rw [e0]
  exact ⟨rfl, N0, rfl⟩
theorem d5_0 : decode jdk_65_method_57_code 0 = .ok (.aload_n 0, 1) := by decide +kernel
theorem d5_1 : decode jdk_65_method_57_code 1 = .ok (.iconst 0, 1) := by decide +kernel
theorem d5_2 : decode jdk_65_method_57_code 2 = .ok (.aload_n 0, 1) := by decide +kernel
theorem d5_3 : decode jdk_65_method_57_code 3 = .ok (.arraylength, 1) := by decide +kernel
theorem d5_4 : decode jdk_65_method_57_code 4 = .ok (.iload_n 1, 1) := by decide +kernel
theorem d5_5 : decode jdk_65_method_57_code 5 = .ok (.invokestatic 209, 3) := by decide +kernel
theorem d5_8 : decode jdk_65_method_57_code 8 = .ok (.ireturn, 1) := by decide +kernel
theorem own_pn5 : plainName "java/util/Arrays" = true := by first | (simp [plainName, overriddenIn]; done) | decide +kernel
theorem own_ef5 (m : MethodId) (ar : Addr) (key : Int32) : entryFrame m #[(.ref ar), (.int key)] 2 = mkF m 0 #[.val (.ref ar), .val (.int key)] [] := by first | (simp [entryFrame, mkF, argsToLocals, Value.category]; done) | rfl
def Q5 (Z : State) (ar : Addr) (key : Int32) (kc : ClassId) (gf : Nat → Int32) (h0 : Heap) (n0 : Nat) (v : Option Value) (h : Heap) (L : List Loc) : Prop := v = some (.int (0 : Int32)) ∧ Fr n0 L ∧ h = h0
set_option maxRecDepth 65536 in
set_option maxHeartbeats 4000000 in
theorem rm5 (l : Launch) (Z : State) (a0 : Array Value) (hw : ∀ d ∈ tables_1, d.before a0 Z = true) (ws : List Jvm.Cond) (ar : Addr) (key : Int32) (kc : ClassId) (gf : Nat → Int32) (h0 : Heap) (n0 : Nat) (Z0 : n0 ≤ h0.size) (F0 : own_AI Z h0 ar kc (2 : Int32) gf) (hk : (gf 0) = key) :
    MetFree l (⟨"java/util/Arrays", "binarySearch", "([II)I"⟩ : MethodName) (head1 (Jvm.Cond.code (⟨"java/util/Arrays", "binarySearch", "([II)I"⟩ : MethodName) jdk_65_method_57_code 2 (some .int) :: ws) ({ frames := 1, cells := 0, slots := 0, locals := 19 } : Room)) (fun aW U => aW = #[(.ref ar), (.int key)] ∧ Z.Warmed39 U.vm ∧ U.heap = h0) (fun _ _ _ _ _ => True) (fun _ U o U' => ∃ v L, o = .returned v ∧ Q5 Z ar key kc gf h0 n0 v U'.heap L ∧ FrameEnd U o U' L ({ frames := 1, cells := 0, slots := 0, locals := 19 } : Room).cells ({ frames := 1, cells := 0, slots := 0, locals := 19 } : Room).slots) := by
  refine MetFree.of_bodySF (plainFor_of_name own_pn5) hisR ?_
  intro p e s m args below meth c s₁ Bd hml0 hP hK
  obtain ⟨rfl, hZ, hh⟩ := hP
  have hx := Bd.exec
  have hby := Bd.bytes
  have hml : c.maxLocals = 2 := hml0
  have hown : s.vm.findClass "java/util/Arrays" = some m.cls := findClass_of_methodNamed Bd.named
  have hnm := (name_of_methodNamed Bd.named Bd.method).1
  have X0 : Stand p l e ({ frames := 1, cells := 0, slots := 0, locals := 19 } : Room) s m #[(.ref ar), (.int key)] below meth c s₁ [] 0 0 := Stand.of_body Bd
  have e0 : s₁.heap = h0 := by rw [← hh, Bd.state]; rfl
  have N0 := Fr.nil n0
  obtain ⟨Pq, hPq⟩ : ∃ P, P = own_P s below (fun v h L => Q5 Z ar key kc gf h0 n0 v h L) ({ frames := 1, cells := 0, slots := 0, locals := 19 } : Room).cells ({ frames := 1, cells := 0, slots := 0, locals := 19 } : Room).slots := ⟨_, rfl⟩
  suffices hgo : own_Go p.tables e below Pq s₁ (mkF m 0 #[.val (.ref ar), .val (.int key)] []) by
    subst hPq
    obtain ⟨t, k1, k2, o, k3, k4⟩ := hgo
    exact ⟨t, o, castTop (own_ef5 m ar key) k1, k2, k3, k4⟩
  show own_Go _ _ _ _ s₁ (mkF m 0 #[.val (.ref ar), .val (.int key)] [])
  refine own_st (fun t k => XS.aloadN X0.here hx rfl (hb hby d5_0) rfl rfl k) ?_
  show own_Go _ _ _ _ s₁ (mkF m 1 _ [(.ref ar)])
  refine own_st (fun t k => XS.iconst X0.here hx rfl (hb hby d5_1) k) ?_
  show own_Go _ _ _ _ s₁ (mkF m 2 _ [(.int (0 : Int32)), (.ref ar)])
  refine own_st (fun t k => XS.aloadN X0.here hx rfl (hb hby d5_2) rfl rfl k) ?_
  show own_Go _ _ _ _ s₁ (mkF m 3 _ [(.ref ar), (.int (0 : Int32)), (.ref ar)])
  obtain ⟨c1, Ar1, q1, S1, N1, H1⟩ := id F0
  refine own_st (fun t k => X0.arraylength hx (by rw [e0]; exact Ar1.1) (State.isArrayOf_alike hZ.alike Ar1.2.1) (g := (mkF m 3 #[.val (.ref ar), .val (.int key)] [(.ref ar), (.int (0 : Int32)), (.ref ar)])) rfl rfl (hb hby d5_3) _ k) ?_
  rw [len_of S1 N1]
  show own_Go _ _ _ _ s₁ (mkF m 4 _ [(.int (2 : Int32)), (.int (0 : Int32)), (.ref ar)])
  refine own_st (fun t k => XS.iloadN X0.here hx rfl (hb hby d5_4) rfl k) ?_
  show own_Go _ _ _ _ s₁ (mkF m 5 _ [(.int key), (.int (2 : Int32)), (.int (0 : Int32)), (.ref ar)])
  obtain ⟨_, _, ⟨T2, L2, k2, n2⟩, -, X2, ⟨Lc2, hQ2, l2, y2, z2⟩, st2⟩ := Jvm.LawKit.callS X0 hx (y := (⟨"java/util/Arrays", "binarySearch0", "([IIII)I"⟩ : MethodName)) hown (mvT hZ (hw _ (List.mem_of_getElem? (i := 33) rfl))) (mvT hZ (hw _ (List.mem_of_getElem? (i := 34) rfl))) (mvT hZ (hw _ (List.mem_of_getElem? (i := 31) rfl))) (mvT hZ (hw _ (List.mem_of_getElem? (i := 35) rfl))) (by decide) (backOf (W := 0) (rm4 l Z a0 hw [] ar key kc gf h0 n0 Z0 F0 hk) hZ (hw _ (List.mem_of_getElem? (i := 35) rfl)) (hw _ (List.mem_of_getElem? (i := 31) rfl)) (by decide) (by decide)) (g := (mkF m 5 #[.val (.ref ar), .val (.int key)] [(.int key), (.int (2 : Int32)), (.int (0 : Int32)), (.ref ar)])) rfl (by rw [hml]; rfl) (argsL := [(.ref ar), (.int (0 : Int32)), (.int (2 : Int32)), (.int key)]) (rest := []) (lenOf own_pd___IIII_I rfl) rfl (by show 2 * 0 + _ ≤ _; exact Nat.le_of_eq rfl) (hb hby d5_5) (fun _ _ => ⟨rfl, e0, (by decide : 0 + 0 ≤ _), (by decide : 0 + 0 ≤ _)⟩)
  dsimp only [Pt.U, Pt.locs, Pt.cells, Pt.slots] at X2 l2 y2 z2 st2 hQ2
  subst l2 y2 z2
  obtain ⟨rfl, NQ2, eq2⟩ := hQ2
  have N3 := Fr.app N0 NQ2
  refine own_st st2 ?_
  show own_Go _ _ _ _ T2 (mkF m 8 _ [(.int (0 : Int32))])
  subst hPq
  refine own_out X2 (v := some (.int (0 : Int32))) (fun h => by rw [Bd.returns] at h; cases h) Bd.notSynchronized (own_retI X2 hx Bd.returns (hb hby d5_8)) (by decide) (by decide) ?_
  show Q5 Z ar key kc gf h0 n0 _ T2.heap _
  rw [eq2]
  exact ⟨rfl, N3, rfl⟩
theorem d6_0 : decode prog_38_method_4_code 0 = .ok (.aload_n 0, 1) := by decide +kernel
theorem d6_1 : decode prog_38_method_4_code 1 = .ok (.getfield 7, 3) := by decide +kernel
theorem d6_4 : decode prog_38_method_4_code 4 = .ok (.iload_n 1, 1) := by decide +kernel
theorem d6_5 : decode prog_38_method_4_code 5 = .ok (.invokestatic 68, 3) := by decide +kernel
theorem d6_8 : decode prog_38_method_4_code 8 = .ok (.istore_n 2, 1) := by decide +kernel
theorem d6_9 : decode prog_38_method_4_code 9 = .ok (.iload_n 2, 1) := by decide +kernel
theorem d6_10 : decode prog_38_method_4_code 10 = .ok (.ifCond .ge 13, 3) := by decide +kernel
theorem d6_23 : decode prog_38_method_4_code 23 = .ok (.iconst 1, 1) := by decide +kernel
theorem d6_24 : decode prog_38_method_4_code 24 = .ok (.goto 4, 3) := by decide +kernel
theorem d6_28 : decode prog_38_method_4_code 28 = .ok (.ireturn, 1) := by decide +kernel
theorem own_pn6 : plainName "com/example/premise/premise/regex/RegexProgram$Ranges" = true := by first | (simp [plainName, overriddenIn]; done) | decide +kernel
theorem own_ef6 (m : MethodId) (a : Addr) (key : Int32) : entryFrame m #[(.ref a), (.int key)] 3 = mkF m 0 #[.val (.ref a), .val (.int key), .unset] [] := by first | (simp [entryFrame, mkF, argsToLocals, Value.category]; done) | rfl
def Q6 (Z : State) (a : Addr) (key : Int32) (ar : Addr) (kc : ClassId) (gf : Nat → Int32) (h0 : Heap) (n0 : Nat) (v : Option Value) (h : Heap) (L : List Loc) : Prop := v = some (.int (1 : Int32)) ∧ Fr n0 L ∧ h = h0
set_option maxRecDepth 65536 in
set_option maxHeartbeats 4000000 in
theorem rm6 (l : Launch) (Z : State) (a0 : Array Value) (hw : ∀ d ∈ tables_1, d.before a0 Z = true) (ws : List Jvm.Cond) (a : Addr) (key : Int32) (ar : Addr) (kc : ClassId) (gf : Nat → Int32) (h0 : Heap) (n0 : Nat) (Z0 : n0 ≤ h0.size) (F0 : Exa Z h0 a "com/example/premise/premise/regex/RegexProgram$Ranges") (F1 : Fld Z h0 a "com/example/premise/premise/regex/RegexProgram$Ranges" "bounds" "[I" (.ref ar)) (F2 : own_AI Z h0 ar kc (2 : Int32) gf) (hk : (gf 0) = key) :
    MetFree l (⟨"com/example/premise/premise/regex/RegexProgram$Ranges", "test", "(I)Z"⟩ : MethodName) (head1 (Jvm.Cond.code (⟨"com/example/premise/premise/regex/RegexProgram$Ranges", "test", "(I)Z"⟩ : MethodName) prog_38_method_4_code 3 (some .boolean) :: ws) ({ frames := 2, cells := 0, slots := 0, locals := 32 } : Room)) (fun aW U => aW = #[(.ref a), (.int key)] ∧ Z.Warmed39 U.vm ∧ U.heap = h0) (fun _ _ _ _ _ => True) (fun _ U o U' => ∃ v L, o = .returned v ∧ Q6 Z a key ar kc gf h0 n0 v U'.heap L ∧ FrameEnd U o U' L ({ frames := 2, cells := 0, slots := 0, locals := 32 } : Room).cells ({ frames := 2, cells := 0, slots := 0, locals := 32 } : Room).slots) := by
  refine MetFree.of_bodySF (plainFor_of_name own_pn6) hisR ?_
  intro p e s m args below meth c s₁ Bd hml0 hP hK
  obtain ⟨rfl, hZ, hh⟩ := hP
  have hx := Bd.exec
  have hby := Bd.bytes
  have hml : c.maxLocals = 3 := hml0
  have hown : s.vm.findClass "com/example/premise/premise/regex/RegexProgram$Ranges" = some m.cls := findClass_of_methodNamed Bd.named
  have hnm := (name_of_methodNamed Bd.named Bd.method).1
  have X0 : Stand p l e ({ frames := 2, cells := 0, slots := 0, locals := 32 } : Room) s m #[(.ref a), (.int key)] below meth c s₁ [] 0 0 := Stand.of_body Bd
  have e0 : s₁.heap = h0 := by rw [← hh, Bd.state]; rfl
  have N0 := Fr.nil n0
  obtain ⟨Pq, hPq⟩ : ∃ P, P = own_P s below (fun v h L => Q6 Z a key ar kc gf h0 n0 v h L) ({ frames := 2, cells := 0, slots := 0, locals := 32 } : Room).cells ({ frames := 2, cells := 0, slots := 0, locals := 32 } : Room).slots := ⟨_, rfl⟩
  suffices hgo : own_Go p.tables e below Pq s₁ (mkF m 0 #[.val (.ref a), .val (.int key), .unset] []) by
    subst hPq
    obtain ⟨t, k1, k2, o, k3, k4⟩ := hgo
    exact ⟨t, o, castTop (own_ef6 m a key) k1, k2, k3, k4⟩
  show own_Go _ _ _ _ s₁ (mkF m 0 #[.val (.ref a), .val (.int key), .unset] [])
  refine own_st (fun t k => XS.aloadN X0.here hx rfl (hb hby d6_0) rfl rfl k) ?_
  show own_Go _ _ _ _ s₁ (mkF m 1 _ [(.ref a)])
  obtain ⟨T1, X1, e1, st1⟩ := getF X0 hx hZ hown (host := "") (Or.inl (hw _ (List.mem_of_getElem? (i := 17) rfl))) Via.refl e0 F1 (g := (mkF m 1 #[.val (.ref a), .val (.int key), .unset] [(.ref a)])) rfl rfl (hb hby d6_1)
  refine own_st st1 ?_
  show own_Go _ _ _ _ T1 (mkF m 4 _ [(.ref ar)])
  refine own_st (fun t k => XS.iloadN X1.here hx rfl (hb hby d6_4) rfl k) ?_
  show own_Go _ _ _ _ T1 (mkF m 5 _ [(.int key), (.ref ar)])
  obtain ⟨_, _, ⟨T2, L2, k2, n2⟩, -, X2, ⟨Lc2, hQ2, l2, y2, z2⟩, st2⟩ := Jvm.LawKit.callS X1 hx (y := (⟨"java/util/Arrays", "binarySearch", "([II)I"⟩ : MethodName)) hown (mvT hZ (hw _ (List.mem_of_getElem? (i := 29) rfl))) (mvT hZ (hw _ (List.mem_of_getElem? (i := 30) rfl))) (mvT hZ (hw _ (List.mem_of_getElem? (i := 31) rfl))) (mvT hZ (hw _ (List.mem_of_getElem? (i := 32) rfl))) (by decide) (backOf (W := 0) (rm5 l Z a0 hw [] ar key kc gf h0 n0 Z0 F2 hk) hZ (hw _ (List.mem_of_getElem? (i := 32) rfl)) (hw _ (List.mem_of_getElem? (i := 31) rfl)) (by decide) (by decide)) (g := (mkF m 5 #[.val (.ref a), .val (.int key), .unset] [(.int key), (.ref ar)])) rfl (by rw [hml]; rfl) (argsL := [(.ref ar), (.int key)]) (rest := []) (lenOf own_pd___II_I rfl) rfl (by show 2 * 0 + _ ≤ _; exact Nat.le_of_eq rfl) (hb hby d6_5) (fun _ _ => ⟨rfl, e1, (by decide : 0 + 0 ≤ _), (by decide : 0 + 0 ≤ _)⟩)
  dsimp only [Pt.U, Pt.locs, Pt.cells, Pt.slots] at X2 l2 y2 z2 st2 hQ2
  subst l2 y2 z2
  obtain ⟨rfl, NQ2, eq2⟩ := hQ2
  have N3 := Fr.app N0 NQ2
  refine own_st st2 ?_
  show own_Go _ _ _ _ T2 (mkF m 8 _ [(.int (0 : Int32))])
  refine own_st (fun t k => XS.istoreN X2.here hx rfl (hb hby d6_8) rfl (l' := #[.val (.ref a), .val (.int key), .val (.int (0 : Int32))]) rfl k) ?_
  show own_Go _ _ _ _ T2 (mkF m 9 #[.val (.ref a), .val (.int key), .val (.int (0 : Int32))] [])
  refine own_st (fun t k => XS.iloadN X2.here hx rfl (hb hby d6_9) rfl k) ?_
  show own_Go _ _ _ _ T2 (mkF m 10 _ [(.int (0 : Int32))])
  refine own_st (fun t k => XS.ifYes X2.here hx rfl (pc0 := 10) (pc' := 23) rfl (hb hby d6_10) rfl ((if0 _ _).trans (flt (by decide : ¬ ((0 : Int32) < (0 : Int32)))).2.1) (by decide) (by decide) k) ?_
  show own_Go _ _ _ _ T2 (mkF m 23 _ [])
  refine own_st (fun t k => XS.iconst X2.here hx rfl (hb hby d6_23) k) ?_
  show own_Go _ _ _ _ T2 (mkF m 24 _ [(.int (1 : Int32))])
  refine own_st (fun t k => XS.goto X2.here hx rfl (pc0 := 24) (pc' := 28) rfl (hb hby d6_24) (by decide) (by decide) k) ?_
  show own_Go _ _ _ _ T2 (mkF m 28 _ [(.int (1 : Int32))])
  subst hPq
  refine own_out X2 (v := some (.int (1 : Int32))) (fun h => by rw [Bd.returns] at h; cases h) Bd.notSynchronized (own_retZ X2 hx Bd.returns (hb hby d6_28) (by decide)) (by decide) (by decide) ?_
  show Q6 Z a key ar kc gf h0 n0 _ T2.heap _
  rw [eq2]
  exact ⟨rfl, N3, rfl⟩
theorem own_r3 {x v : Int32} (h : ((x &&& (2147483647 : Int32)) % (3 : Int32)) = v) : v = 0 ∨ v = 1 ∨ v = 2 := by
  have e1 := c_mask x 2147483647 31 (by decide) (by decide)
  have e2 := (c_irem (x &&& 2147483647) 3 3 rfl).1 (by omega)
  rw [h] at e2
  have s : v.toInt = 0 ∨ v.toInt = 1 ∨ v.toInt = 2 := by omega
  rcases s with s | s | s
  · exact Or.inl (Int32.toInt_inj.mp s)
  · exact Or.inr (Or.inl (Int32.toInt_inj.mp s))
  · exact Or.inr (Or.inr (Int32.toInt_inj.mp s))
theorem own_lo {x v : Int32} (h : ((x &&& (2147483647 : Int32)) % (1114112 : Int32)) = v) : 0 ≤ v.toInt ∧ v.toInt < 1114112 := by
  have e1 := c_mask x 2147483647 31 (by decide) (by decide)
  have e2 := (c_irem (x &&& 2147483647) 1114112 1114112 rfl).1 (by omega)
  rw [h] at e2
  omega
theorem own_ln {v : Int32} (h : 0 ≤ v.toInt ∧ v.toInt < 1114112) : ((1114112 : Int32) - v).toInt = 1114112 - v.toInt := by
  have e := c_isub 1114112 v
  rw [show (1114112 : Int32).toInt = 1114112 from rfl] at e
  have r := rng32 ((1114112 : Int32) - v)
  omega
theorem own_nz {v : Int32} (h : 1 ≤ v.toInt) : v ≠ 0 := fun q => by rw [q, show (0 : Int32).toInt = 0 from rfl] at h; omega
theorem own_rm {x d v : Int32} (hd : 1 ≤ d.toInt) (h : ((x &&& (2147483647 : Int32)) % d) = v) : 0 ≤ v.toInt ∧ v.toInt < d.toInt := by
  have e1 := c_mask x 2147483647 31 (by decide) (by decide)
  have e2 := (c_irem (x &&& 2147483647) d d.toInt rfl).1 (by omega)
  rw [h] at e2
  have m1 := Int.emod_nonneg (x &&& 2147483647).toInt (show d.toInt ≠ 0 by omega)
  have m2 := Int.emod_lt_of_pos (x &&& 2147483647).toInt (show 0 < d.toInt by omega)
  omega
theorem own_wd {x v p : Int32} {c : Prop} [Decidable c] (hv : 0 ≤ v.toInt ∧ v.toInt < 1114112) (q : p = (if c then (0 : Int32) else ((x &&& (2147483647 : Int32)) % ((1114112 : Int32) - v)))) : 0 ≤ p.toInt ∧ p.toInt < 1114112 - v.toInt := by
  have l := own_ln hv
  rw [q]; split
  · rw [show (0 : Int32).toInt = 0 from rfl]; omega
  · have := own_rm (x := x) (d := (1114112 : Int32) - v) (by omega) rfl
    omega
theorem own_hi {v p w : Int32} (hv : 0 ≤ v.toInt ∧ v.toInt < 1114112) (hp : 0 ≤ p.toInt ∧ p.toInt < 1114112 - v.toInt) (h : v + p = w) : w.toInt = v.toInt + p.toInt := by
  have e := c_iadd v p
  rw [h] at e
  have r := rng32 w
  omega
theorem own_p2 {v : Int32} (h : 0 ≤ v.toInt ∧ v.toInt < 1114112) (c : (v + (2 : Int32)) < (1114112 : Int32)) : (v + 2).toInt = v.toInt + 2 ∧ v.toInt + 2 < 1114112 ∧ (((1114112 : Int32) - v) - (2 : Int32)).toInt = 1114110 - v.toInt := by
  have e := c_iadd v 2
  rw [show (2 : Int32).toInt = 2 from rfl] at e
  have r := rng32 (v + 2)
  rw [Int32.lt_iff_toInt_lt, show (1114112 : Int32).toInt = 1114112 from rfl] at c
  have l := own_ln h
  have e2 := c_isub ((1114112 : Int32) - v) 2
  rw [l, show (2 : Int32).toInt = 2 from rfl] at e2
  have r2 := rng32 ((1114112 : Int32) - v - 2)
  omega
theorem own_pn0 : plainName "com/example/premise/premise/regex/RangesSinglePinLaw" = true := by first | (simp [plainName, overriddenIn]; done) | decide +kernel
theorem own_ef0 (m : MethodId) (x0 : Int32) (x1 : Int32) (x2 : Int32) (x3 : Int32) (x4 : Int32) : entryFrame m #[(.int x0), (.int x1), (.int x2), (.int x3), (.int x4)] maxLocals = mkF m 0 #[.val (.int x0), .val (.int x1), .val (.int x2), .val (.int x3), .val (.int x4), .unset, .unset, .unset, .unset, .unset, .unset, .unset, .unset, .unset, .unset] [] := by first | (simp [entryFrame, mkF, argsToLocals, Value.category, maxLocals]; done) | rfl
def Q0 (Z : State) (x0 : Int32) (x1 : Int32) (x2 : Int32) (x3 : Int32) (x4 : Int32) (h0 : Heap) (n0 : Nat) (v : Option Value) (h : Heap) (L : List Loc) : Prop := v = some (.int 1) ∧ Fr n0 L
theorem own_nz0_38 (x0 : Int32) (x1 : Int32) (x2 : Int32) (x3 : Int32) (x4 : Int32) (v2 : Int32) (hv2 : ((x1 &&& (2147483647 : Int32)) % (1114112 : Int32)) = v2) (c3 : ¬ ((((x0.toUInt32 >>> ((2 : Int32) &&& 31).toUInt32).toInt32) &&& (1 : Int32)) = (0 : Int32))) : ((1114112 : Int32) - v2) ≠ (0 : Int32) := by
  have a := own_lo hv2
  have l := own_ln a
  exact own_nz (by omega)
theorem own_eq0 (x0 : Int32) (x1 : Int32) (x2 : Int32) (x3 : Int32) (x4 : Int32) (v2 : Int32) (p7 : Int32) (v8 : Int32) (v25 : Int32) (hv2 : ((x1 &&& (2147483647 : Int32)) % (1114112 : Int32)) = v2) (qp7 : p7 = (if (((x0.toUInt32 >>> ((2 : Int32) &&& 31).toUInt32).toInt32) &&& (1 : Int32)) = (0 : Int32) then (0 : Int32) else ((x2 &&& (2147483647 : Int32)) % ((1114112 : Int32) - v2)))) (hv8 : (v2 + p7) = v8) (hv25 : (own_single (0 : Int32) (fun _ => (0 : Int32))) = v25) : v25 = (-1 : Int32) := by
  rw [← hv25]; rfl
theorem own_neg0 (x0 : Int32) (x1 : Int32) (x2 : Int32) (x3 : Int32) (x4 : Int32) (v2 : Int32) (p7 : Int32) (v8 : Int32) (v25 : Int32) (hv2 : ((x1 &&& (2147483647 : Int32)) % (1114112 : Int32)) = v2) (qp7 : p7 = (if (((x0.toUInt32 >>> ((2 : Int32) &&& 31).toUInt32).toInt32) &&& (1 : Int32)) = (0 : Int32) then (0 : Int32) else ((x2 &&& (2147483647 : Int32)) % ((1114112 : Int32) - v2)))) (hv8 : (v2 + p7) = v8) (hv25 : (own_single (0 : Int32) (fun _ => (0 : Int32))) = v25) : v25 < (0 : Int32) := by
  rw [← hv25]; decide
theorem own_law (x0 : Int32) (x1 : Int32) (x2 : Int32) (x3 : Int32) (x4 : Int32) (v2 : Int32) (p7 : Int32) (v8 : Int32) (v25 : Int32) (hv2 : ((x1 &&& (2147483647 : Int32)) % (1114112 : Int32)) = v2) (qp7 : p7 = (if (((x0.toUInt32 >>> ((2 : Int32) &&& 31).toUInt32).toInt32) &&& (1 : Int32)) = (0 : Int32) then (0 : Int32) else ((x2 &&& (2147483647 : Int32)) % ((1114112 : Int32) - v2)))) (hv8 : (v2 + p7) = v8) (hv25 : (own_single (0 : Int32) (fun _ => (0 : Int32))) = v25) : (1 : Int32) = 1 := by
  rfl
theorem own_nz1_38 (x0 : Int32) (x1 : Int32) (x2 : Int32) (x3 : Int32) (x4 : Int32) (v26 : Int32) (hv26 : ((x1 &&& (2147483647 : Int32)) % (1114112 : Int32)) = v26) (c27 : ¬ ((((x0.toUInt32 >>> ((2 : Int32) &&& 31).toUInt32).toInt32) &&& (1 : Int32)) = (0 : Int32))) : ((1114112 : Int32) - v26) ≠ (0 : Int32) := by
  have a := own_lo hv26
  have l := own_ln a
  exact own_nz (by omega)
theorem own_eq1 (x0 : Int32) (x1 : Int32) (x2 : Int32) (x3 : Int32) (x4 : Int32) (v26 : Int32) (p31 : Int32) (v32 : Int32) (g40v : Nat → Int32) (g45v : Nat → Int32) (v59 : Int32) (p64 : Int32) (hv26 : ((x1 &&& (2147483647 : Int32)) % (1114112 : Int32)) = v26) (qp31 : p31 = (if (((x0.toUInt32 >>> ((2 : Int32) &&& 31).toUInt32).toInt32) &&& (1 : Int32)) = (0 : Int32) then (0 : Int32) else ((x2 &&& (2147483647 : Int32)) % ((1114112 : Int32) - v26)))) (hv32 : (v26 + p31) = v32) (hgg40v : (own_updI (fun _ => (0 : Int32)) 0 v26) = g40v) (hgg45v : (own_updI g40v 1 v32) = g45v) (hv59 : (own_single (2 : Int32) g45v) = v59) (qp64 : p64 = (if p31 = (0 : Int32) then v26 else (-1 : Int32))) : v59 = p64 := by
  have a := own_lo hv26
  have b := own_wd a qp31
  have c := own_hi a b hv32
  have g0 : g45v 0 = v26 := by rw [← hgg45v, ← hgg40v]; rfl
  have g1 : g45v 1 = v32 := by rw [← hgg45v]; rfl
  rw [← hv59, qp64]; unfold own_single
  rw [if_pos rfl, g0, g1]
  by_cases h : p31 = 0
  · rw [if_pos h, if_pos]
    apply Int32.toInt_inj.mp
    rw [h, show (0 : Int32).toInt = 0 from rfl] at c
    omega
  · rw [if_neg h, if_neg]
    intro q
    rw [q] at c
    exact h (Int32.toInt_inj.mp (by rw [show (0 : Int32).toInt = 0 from rfl]; omega))
theorem own_hk (x0 : Int32) (x1 : Int32) (x2 : Int32) (x3 : Int32) (x4 : Int32) (v26 : Int32) (p31 : Int32) (v32 : Int32) (g40v : Nat → Int32) (g45v : Nat → Int32) (v59 : Int32) (p64 : Int32) (hv26 : ((x1 &&& (2147483647 : Int32)) % (1114112 : Int32)) = v26) (qp31 : p31 = (if (((x0.toUInt32 >>> ((2 : Int32) &&& 31).toUInt32).toInt32) &&& (1 : Int32)) = (0 : Int32) then (0 : Int32) else ((x2 &&& (2147483647 : Int32)) % ((1114112 : Int32) - v26)))) (hv32 : (v26 + p31) = v32) (hgg40v : (own_updI (fun _ => (0 : Int32)) 0 v26) = g40v) (hgg45v : (own_updI g40v 1 v32) = g45v) (hv59 : (own_single (2 : Int32) g45v) = v59) (qp64 : p64 = (if p31 = (0 : Int32) then v26 else (-1 : Int32))) (c65 : ¬ (v59 < (0 : Int32))) : (g45v 0) = v59 := by
  have g0 : g45v 0 = v26 := by rw [← hgg45v, ← hgg40v]; rfl
  have e : v59 = (if (g45v 0) = (g45v 1) then (g45v 0) else (-1 : Int32)) := by rw [← hv59]; unfold own_single; rw [if_pos rfl]
  by_cases h : (g45v 0) = (g45v 1)
  · rw [if_pos h] at e; exact e.symm
  · rw [if_neg h] at e; rw [e] at c65; exact absurd (by decide) c65
theorem own_law2 (x0 : Int32) (x1 : Int32) (x2 : Int32) (x3 : Int32) (x4 : Int32) (v26 : Int32) (p31 : Int32) (v32 : Int32) (g40v : Nat → Int32) (g45v : Nat → Int32) (v59 : Int32) (p64 : Int32) (hv26 : ((x1 &&& (2147483647 : Int32)) % (1114112 : Int32)) = v26) (qp31 : p31 = (if (((x0.toUInt32 >>> ((2 : Int32) &&& 31).toUInt32).toInt32) &&& (1 : Int32)) = (0 : Int32) then (0 : Int32) else ((x2 &&& (2147483647 : Int32)) % ((1114112 : Int32) - v26)))) (hv32 : (v26 + p31) = v32) (hgg40v : (own_updI (fun _ => (0 : Int32)) 0 v26) = g40v) (hgg45v : (own_updI g40v 1 v32) = g45v) (hv59 : (own_single (2 : Int32) g45v) = v59) (qp64 : p64 = (if p31 = (0 : Int32) then v26 else (-1 : Int32))) : (1 : Int32) = 1 := by
  rfl
theorem own_nz2_38 (x0 : Int32) (x1 : Int32) (x2 : Int32) (x3 : Int32) (x4 : Int32) (v71 : Int32) (hv71 : ((x1 &&& (2147483647 : Int32)) % (1114112 : Int32)) = v71) (c72 : ¬ ((((x0.toUInt32 >>> ((2 : Int32) &&& 31).toUInt32).toInt32) &&& (1 : Int32)) = (0 : Int32))) : ((1114112 : Int32) - v71) ≠ (0 : Int32) := by
  have a := own_lo hv71
  have l := own_ln a
  exact own_nz (by omega)
theorem own_nz2_86 (x0 : Int32) (x1 : Int32) (x2 : Int32) (x3 : Int32) (x4 : Int32) (v71 : Int32) (p76 : Int32) (v77 : Int32) (hv71 : ((x1 &&& (2147483647 : Int32)) % (1114112 : Int32)) = v71) (qp76 : p76 = (if (((x0.toUInt32 >>> ((2 : Int32) &&& 31).toUInt32).toInt32) &&& (1 : Int32)) = (0 : Int32) then (0 : Int32) else ((x2 &&& (2147483647 : Int32)) % ((1114112 : Int32) - v71)))) (hv77 : (v71 + p76) = v77) (c78 : (v77 + (2 : Int32)) < (1114112 : Int32)) : (((1114112 : Int32) - v77) - (2 : Int32)) ≠ (0 : Int32) := by
  have a := own_lo hv71
  have b := own_wd a qp76
  have c := own_hi a b hv77
  have d := own_p2 (v := v77) (by omega) c78
  exact own_nz (by omega)
theorem own_nz2_114 (x0 : Int32) (x1 : Int32) (x2 : Int32) (x3 : Int32) (x4 : Int32) (v71 : Int32) (p76 : Int32) (v77 : Int32) (v79 : Int32) (hv71 : ((x1 &&& (2147483647 : Int32)) % (1114112 : Int32)) = v71) (qp76 : p76 = (if (((x0.toUInt32 >>> ((2 : Int32) &&& 31).toUInt32).toInt32) &&& (1 : Int32)) = (0 : Int32) then (0 : Int32) else ((x2 &&& (2147483647 : Int32)) % ((1114112 : Int32) - v71)))) (hv77 : (v71 + p76) = v77) (hv79 : ((v77 + (2 : Int32)) + ((x3 &&& (2147483647 : Int32)) % (((1114112 : Int32) - v77) - (2 : Int32)))) = v79) (c78 : (v77 + (2 : Int32)) < (1114112 : Int32)) (c80 : ¬ ((((x0.toUInt32 >>> ((3 : Int32) &&& 31).toUInt32).toInt32) &&& (1 : Int32)) = (0 : Int32))) : ((1114112 : Int32) - v79) ≠ (0 : Int32) := by
  have a := own_lo hv71
  have b := own_wd a qp76
  have c := own_hi a b hv77
  have d := own_p2 (v := v77) (by omega) c78
  have m := own_rm (x := x3) (d := ((1114112 : Int32) - v77) - (2 : Int32)) (by omega) rfl
  have e := c_iadd (v77 + 2) ((x3 &&& (2147483647 : Int32)) % (((1114112 : Int32) - v77) - (2 : Int32)))
  rw [hv79] at e
  have r := rng32 v79
  have f : 0 ≤ v79.toInt ∧ v79.toInt < 1114112 := by omega
  have l := own_ln f
  exact own_nz (by omega)
theorem own_eq2 (x0 : Int32) (x1 : Int32) (x2 : Int32) (x3 : Int32) (x4 : Int32) (v71 : Int32) (p76 : Int32) (v77 : Int32) (v79 : Int32) (p84 : Int32) (v85 : Int32) (g93v : Nat → Int32) (g98v : Nat → Int32) (g103v : Nat → Int32) (g108v : Nat → Int32) (v122 : Int32) (hv71 : ((x1 &&& (2147483647 : Int32)) % (1114112 : Int32)) = v71) (qp76 : p76 = (if (((x0.toUInt32 >>> ((2 : Int32) &&& 31).toUInt32).toInt32) &&& (1 : Int32)) = (0 : Int32) then (0 : Int32) else ((x2 &&& (2147483647 : Int32)) % ((1114112 : Int32) - v71)))) (hv77 : (v71 + p76) = v77) (hv79 : ((v77 + (2 : Int32)) + ((x3 &&& (2147483647 : Int32)) % (((1114112 : Int32) - v77) - (2 : Int32)))) = v79) (qp84 : p84 = (if (((x0.toUInt32 >>> ((3 : Int32) &&& 31).toUInt32).toInt32) &&& (1 : Int32)) = (0 : Int32) then (0 : Int32) else ((x4 &&& (2147483647 : Int32)) % ((1114112 : Int32) - v79)))) (hv85 : (v79 + p84) = v85) (hgg93v : (own_updI (fun _ => (0 : Int32)) 0 v71) = g93v) (hgg98v : (own_updI g93v 1 v77) = g98v) (hgg103v : (own_updI g98v 2 v79) = g103v) (hgg108v : (own_updI g103v 3 v85) = g108v) (hv122 : (own_single (4 : Int32) g108v) = v122) (c78 : (v77 + (2 : Int32)) < (1114112 : Int32)) : v122 = (-1 : Int32) := by
  rw [← hv122]; rfl
theorem own_neg2 (x0 : Int32) (x1 : Int32) (x2 : Int32) (x3 : Int32) (x4 : Int32) (v71 : Int32) (p76 : Int32) (v77 : Int32) (v79 : Int32) (p84 : Int32) (v85 : Int32) (g93v : Nat → Int32) (g98v : Nat → Int32) (g103v : Nat → Int32) (g108v : Nat → Int32) (v122 : Int32) (hv71 : ((x1 &&& (2147483647 : Int32)) % (1114112 : Int32)) = v71) (qp76 : p76 = (if (((x0.toUInt32 >>> ((2 : Int32) &&& 31).toUInt32).toInt32) &&& (1 : Int32)) = (0 : Int32) then (0 : Int32) else ((x2 &&& (2147483647 : Int32)) % ((1114112 : Int32) - v71)))) (hv77 : (v71 + p76) = v77) (hv79 : ((v77 + (2 : Int32)) + ((x3 &&& (2147483647 : Int32)) % (((1114112 : Int32) - v77) - (2 : Int32)))) = v79) (qp84 : p84 = (if (((x0.toUInt32 >>> ((3 : Int32) &&& 31).toUInt32).toInt32) &&& (1 : Int32)) = (0 : Int32) then (0 : Int32) else ((x4 &&& (2147483647 : Int32)) % ((1114112 : Int32) - v79)))) (hv85 : (v79 + p84) = v85) (hgg93v : (own_updI (fun _ => (0 : Int32)) 0 v71) = g93v) (hgg98v : (own_updI g93v 1 v77) = g98v) (hgg103v : (own_updI g98v 2 v79) = g103v) (hgg108v : (own_updI g103v 3 v85) = g108v) (hv122 : (own_single (4 : Int32) g108v) = v122) (c78 : (v77 + (2 : Int32)) < (1114112 : Int32)) : v122 < (0 : Int32) := by
  rw [← hv122, show own_single (4 : Int32) g108v = (-1 : Int32) from rfl]; decide
theorem own_law3 (x0 : Int32) (x1 : Int32) (x2 : Int32) (x3 : Int32) (x4 : Int32) (v71 : Int32) (p76 : Int32) (v77 : Int32) (v79 : Int32) (p84 : Int32) (v85 : Int32) (g93v : Nat → Int32) (g98v : Nat → Int32) (g103v : Nat → Int32) (g108v : Nat → Int32) (v122 : Int32) (hv71 : ((x1 &&& (2147483647 : Int32)) % (1114112 : Int32)) = v71) (qp76 : p76 = (if (((x0.toUInt32 >>> ((2 : Int32) &&& 31).toUInt32).toInt32) &&& (1 : Int32)) = (0 : Int32) then (0 : Int32) else ((x2 &&& (2147483647 : Int32)) % ((1114112 : Int32) - v71)))) (hv77 : (v71 + p76) = v77) (hv79 : ((v77 + (2 : Int32)) + ((x3 &&& (2147483647 : Int32)) % (((1114112 : Int32) - v77) - (2 : Int32)))) = v79) (qp84 : p84 = (if (((x0.toUInt32 >>> ((3 : Int32) &&& 31).toUInt32).toInt32) &&& (1 : Int32)) = (0 : Int32) then (0 : Int32) else ((x4 &&& (2147483647 : Int32)) % ((1114112 : Int32) - v79)))) (hv85 : (v79 + p84) = v85) (hgg93v : (own_updI (fun _ => (0 : Int32)) 0 v71) = g93v) (hgg98v : (own_updI g93v 1 v77) = g98v) (hgg103v : (own_updI g98v 2 v79) = g103v) (hgg108v : (own_updI g103v 3 v85) = g108v) (hv122 : (own_single (4 : Int32) g108v) = v122) (c78 : (v77 + (2 : Int32)) < (1114112 : Int32)) : (1 : Int32) = 1 := by
  rfl
theorem own_law4 (x0 : Int32) (x1 : Int32) (x2 : Int32) (x3 : Int32) (x4 : Int32) (v71 : Int32) (p76 : Int32) (v77 : Int32) (hv71 : ((x1 &&& (2147483647 : Int32)) % (1114112 : Int32)) = v71) (qp76 : p76 = (if (((x0.toUInt32 >>> ((2 : Int32) &&& 31).toUInt32).toInt32) &&& (1 : Int32)) = (0 : Int32) then (0 : Int32) else ((x2 &&& (2147483647 : Int32)) % ((1114112 : Int32) - v71)))) (hv77 : (v71 + p76) = v77) (c78 : ¬ ((v77 + (2 : Int32)) < (1114112 : Int32))) : (1 : Int32) = 1 := by
  rfl
set_option maxRecDepth 65536 in
set_option maxHeartbeats 4000000 in
theorem rm0 (l : Launch) (Z : State) (a0 : Array Value) (hw : ∀ d ∈ tables_1, d.before a0 Z = true) (ws : List Jvm.Cond) (x0 : Int32) (x1 : Int32) (x2 : Int32) (x3 : Int32) (x4 : Int32) (h0 : Heap) (n0 : Nat) (Z0 : n0 ≤ h0.size) :
    MetFree l x (head1 (Jvm.Cond.code x code maxLocals ret :: ws) room_1) (fun aW U => aW = #[(.int x0), (.int x1), (.int x2), (.int x3), (.int x4)] ∧ Z.Warmed39 U.vm ∧ U.heap = h0) (fun _ _ _ _ _ => True) (fun _ U o U' => ∃ v L, o = .returned v ∧ Q0 Z x0 x1 x2 x3 x4 h0 n0 v U'.heap L ∧ FrameEnd U o U' L 16 128) := by
  refine MetFree.of_bodySF (plainFor_of_name own_pn0) hisR ?_
  intro p e s m args below meth c s₁ Bd hml0 hP hK
  obtain ⟨rfl, hZ, hh⟩ := hP
  have hx := Bd.exec
  have hby := Bd.bytes
  have hml : c.maxLocals = 15 := hml0
  have hown : s.vm.findClass "com/example/premise/premise/regex/RangesSinglePinLaw" = some m.cls := findClass_of_methodNamed Bd.named
  have hnm := (name_of_methodNamed Bd.named Bd.method).1
  have X0 : Stand p l e room_1 s m #[(.int x0), (.int x1), (.int x2), (.int x3), (.int x4)] below meth c s₁ [] 0 0 := Stand.of_body Bd
  have e0 : s₁.heap = h0 := by rw [← hh, Bd.state]; rfl
  have N0 := Fr.nil n0
  obtain ⟨Pq, hPq⟩ : ∃ P, P = own_P s below (fun v h L => Q0 Z x0 x1 x2 x3 x4 h0 n0 v h L) 16 128 := ⟨_, rfl⟩
  suffices hgo : own_Go p.tables e below Pq s₁ (mkF m 0 #[.val (.int x0), .val (.int x1), .val (.int x2), .val (.int x3), .val (.int x4), .unset, .unset, .unset, .unset, .unset, .unset, .unset, .unset, .unset, .unset] []) by
    subst hPq
    obtain ⟨t, k1, k2, o, k3, k4⟩ := hgo
    exact ⟨t, o, castTop (own_ef0 m x0 x1 x2 x3 x4) k1, k2, k3, k4⟩
  show own_Go _ _ _ _ s₁ (mkF m 0 #[.val (.int x0), .val (.int x1), .val (.int x2), .val (.int x3), .val (.int x4), .unset, .unset, .unset, .unset, .unset, .unset, .unset, .unset, .unset, .unset] [])
  refine own_st (fun t k => XS.iloadN X0.here hx rfl (hb hby at_0) rfl k) ?_
  show own_Go _ _ _ _ s₁ (mkF m 1 _ [(.int x0)])
  refine own_st (fun t k => X0.ldcInt hx hown (mvT hZ (hw _ (List.mem_of_getElem? (i := 0) rfl))) (g := (mkF m 1 #[.val (.int x0), .val (.int x1), .val (.int x2), .val (.int x3), .val (.int x4), .unset, .unset, .unset, .unset, .unset, .unset, .unset, .unset, .unset, .unset] [(.int x0)])) rfl (hb hby at_1) _ k) ?_
  show own_Go _ _ _ _ s₁ (mkF m 3 _ [(.int (2147483647 : Int32)), (.int x0)])
  refine own_st (fun t k => XS.iand X0.here hx rfl (hb hby at_3) rfl k) ?_
  show own_Go _ _ _ _ s₁ (mkF m 4 _ [(.int (x0 &&& (2147483647 : Int32)))])
  refine own_st (fun t k => XS.iconst X0.here hx rfl (hb hby at_4) k) ?_
  show own_Go _ _ _ _ s₁ (mkF m 5 _ [(.int (3 : Int32)), (.int (x0 &&& (2147483647 : Int32)))])
  refine own_st (fun t k => iremM X0 hx rfl (hb hby at_5) rfl (by decide) k) ?_
  show own_Go _ _ _ _ s₁ (mkF m 6 _ [(.int ((x0 &&& (2147483647 : Int32)) % (3 : Int32)))])
  generalize hv1 : ((x0 &&& (2147483647 : Int32)) % (3 : Int32)) = v1
  refine own_st (fun t k => XS.istore X0.here hx rfl (hb hby at_6) rfl (l' := #[.val (.int x0), .val (.int x1), .val (.int x2), .val (.int x3), .val (.int x4), .val (.int v1), .unset, .unset, .unset, .unset, .unset, .unset, .unset, .unset, .unset]) rfl k) ?_
  show own_Go _ _ _ _ s₁ (mkF m 8 #[.val (.int x0), .val (.int x1), .val (.int x2), .val (.int x3), .val (.int x4), .val (.int v1), .unset, .unset, .unset, .unset, .unset, .unset, .unset, .unset, .unset] [])
  rcases own_r3 hv1 with rfl | rfl | rfl
  · skip
    show own_Go _ _ _ _ s₁ (mkF m 8 #[.val (.int x0), .val (.int x1), .val (.int x2), .val (.int x3), .val (.int x4), .val (.int (0 : Int32)), .unset, .unset, .unset, .unset, .unset, .unset, .unset, .unset, .unset] [])
    refine own_st (fun t k => XS.iloadN X0.here hx rfl (hb hby at_8) rfl k) ?_
    show own_Go _ _ _ _ s₁ (mkF m 9 _ [(.int x1)])
    refine own_st (fun t k => X0.ldcInt hx hown (mvT hZ (hw _ (List.mem_of_getElem? (i := 0) rfl))) (g := (mkF m 9 #[.val (.int x0), .val (.int x1), .val (.int x2), .val (.int x3), .val (.int x4), .val (.int (0 : Int32)), .unset, .unset, .unset, .unset, .unset, .unset, .unset, .unset, .unset] [(.int x1)])) rfl (hb hby at_9) _ k) ?_
    show own_Go _ _ _ _ s₁ (mkF m 11 _ [(.int (2147483647 : Int32)), (.int x1)])
    refine own_st (fun t k => XS.iand X0.here hx rfl (hb hby at_11) rfl k) ?_
    show own_Go _ _ _ _ s₁ (mkF m 12 _ [(.int (x1 &&& (2147483647 : Int32)))])
    refine own_st (fun t k => X0.ldcInt hx hown (mvT hZ (hw _ (List.mem_of_getElem? (i := 1) rfl))) (g := (mkF m 12 #[.val (.int x0), .val (.int x1), .val (.int x2), .val (.int x3), .val (.int x4), .val (.int (0 : Int32)), .unset, .unset, .unset, .unset, .unset, .unset, .unset, .unset, .unset] [(.int (x1 &&& (2147483647 : Int32)))])) rfl (hb hby at_12) _ k) ?_
    show own_Go _ _ _ _ s₁ (mkF m 14 _ [(.int (1114112 : Int32)), (.int (x1 &&& (2147483647 : Int32)))])
    refine own_st (fun t k => iremM X0 hx rfl (hb hby at_14) rfl (by decide) k) ?_
    show own_Go _ _ _ _ s₁ (mkF m 15 _ [(.int ((x1 &&& (2147483647 : Int32)) % (1114112 : Int32)))])
    generalize hv2 : ((x1 &&& (2147483647 : Int32)) % (1114112 : Int32)) = v2
    refine own_st (fun t k => XS.istore X0.here hx rfl (hb hby at_15) rfl (l' := #[.val (.int x0), .val (.int x1), .val (.int x2), .val (.int x3), .val (.int x4), .val (.int (0 : Int32)), .val (.int v2), .unset, .unset, .unset, .unset, .unset, .unset, .unset, .unset]) rfl k) ?_
    show own_Go _ _ _ _ s₁ (mkF m 17 #[.val (.int x0), .val (.int x1), .val (.int x2), .val (.int x3), .val (.int x4), .val (.int (0 : Int32)), .val (.int v2), .unset, .unset, .unset, .unset, .unset, .unset, .unset, .unset] [])
    refine own_st (fun t k => XS.iloadN X0.here hx rfl (hb hby at_17) rfl k) ?_
    show own_Go _ _ _ _ s₁ (mkF m 18 _ [(.int x0)])
    refine own_st (fun t k => XS.iconst X0.here hx rfl (hb hby at_18) k) ?_
    show own_Go _ _ _ _ s₁ (mkF m 19 _ [(.int (2 : Int32)), (.int x0)])
    refine own_st (fun t k => XS.iushr X0.here hx rfl (hb hby at_19) rfl k) ?_
    show own_Go _ _ _ _ s₁ (mkF m 20 _ [(.int ((x0.toUInt32 >>> ((2 : Int32) &&& 31).toUInt32).toInt32))])
    refine own_st (fun t k => XS.iconst X0.here hx rfl (hb hby at_20) k) ?_
    show own_Go _ _ _ _ s₁ (mkF m 21 _ [(.int (1 : Int32)), (.int ((x0.toUInt32 >>> ((2 : Int32) &&& 31).toUInt32).toInt32))])
    refine own_st (fun t k => XS.iand X0.here hx rfl (hb hby at_21) rfl k) ?_
    show own_Go _ _ _ _ s₁ (mkF m 22 _ [(.int (((x0.toUInt32 >>> ((2 : Int32) &&& 31).toUInt32).toInt32) &&& (1 : Int32)))])
    have J6 : ∀ (Tj6 : State) (Lj6 : List Loc) (p7 : Int32), Stand p l e room_1 s m #[(.int x0), (.int x1), (.int x2), (.int x3), (.int x4)] below meth c Tj6 Lj6 0 0 → Tj6.heap = h0 → Fr n0 Lj6 → p7 = (if (((x0.toUInt32 >>> ((2 : Int32) &&& 31).toUInt32).toInt32) &&& (1 : Int32)) = (0 : Int32) then (0 : Int32) else ((x2 &&& (2147483647 : Int32)) % ((1114112 : Int32) - v2))) → own_Go p.tables e below Pq Tj6 (mkF m 39 #[.val (.int x0), .val (.int x1), .val (.int x2), .val (.int x3), .val (.int x4), .val (.int (0 : Int32)), .val (.int v2), .unset, .unset, .unset, .unset, .unset, .unset, .unset, .unset] [(.int p7)]) := by
      intro Tj6 Lj6 p7 Xj6 ej6 Nj6 qp7
      show own_Go _ _ _ _ Tj6 (mkF m 39 _ [(.int p7)])
      refine own_st (fun t k => XS.istore Xj6.here hx rfl (hb hby at_39) rfl (l' := #[.val (.int x0), .val (.int x1), .val (.int x2), .val (.int x3), .val (.int x4), .val (.int (0 : Int32)), .val (.int v2), .val (.int p7), .unset, .unset, .unset, .unset, .unset, .unset, .unset]) rfl k) ?_
      show own_Go _ _ _ _ Tj6 (mkF m 41 #[.val (.int x0), .val (.int x1), .val (.int x2), .val (.int x3), .val (.int x4), .val (.int (0 : Int32)), .val (.int v2), .val (.int p7), .unset, .unset, .unset, .unset, .unset, .unset, .unset] [])
      refine own_st (fun t k => XS.iload Xj6.here hx rfl (hb hby at_41) rfl k) ?_
      show own_Go _ _ _ _ Tj6 (mkF m 43 _ [(.int v2)])
      refine own_st (fun t k => XS.iload Xj6.here hx rfl (hb hby at_43) rfl k) ?_
      show own_Go _ _ _ _ Tj6 (mkF m 45 _ [(.int p7), (.int v2)])
      refine own_st (fun t k => XS.iadd Xj6.here hx rfl (hb hby at_45) rfl k) ?_
      show own_Go _ _ _ _ Tj6 (mkF m 46 _ [(.int (v2 + p7))])
      generalize hv8 : (v2 + p7) = v8
      refine own_st (fun t k => XS.istore Xj6.here hx rfl (hb hby at_46) rfl (l' := #[.val (.int x0), .val (.int x1), .val (.int x2), .val (.int x3), .val (.int x4), .val (.int (0 : Int32)), .val (.int v2), .val (.int p7), .val (.int v8), .unset, .unset, .unset, .unset, .unset, .unset]) rfl k) ?_
      show own_Go _ _ _ _ Tj6 (mkF m 48 #[.val (.int x0), .val (.int x1), .val (.int x2), .val (.int x3), .val (.int x4), .val (.int (0 : Int32)), .val (.int v2), .val (.int p7), .val (.int v8), .unset, .unset, .unset, .unset, .unset, .unset] [])
      refine own_st (fun t k => XS.iconst Xj6.here hx rfl (hb hby at_48) k) ?_
      show own_Go _ _ _ _ Tj6 (mkF m 49 _ [(.int (0 : Int32))])
      refine own_st (fun t k => XS.istore Xj6.here hx rfl (hb hby at_49) rfl (l' := #[.val (.int x0), .val (.int x1), .val (.int x2), .val (.int x3), .val (.int x4), .val (.int (0 : Int32)), .val (.int v2), .val (.int p7), .val (.int v8), .val (.int (0 : Int32)), .unset, .unset, .unset, .unset, .unset]) rfl k) ?_
      show own_Go _ _ _ _ Tj6 (mkF m 51 #[.val (.int x0), .val (.int x1), .val (.int x2), .val (.int x3), .val (.int x4), .val (.int (0 : Int32)), .val (.int v2), .val (.int p7), .val (.int v8), .val (.int (0 : Int32)), .unset, .unset, .unset, .unset, .unset] [])
      refine own_st (fun t k => XS.iconst Xj6.here hx rfl (hb hby at_51) k) ?_
      show own_Go _ _ _ _ Tj6 (mkF m 52 _ [(.int (0 : Int32))])
      refine own_st (fun t k => XS.istore Xj6.here hx rfl (hb hby at_52) rfl (l' := #[.val (.int x0), .val (.int x1), .val (.int x2), .val (.int x3), .val (.int x4), .val (.int (0 : Int32)), .val (.int v2), .val (.int p7), .val (.int v8), .val (.int (0 : Int32)), .val (.int (0 : Int32)), .unset, .unset, .unset, .unset]) rfl k) ?_
      show own_Go _ _ _ _ Tj6 (mkF m 54 #[.val (.int x0), .val (.int x1), .val (.int x2), .val (.int x3), .val (.int x4), .val (.int (0 : Int32)), .val (.int v2), .val (.int p7), .val (.int v8), .val (.int (0 : Int32)), .val (.int (0 : Int32)), .unset, .unset, .unset, .unset] [])
      refine own_st (fun t k => XS.iload Xj6.here hx rfl (hb hby at_54) rfl k) ?_
      show own_Go _ _ _ _ Tj6 (mkF m 56 _ [(.int (0 : Int32))])
      refine own_st (fun t k => XS.iconst Xj6.here hx rfl (hb hby at_56) k) ?_
      show own_Go _ _ _ _ Tj6 (mkF m 57 _ [(.int (2 : Int32)), (.int (0 : Int32))])
      refine own_st (fun t k => XS.icmpYes Xj6.here hx rfl (pc0 := 57) (pc' := 118) rfl (hb hby at_57) rfl (feq (by decide : ¬ ((0 : Int32) = (2 : Int32)))).2 (by decide) (by decide) k) ?_
      show own_Go _ _ _ _ Tj6 (mkF m 118 _ [])
      refine own_st (fun t k => XS.iconst Xj6.here hx rfl (hb hby at_118) k) ?_
      show own_Go _ _ _ _ Tj6 (mkF m 119 _ [(.int (2 : Int32))])
      refine own_st (fun t k => XS.iload Xj6.here hx rfl (hb hby at_119) rfl k) ?_
      show own_Go _ _ _ _ Tj6 (mkF m 121 _ [(.int (0 : Int32)), (.int (2 : Int32))])
      refine own_st (fun t k => XS.imul Xj6.here hx rfl (hb hby at_121) rfl k) ?_
      show own_Go _ _ _ _ Tj6 (mkF m 122 _ [(.int (0 : Int32))])
      obtain ⟨T9, h9, k9, X9, e9, E9, A9, st9⟩ := newP Xj6 hx hZ (hw _ (List.mem_of_getElem? (i := 2) rfl)) ej6 (g := (mkF m 122 #[.val (.int x0), .val (.int x1), .val (.int x2), .val (.int x3), .val (.int x4), .val (.int (0 : Int32)), .val (.int v2), .val (.int p7), .val (.int v8), .val (.int (0 : Int32)), .val (.int (0 : Int32)), .unset, .unset, .unset, .unset] [(.int (0 : Int32))])) rfl (hb hby at_122) rfl (by decide) (cap := 0) (by decide) (by decide) (by decide) (by decide)
      obtain ⟨b9, g9⟩ : ∃ z, z = h0.size := ⟨_, rfl⟩
      rw [← g9] at A9 st9
      refine own_st st9 ?_
      have gx10 : n0 ≤ b9 := Nat.le_trans Z0 (Nat.le_of_eq g9.symm)
      have Z11 : n0 ≤ h9.size := Nat.le_trans Z0 E9.1
      have V9 : own_AI Z h9 b9 k9 (0 : Int32) (fun _ => (0 : Int32)) := own_AI.new A9 (by decide)
      show own_Go _ _ _ _ T9 (mkF m 124 _ [(.ref b9)])
      refine own_st (fun t k => XS.astore X9.here hx rfl (hb hby at_124) rfl rfl (l' := #[.val (.int x0), .val (.int x1), .val (.int x2), .val (.int x3), .val (.int x4), .val (.int (0 : Int32)), .val (.int v2), .val (.int p7), .val (.int v8), .val (.int (0 : Int32)), .val (.int (0 : Int32)), .val (.ref b9), .unset, .unset, .unset]) rfl k) ?_
      show own_Go _ _ _ _ T9 (mkF m 126 #[.val (.int x0), .val (.int x1), .val (.int x2), .val (.int x3), .val (.int x4), .val (.int (0 : Int32)), .val (.int v2), .val (.int p7), .val (.int v8), .val (.int (0 : Int32)), .val (.int (0 : Int32)), .val (.ref b9), .unset, .unset, .unset] [])
      refine own_st (fun t k => XS.iload X9.here hx rfl (hb hby at_126) rfl k) ?_
      show own_Go _ _ _ _ T9 (mkF m 128 _ [(.int (0 : Int32))])
      refine own_st (fun t k => XS.iconst X9.here hx rfl (hb hby at_128) k) ?_
      show own_Go _ _ _ _ T9 (mkF m 129 _ [(.int (1 : Int32)), (.int (0 : Int32))])
      refine own_st (fun t k => XS.icmpYes X9.here hx rfl (pc0 := 129) (pc' := 144) rfl (hb hby at_129) rfl (tlt (by decide : ((0 : Int32) < (1 : Int32)))).1 (by decide) (by decide) k) ?_
      show own_Go _ _ _ _ T9 (mkF m 144 _ [])
      refine own_st (fun t k => XS.iload X9.here hx rfl (hb hby at_144) rfl k) ?_
      show own_Go _ _ _ _ T9 (mkF m 146 _ [(.int (0 : Int32))])
      refine own_st (fun t k => XS.iconst X9.here hx rfl (hb hby at_146) k) ?_
      show own_Go _ _ _ _ T9 (mkF m 147 _ [(.int (2 : Int32)), (.int (0 : Int32))])
      refine own_st (fun t k => XS.icmpYes X9.here hx rfl (pc0 := 147) (pc' := 162) rfl (hb hby at_147) rfl (feq (by decide : ¬ ((0 : Int32) = (2 : Int32)))).2 (by decide) (by decide) k) ?_
      show own_Go _ _ _ _ T9 (mkF m 162 _ [])
      obtain ⟨T12, h12, X12, e12, E12, A12, D12, -, st12⟩ := newO X9 hx hZ hown (hw _ (List.mem_of_getElem? (i := 3) rfl)) (hw _ (List.mem_of_getElem? (i := 4) rfl)) (hw _ (List.mem_of_getElem? (i := 5) rfl)) e9 (g := (mkF m 162 #[.val (.int x0), .val (.int x1), .val (.int x2), .val (.int x3), .val (.int x4), .val (.int (0 : Int32)), .val (.int v2), .val (.int p7), .val (.int v8), .val (.int (0 : Int32)), .val (.int (0 : Int32)), .val (.ref b9), .unset, .unset, .unset] [])) rfl (hb hby at_162) (by decide) (by decide)
      obtain ⟨b12, g12⟩ : ∃ z, z = h9.size := ⟨_, rfl⟩
      rw [← g12] at A12 D12 st12
      refine own_st st12 ?_
      have ne13 : b9 ≠ b12 := Nat.ne_of_lt (Nat.lt_of_lt_of_le V9.lt (Nat.le_of_eq g12.symm))
      have f14 := V9.ext E12
      have gx15 : n0 ≤ b12 := Nat.le_trans Z11 (Nat.le_of_eq g12.symm)
      have Z16 : n0 ≤ h12.size := Nat.le_trans Z11 E12.1
      have f17 : Fld Z h12 b12 "com/example/premise/premise/regex/RegexProgram$Ranges" "bounds" "[I" .null := D12 (Or.inr (hw _ (List.mem_of_getElem? (i := 18) rfl))) (ty := (.array .int)) (by decide)
      show own_Go _ _ _ _ T12 (mkF m 165 _ [(.ref b12)])
      refine own_st (fun t k => XS.dup X12.here hx rfl (hb hby at_165) rfl rfl k) ?_
      show own_Go _ _ _ _ T12 (mkF m 166 _ [(.ref b12), (.ref b12)])
      refine own_st (fun t k => XS.aload X12.here hx rfl (hb hby at_166) rfl rfl k) ?_
      show own_Go _ _ _ _ T12 (mkF m 168 _ [(.ref b9), (.ref b12), (.ref b12)])
      obtain ⟨_, _, ⟨T18, L18, k18, n18⟩, -, X18, ⟨Lc18, hQ18, l18, y18, z18⟩, st18⟩ := X12.specialBack hx (y := (⟨"com/example/premise/premise/regex/RegexProgram$Ranges", "<init>", "([I)V"⟩ : MethodName)) rfl hown (mvT hZ (hw _ (List.mem_of_getElem? (i := 6) rfl))) (mvT hZ (hw _ (List.mem_of_getElem? (i := 7) rfl))) (mvT hZ (hw _ (List.mem_of_getElem? (i := 8) rfl))) (by decide) (backOf (W := 1) (rm2 l Z a0 hw [] b12 b9 (.null) h12 n0 Z16 A12 f17 gx15) hZ (hw _ (List.mem_of_getElem? (i := 8) rfl)) (hw _ (List.mem_of_getElem? (i := 5) rfl)) (by decide) (by decide)) (g := (mkF m 168 #[.val (.int x0), .val (.int x1), .val (.int x2), .val (.int x3), .val (.int x4), .val (.int (0 : Int32)), .val (.int v2), .val (.int p7), .val (.int v8), .val (.int (0 : Int32)), .val (.int (0 : Int32)), .val (.ref b9), .unset, .unset, .unset] [(.ref b9), (.ref b12), (.ref b12)])) rfl (by rw [hml]; rfl) (Steps.refl _) (a := b12) (argsL := [(.ref b9)]) (rest := [(.ref b12)]) (lenOf own_pd___I_V rfl) rfl (by show 2 * 0 + _ ≤ _; exact Nat.le_of_eq rfl) (hb hby at_168) (fun _ _ => ⟨rfl, e12, (by decide : 2 + 0 ≤ _), (by decide : 1 + 0 ≤ _)⟩)
      dsimp only [Pt.U, Pt.locs, Pt.cells, Pt.slots] at X18 l18 y18 z18 st18 hQ18
      subst l18 y18 z18
      obtain ⟨rfl, NQ18, K18, fq18_0, fq18_1⟩ := hQ18
      have N19 := Fr.app Nj6 NQ18
      refine own_st (fun t k => st18.trans k) ?_
      have f20 := f14.keep K18 (ninS ne13 nin0)
      have f21 := A12.keep K18
      have Z22 : n0 ≤ T18.heap.size := Nat.le_trans Z16 K18.1
      show own_Go _ _ _ _ T18 (mkF m 171 _ [(.ref b12)])
      refine own_st (fun t k => XS.astore X18.here hx rfl (hb hby at_171) rfl rfl (l' := #[.val (.int x0), .val (.int x1), .val (.int x2), .val (.int x3), .val (.int x4), .val (.int (0 : Int32)), .val (.int v2), .val (.int p7), .val (.int v8), .val (.int (0 : Int32)), .val (.int (0 : Int32)), .val (.ref b9), .val (.ref b12), .unset, .unset]) rfl k) ?_
      show own_Go _ _ _ _ T18 (mkF m 173 #[.val (.int x0), .val (.int x1), .val (.int x2), .val (.int x3), .val (.int x4), .val (.int (0 : Int32)), .val (.int v2), .val (.int p7), .val (.int v8), .val (.int (0 : Int32)), .val (.int (0 : Int32)), .val (.ref b9), .val (.ref b12), .unset, .unset] [])
      refine own_st (fun t k => XS.aload X18.here hx rfl (hb hby at_173) rfl rfl k) ?_
      show own_Go _ _ _ _ T18 (mkF m 175 _ [(.ref b12)])
      obtain ⟨cq23, kq23, q23a, q23b, q23c⟩ := isOf hZ rfl fq18_0
      obtain ⟨_, _, ⟨T23, L23, k23, n23⟩, -, X23, ⟨Lc23, hQ23, l23, y23, z23⟩, st23⟩ := X18.virtualBack hx (y := (⟨"com/example/premise/premise/regex/RegexProgram$Ranges", "single", "()I"⟩ : MethodName)) (z := (⟨"com/example/premise/premise/regex/RegexProgram$Ranges", "single", "()I"⟩ : MethodName)) hown (mvT hZ (hw _ (List.mem_of_getElem? (i := 19) rfl))) (mvT hZ (hw _ (List.mem_of_getElem? (i := 20) rfl))) (notFace_of_selects (args := #[]) (mvT hZ (hw _ (List.mem_of_getElem? (i := 22) rfl)))) (mvT hZ (hw _ (List.mem_of_getElem? (i := 22) rfl))) (mvT hZ (hw _ (List.mem_of_getElem? (i := 21) rfl))) (by decide) (backOf (W := 0) (rm3 l Z a0 hw [] b12 b9 k9 (0 : Int32) (fun _ => (0 : Int32)) T18.heap n0 Z22 fq18_0 fq18_1 f20) hZ (hw _ (List.mem_of_getElem? (i := 23) rfl)) (hw _ (List.mem_of_getElem? (i := 5) rfl)) (by decide) (by decide)) q23a q23c (g := (mkF m 175 #[.val (.int x0), .val (.int x1), .val (.int x2), .val (.int x3), .val (.int x4), .val (.int (0 : Int32)), .val (.int v2), .val (.int p7), .val (.int v8), .val (.int (0 : Int32)), .val (.int (0 : Int32)), .val (.ref b9), .val (.ref b12), .unset, .unset] [(.ref b12)])) rfl (by rw [hml]; rfl) (Steps.refl _) (argsL := []) (rest := []) (lenOf own_pd___I rfl) rfl (by show 2 * 0 + _ ≤ _; exact Nat.le_of_eq rfl) (hb hby at_175) (fun _ _ => ⟨rfl, rfl, (by decide : 2 + 0 ≤ _), (by decide : 1 + 0 ≤ _)⟩)
      dsimp only [Pt.U, Pt.locs, Pt.cells, Pt.slots] at X23 l23 y23 z23 st23 hQ23
      subst l23 y23 z23
      obtain ⟨rfl, NQ23, eq23⟩ := hQ23
      have N24 := Fr.app N19 NQ23
      refine own_st (fun t k => st23.trans k) ?_
      show own_Go _ _ _ _ T23 (mkF m 178 _ [(.int (own_single (0 : Int32) (fun _ => (0 : Int32))))])
      generalize hv25 : (own_single (0 : Int32) (fun _ => (0 : Int32))) = v25
      refine own_st (fun t k => XS.istore X23.here hx rfl (hb hby at_178) rfl (l' := #[.val (.int x0), .val (.int x1), .val (.int x2), .val (.int x3), .val (.int x4), .val (.int (0 : Int32)), .val (.int v2), .val (.int p7), .val (.int v8), .val (.int (0 : Int32)), .val (.int (0 : Int32)), .val (.ref b9), .val (.ref b12), .val (.int v25), .unset]) rfl k) ?_
      show own_Go _ _ _ _ T23 (mkF m 180 #[.val (.int x0), .val (.int x1), .val (.int x2), .val (.int x3), .val (.int x4), .val (.int (0 : Int32)), .val (.int v2), .val (.int p7), .val (.int v8), .val (.int (0 : Int32)), .val (.int (0 : Int32)), .val (.ref b9), .val (.ref b12), .val (.int v25), .unset] [])
      refine own_st (fun t k => XS.iload X23.here hx rfl (hb hby at_180) rfl k) ?_
      show own_Go _ _ _ _ T23 (mkF m 182 _ [(.int (0 : Int32))])
      refine own_st (fun t k => XS.iconst X23.here hx rfl (hb hby at_182) k) ?_
      show own_Go _ _ _ _ T23 (mkF m 183 _ [(.int (1 : Int32)), (.int (0 : Int32))])
      refine own_st (fun t k => XS.icmpYes X23.here hx rfl (pc0 := 183) (pc' := 196) rfl (hb hby at_183) rfl (feq (by decide : ¬ ((0 : Int32) = (1 : Int32)))).2 (by decide) (by decide) k) ?_
      show own_Go _ _ _ _ T23 (mkF m 196 _ [])
      refine own_st (fun t k => XS.iconst X23.here hx rfl (hb hby at_196) k) ?_
      show own_Go _ _ _ _ T23 (mkF m 197 _ [(.int (-1 : Int32))])
      refine own_st (fun t k => XS.istore X23.here hx rfl (hb hby at_197) rfl (l' := #[.val (.int x0), .val (.int x1), .val (.int x2), .val (.int x3), .val (.int x4), .val (.int (0 : Int32)), .val (.int v2), .val (.int p7), .val (.int v8), .val (.int (0 : Int32)), .val (.int (0 : Int32)), .val (.ref b9), .val (.ref b12), .val (.int v25), .val (.int (-1 : Int32))]) rfl k) ?_
      show own_Go _ _ _ _ T23 (mkF m 199 #[.val (.int x0), .val (.int x1), .val (.int x2), .val (.int x3), .val (.int x4), .val (.int (0 : Int32)), .val (.int v2), .val (.int p7), .val (.int v8), .val (.int (0 : Int32)), .val (.int (0 : Int32)), .val (.ref b9), .val (.ref b12), .val (.int v25), .val (.int (-1 : Int32))] [])
      refine own_st (fun t k => XS.iload X23.here hx rfl (hb hby at_199) rfl k) ?_
      show own_Go _ _ _ _ T23 (mkF m 201 _ [(.int v25)])
      refine own_st (fun t k => XS.iload X23.here hx rfl (hb hby at_201) rfl k) ?_
      show own_Go _ _ _ _ T23 (mkF m 203 _ [(.int (-1 : Int32)), (.int v25)])
      refine own_st (fun t k => XS.icmpYes X23.here hx rfl (pc0 := 203) (pc' := 208) rfl (hb hby at_203) rfl (teq (own_eq0 x0 x1 x2 x3 x4 v2 p7 v8 v25 hv2 qp7 hv8 hv25)).1 (by decide) (by decide) k) ?_
      show own_Go _ _ _ _ T23 (mkF m 208 _ [])
      refine own_st (fun t k => XS.iload X23.here hx rfl (hb hby at_208) rfl k) ?_
      show own_Go _ _ _ _ T23 (mkF m 210 _ [(.int v25)])
      refine own_st (fun t k => XS.ifYes X23.here hx rfl (pc0 := 210) (pc' := 223) rfl (hb hby at_210) rfl ((if0 _ _).trans (tlt (own_neg0 x0 x1 x2 x3 x4 v2 p7 v8 v25 hv2 qp7 hv8 hv25)).1) (by decide) (by decide) k) ?_
      show own_Go _ _ _ _ T23 (mkF m 223 _ [])
      refine own_st (fun t k => XS.iconst X23.here hx rfl (hb hby at_223) k) ?_
      show own_Go _ _ _ _ T23 (mkF m 224 _ [(.int (1 : Int32))])
      refine own_st (fun t k => XS.goto X23.here hx rfl (pc0 := 224) (pc' := 228) rfl (hb hby at_224) (by decide) (by decide) k) ?_
      show own_Go _ _ _ _ T23 (mkF m 228 _ [(.int (1 : Int32))])
      subst hPq
      refine own_out X23 (v := some (.int (nar .boolean (1 : Int32)))) (fun h => by rw [Bd.returns] at h; cases h) Bd.notSynchronized (fun fs hr => retN X23 hx (t := .boolean) Bd.returns (by simp) (hb hby at_228) hr) (by decide) (by decide) ?_
      show Q0 Z x0 x1 x2 x3 x4 h0 n0 _ T23.heap _
      rw [eq23]
      exact ⟨congrArg (fun z => some (Value.int (nar .boolean z))) (own_law x0 x1 x2 x3 x4 v2 p7 v8 v25 hv2 qp7 hv8 hv25), N24⟩
    by_cases c3 : (((x0.toUInt32 >>> ((2 : Int32) &&& 31).toUInt32).toInt32) &&& (1 : Int32)) = (0 : Int32)
    · skip
      refine own_st (fun t k => XS.ifNo X0.here hx rfl (hb hby at_22) rfl ((if0 _ _).trans (teq c3).2) k) ?_
      show own_Go _ _ _ _ s₁ (mkF m 25 _ [])
      refine own_st (fun t k => XS.iconst X0.here hx rfl (hb hby at_25) k) ?_
      show own_Go _ _ _ _ s₁ (mkF m 26 _ [(.int (0 : Int32))])
      refine own_st (fun t k => XS.goto X0.here hx rfl (pc0 := 26) (pc' := 39) rfl (hb hby at_26) (by decide) (by decide) k) ?_
      show own_Go _ _ _ _ s₁ (mkF m 39 _ [(.int (0 : Int32))])
      exact J6 s₁ _ _ (X0.mono (by decide) (by decide)) e0 N0 (by simp only [if_pos c3])
    · skip
      refine own_st (fun t k => XS.ifYes X0.here hx rfl (pc0 := 22) (pc' := 29) rfl (hb hby at_22) rfl ((if0 _ _).trans (feq c3).2) (by decide) (by decide) k) ?_
      show own_Go _ _ _ _ s₁ (mkF m 29 _ [])
      refine own_st (fun t k => XS.iloadN X0.here hx rfl (hb hby at_29) rfl k) ?_
      show own_Go _ _ _ _ s₁ (mkF m 30 _ [(.int x2)])
      refine own_st (fun t k => X0.ldcInt hx hown (mvT hZ (hw _ (List.mem_of_getElem? (i := 0) rfl))) (g := (mkF m 30 #[.val (.int x0), .val (.int x1), .val (.int x2), .val (.int x3), .val (.int x4), .val (.int (0 : Int32)), .val (.int v2), .unset, .unset, .unset, .unset, .unset, .unset, .unset, .unset] [(.int x2)])) rfl (hb hby at_30) _ k) ?_
      show own_Go _ _ _ _ s₁ (mkF m 32 _ [(.int (2147483647 : Int32)), (.int x2)])
      refine own_st (fun t k => XS.iand X0.here hx rfl (hb hby at_32) rfl k) ?_
      show own_Go _ _ _ _ s₁ (mkF m 33 _ [(.int (x2 &&& (2147483647 : Int32)))])
      refine own_st (fun t k => X0.ldcInt hx hown (mvT hZ (hw _ (List.mem_of_getElem? (i := 1) rfl))) (g := (mkF m 33 #[.val (.int x0), .val (.int x1), .val (.int x2), .val (.int x3), .val (.int x4), .val (.int (0 : Int32)), .val (.int v2), .unset, .unset, .unset, .unset, .unset, .unset, .unset, .unset] [(.int (x2 &&& (2147483647 : Int32)))])) rfl (hb hby at_33) _ k) ?_
      show own_Go _ _ _ _ s₁ (mkF m 35 _ [(.int (1114112 : Int32)), (.int (x2 &&& (2147483647 : Int32)))])
      refine own_st (fun t k => XS.iload X0.here hx rfl (hb hby at_35) rfl k) ?_
      show own_Go _ _ _ _ s₁ (mkF m 37 _ [(.int v2), (.int (1114112 : Int32)), (.int (x2 &&& (2147483647 : Int32)))])
      refine own_st (fun t k => XS.isub X0.here hx rfl (hb hby at_37) rfl k) ?_
      show own_Go _ _ _ _ s₁ (mkF m 38 _ [(.int ((1114112 : Int32) - v2)), (.int (x2 &&& (2147483647 : Int32)))])
      refine own_st (fun t k => iremM X0 hx rfl (hb hby at_38) rfl (own_nz0_38 x0 x1 x2 x3 x4 v2 hv2 c3) k) ?_
      show own_Go _ _ _ _ s₁ (mkF m 39 _ [(.int ((x2 &&& (2147483647 : Int32)) % ((1114112 : Int32) - v2)))])
      exact J6 s₁ _ _ (X0.mono (by decide) (by decide)) e0 N0 (by simp only [if_neg c3])
  · skip
    show own_Go _ _ _ _ s₁ (mkF m 8 #[.val (.int x0), .val (.int x1), .val (.int x2), .val (.int x3), .val (.int x4), .val (.int (1 : Int32)), .unset, .unset, .unset, .unset, .unset, .unset, .unset, .unset, .unset] [])
    refine own_st (fun t k => XS.iloadN X0.here hx rfl (hb hby at_8) rfl k) ?_
    show own_Go _ _ _ _ s₁ (mkF m 9 _ [(.int x1)])
    refine own_st (fun t k => X0.ldcInt hx hown (mvT hZ (hw _ (List.mem_of_getElem? (i := 0) rfl))) (g := (mkF m 9 #[.val (.int x0), .val (.int x1), .val (.int x2), .val (.int x3), .val (.int x4), .val (.int (1 : Int32)), .unset, .unset, .unset, .unset, .unset, .unset, .unset, .unset, .unset] [(.int x1)])) rfl (hb hby at_9) _ k) ?_
    show own_Go _ _ _ _ s₁ (mkF m 11 _ [(.int (2147483647 : Int32)), (.int x1)])
    refine own_st (fun t k => XS.iand X0.here hx rfl (hb hby at_11) rfl k) ?_
    show own_Go _ _ _ _ s₁ (mkF m 12 _ [(.int (x1 &&& (2147483647 : Int32)))])
    refine own_st (fun t k => X0.ldcInt hx hown (mvT hZ (hw _ (List.mem_of_getElem? (i := 1) rfl))) (g := (mkF m 12 #[.val (.int x0), .val (.int x1), .val (.int x2), .val (.int x3), .val (.int x4), .val (.int (1 : Int32)), .unset, .unset, .unset, .unset, .unset, .unset, .unset, .unset, .unset] [(.int (x1 &&& (2147483647 : Int32)))])) rfl (hb hby at_12) _ k) ?_
    show own_Go _ _ _ _ s₁ (mkF m 14 _ [(.int (1114112 : Int32)), (.int (x1 &&& (2147483647 : Int32)))])
    refine own_st (fun t k => iremM X0 hx rfl (hb hby at_14) rfl (by decide) k) ?_
    show own_Go _ _ _ _ s₁ (mkF m 15 _ [(.int ((x1 &&& (2147483647 : Int32)) % (1114112 : Int32)))])
    generalize hv26 : ((x1 &&& (2147483647 : Int32)) % (1114112 : Int32)) = v26
    refine own_st (fun t k => XS.istore X0.here hx rfl (hb hby at_15) rfl (l' := #[.val (.int x0), .val (.int x1), .val (.int x2), .val (.int x3), .val (.int x4), .val (.int (1 : Int32)), .val (.int v26), .unset, .unset, .unset, .unset, .unset, .unset, .unset, .unset]) rfl k) ?_
    show own_Go _ _ _ _ s₁ (mkF m 17 #[.val (.int x0), .val (.int x1), .val (.int x2), .val (.int x3), .val (.int x4), .val (.int (1 : Int32)), .val (.int v26), .unset, .unset, .unset, .unset, .unset, .unset, .unset, .unset] [])
    refine own_st (fun t k => XS.iloadN X0.here hx rfl (hb hby at_17) rfl k) ?_
    show own_Go _ _ _ _ s₁ (mkF m 18 _ [(.int x0)])
    refine own_st (fun t k => XS.iconst X0.here hx rfl (hb hby at_18) k) ?_
    show own_Go _ _ _ _ s₁ (mkF m 19 _ [(.int (2 : Int32)), (.int x0)])
    refine own_st (fun t k => XS.iushr X0.here hx rfl (hb hby at_19) rfl k) ?_
    show own_Go _ _ _ _ s₁ (mkF m 20 _ [(.int ((x0.toUInt32 >>> ((2 : Int32) &&& 31).toUInt32).toInt32))])
    refine own_st (fun t k => XS.iconst X0.here hx rfl (hb hby at_20) k) ?_
    show own_Go _ _ _ _ s₁ (mkF m 21 _ [(.int (1 : Int32)), (.int ((x0.toUInt32 >>> ((2 : Int32) &&& 31).toUInt32).toInt32))])
    refine own_st (fun t k => XS.iand X0.here hx rfl (hb hby at_21) rfl k) ?_
    show own_Go _ _ _ _ s₁ (mkF m 22 _ [(.int (((x0.toUInt32 >>> ((2 : Int32) &&& 31).toUInt32).toInt32) &&& (1 : Int32)))])
    have J30 : ∀ (Tj30 : State) (Lj30 : List Loc) (p31 : Int32), Stand p l e room_1 s m #[(.int x0), (.int x1), (.int x2), (.int x3), (.int x4)] below meth c Tj30 Lj30 0 0 → Tj30.heap = h0 → Fr n0 Lj30 → p31 = (if (((x0.toUInt32 >>> ((2 : Int32) &&& 31).toUInt32).toInt32) &&& (1 : Int32)) = (0 : Int32) then (0 : Int32) else ((x2 &&& (2147483647 : Int32)) % ((1114112 : Int32) - v26))) → own_Go p.tables e below Pq Tj30 (mkF m 39 #[.val (.int x0), .val (.int x1), .val (.int x2), .val (.int x3), .val (.int x4), .val (.int (1 : Int32)), .val (.int v26), .unset, .unset, .unset, .unset, .unset, .unset, .unset, .unset] [(.int p31)]) := by
      intro Tj30 Lj30 p31 Xj30 ej30 Nj30 qp31
      show own_Go _ _ _ _ Tj30 (mkF m 39 _ [(.int p31)])
      refine own_st (fun t k => XS.istore Xj30.here hx rfl (hb hby at_39) rfl (l' := #[.val (.int x0), .val (.int x1), .val (.int x2), .val (.int x3), .val (.int x4), .val (.int (1 : Int32)), .val (.int v26), .val (.int p31), .unset, .unset, .unset, .unset, .unset, .unset, .unset]) rfl k) ?_
      show own_Go _ _ _ _ Tj30 (mkF m 41 #[.val (.int x0), .val (.int x1), .val (.int x2), .val (.int x3), .val (.int x4), .val (.int (1 : Int32)), .val (.int v26), .val (.int p31), .unset, .unset, .unset, .unset, .unset, .unset, .unset] [])
      refine own_st (fun t k => XS.iload Xj30.here hx rfl (hb hby at_41) rfl k) ?_
      show own_Go _ _ _ _ Tj30 (mkF m 43 _ [(.int v26)])
      refine own_st (fun t k => XS.iload Xj30.here hx rfl (hb hby at_43) rfl k) ?_
      show own_Go _ _ _ _ Tj30 (mkF m 45 _ [(.int p31), (.int v26)])
      refine own_st (fun t k => XS.iadd Xj30.here hx rfl (hb hby at_45) rfl k) ?_
      show own_Go _ _ _ _ Tj30 (mkF m 46 _ [(.int (v26 + p31))])
      generalize hv32 : (v26 + p31) = v32
      refine own_st (fun t k => XS.istore Xj30.here hx rfl (hb hby at_46) rfl (l' := #[.val (.int x0), .val (.int x1), .val (.int x2), .val (.int x3), .val (.int x4), .val (.int (1 : Int32)), .val (.int v26), .val (.int p31), .val (.int v32), .unset, .unset, .unset, .unset, .unset, .unset]) rfl k) ?_
      show own_Go _ _ _ _ Tj30 (mkF m 48 #[.val (.int x0), .val (.int x1), .val (.int x2), .val (.int x3), .val (.int x4), .val (.int (1 : Int32)), .val (.int v26), .val (.int p31), .val (.int v32), .unset, .unset, .unset, .unset, .unset, .unset] [])
      refine own_st (fun t k => XS.iconst Xj30.here hx rfl (hb hby at_48) k) ?_
      show own_Go _ _ _ _ Tj30 (mkF m 49 _ [(.int (0 : Int32))])
      refine own_st (fun t k => XS.istore Xj30.here hx rfl (hb hby at_49) rfl (l' := #[.val (.int x0), .val (.int x1), .val (.int x2), .val (.int x3), .val (.int x4), .val (.int (1 : Int32)), .val (.int v26), .val (.int p31), .val (.int v32), .val (.int (0 : Int32)), .unset, .unset, .unset, .unset, .unset]) rfl k) ?_
      show own_Go _ _ _ _ Tj30 (mkF m 51 #[.val (.int x0), .val (.int x1), .val (.int x2), .val (.int x3), .val (.int x4), .val (.int (1 : Int32)), .val (.int v26), .val (.int p31), .val (.int v32), .val (.int (0 : Int32)), .unset, .unset, .unset, .unset, .unset] [])
      refine own_st (fun t k => XS.iconst Xj30.here hx rfl (hb hby at_51) k) ?_
      show own_Go _ _ _ _ Tj30 (mkF m 52 _ [(.int (0 : Int32))])
      refine own_st (fun t k => XS.istore Xj30.here hx rfl (hb hby at_52) rfl (l' := #[.val (.int x0), .val (.int x1), .val (.int x2), .val (.int x3), .val (.int x4), .val (.int (1 : Int32)), .val (.int v26), .val (.int p31), .val (.int v32), .val (.int (0 : Int32)), .val (.int (0 : Int32)), .unset, .unset, .unset, .unset]) rfl k) ?_
      show own_Go _ _ _ _ Tj30 (mkF m 54 #[.val (.int x0), .val (.int x1), .val (.int x2), .val (.int x3), .val (.int x4), .val (.int (1 : Int32)), .val (.int v26), .val (.int p31), .val (.int v32), .val (.int (0 : Int32)), .val (.int (0 : Int32)), .unset, .unset, .unset, .unset] [])
      refine own_st (fun t k => XS.iload Xj30.here hx rfl (hb hby at_54) rfl k) ?_
      show own_Go _ _ _ _ Tj30 (mkF m 56 _ [(.int (1 : Int32))])
      refine own_st (fun t k => XS.iconst Xj30.here hx rfl (hb hby at_56) k) ?_
      show own_Go _ _ _ _ Tj30 (mkF m 57 _ [(.int (2 : Int32)), (.int (1 : Int32))])
      refine own_st (fun t k => XS.icmpYes Xj30.here hx rfl (pc0 := 57) (pc' := 118) rfl (hb hby at_57) rfl (feq (by decide : ¬ ((1 : Int32) = (2 : Int32)))).2 (by decide) (by decide) k) ?_
      show own_Go _ _ _ _ Tj30 (mkF m 118 _ [])
      refine own_st (fun t k => XS.iconst Xj30.here hx rfl (hb hby at_118) k) ?_
      show own_Go _ _ _ _ Tj30 (mkF m 119 _ [(.int (2 : Int32))])
      refine own_st (fun t k => XS.iload Xj30.here hx rfl (hb hby at_119) rfl k) ?_
      show own_Go _ _ _ _ Tj30 (mkF m 121 _ [(.int (1 : Int32)), (.int (2 : Int32))])
      refine own_st (fun t k => XS.imul Xj30.here hx rfl (hb hby at_121) rfl k) ?_
      show own_Go _ _ _ _ Tj30 (mkF m 122 _ [(.int (2 : Int32))])
      obtain ⟨T33, h33, k33, X33, e33, E33, A33, st33⟩ := newP Xj30 hx hZ (hw _ (List.mem_of_getElem? (i := 2) rfl)) ej30 (g := (mkF m 122 #[.val (.int x0), .val (.int x1), .val (.int x2), .val (.int x3), .val (.int x4), .val (.int (1 : Int32)), .val (.int v26), .val (.int p31), .val (.int v32), .val (.int (0 : Int32)), .val (.int (0 : Int32)), .unset, .unset, .unset, .unset] [(.int (2 : Int32))])) rfl (hb hby at_122) rfl (by decide) (cap := 2) (by decide) (by decide) (by decide) (by decide)
      obtain ⟨b33, g33⟩ : ∃ z, z = h0.size := ⟨_, rfl⟩
      rw [← g33] at A33 st33
      refine own_st st33 ?_
      have gx34 : n0 ≤ b33 := Nat.le_trans Z0 (Nat.le_of_eq g33.symm)
      have Z35 : n0 ≤ h33.size := Nat.le_trans Z0 E33.1
      have V33 : own_AI Z h33 b33 k33 (2 : Int32) (fun _ => (0 : Int32)) := own_AI.new A33 (by decide)
      show own_Go _ _ _ _ T33 (mkF m 124 _ [(.ref b33)])
      refine own_st (fun t k => XS.astore X33.here hx rfl (hb hby at_124) rfl rfl (l' := #[.val (.int x0), .val (.int x1), .val (.int x2), .val (.int x3), .val (.int x4), .val (.int (1 : Int32)), .val (.int v26), .val (.int p31), .val (.int v32), .val (.int (0 : Int32)), .val (.int (0 : Int32)), .val (.ref b33), .unset, .unset, .unset]) rfl k) ?_
      show own_Go _ _ _ _ T33 (mkF m 126 #[.val (.int x0), .val (.int x1), .val (.int x2), .val (.int x3), .val (.int x4), .val (.int (1 : Int32)), .val (.int v26), .val (.int p31), .val (.int v32), .val (.int (0 : Int32)), .val (.int (0 : Int32)), .val (.ref b33), .unset, .unset, .unset] [])
      refine own_st (fun t k => XS.iload X33.here hx rfl (hb hby at_126) rfl k) ?_
      show own_Go _ _ _ _ T33 (mkF m 128 _ [(.int (1 : Int32))])
      refine own_st (fun t k => XS.iconst X33.here hx rfl (hb hby at_128) k) ?_
      show own_Go _ _ _ _ T33 (mkF m 129 _ [(.int (1 : Int32)), (.int (1 : Int32))])
      refine own_st (fun t k => XS.icmpNo X33.here hx rfl (hb hby at_129) rfl (flt (by decide : ¬ ((1 : Int32) < (1 : Int32)))).1 k) ?_
      show own_Go _ _ _ _ T33 (mkF m 132 _ [])
      refine own_st (fun t k => XS.aload X33.here hx rfl (hb hby at_132) rfl rfl k) ?_
      show own_Go _ _ _ _ T33 (mkF m 134 _ [(.ref b33)])
      refine own_st (fun t k => XS.iconst X33.here hx rfl (hb hby at_134) k) ?_
      show own_Go _ _ _ _ T33 (mkF m 135 _ [(.int (0 : Int32)), (.ref b33)])
      refine own_st (fun t k => XS.iload X33.here hx rfl (hb hby at_135) rfl k) ?_
      show own_Go _ _ _ _ T33 (mkF m 137 _ [(.int v26), (.int (0 : Int32)), (.ref b33)])
      obtain ⟨c36, Ar36, q36, S36, N36, H36⟩ := id V33
      obtain ⟨T36, h36, X36, e36, W36, st36⟩ := stI X33 hx hZ e33 Ar36 (j := (0 : Int32)) (inb_of S36 ⟨by decide, by decide⟩) (g := (mkF m 137 #[.val (.int x0), .val (.int x1), .val (.int x2), .val (.int x3), .val (.int x4), .val (.int (1 : Int32)), .val (.int v26), .val (.int p31), .val (.int v32), .val (.int (0 : Int32)), .val (.int (0 : Int32)), .val (.ref b33), .unset, .unset, .unset] [(.int v26), (.int (0 : Int32)), (.ref b33)])) rfl rfl (hb hby at_137)
      refine own_st st36 ?_
      have f37 : own_AI Z h36 b33 k33 (2 : Int32) (own_updI (fun _ => (0 : Int32)) 0 v26) := own_AI.set V33 W36
      have N38 := Fr.snoc X36 Nj30 gx34
      have Z39 : n0 ≤ h36.size := Nat.le_trans Z35 (Nat.le_of_eq W36.size.symm)
      show own_Go _ _ _ _ T36 (mkF m 138 _ [])
      generalize hgg40v : (own_updI (fun _ => (0 : Int32)) 0 v26) = g40v at *
      refine own_st (fun t k => XS.aload X36.here hx rfl (hb hby at_138) rfl rfl k) ?_
      show own_Go _ _ _ _ T36 (mkF m 140 _ [(.ref b33)])
      refine own_st (fun t k => XS.iconst X36.here hx rfl (hb hby at_140) k) ?_
      show own_Go _ _ _ _ T36 (mkF m 141 _ [(.int (1 : Int32)), (.ref b33)])
      refine own_st (fun t k => XS.iload X36.here hx rfl (hb hby at_141) rfl k) ?_
      show own_Go _ _ _ _ T36 (mkF m 143 _ [(.int v32), (.int (1 : Int32)), (.ref b33)])
      obtain ⟨c41, Ar41, q41, S41, N41, H41⟩ := id f37
      obtain ⟨T41, h41, X41, e41, W41, st41⟩ := stI X36 hx hZ e36 Ar41 (j := (1 : Int32)) (inb_of S41 ⟨by decide, by decide⟩) (g := (mkF m 143 #[.val (.int x0), .val (.int x1), .val (.int x2), .val (.int x3), .val (.int x4), .val (.int (1 : Int32)), .val (.int v26), .val (.int p31), .val (.int v32), .val (.int (0 : Int32)), .val (.int (0 : Int32)), .val (.ref b33), .unset, .unset, .unset] [(.int v32), (.int (1 : Int32)), (.ref b33)])) rfl rfl (hb hby at_143)
      refine own_st st41 ?_
      have f42 : own_AI Z h41 b33 k33 (2 : Int32) (own_updI g40v 1 v32) := own_AI.set f37 W41
      have N43 := Fr.snoc X41 N38 gx34
      have Z44 : n0 ≤ h41.size := Nat.le_trans Z39 (Nat.le_of_eq W41.size.symm)
      show own_Go _ _ _ _ T41 (mkF m 144 _ [])
      generalize hgg45v : (own_updI g40v 1 v32) = g45v at *
      refine own_st (fun t k => XS.iload X41.here hx rfl (hb hby at_144) rfl k) ?_
      show own_Go _ _ _ _ T41 (mkF m 146 _ [(.int (1 : Int32))])
      refine own_st (fun t k => XS.iconst X41.here hx rfl (hb hby at_146) k) ?_
      show own_Go _ _ _ _ T41 (mkF m 147 _ [(.int (2 : Int32)), (.int (1 : Int32))])
      refine own_st (fun t k => XS.icmpYes X41.here hx rfl (pc0 := 147) (pc' := 162) rfl (hb hby at_147) rfl (feq (by decide : ¬ ((1 : Int32) = (2 : Int32)))).2 (by decide) (by decide) k) ?_
      show own_Go _ _ _ _ T41 (mkF m 162 _ [])
      obtain ⟨T46, h46, X46, e46, E46, A46, D46, -, st46⟩ := newO X41 hx hZ hown (hw _ (List.mem_of_getElem? (i := 3) rfl)) (hw _ (List.mem_of_getElem? (i := 4) rfl)) (hw _ (List.mem_of_getElem? (i := 5) rfl)) e41 (g := (mkF m 162 #[.val (.int x0), .val (.int x1), .val (.int x2), .val (.int x3), .val (.int x4), .val (.int (1 : Int32)), .val (.int v26), .val (.int p31), .val (.int v32), .val (.int (0 : Int32)), .val (.int (0 : Int32)), .val (.ref b33), .unset, .unset, .unset] [])) rfl (hb hby at_162) (by decide) (by decide)
      obtain ⟨b46, g46⟩ : ∃ z, z = h41.size := ⟨_, rfl⟩
      rw [← g46] at A46 D46 st46
      refine own_st st46 ?_
      have ne47 : b33 ≠ b46 := Nat.ne_of_lt (Nat.lt_of_lt_of_le f42.lt (Nat.le_of_eq g46.symm))
      have f48 := f42.ext E46
      have gx49 : n0 ≤ b46 := Nat.le_trans Z44 (Nat.le_of_eq g46.symm)
      have Z50 : n0 ≤ h46.size := Nat.le_trans Z44 E46.1
      have f51 : Fld Z h46 b46 "com/example/premise/premise/regex/RegexProgram$Ranges" "bounds" "[I" .null := D46 (Or.inr (hw _ (List.mem_of_getElem? (i := 18) rfl))) (ty := (.array .int)) (by decide)
      show own_Go _ _ _ _ T46 (mkF m 165 _ [(.ref b46)])
      refine own_st (fun t k => XS.dup X46.here hx rfl (hb hby at_165) rfl rfl k) ?_
      show own_Go _ _ _ _ T46 (mkF m 166 _ [(.ref b46), (.ref b46)])
      refine own_st (fun t k => XS.aload X46.here hx rfl (hb hby at_166) rfl rfl k) ?_
      show own_Go _ _ _ _ T46 (mkF m 168 _ [(.ref b33), (.ref b46), (.ref b46)])
      obtain ⟨_, _, ⟨T52, L52, k52, n52⟩, -, X52, ⟨Lc52, hQ52, l52, y52, z52⟩, st52⟩ := X46.specialBack hx (y := (⟨"com/example/premise/premise/regex/RegexProgram$Ranges", "<init>", "([I)V"⟩ : MethodName)) rfl hown (mvT hZ (hw _ (List.mem_of_getElem? (i := 6) rfl))) (mvT hZ (hw _ (List.mem_of_getElem? (i := 7) rfl))) (mvT hZ (hw _ (List.mem_of_getElem? (i := 8) rfl))) (by decide) (backOf (W := 1) (rm2 l Z a0 hw [] b46 b33 (.null) h46 n0 Z50 A46 f51 gx49) hZ (hw _ (List.mem_of_getElem? (i := 8) rfl)) (hw _ (List.mem_of_getElem? (i := 5) rfl)) (by decide) (by decide)) (g := (mkF m 168 #[.val (.int x0), .val (.int x1), .val (.int x2), .val (.int x3), .val (.int x4), .val (.int (1 : Int32)), .val (.int v26), .val (.int p31), .val (.int v32), .val (.int (0 : Int32)), .val (.int (0 : Int32)), .val (.ref b33), .unset, .unset, .unset] [(.ref b33), (.ref b46), (.ref b46)])) rfl (by rw [hml]; rfl) (Steps.refl _) (a := b46) (argsL := [(.ref b33)]) (rest := [(.ref b46)]) (lenOf own_pd___I_V rfl) rfl (by show 2 * 0 + _ ≤ _; exact Nat.le_of_eq rfl) (hb hby at_168) (fun _ _ => ⟨rfl, e46, (by decide : 2 + 0 ≤ _), (by decide : 3 + 0 ≤ _)⟩)
      dsimp only [Pt.U, Pt.locs, Pt.cells, Pt.slots] at X52 l52 y52 z52 st52 hQ52
      subst l52 y52 z52
      obtain ⟨rfl, NQ52, K52, fq52_0, fq52_1⟩ := hQ52
      have N53 := Fr.app N43 NQ52
      refine own_st (fun t k => st52.trans k) ?_
      have f54 := f48.keep K52 (ninS ne47 nin0)
      have f55 := A46.keep K52
      have Z56 : n0 ≤ T52.heap.size := Nat.le_trans Z50 K52.1
      show own_Go _ _ _ _ T52 (mkF m 171 _ [(.ref b46)])
      refine own_st (fun t k => XS.astore X52.here hx rfl (hb hby at_171) rfl rfl (l' := #[.val (.int x0), .val (.int x1), .val (.int x2), .val (.int x3), .val (.int x4), .val (.int (1 : Int32)), .val (.int v26), .val (.int p31), .val (.int v32), .val (.int (0 : Int32)), .val (.int (0 : Int32)), .val (.ref b33), .val (.ref b46), .unset, .unset]) rfl k) ?_
      show own_Go _ _ _ _ T52 (mkF m 173 #[.val (.int x0), .val (.int x1), .val (.int x2), .val (.int x3), .val (.int x4), .val (.int (1 : Int32)), .val (.int v26), .val (.int p31), .val (.int v32), .val (.int (0 : Int32)), .val (.int (0 : Int32)), .val (.ref b33), .val (.ref b46), .unset, .unset] [])
      refine own_st (fun t k => XS.aload X52.here hx rfl (hb hby at_173) rfl rfl k) ?_
      show own_Go _ _ _ _ T52 (mkF m 175 _ [(.ref b46)])
      obtain ⟨cq57, kq57, q57a, q57b, q57c⟩ := isOf hZ rfl fq52_0
      obtain ⟨_, _, ⟨T57, L57, k57, n57⟩, -, X57, ⟨Lc57, hQ57, l57, y57, z57⟩, st57⟩ := X52.virtualBack hx (y := (⟨"com/example/premise/premise/regex/RegexProgram$Ranges", "single", "()I"⟩ : MethodName)) (z := (⟨"com/example/premise/premise/regex/RegexProgram$Ranges", "single", "()I"⟩ : MethodName)) hown (mvT hZ (hw _ (List.mem_of_getElem? (i := 19) rfl))) (mvT hZ (hw _ (List.mem_of_getElem? (i := 20) rfl))) (notFace_of_selects (args := #[]) (mvT hZ (hw _ (List.mem_of_getElem? (i := 22) rfl)))) (mvT hZ (hw _ (List.mem_of_getElem? (i := 22) rfl))) (mvT hZ (hw _ (List.mem_of_getElem? (i := 21) rfl))) (by decide) (backOf (W := 0) (rm3 l Z a0 hw [] b46 b33 k33 (2 : Int32) g45v T52.heap n0 Z56 fq52_0 fq52_1 f54) hZ (hw _ (List.mem_of_getElem? (i := 23) rfl)) (hw _ (List.mem_of_getElem? (i := 5) rfl)) (by decide) (by decide)) q57a q57c (g := (mkF m 175 #[.val (.int x0), .val (.int x1), .val (.int x2), .val (.int x3), .val (.int x4), .val (.int (1 : Int32)), .val (.int v26), .val (.int p31), .val (.int v32), .val (.int (0 : Int32)), .val (.int (0 : Int32)), .val (.ref b33), .val (.ref b46), .unset, .unset] [(.ref b46)])) rfl (by rw [hml]; rfl) (Steps.refl _) (argsL := []) (rest := []) (lenOf own_pd___I rfl) rfl (by show 2 * 0 + _ ≤ _; exact Nat.le_of_eq rfl) (hb hby at_175) (fun _ _ => ⟨rfl, rfl, (by decide : 2 + 0 ≤ _), (by decide : 3 + 0 ≤ _)⟩)
      dsimp only [Pt.U, Pt.locs, Pt.cells, Pt.slots] at X57 l57 y57 z57 st57 hQ57
      subst l57 y57 z57
      obtain ⟨rfl, NQ57, eq57⟩ := hQ57
      have N58 := Fr.app N53 NQ57
      refine own_st (fun t k => st57.trans k) ?_
      show own_Go _ _ _ _ T57 (mkF m 178 _ [(.int (own_single (2 : Int32) g45v))])
      generalize hv59 : (own_single (2 : Int32) g45v) = v59
      refine own_st (fun t k => XS.istore X57.here hx rfl (hb hby at_178) rfl (l' := #[.val (.int x0), .val (.int x1), .val (.int x2), .val (.int x3), .val (.int x4), .val (.int (1 : Int32)), .val (.int v26), .val (.int p31), .val (.int v32), .val (.int (0 : Int32)), .val (.int (0 : Int32)), .val (.ref b33), .val (.ref b46), .val (.int v59), .unset]) rfl k) ?_
      show own_Go _ _ _ _ T57 (mkF m 180 #[.val (.int x0), .val (.int x1), .val (.int x2), .val (.int x3), .val (.int x4), .val (.int (1 : Int32)), .val (.int v26), .val (.int p31), .val (.int v32), .val (.int (0 : Int32)), .val (.int (0 : Int32)), .val (.ref b33), .val (.ref b46), .val (.int v59), .unset] [])
      refine own_st (fun t k => XS.iload X57.here hx rfl (hb hby at_180) rfl k) ?_
      show own_Go _ _ _ _ T57 (mkF m 182 _ [(.int (1 : Int32))])
      refine own_st (fun t k => XS.iconst X57.here hx rfl (hb hby at_182) k) ?_
      show own_Go _ _ _ _ T57 (mkF m 183 _ [(.int (1 : Int32)), (.int (1 : Int32))])
      refine own_st (fun t k => XS.icmpNo X57.here hx rfl (hb hby at_183) rfl (teq (by decide : ((1 : Int32) = (1 : Int32)))).2 k) ?_
      show own_Go _ _ _ _ T57 (mkF m 186 _ [])
      refine own_st (fun t k => XS.iload X57.here hx rfl (hb hby at_186) rfl k) ?_
      show own_Go _ _ _ _ T57 (mkF m 188 _ [(.int p31)])
      have J63 : ∀ (Tj63 : State) (Lj63 : List Loc) (p64 : Int32), Stand p l e room_1 s m #[(.int x0), (.int x1), (.int x2), (.int x3), (.int x4)] below meth c Tj63 Lj63 2 3 → Tj63.heap = T52.heap → Fr n0 Lj63 → p64 = (if p31 = (0 : Int32) then v26 else (-1 : Int32)) → own_Go p.tables e below Pq Tj63 (mkF m 197 #[.val (.int x0), .val (.int x1), .val (.int x2), .val (.int x3), .val (.int x4), .val (.int (1 : Int32)), .val (.int v26), .val (.int p31), .val (.int v32), .val (.int (0 : Int32)), .val (.int (0 : Int32)), .val (.ref b33), .val (.ref b46), .val (.int v59), .unset] [(.int p64)]) := by
        intro Tj63 Lj63 p64 Xj63 ej63 Nj63 qp64
        show own_Go _ _ _ _ Tj63 (mkF m 197 _ [(.int p64)])
        refine own_st (fun t k => XS.istore Xj63.here hx rfl (hb hby at_197) rfl (l' := #[.val (.int x0), .val (.int x1), .val (.int x2), .val (.int x3), .val (.int x4), .val (.int (1 : Int32)), .val (.int v26), .val (.int p31), .val (.int v32), .val (.int (0 : Int32)), .val (.int (0 : Int32)), .val (.ref b33), .val (.ref b46), .val (.int v59), .val (.int p64)]) rfl k) ?_
        show own_Go _ _ _ _ Tj63 (mkF m 199 #[.val (.int x0), .val (.int x1), .val (.int x2), .val (.int x3), .val (.int x4), .val (.int (1 : Int32)), .val (.int v26), .val (.int p31), .val (.int v32), .val (.int (0 : Int32)), .val (.int (0 : Int32)), .val (.ref b33), .val (.ref b46), .val (.int v59), .val (.int p64)] [])
        refine own_st (fun t k => XS.iload Xj63.here hx rfl (hb hby at_199) rfl k) ?_
        show own_Go _ _ _ _ Tj63 (mkF m 201 _ [(.int v59)])
        refine own_st (fun t k => XS.iload Xj63.here hx rfl (hb hby at_201) rfl k) ?_
        show own_Go _ _ _ _ Tj63 (mkF m 203 _ [(.int p64), (.int v59)])
        refine own_st (fun t k => XS.icmpYes Xj63.here hx rfl (pc0 := 203) (pc' := 208) rfl (hb hby at_203) rfl (teq (own_eq1 x0 x1 x2 x3 x4 v26 p31 v32 g40v g45v v59 p64 hv26 qp31 hv32 hgg40v hgg45v hv59 qp64)).1 (by decide) (by decide) k) ?_
        show own_Go _ _ _ _ Tj63 (mkF m 208 _ [])
        refine own_st (fun t k => XS.iload Xj63.here hx rfl (hb hby at_208) rfl k) ?_
        show own_Go _ _ _ _ Tj63 (mkF m 210 _ [(.int v59)])
        have J70 : ∀ (Tj70 : State) (Lj70 : List Loc), Stand p l e room_1 s m #[(.int x0), (.int x1), (.int x2), (.int x3), (.int x4)] below meth c Tj70 Lj70 2 3 → Tj70.heap = T52.heap → Fr n0 Lj70 → own_Go p.tables e below Pq Tj70 (mkF m 228 #[.val (.int x0), .val (.int x1), .val (.int x2), .val (.int x3), .val (.int x4), .val (.int (1 : Int32)), .val (.int v26), .val (.int p31), .val (.int v32), .val (.int (0 : Int32)), .val (.int (0 : Int32)), .val (.ref b33), .val (.ref b46), .val (.int v59), .val (.int p64)] [(.int (1 : Int32))]) := by
          intro Tj70 Lj70 Xj70 ej70 Nj70
          show own_Go _ _ _ _ Tj70 (mkF m 228 _ [(.int (1 : Int32))])
          subst hPq
          refine own_out Xj70 (v := some (.int (nar .boolean (1 : Int32)))) (fun h => by rw [Bd.returns] at h; cases h) Bd.notSynchronized (fun fs hr => retN Xj70 hx (t := .boolean) Bd.returns (by simp) (hb hby at_228) hr) (by decide) (by decide) ?_
          show Q0 Z x0 x1 x2 x3 x4 h0 n0 _ Tj70.heap _
          rw [ej70]
          exact ⟨congrArg (fun z => some (Value.int (nar .boolean z))) (own_law2 x0 x1 x2 x3 x4 v26 p31 v32 g40v g45v v59 p64 hv26 qp31 hv32 hgg40v hgg45v hv59 qp64), Nj70⟩
        by_cases c65 : v59 < (0 : Int32)
        · skip
          refine own_st (fun t k => XS.ifYes Xj63.here hx rfl (pc0 := 210) (pc' := 223) rfl (hb hby at_210) rfl ((if0 _ _).trans (tlt c65).1) (by decide) (by decide) k) ?_
          show own_Go _ _ _ _ Tj63 (mkF m 223 _ [])
          refine own_st (fun t k => XS.iconst Xj63.here hx rfl (hb hby at_223) k) ?_
          show own_Go _ _ _ _ Tj63 (mkF m 224 _ [(.int (1 : Int32))])
          refine own_st (fun t k => XS.goto Xj63.here hx rfl (pc0 := 224) (pc' := 228) rfl (hb hby at_224) (by decide) (by decide) k) ?_
          show own_Go _ _ _ _ Tj63 (mkF m 228 _ [(.int (1 : Int32))])
          exact J70 Tj63 _ Xj63 ej63 Nj63
        · skip
          refine own_st (fun t k => XS.ifNo Xj63.here hx rfl (hb hby at_210) rfl ((if0 _ _).trans (flt c65).1) k) ?_
          show own_Go _ _ _ _ Tj63 (mkF m 213 _ [])
          refine own_st (fun t k => XS.aload Xj63.here hx rfl (hb hby at_213) rfl rfl k) ?_
          show own_Go _ _ _ _ Tj63 (mkF m 215 _ [(.ref b46)])
          refine own_st (fun t k => XS.iload Xj63.here hx rfl (hb hby at_215) rfl k) ?_
          show own_Go _ _ _ _ Tj63 (mkF m 217 _ [(.int v59), (.ref b46)])
          obtain ⟨cq67, kq67, q67a, q67b, q67c⟩ := isOf hZ ej63 fq52_0
          obtain ⟨_, _, ⟨T67, L67, k67, n67⟩, -, X67, ⟨Lc67, hQ67, l67, y67, z67⟩, st67⟩ := Xj63.virtualBack hx (y := (⟨"com/example/premise/premise/regex/RegexProgram$Ranges", "test", "(I)Z"⟩ : MethodName)) (z := (⟨"com/example/premise/premise/regex/RegexProgram$Ranges", "test", "(I)Z"⟩ : MethodName)) hown (mvT hZ (hw _ (List.mem_of_getElem? (i := 24) rfl))) (mvT hZ (hw _ (List.mem_of_getElem? (i := 25) rfl))) (notFace_of_selects (args := #[]) (mvT hZ (hw _ (List.mem_of_getElem? (i := 27) rfl)))) (mvT hZ (hw _ (List.mem_of_getElem? (i := 27) rfl))) (mvT hZ (hw _ (List.mem_of_getElem? (i := 26) rfl))) (by decide) (backOf (W := 0) (rm6 l Z a0 hw [] b46 v59 b33 k33 g45v T52.heap n0 Z56 fq52_0 fq52_1 f54 (own_hk x0 x1 x2 x3 x4 v26 p31 v32 g40v g45v v59 p64 hv26 qp31 hv32 hgg40v hgg45v hv59 qp64 c65)) hZ (hw _ (List.mem_of_getElem? (i := 28) rfl)) (hw _ (List.mem_of_getElem? (i := 5) rfl)) (by decide) (by decide)) q67a q67c (g := (mkF m 217 #[.val (.int x0), .val (.int x1), .val (.int x2), .val (.int x3), .val (.int x4), .val (.int (1 : Int32)), .val (.int v26), .val (.int p31), .val (.int v32), .val (.int (0 : Int32)), .val (.int (0 : Int32)), .val (.ref b33), .val (.ref b46), .val (.int v59), .val (.int p64)] [(.int v59), (.ref b46)])) rfl (by rw [hml]; rfl) (Steps.refl _) (argsL := [(.int v59)]) (rest := []) (lenOf own_pd__I_Z rfl) rfl (by show 2 * 0 + _ ≤ _; exact Nat.le_of_eq rfl) (hb hby at_217) (fun _ _ => ⟨rfl, ej63, (by decide : 2 + 0 ≤ _), (by decide : 3 + 0 ≤ _)⟩)
          dsimp only [Pt.U, Pt.locs, Pt.cells, Pt.slots] at X67 l67 y67 z67 st67 hQ67
          subst l67 y67 z67
          obtain ⟨rfl, NQ67, eq67⟩ := hQ67
          have N68 := Fr.app Nj63 NQ67
          refine own_st (fun t k => st67.trans k) ?_
          show own_Go _ _ _ _ T67 (mkF m 220 _ [(.int (1 : Int32))])
          refine own_st (fun t k => XS.ifNo X67.here hx rfl (hb hby at_220) rfl ((if0 _ _).trans (feq (by decide : ¬ ((1 : Int32) = (0 : Int32)))).1) k) ?_
          show own_Go _ _ _ _ T67 (mkF m 223 _ [])
          refine own_st (fun t k => XS.iconst X67.here hx rfl (hb hby at_223) k) ?_
          show own_Go _ _ _ _ T67 (mkF m 224 _ [(.int (1 : Int32))])
          refine own_st (fun t k => XS.goto X67.here hx rfl (pc0 := 224) (pc' := 228) rfl (hb hby at_224) (by decide) (by decide) k) ?_
          show own_Go _ _ _ _ T67 (mkF m 228 _ [(.int (1 : Int32))])
          exact J70 T67 _ X67 eq67 N68
      by_cases c60 : p31 = (0 : Int32)
      · skip
        refine own_st (fun t k => XS.ifNo X57.here hx rfl (hb hby at_188) rfl ((if0 _ _).trans (teq c60).2) k) ?_
        show own_Go _ _ _ _ T57 (mkF m 191 _ [])
        refine own_st (fun t k => XS.iload X57.here hx rfl (hb hby at_191) rfl k) ?_
        show own_Go _ _ _ _ T57 (mkF m 193 _ [(.int v26)])
        refine own_st (fun t k => XS.goto X57.here hx rfl (pc0 := 193) (pc' := 197) rfl (hb hby at_193) (by decide) (by decide) k) ?_
        show own_Go _ _ _ _ T57 (mkF m 197 _ [(.int v26)])
        exact J63 T57 _ _ X57 eq57 N58 (by simp only [if_pos c60])
      · skip
        refine own_st (fun t k => XS.ifYes X57.here hx rfl (pc0 := 188) (pc' := 196) rfl (hb hby at_188) rfl ((if0 _ _).trans (feq c60).2) (by decide) (by decide) k) ?_
        show own_Go _ _ _ _ T57 (mkF m 196 _ [])
        refine own_st (fun t k => XS.iconst X57.here hx rfl (hb hby at_196) k) ?_
        show own_Go _ _ _ _ T57 (mkF m 197 _ [(.int (-1 : Int32))])
        exact J63 T57 _ _ X57 eq57 N58 (by simp only [if_neg c60])
    by_cases c27 : (((x0.toUInt32 >>> ((2 : Int32) &&& 31).toUInt32).toInt32) &&& (1 : Int32)) = (0 : Int32)
    · skip
      refine own_st (fun t k => XS.ifNo X0.here hx rfl (hb hby at_22) rfl ((if0 _ _).trans (teq c27).2) k) ?_
      show own_Go _ _ _ _ s₁ (mkF m 25 _ [])
      refine own_st (fun t k => XS.iconst X0.here hx rfl (hb hby at_25) k) ?_
      show own_Go _ _ _ _ s₁ (mkF m 26 _ [(.int (0 : Int32))])
      refine own_st (fun t k => XS.goto X0.here hx rfl (pc0 := 26) (pc' := 39) rfl (hb hby at_26) (by decide) (by decide) k) ?_
      show own_Go _ _ _ _ s₁ (mkF m 39 _ [(.int (0 : Int32))])
      exact J30 s₁ _ _ (X0.mono (by decide) (by decide)) e0 N0 (by simp only [if_pos c27])
    · skip
      refine own_st (fun t k => XS.ifYes X0.here hx rfl (pc0 := 22) (pc' := 29) rfl (hb hby at_22) rfl ((if0 _ _).trans (feq c27).2) (by decide) (by decide) k) ?_
      show own_Go _ _ _ _ s₁ (mkF m 29 _ [])
      refine own_st (fun t k => XS.iloadN X0.here hx rfl (hb hby at_29) rfl k) ?_
      show own_Go _ _ _ _ s₁ (mkF m 30 _ [(.int x2)])
      refine own_st (fun t k => X0.ldcInt hx hown (mvT hZ (hw _ (List.mem_of_getElem? (i := 0) rfl))) (g := (mkF m 30 #[.val (.int x0), .val (.int x1), .val (.int x2), .val (.int x3), .val (.int x4), .val (.int (1 : Int32)), .val (.int v26), .unset, .unset, .unset, .unset, .unset, .unset, .unset, .unset] [(.int x2)])) rfl (hb hby at_30) _ k) ?_
      show own_Go _ _ _ _ s₁ (mkF m 32 _ [(.int (2147483647 : Int32)), (.int x2)])
      refine own_st (fun t k => XS.iand X0.here hx rfl (hb hby at_32) rfl k) ?_
      show own_Go _ _ _ _ s₁ (mkF m 33 _ [(.int (x2 &&& (2147483647 : Int32)))])
      refine own_st (fun t k => X0.ldcInt hx hown (mvT hZ (hw _ (List.mem_of_getElem? (i := 1) rfl))) (g := (mkF m 33 #[.val (.int x0), .val (.int x1), .val (.int x2), .val (.int x3), .val (.int x4), .val (.int (1 : Int32)), .val (.int v26), .unset, .unset, .unset, .unset, .unset, .unset, .unset, .unset] [(.int (x2 &&& (2147483647 : Int32)))])) rfl (hb hby at_33) _ k) ?_
      show own_Go _ _ _ _ s₁ (mkF m 35 _ [(.int (1114112 : Int32)), (.int (x2 &&& (2147483647 : Int32)))])
      refine own_st (fun t k => XS.iload X0.here hx rfl (hb hby at_35) rfl k) ?_
      show own_Go _ _ _ _ s₁ (mkF m 37 _ [(.int v26), (.int (1114112 : Int32)), (.int (x2 &&& (2147483647 : Int32)))])
      refine own_st (fun t k => XS.isub X0.here hx rfl (hb hby at_37) rfl k) ?_
      show own_Go _ _ _ _ s₁ (mkF m 38 _ [(.int ((1114112 : Int32) - v26)), (.int (x2 &&& (2147483647 : Int32)))])
      refine own_st (fun t k => iremM X0 hx rfl (hb hby at_38) rfl (own_nz1_38 x0 x1 x2 x3 x4 v26 hv26 c27) k) ?_
      show own_Go _ _ _ _ s₁ (mkF m 39 _ [(.int ((x2 &&& (2147483647 : Int32)) % ((1114112 : Int32) - v26)))])
      exact J30 s₁ _ _ (X0.mono (by decide) (by decide)) e0 N0 (by simp only [if_neg c27])
  · skip
    show own_Go _ _ _ _ s₁ (mkF m 8 #[.val (.int x0), .val (.int x1), .val (.int x2), .val (.int x3), .val (.int x4), .val (.int (2 : Int32)), .unset, .unset, .unset, .unset, .unset, .unset, .unset, .unset, .unset] [])
    refine own_st (fun t k => XS.iloadN X0.here hx rfl (hb hby at_8) rfl k) ?_
    show own_Go _ _ _ _ s₁ (mkF m 9 _ [(.int x1)])
    refine own_st (fun t k => X0.ldcInt hx hown (mvT hZ (hw _ (List.mem_of_getElem? (i := 0) rfl))) (g := (mkF m 9 #[.val (.int x0), .val (.int x1), .val (.int x2), .val (.int x3), .val (.int x4), .val (.int (2 : Int32)), .unset, .unset, .unset, .unset, .unset, .unset, .unset, .unset, .unset] [(.int x1)])) rfl (hb hby at_9) _ k) ?_
    show own_Go _ _ _ _ s₁ (mkF m 11 _ [(.int (2147483647 : Int32)), (.int x1)])
    refine own_st (fun t k => XS.iand X0.here hx rfl (hb hby at_11) rfl k) ?_
    show own_Go _ _ _ _ s₁ (mkF m 12 _ [(.int (x1 &&& (2147483647 : Int32)))])
    refine own_st (fun t k => X0.ldcInt hx hown (mvT hZ (hw _ (List.mem_of_getElem? (i := 1) rfl))) (g := (mkF m 12 #[.val (.int x0), .val (.int x1), .val (.int x2), .val (.int x3), .val (.int x4), .val (.int (2 : Int32)), .unset, .unset, .unset, .unset, .unset, .unset, .unset, .unset, .unset] [(.int (x1 &&& (2147483647 : Int32)))])) rfl (hb hby at_12) _ k) ?_
    show own_Go _ _ _ _ s₁ (mkF m 14 _ [(.int (1114112 : Int32)), (.int (x1 &&& (2147483647 : Int32)))])
    refine own_st (fun t k => iremM X0 hx rfl (hb hby at_14) rfl (by decide) k) ?_
    show own_Go _ _ _ _ s₁ (mkF m 15 _ [(.int ((x1 &&& (2147483647 : Int32)) % (1114112 : Int32)))])
    generalize hv71 : ((x1 &&& (2147483647 : Int32)) % (1114112 : Int32)) = v71
    refine own_st (fun t k => XS.istore X0.here hx rfl (hb hby at_15) rfl (l' := #[.val (.int x0), .val (.int x1), .val (.int x2), .val (.int x3), .val (.int x4), .val (.int (2 : Int32)), .val (.int v71), .unset, .unset, .unset, .unset, .unset, .unset, .unset, .unset]) rfl k) ?_
    show own_Go _ _ _ _ s₁ (mkF m 17 #[.val (.int x0), .val (.int x1), .val (.int x2), .val (.int x3), .val (.int x4), .val (.int (2 : Int32)), .val (.int v71), .unset, .unset, .unset, .unset, .unset, .unset, .unset, .unset] [])
    refine own_st (fun t k => XS.iloadN X0.here hx rfl (hb hby at_17) rfl k) ?_
    show own_Go _ _ _ _ s₁ (mkF m 18 _ [(.int x0)])
    refine own_st (fun t k => XS.iconst X0.here hx rfl (hb hby at_18) k) ?_
    show own_Go _ _ _ _ s₁ (mkF m 19 _ [(.int (2 : Int32)), (.int x0)])
    refine own_st (fun t k => XS.iushr X0.here hx rfl (hb hby at_19) rfl k) ?_
    show own_Go _ _ _ _ s₁ (mkF m 20 _ [(.int ((x0.toUInt32 >>> ((2 : Int32) &&& 31).toUInt32).toInt32))])
    refine own_st (fun t k => XS.iconst X0.here hx rfl (hb hby at_20) k) ?_
    show own_Go _ _ _ _ s₁ (mkF m 21 _ [(.int (1 : Int32)), (.int ((x0.toUInt32 >>> ((2 : Int32) &&& 31).toUInt32).toInt32))])
    refine own_st (fun t k => XS.iand X0.here hx rfl (hb hby at_21) rfl k) ?_
    show own_Go _ _ _ _ s₁ (mkF m 22 _ [(.int (((x0.toUInt32 >>> ((2 : Int32) &&& 31).toUInt32).toInt32) &&& (1 : Int32)))])
    have J75 : ∀ (Tj75 : State) (Lj75 : List Loc) (p76 : Int32), Stand p l e room_1 s m #[(.int x0), (.int x1), (.int x2), (.int x3), (.int x4)] below meth c Tj75 Lj75 0 0 → Tj75.heap = h0 → Fr n0 Lj75 → p76 = (if (((x0.toUInt32 >>> ((2 : Int32) &&& 31).toUInt32).toInt32) &&& (1 : Int32)) = (0 : Int32) then (0 : Int32) else ((x2 &&& (2147483647 : Int32)) % ((1114112 : Int32) - v71))) → own_Go p.tables e below Pq Tj75 (mkF m 39 #[.val (.int x0), .val (.int x1), .val (.int x2), .val (.int x3), .val (.int x4), .val (.int (2 : Int32)), .val (.int v71), .unset, .unset, .unset, .unset, .unset, .unset, .unset, .unset] [(.int p76)]) := by
      intro Tj75 Lj75 p76 Xj75 ej75 Nj75 qp76
      show own_Go _ _ _ _ Tj75 (mkF m 39 _ [(.int p76)])
      refine own_st (fun t k => XS.istore Xj75.here hx rfl (hb hby at_39) rfl (l' := #[.val (.int x0), .val (.int x1), .val (.int x2), .val (.int x3), .val (.int x4), .val (.int (2 : Int32)), .val (.int v71), .val (.int p76), .unset, .unset, .unset, .unset, .unset, .unset, .unset]) rfl k) ?_
      show own_Go _ _ _ _ Tj75 (mkF m 41 #[.val (.int x0), .val (.int x1), .val (.int x2), .val (.int x3), .val (.int x4), .val (.int (2 : Int32)), .val (.int v71), .val (.int p76), .unset, .unset, .unset, .unset, .unset, .unset, .unset] [])
      refine own_st (fun t k => XS.iload Xj75.here hx rfl (hb hby at_41) rfl k) ?_
      show own_Go _ _ _ _ Tj75 (mkF m 43 _ [(.int v71)])
      refine own_st (fun t k => XS.iload Xj75.here hx rfl (hb hby at_43) rfl k) ?_
      show own_Go _ _ _ _ Tj75 (mkF m 45 _ [(.int p76), (.int v71)])
      refine own_st (fun t k => XS.iadd Xj75.here hx rfl (hb hby at_45) rfl k) ?_
      show own_Go _ _ _ _ Tj75 (mkF m 46 _ [(.int (v71 + p76))])
      generalize hv77 : (v71 + p76) = v77
      refine own_st (fun t k => XS.istore Xj75.here hx rfl (hb hby at_46) rfl (l' := #[.val (.int x0), .val (.int x1), .val (.int x2), .val (.int x3), .val (.int x4), .val (.int (2 : Int32)), .val (.int v71), .val (.int p76), .val (.int v77), .unset, .unset, .unset, .unset, .unset, .unset]) rfl k) ?_
      show own_Go _ _ _ _ Tj75 (mkF m 48 #[.val (.int x0), .val (.int x1), .val (.int x2), .val (.int x3), .val (.int x4), .val (.int (2 : Int32)), .val (.int v71), .val (.int p76), .val (.int v77), .unset, .unset, .unset, .unset, .unset, .unset] [])
      refine own_st (fun t k => XS.iconst Xj75.here hx rfl (hb hby at_48) k) ?_
      show own_Go _ _ _ _ Tj75 (mkF m 49 _ [(.int (0 : Int32))])
      refine own_st (fun t k => XS.istore Xj75.here hx rfl (hb hby at_49) rfl (l' := #[.val (.int x0), .val (.int x1), .val (.int x2), .val (.int x3), .val (.int x4), .val (.int (2 : Int32)), .val (.int v71), .val (.int p76), .val (.int v77), .val (.int (0 : Int32)), .unset, .unset, .unset, .unset, .unset]) rfl k) ?_
      show own_Go _ _ _ _ Tj75 (mkF m 51 #[.val (.int x0), .val (.int x1), .val (.int x2), .val (.int x3), .val (.int x4), .val (.int (2 : Int32)), .val (.int v71), .val (.int p76), .val (.int v77), .val (.int (0 : Int32)), .unset, .unset, .unset, .unset, .unset] [])
      refine own_st (fun t k => XS.iconst Xj75.here hx rfl (hb hby at_51) k) ?_
      show own_Go _ _ _ _ Tj75 (mkF m 52 _ [(.int (0 : Int32))])
      refine own_st (fun t k => XS.istore Xj75.here hx rfl (hb hby at_52) rfl (l' := #[.val (.int x0), .val (.int x1), .val (.int x2), .val (.int x3), .val (.int x4), .val (.int (2 : Int32)), .val (.int v71), .val (.int p76), .val (.int v77), .val (.int (0 : Int32)), .val (.int (0 : Int32)), .unset, .unset, .unset, .unset]) rfl k) ?_
      show own_Go _ _ _ _ Tj75 (mkF m 54 #[.val (.int x0), .val (.int x1), .val (.int x2), .val (.int x3), .val (.int x4), .val (.int (2 : Int32)), .val (.int v71), .val (.int p76), .val (.int v77), .val (.int (0 : Int32)), .val (.int (0 : Int32)), .unset, .unset, .unset, .unset] [])
      refine own_st (fun t k => XS.iload Xj75.here hx rfl (hb hby at_54) rfl k) ?_
      show own_Go _ _ _ _ Tj75 (mkF m 56 _ [(.int (2 : Int32))])
      refine own_st (fun t k => XS.iconst Xj75.here hx rfl (hb hby at_56) k) ?_
      show own_Go _ _ _ _ Tj75 (mkF m 57 _ [(.int (2 : Int32)), (.int (2 : Int32))])
      refine own_st (fun t k => XS.icmpNo Xj75.here hx rfl (hb hby at_57) rfl (teq (by decide : ((2 : Int32) = (2 : Int32)))).2 k) ?_
      show own_Go _ _ _ _ Tj75 (mkF m 60 _ [])
      refine own_st (fun t k => XS.iload Xj75.here hx rfl (hb hby at_60) rfl k) ?_
      show own_Go _ _ _ _ Tj75 (mkF m 62 _ [(.int v77)])
      refine own_st (fun t k => XS.iconst Xj75.here hx rfl (hb hby at_62) k) ?_
      show own_Go _ _ _ _ Tj75 (mkF m 63 _ [(.int (2 : Int32)), (.int v77)])
      refine own_st (fun t k => XS.iadd Xj75.here hx rfl (hb hby at_63) rfl k) ?_
      show own_Go _ _ _ _ Tj75 (mkF m 64 _ [(.int (v77 + (2 : Int32)))])
      refine own_st (fun t k => Xj75.ldcInt hx hown (mvT hZ (hw _ (List.mem_of_getElem? (i := 1) rfl))) (g := (mkF m 64 #[.val (.int x0), .val (.int x1), .val (.int x2), .val (.int x3), .val (.int x4), .val (.int (2 : Int32)), .val (.int v71), .val (.int p76), .val (.int v77), .val (.int (0 : Int32)), .val (.int (0 : Int32)), .unset, .unset, .unset, .unset] [(.int (v77 + (2 : Int32)))])) rfl (hb hby at_64) _ k) ?_
      show own_Go _ _ _ _ Tj75 (mkF m 66 _ [(.int (1114112 : Int32)), (.int (v77 + (2 : Int32)))])
      by_cases c78 : (v77 + (2 : Int32)) < (1114112 : Int32)
      · skip
        refine own_st (fun t k => XS.icmpYes Xj75.here hx rfl (pc0 := 66) (pc' := 71) rfl (hb hby at_66) rfl (tlt c78).1 (by decide) (by decide) k) ?_
        show own_Go _ _ _ _ Tj75 (mkF m 71 _ [])
        refine own_st (fun t k => XS.iload Xj75.here hx rfl (hb hby at_71) rfl k) ?_
        show own_Go _ _ _ _ Tj75 (mkF m 73 _ [(.int v77)])
        refine own_st (fun t k => XS.iconst Xj75.here hx rfl (hb hby at_73) k) ?_
        show own_Go _ _ _ _ Tj75 (mkF m 74 _ [(.int (2 : Int32)), (.int v77)])
        refine own_st (fun t k => XS.iadd Xj75.here hx rfl (hb hby at_74) rfl k) ?_
        show own_Go _ _ _ _ Tj75 (mkF m 75 _ [(.int (v77 + (2 : Int32)))])
        refine own_st (fun t k => XS.iloadN Xj75.here hx rfl (hb hby at_75) rfl k) ?_
        show own_Go _ _ _ _ Tj75 (mkF m 76 _ [(.int x3), (.int (v77 + (2 : Int32)))])
        refine own_st (fun t k => Xj75.ldcInt hx hown (mvT hZ (hw _ (List.mem_of_getElem? (i := 0) rfl))) (g := (mkF m 76 #[.val (.int x0), .val (.int x1), .val (.int x2), .val (.int x3), .val (.int x4), .val (.int (2 : Int32)), .val (.int v71), .val (.int p76), .val (.int v77), .val (.int (0 : Int32)), .val (.int (0 : Int32)), .unset, .unset, .unset, .unset] [(.int x3), (.int (v77 + (2 : Int32)))])) rfl (hb hby at_76) _ k) ?_
        show own_Go _ _ _ _ Tj75 (mkF m 78 _ [(.int (2147483647 : Int32)), (.int x3), (.int (v77 + (2 : Int32)))])
        refine own_st (fun t k => XS.iand Xj75.here hx rfl (hb hby at_78) rfl k) ?_
        show own_Go _ _ _ _ Tj75 (mkF m 79 _ [(.int (x3 &&& (2147483647 : Int32))), (.int (v77 + (2 : Int32)))])
        refine own_st (fun t k => Xj75.ldcInt hx hown (mvT hZ (hw _ (List.mem_of_getElem? (i := 1) rfl))) (g := (mkF m 79 #[.val (.int x0), .val (.int x1), .val (.int x2), .val (.int x3), .val (.int x4), .val (.int (2 : Int32)), .val (.int v71), .val (.int p76), .val (.int v77), .val (.int (0 : Int32)), .val (.int (0 : Int32)), .unset, .unset, .unset, .unset] [(.int (x3 &&& (2147483647 : Int32))), (.int (v77 + (2 : Int32)))])) rfl (hb hby at_79) _ k) ?_
        show own_Go _ _ _ _ Tj75 (mkF m 81 _ [(.int (1114112 : Int32)), (.int (x3 &&& (2147483647 : Int32))), (.int (v77 + (2 : Int32)))])
        refine own_st (fun t k => XS.iload Xj75.here hx rfl (hb hby at_81) rfl k) ?_
        show own_Go _ _ _ _ Tj75 (mkF m 83 _ [(.int v77), (.int (1114112 : Int32)), (.int (x3 &&& (2147483647 : Int32))), (.int (v77 + (2 : Int32)))])
        refine own_st (fun t k => XS.isub Xj75.here hx rfl (hb hby at_83) rfl k) ?_
        show own_Go _ _ _ _ Tj75 (mkF m 84 _ [(.int ((1114112 : Int32) - v77)), (.int (x3 &&& (2147483647 : Int32))), (.int (v77 + (2 : Int32)))])
        refine own_st (fun t k => XS.iconst Xj75.here hx rfl (hb hby at_84) k) ?_
        show own_Go _ _ _ _ Tj75 (mkF m 85 _ [(.int (2 : Int32)), (.int ((1114112 : Int32) - v77)), (.int (x3 &&& (2147483647 : Int32))), (.int (v77 + (2 : Int32)))])
        refine own_st (fun t k => XS.isub Xj75.here hx rfl (hb hby at_85) rfl k) ?_
        show own_Go _ _ _ _ Tj75 (mkF m 86 _ [(.int (((1114112 : Int32) - v77) - (2 : Int32))), (.int (x3 &&& (2147483647 : Int32))), (.int (v77 + (2 : Int32)))])
        refine own_st (fun t k => iremM Xj75 hx rfl (hb hby at_86) rfl (own_nz2_86 x0 x1 x2 x3 x4 v71 p76 v77 hv71 qp76 hv77 c78) k) ?_
        show own_Go _ _ _ _ Tj75 (mkF m 87 _ [(.int ((x3 &&& (2147483647 : Int32)) % (((1114112 : Int32) - v77) - (2 : Int32)))), (.int (v77 + (2 : Int32)))])
        refine own_st (fun t k => XS.iadd Xj75.here hx rfl (hb hby at_87) rfl k) ?_
        show own_Go _ _ _ _ Tj75 (mkF m 88 _ [(.int ((v77 + (2 : Int32)) + ((x3 &&& (2147483647 : Int32)) % (((1114112 : Int32) - v77) - (2 : Int32)))))])
        generalize hv79 : ((v77 + (2 : Int32)) + ((x3 &&& (2147483647 : Int32)) % (((1114112 : Int32) - v77) - (2 : Int32)))) = v79
        refine own_st (fun t k => XS.istore Xj75.here hx rfl (hb hby at_88) rfl (l' := #[.val (.int x0), .val (.int x1), .val (.int x2), .val (.int x3), .val (.int x4), .val (.int (2 : Int32)), .val (.int v71), .val (.int p76), .val (.int v77), .val (.int v79), .val (.int (0 : Int32)), .unset, .unset, .unset, .unset]) rfl k) ?_
        show own_Go _ _ _ _ Tj75 (mkF m 90 #[.val (.int x0), .val (.int x1), .val (.int x2), .val (.int x3), .val (.int x4), .val (.int (2 : Int32)), .val (.int v71), .val (.int p76), .val (.int v77), .val (.int v79), .val (.int (0 : Int32)), .unset, .unset, .unset, .unset] [])
        refine own_st (fun t k => XS.iload Xj75.here hx rfl (hb hby at_90) rfl k) ?_
        show own_Go _ _ _ _ Tj75 (mkF m 92 _ [(.int v79)])
        refine own_st (fun t k => XS.iloadN Xj75.here hx rfl (hb hby at_92) rfl k) ?_
        show own_Go _ _ _ _ Tj75 (mkF m 93 _ [(.int x0), (.int v79)])
        refine own_st (fun t k => XS.iconst Xj75.here hx rfl (hb hby at_93) k) ?_
        show own_Go _ _ _ _ Tj75 (mkF m 94 _ [(.int (3 : Int32)), (.int x0), (.int v79)])
        refine own_st (fun t k => XS.iushr Xj75.here hx rfl (hb hby at_94) rfl k) ?_
        show own_Go _ _ _ _ Tj75 (mkF m 95 _ [(.int ((x0.toUInt32 >>> ((3 : Int32) &&& 31).toUInt32).toInt32)), (.int v79)])
        refine own_st (fun t k => XS.iconst Xj75.here hx rfl (hb hby at_95) k) ?_
        show own_Go _ _ _ _ Tj75 (mkF m 96 _ [(.int (1 : Int32)), (.int ((x0.toUInt32 >>> ((3 : Int32) &&& 31).toUInt32).toInt32)), (.int v79)])
        refine own_st (fun t k => XS.iand Xj75.here hx rfl (hb hby at_96) rfl k) ?_
        show own_Go _ _ _ _ Tj75 (mkF m 97 _ [(.int (((x0.toUInt32 >>> ((3 : Int32) &&& 31).toUInt32).toInt32) &&& (1 : Int32))), (.int v79)])
        have J83 : ∀ (Tj83 : State) (Lj83 : List Loc) (p84 : Int32), Stand p l e room_1 s m #[(.int x0), (.int x1), (.int x2), (.int x3), (.int x4)] below meth c Tj83 Lj83 0 0 → Tj83.heap = h0 → Fr n0 Lj83 → p84 = (if (((x0.toUInt32 >>> ((3 : Int32) &&& 31).toUInt32).toInt32) &&& (1 : Int32)) = (0 : Int32) then (0 : Int32) else ((x4 &&& (2147483647 : Int32)) % ((1114112 : Int32) - v79))) → own_Go p.tables e below Pq Tj83 (mkF m 115 #[.val (.int x0), .val (.int x1), .val (.int x2), .val (.int x3), .val (.int x4), .val (.int (2 : Int32)), .val (.int v71), .val (.int p76), .val (.int v77), .val (.int v79), .val (.int (0 : Int32)), .unset, .unset, .unset, .unset] [(.int p84), (.int v79)]) := by
          intro Tj83 Lj83 p84 Xj83 ej83 Nj83 qp84
          show own_Go _ _ _ _ Tj83 (mkF m 115 _ [(.int p84), (.int v79)])
          refine own_st (fun t k => XS.iadd Xj83.here hx rfl (hb hby at_115) rfl k) ?_
          show own_Go _ _ _ _ Tj83 (mkF m 116 _ [(.int (v79 + p84))])
          generalize hv85 : (v79 + p84) = v85
          refine own_st (fun t k => XS.istore Xj83.here hx rfl (hb hby at_116) rfl (l' := #[.val (.int x0), .val (.int x1), .val (.int x2), .val (.int x3), .val (.int x4), .val (.int (2 : Int32)), .val (.int v71), .val (.int p76), .val (.int v77), .val (.int v79), .val (.int v85), .unset, .unset, .unset, .unset]) rfl k) ?_
          show own_Go _ _ _ _ Tj83 (mkF m 118 #[.val (.int x0), .val (.int x1), .val (.int x2), .val (.int x3), .val (.int x4), .val (.int (2 : Int32)), .val (.int v71), .val (.int p76), .val (.int v77), .val (.int v79), .val (.int v85), .unset, .unset, .unset, .unset] [])
          refine own_st (fun t k => XS.iconst Xj83.here hx rfl (hb hby at_118) k) ?_
          show own_Go _ _ _ _ Tj83 (mkF m 119 _ [(.int (2 : Int32))])
          refine own_st (fun t k => XS.iload Xj83.here hx rfl (hb hby at_119) rfl k) ?_
          show own_Go _ _ _ _ Tj83 (mkF m 121 _ [(.int (2 : Int32)), (.int (2 : Int32))])
          refine own_st (fun t k => XS.imul Xj83.here hx rfl (hb hby at_121) rfl k) ?_
          show own_Go _ _ _ _ Tj83 (mkF m 122 _ [(.int (4 : Int32))])
          obtain ⟨T86, h86, k86, X86, e86, E86, A86, st86⟩ := newP Xj83 hx hZ (hw _ (List.mem_of_getElem? (i := 2) rfl)) ej83 (g := (mkF m 122 #[.val (.int x0), .val (.int x1), .val (.int x2), .val (.int x3), .val (.int x4), .val (.int (2 : Int32)), .val (.int v71), .val (.int p76), .val (.int v77), .val (.int v79), .val (.int v85), .unset, .unset, .unset, .unset] [(.int (4 : Int32))])) rfl (hb hby at_122) rfl (by decide) (cap := 4) (by decide) (by decide) (by decide) (by decide)
          obtain ⟨b86, g86⟩ : ∃ z, z = h0.size := ⟨_, rfl⟩
          rw [← g86] at A86 st86
          refine own_st st86 ?_
          have gx87 : n0 ≤ b86 := Nat.le_trans Z0 (Nat.le_of_eq g86.symm)
          have Z88 : n0 ≤ h86.size := Nat.le_trans Z0 E86.1
          have V86 : own_AI Z h86 b86 k86 (4 : Int32) (fun _ => (0 : Int32)) := own_AI.new A86 (by decide)
          show own_Go _ _ _ _ T86 (mkF m 124 _ [(.ref b86)])
          refine own_st (fun t k => XS.astore X86.here hx rfl (hb hby at_124) rfl rfl (l' := #[.val (.int x0), .val (.int x1), .val (.int x2), .val (.int x3), .val (.int x4), .val (.int (2 : Int32)), .val (.int v71), .val (.int p76), .val (.int v77), .val (.int v79), .val (.int v85), .val (.ref b86), .unset, .unset, .unset]) rfl k) ?_
          show own_Go _ _ _ _ T86 (mkF m 126 #[.val (.int x0), .val (.int x1), .val (.int x2), .val (.int x3), .val (.int x4), .val (.int (2 : Int32)), .val (.int v71), .val (.int p76), .val (.int v77), .val (.int v79), .val (.int v85), .val (.ref b86), .unset, .unset, .unset] [])
          refine own_st (fun t k => XS.iload X86.here hx rfl (hb hby at_126) rfl k) ?_
          show own_Go _ _ _ _ T86 (mkF m 128 _ [(.int (2 : Int32))])
          refine own_st (fun t k => XS.iconst X86.here hx rfl (hb hby at_128) k) ?_
          show own_Go _ _ _ _ T86 (mkF m 129 _ [(.int (1 : Int32)), (.int (2 : Int32))])
          refine own_st (fun t k => XS.icmpNo X86.here hx rfl (hb hby at_129) rfl (flt (by decide : ¬ ((2 : Int32) < (1 : Int32)))).1 k) ?_
          show own_Go _ _ _ _ T86 (mkF m 132 _ [])
          refine own_st (fun t k => XS.aload X86.here hx rfl (hb hby at_132) rfl rfl k) ?_
          show own_Go _ _ _ _ T86 (mkF m 134 _ [(.ref b86)])
          refine own_st (fun t k => XS.iconst X86.here hx rfl (hb hby at_134) k) ?_
          show own_Go _ _ _ _ T86 (mkF m 135 _ [(.int (0 : Int32)), (.ref b86)])
          refine own_st (fun t k => XS.iload X86.here hx rfl (hb hby at_135) rfl k) ?_
          show own_Go _ _ _ _ T86 (mkF m 137 _ [(.int v71), (.int (0 : Int32)), (.ref b86)])
          obtain ⟨c89, Ar89, q89, S89, N89, H89⟩ := id V86
          obtain ⟨T89, h89, X89, e89, W89, st89⟩ := stI X86 hx hZ e86 Ar89 (j := (0 : Int32)) (inb_of S89 ⟨by decide, by decide⟩) (g := (mkF m 137 #[.val (.int x0), .val (.int x1), .val (.int x2), .val (.int x3), .val (.int x4), .val (.int (2 : Int32)), .val (.int v71), .val (.int p76), .val (.int v77), .val (.int v79), .val (.int v85), .val (.ref b86), .unset, .unset, .unset] [(.int v71), (.int (0 : Int32)), (.ref b86)])) rfl rfl (hb hby at_137)
          refine own_st st89 ?_
          have f90 : own_AI Z h89 b86 k86 (4 : Int32) (own_updI (fun _ => (0 : Int32)) 0 v71) := own_AI.set V86 W89
          have N91 := Fr.snoc X89 Nj83 gx87
          have Z92 : n0 ≤ h89.size := Nat.le_trans Z88 (Nat.le_of_eq W89.size.symm)
          show own_Go _ _ _ _ T89 (mkF m 138 _ [])
          generalize hgg93v : (own_updI (fun _ => (0 : Int32)) 0 v71) = g93v at *
          refine own_st (fun t k => XS.aload X89.here hx rfl (hb hby at_138) rfl rfl k) ?_
          show own_Go _ _ _ _ T89 (mkF m 140 _ [(.ref b86)])
          refine own_st (fun t k => XS.iconst X89.here hx rfl (hb hby at_140) k) ?_
          show own_Go _ _ _ _ T89 (mkF m 141 _ [(.int (1 : Int32)), (.ref b86)])
          refine own_st (fun t k => XS.iload X89.here hx rfl (hb hby at_141) rfl k) ?_
          show own_Go _ _ _ _ T89 (mkF m 143 _ [(.int v77), (.int (1 : Int32)), (.ref b86)])
          obtain ⟨c94, Ar94, q94, S94, N94, H94⟩ := id f90
          obtain ⟨T94, h94, X94, e94, W94, st94⟩ := stI X89 hx hZ e89 Ar94 (j := (1 : Int32)) (inb_of S94 ⟨by decide, by decide⟩) (g := (mkF m 143 #[.val (.int x0), .val (.int x1), .val (.int x2), .val (.int x3), .val (.int x4), .val (.int (2 : Int32)), .val (.int v71), .val (.int p76), .val (.int v77), .val (.int v79), .val (.int v85), .val (.ref b86), .unset, .unset, .unset] [(.int v77), (.int (1 : Int32)), (.ref b86)])) rfl rfl (hb hby at_143)
          refine own_st st94 ?_
          have f95 : own_AI Z h94 b86 k86 (4 : Int32) (own_updI g93v 1 v77) := own_AI.set f90 W94
          have N96 := Fr.snoc X94 N91 gx87
          have Z97 : n0 ≤ h94.size := Nat.le_trans Z92 (Nat.le_of_eq W94.size.symm)
          show own_Go _ _ _ _ T94 (mkF m 144 _ [])
          generalize hgg98v : (own_updI g93v 1 v77) = g98v at *
          refine own_st (fun t k => XS.iload X94.here hx rfl (hb hby at_144) rfl k) ?_
          show own_Go _ _ _ _ T94 (mkF m 146 _ [(.int (2 : Int32))])
          refine own_st (fun t k => XS.iconst X94.here hx rfl (hb hby at_146) k) ?_
          show own_Go _ _ _ _ T94 (mkF m 147 _ [(.int (2 : Int32)), (.int (2 : Int32))])
          refine own_st (fun t k => XS.icmpNo X94.here hx rfl (hb hby at_147) rfl (teq (by decide : ((2 : Int32) = (2 : Int32)))).2 k) ?_
          show own_Go _ _ _ _ T94 (mkF m 150 _ [])
          refine own_st (fun t k => XS.aload X94.here hx rfl (hb hby at_150) rfl rfl k) ?_
          show own_Go _ _ _ _ T94 (mkF m 152 _ [(.ref b86)])
          refine own_st (fun t k => XS.iconst X94.here hx rfl (hb hby at_152) k) ?_
          show own_Go _ _ _ _ T94 (mkF m 153 _ [(.int (2 : Int32)), (.ref b86)])
          refine own_st (fun t k => XS.iload X94.here hx rfl (hb hby at_153) rfl k) ?_
          show own_Go _ _ _ _ T94 (mkF m 155 _ [(.int v79), (.int (2 : Int32)), (.ref b86)])
          obtain ⟨c99, Ar99, q99, S99, N99, H99⟩ := id f95
          obtain ⟨T99, h99, X99, e99, W99, st99⟩ := stI X94 hx hZ e94 Ar99 (j := (2 : Int32)) (inb_of S99 ⟨by decide, by decide⟩) (g := (mkF m 155 #[.val (.int x0), .val (.int x1), .val (.int x2), .val (.int x3), .val (.int x4), .val (.int (2 : Int32)), .val (.int v71), .val (.int p76), .val (.int v77), .val (.int v79), .val (.int v85), .val (.ref b86), .unset, .unset, .unset] [(.int v79), (.int (2 : Int32)), (.ref b86)])) rfl rfl (hb hby at_155)
          refine own_st st99 ?_
          have f100 : own_AI Z h99 b86 k86 (4 : Int32) (own_updI g98v 2 v79) := own_AI.set f95 W99
          have N101 := Fr.snoc X99 N96 gx87
          have Z102 : n0 ≤ h99.size := Nat.le_trans Z97 (Nat.le_of_eq W99.size.symm)
          show own_Go _ _ _ _ T99 (mkF m 156 _ [])
          generalize hgg103v : (own_updI g98v 2 v79) = g103v at *
          refine own_st (fun t k => XS.aload X99.here hx rfl (hb hby at_156) rfl rfl k) ?_
          show own_Go _ _ _ _ T99 (mkF m 158 _ [(.ref b86)])
          refine own_st (fun t k => XS.iconst X99.here hx rfl (hb hby at_158) k) ?_
          show own_Go _ _ _ _ T99 (mkF m 159 _ [(.int (3 : Int32)), (.ref b86)])
          refine own_st (fun t k => XS.iload X99.here hx rfl (hb hby at_159) rfl k) ?_
          show own_Go _ _ _ _ T99 (mkF m 161 _ [(.int v85), (.int (3 : Int32)), (.ref b86)])
          obtain ⟨c104, Ar104, q104, S104, N104, H104⟩ := id f100
          obtain ⟨T104, h104, X104, e104, W104, st104⟩ := stI X99 hx hZ e99 Ar104 (j := (3 : Int32)) (inb_of S104 ⟨by decide, by decide⟩) (g := (mkF m 161 #[.val (.int x0), .val (.int x1), .val (.int x2), .val (.int x3), .val (.int x4), .val (.int (2 : Int32)), .val (.int v71), .val (.int p76), .val (.int v77), .val (.int v79), .val (.int v85), .val (.ref b86), .unset, .unset, .unset] [(.int v85), (.int (3 : Int32)), (.ref b86)])) rfl rfl (hb hby at_161)
          refine own_st st104 ?_
          have f105 : own_AI Z h104 b86 k86 (4 : Int32) (own_updI g103v 3 v85) := own_AI.set f100 W104
          have N106 := Fr.snoc X104 N101 gx87
          have Z107 : n0 ≤ h104.size := Nat.le_trans Z102 (Nat.le_of_eq W104.size.symm)
          show own_Go _ _ _ _ T104 (mkF m 162 _ [])
          generalize hgg108v : (own_updI g103v 3 v85) = g108v at *
          obtain ⟨T109, h109, X109, e109, E109, A109, D109, -, st109⟩ := newO X104 hx hZ hown (hw _ (List.mem_of_getElem? (i := 3) rfl)) (hw _ (List.mem_of_getElem? (i := 4) rfl)) (hw _ (List.mem_of_getElem? (i := 5) rfl)) e104 (g := (mkF m 162 #[.val (.int x0), .val (.int x1), .val (.int x2), .val (.int x3), .val (.int x4), .val (.int (2 : Int32)), .val (.int v71), .val (.int p76), .val (.int v77), .val (.int v79), .val (.int v85), .val (.ref b86), .unset, .unset, .unset] [])) rfl (hb hby at_162) (by decide) (by decide)
          obtain ⟨b109, g109⟩ : ∃ z, z = h104.size := ⟨_, rfl⟩
          rw [← g109] at A109 D109 st109
          refine own_st st109 ?_
          have ne110 : b86 ≠ b109 := Nat.ne_of_lt (Nat.lt_of_lt_of_le f105.lt (Nat.le_of_eq g109.symm))
          have f111 := f105.ext E109
          have gx112 : n0 ≤ b109 := Nat.le_trans Z107 (Nat.le_of_eq g109.symm)
          have Z113 : n0 ≤ h109.size := Nat.le_trans Z107 E109.1
          have f114 : Fld Z h109 b109 "com/example/premise/premise/regex/RegexProgram$Ranges" "bounds" "[I" .null := D109 (Or.inr (hw _ (List.mem_of_getElem? (i := 18) rfl))) (ty := (.array .int)) (by decide)
          show own_Go _ _ _ _ T109 (mkF m 165 _ [(.ref b109)])
          refine own_st (fun t k => XS.dup X109.here hx rfl (hb hby at_165) rfl rfl k) ?_
          show own_Go _ _ _ _ T109 (mkF m 166 _ [(.ref b109), (.ref b109)])
          refine own_st (fun t k => XS.aload X109.here hx rfl (hb hby at_166) rfl rfl k) ?_
          show own_Go _ _ _ _ T109 (mkF m 168 _ [(.ref b86), (.ref b109), (.ref b109)])
          obtain ⟨_, _, ⟨T115, L115, k115, n115⟩, -, X115, ⟨Lc115, hQ115, l115, y115, z115⟩, st115⟩ := X109.specialBack hx (y := (⟨"com/example/premise/premise/regex/RegexProgram$Ranges", "<init>", "([I)V"⟩ : MethodName)) rfl hown (mvT hZ (hw _ (List.mem_of_getElem? (i := 6) rfl))) (mvT hZ (hw _ (List.mem_of_getElem? (i := 7) rfl))) (mvT hZ (hw _ (List.mem_of_getElem? (i := 8) rfl))) (by decide) (backOf (W := 1) (rm2 l Z a0 hw [] b109 b86 (.null) h109 n0 Z113 A109 f114 gx112) hZ (hw _ (List.mem_of_getElem? (i := 8) rfl)) (hw _ (List.mem_of_getElem? (i := 5) rfl)) (by decide) (by decide)) (g := (mkF m 168 #[.val (.int x0), .val (.int x1), .val (.int x2), .val (.int x3), .val (.int x4), .val (.int (2 : Int32)), .val (.int v71), .val (.int p76), .val (.int v77), .val (.int v79), .val (.int v85), .val (.ref b86), .unset, .unset, .unset] [(.ref b86), (.ref b109), (.ref b109)])) rfl (by rw [hml]; rfl) (Steps.refl _) (a := b109) (argsL := [(.ref b86)]) (rest := [(.ref b109)]) (lenOf own_pd___I_V rfl) rfl (by show 2 * 0 + _ ≤ _; exact Nat.le_of_eq rfl) (hb hby at_168) (fun _ _ => ⟨rfl, e109, (by decide : 2 + 0 ≤ _), (by decide : 5 + 0 ≤ _)⟩)
          dsimp only [Pt.U, Pt.locs, Pt.cells, Pt.slots] at X115 l115 y115 z115 st115 hQ115
          subst l115 y115 z115
          obtain ⟨rfl, NQ115, K115, fq115_0, fq115_1⟩ := hQ115
          have N116 := Fr.app N106 NQ115
          refine own_st (fun t k => st115.trans k) ?_
          have f117 := f111.keep K115 (ninS ne110 nin0)
          have f118 := A109.keep K115
          have Z119 : n0 ≤ T115.heap.size := Nat.le_trans Z113 K115.1
          show own_Go _ _ _ _ T115 (mkF m 171 _ [(.ref b109)])
          refine own_st (fun t k => XS.astore X115.here hx rfl (hb hby at_171) rfl rfl (l' := #[.val (.int x0), .val (.int x1), .val (.int x2), .val (.int x3), .val (.int x4), .val (.int (2 : Int32)), .val (.int v71), .val (.int p76), .val (.int v77), .val (.int v79), .val (.int v85), .val (.ref b86), .val (.ref b109), .unset, .unset]) rfl k) ?_
          show own_Go _ _ _ _ T115 (mkF m 173 #[.val (.int x0), .val (.int x1), .val (.int x2), .val (.int x3), .val (.int x4), .val (.int (2 : Int32)), .val (.int v71), .val (.int p76), .val (.int v77), .val (.int v79), .val (.int v85), .val (.ref b86), .val (.ref b109), .unset, .unset] [])
          refine own_st (fun t k => XS.aload X115.here hx rfl (hb hby at_173) rfl rfl k) ?_
          show own_Go _ _ _ _ T115 (mkF m 175 _ [(.ref b109)])
          obtain ⟨cq120, kq120, q120a, q120b, q120c⟩ := isOf hZ rfl fq115_0
          obtain ⟨_, _, ⟨T120, L120, k120, n120⟩, -, X120, ⟨Lc120, hQ120, l120, y120, z120⟩, st120⟩ := X115.virtualBack hx (y := (⟨"com/example/premise/premise/regex/RegexProgram$Ranges", "single", "()I"⟩ : MethodName)) (z := (⟨"com/example/premise/premise/regex/RegexProgram$Ranges", "single", "()I"⟩ : MethodName)) hown (mvT hZ (hw _ (List.mem_of_getElem? (i := 19) rfl))) (mvT hZ (hw _ (List.mem_of_getElem? (i := 20) rfl))) (notFace_of_selects (args := #[]) (mvT hZ (hw _ (List.mem_of_getElem? (i := 22) rfl)))) (mvT hZ (hw _ (List.mem_of_getElem? (i := 22) rfl))) (mvT hZ (hw _ (List.mem_of_getElem? (i := 21) rfl))) (by decide) (backOf (W := 0) (rm3 l Z a0 hw [] b109 b86 k86 (4 : Int32) g108v T115.heap n0 Z119 fq115_0 fq115_1 f117) hZ (hw _ (List.mem_of_getElem? (i := 23) rfl)) (hw _ (List.mem_of_getElem? (i := 5) rfl)) (by decide) (by decide)) q120a q120c (g := (mkF m 175 #[.val (.int x0), .val (.int x1), .val (.int x2), .val (.int x3), .val (.int x4), .val (.int (2 : Int32)), .val (.int v71), .val (.int p76), .val (.int v77), .val (.int v79), .val (.int v85), .val (.ref b86), .val (.ref b109), .unset, .unset] [(.ref b109)])) rfl (by rw [hml]; rfl) (Steps.refl _) (argsL := []) (rest := []) (lenOf own_pd___I rfl) rfl (by show 2 * 0 + _ ≤ _; exact Nat.le_of_eq rfl) (hb hby at_175) (fun _ _ => ⟨rfl, rfl, (by decide : 2 + 0 ≤ _), (by decide : 5 + 0 ≤ _)⟩)
          dsimp only [Pt.U, Pt.locs, Pt.cells, Pt.slots] at X120 l120 y120 z120 st120 hQ120
          subst l120 y120 z120
          obtain ⟨rfl, NQ120, eq120⟩ := hQ120
          have N121 := Fr.app N116 NQ120
          refine own_st (fun t k => st120.trans k) ?_
          show own_Go _ _ _ _ T120 (mkF m 178 _ [(.int (own_single (4 : Int32) g108v))])
          generalize hv122 : (own_single (4 : Int32) g108v) = v122
          refine own_st (fun t k => XS.istore X120.here hx rfl (hb hby at_178) rfl (l' := #[.val (.int x0), .val (.int x1), .val (.int x2), .val (.int x3), .val (.int x4), .val (.int (2 : Int32)), .val (.int v71), .val (.int p76), .val (.int v77), .val (.int v79), .val (.int v85), .val (.ref b86), .val (.ref b109), .val (.int v122), .unset]) rfl k) ?_
          show own_Go _ _ _ _ T120 (mkF m 180 #[.val (.int x0), .val (.int x1), .val (.int x2), .val (.int x3), .val (.int x4), .val (.int (2 : Int32)), .val (.int v71), .val (.int p76), .val (.int v77), .val (.int v79), .val (.int v85), .val (.ref b86), .val (.ref b109), .val (.int v122), .unset] [])
          refine own_st (fun t k => XS.iload X120.here hx rfl (hb hby at_180) rfl k) ?_
          show own_Go _ _ _ _ T120 (mkF m 182 _ [(.int (2 : Int32))])
          refine own_st (fun t k => XS.iconst X120.here hx rfl (hb hby at_182) k) ?_
          show own_Go _ _ _ _ T120 (mkF m 183 _ [(.int (1 : Int32)), (.int (2 : Int32))])
          refine own_st (fun t k => XS.icmpYes X120.here hx rfl (pc0 := 183) (pc' := 196) rfl (hb hby at_183) rfl (feq (by decide : ¬ ((2 : Int32) = (1 : Int32)))).2 (by decide) (by decide) k) ?_
          show own_Go _ _ _ _ T120 (mkF m 196 _ [])
          refine own_st (fun t k => XS.iconst X120.here hx rfl (hb hby at_196) k) ?_
          show own_Go _ _ _ _ T120 (mkF m 197 _ [(.int (-1 : Int32))])
          refine own_st (fun t k => XS.istore X120.here hx rfl (hb hby at_197) rfl (l' := #[.val (.int x0), .val (.int x1), .val (.int x2), .val (.int x3), .val (.int x4), .val (.int (2 : Int32)), .val (.int v71), .val (.int p76), .val (.int v77), .val (.int v79), .val (.int v85), .val (.ref b86), .val (.ref b109), .val (.int v122), .val (.int (-1 : Int32))]) rfl k) ?_
          show own_Go _ _ _ _ T120 (mkF m 199 #[.val (.int x0), .val (.int x1), .val (.int x2), .val (.int x3), .val (.int x4), .val (.int (2 : Int32)), .val (.int v71), .val (.int p76), .val (.int v77), .val (.int v79), .val (.int v85), .val (.ref b86), .val (.ref b109), .val (.int v122), .val (.int (-1 : Int32))] [])
          refine own_st (fun t k => XS.iload X120.here hx rfl (hb hby at_199) rfl k) ?_
          show own_Go _ _ _ _ T120 (mkF m 201 _ [(.int v122)])
          refine own_st (fun t k => XS.iload X120.here hx rfl (hb hby at_201) rfl k) ?_
          show own_Go _ _ _ _ T120 (mkF m 203 _ [(.int (-1 : Int32)), (.int v122)])
          refine own_st (fun t k => XS.icmpYes X120.here hx rfl (pc0 := 203) (pc' := 208) rfl (hb hby at_203) rfl (teq (own_eq2 x0 x1 x2 x3 x4 v71 p76 v77 v79 p84 v85 g93v g98v g103v g108v v122 hv71 qp76 hv77 hv79 qp84 hv85 hgg93v hgg98v hgg103v hgg108v hv122 c78)).1 (by decide) (by decide) k) ?_
          show own_Go _ _ _ _ T120 (mkF m 208 _ [])
          refine own_st (fun t k => XS.iload X120.here hx rfl (hb hby at_208) rfl k) ?_
          show own_Go _ _ _ _ T120 (mkF m 210 _ [(.int v122)])
          refine own_st (fun t k => XS.ifYes X120.here hx rfl (pc0 := 210) (pc' := 223) rfl (hb hby at_210) rfl ((if0 _ _).trans (tlt (own_neg2 x0 x1 x2 x3 x4 v71 p76 v77 v79 p84 v85 g93v g98v g103v g108v v122 hv71 qp76 hv77 hv79 qp84 hv85 hgg93v hgg98v hgg103v hgg108v hv122 c78)).1) (by decide) (by decide) k) ?_
          show own_Go _ _ _ _ T120 (mkF m 223 _ [])
          refine own_st (fun t k => XS.iconst X120.here hx rfl (hb hby at_223) k) ?_
          show own_Go _ _ _ _ T120 (mkF m 224 _ [(.int (1 : Int32))])
          refine own_st (fun t k => XS.goto X120.here hx rfl (pc0 := 224) (pc' := 228) rfl (hb hby at_224) (by decide) (by decide) k) ?_
          show own_Go _ _ _ _ T120 (mkF m 228 _ [(.int (1 : Int32))])
          subst hPq
          refine own_out X120 (v := some (.int (nar .boolean (1 : Int32)))) (fun h => by rw [Bd.returns] at h; cases h) Bd.notSynchronized (fun fs hr => retN X120 hx (t := .boolean) Bd.returns (by simp) (hb hby at_228) hr) (by decide) (by decide) ?_
          show Q0 Z x0 x1 x2 x3 x4 h0 n0 _ T120.heap _
          rw [eq120]
          exact ⟨congrArg (fun z => some (Value.int (nar .boolean z))) (own_law3 x0 x1 x2 x3 x4 v71 p76 v77 v79 p84 v85 g93v g98v g103v g108v v122 hv71 qp76 hv77 hv79 qp84 hv85 hgg93v hgg98v hgg103v hgg108v hv122 c78), N121⟩
        by_cases c80 : (((x0.toUInt32 >>> ((3 : Int32) &&& 31).toUInt32).toInt32) &&& (1 : Int32)) = (0 : Int32)
        · skip
          refine own_st (fun t k => XS.ifNo Xj75.here hx rfl (hb hby at_97) rfl ((if0 _ _).trans (teq c80).2) k) ?_
          show own_Go _ _ _ _ Tj75 (mkF m 100 _ [(.int v79)])
          refine own_st (fun t k => XS.iconst Xj75.here hx rfl (hb hby at_100) k) ?_
          show own_Go _ _ _ _ Tj75 (mkF m 101 _ [(.int (0 : Int32)), (.int v79)])
          refine own_st (fun t k => XS.goto Xj75.here hx rfl (pc0 := 101) (pc' := 115) rfl (hb hby at_101) (by decide) (by decide) k) ?_
          show own_Go _ _ _ _ Tj75 (mkF m 115 _ [(.int (0 : Int32)), (.int v79)])
          exact J83 Tj75 _ _ (Xj75.mono (by decide) (by decide)) ej75 Nj75 (by simp only [if_pos c80])
        · skip
          refine own_st (fun t k => XS.ifYes Xj75.here hx rfl (pc0 := 97) (pc' := 104) rfl (hb hby at_97) rfl ((if0 _ _).trans (feq c80).2) (by decide) (by decide) k) ?_
          show own_Go _ _ _ _ Tj75 (mkF m 104 _ [(.int v79)])
          refine own_st (fun t k => XS.iload Xj75.here hx rfl (hb hby at_104) rfl k) ?_
          show own_Go _ _ _ _ Tj75 (mkF m 106 _ [(.int x4), (.int v79)])
          refine own_st (fun t k => Xj75.ldcInt hx hown (mvT hZ (hw _ (List.mem_of_getElem? (i := 0) rfl))) (g := (mkF m 106 #[.val (.int x0), .val (.int x1), .val (.int x2), .val (.int x3), .val (.int x4), .val (.int (2 : Int32)), .val (.int v71), .val (.int p76), .val (.int v77), .val (.int v79), .val (.int (0 : Int32)), .unset, .unset, .unset, .unset] [(.int x4), (.int v79)])) rfl (hb hby at_106) _ k) ?_
          show own_Go _ _ _ _ Tj75 (mkF m 108 _ [(.int (2147483647 : Int32)), (.int x4), (.int v79)])
          refine own_st (fun t k => XS.iand Xj75.here hx rfl (hb hby at_108) rfl k) ?_
          show own_Go _ _ _ _ Tj75 (mkF m 109 _ [(.int (x4 &&& (2147483647 : Int32))), (.int v79)])
          refine own_st (fun t k => Xj75.ldcInt hx hown (mvT hZ (hw _ (List.mem_of_getElem? (i := 1) rfl))) (g := (mkF m 109 #[.val (.int x0), .val (.int x1), .val (.int x2), .val (.int x3), .val (.int x4), .val (.int (2 : Int32)), .val (.int v71), .val (.int p76), .val (.int v77), .val (.int v79), .val (.int (0 : Int32)), .unset, .unset, .unset, .unset] [(.int (x4 &&& (2147483647 : Int32))), (.int v79)])) rfl (hb hby at_109) _ k) ?_
          show own_Go _ _ _ _ Tj75 (mkF m 111 _ [(.int (1114112 : Int32)), (.int (x4 &&& (2147483647 : Int32))), (.int v79)])
          refine own_st (fun t k => XS.iload Xj75.here hx rfl (hb hby at_111) rfl k) ?_
          show own_Go _ _ _ _ Tj75 (mkF m 113 _ [(.int v79), (.int (1114112 : Int32)), (.int (x4 &&& (2147483647 : Int32))), (.int v79)])
          refine own_st (fun t k => XS.isub Xj75.here hx rfl (hb hby at_113) rfl k) ?_
          show own_Go _ _ _ _ Tj75 (mkF m 114 _ [(.int ((1114112 : Int32) - v79)), (.int (x4 &&& (2147483647 : Int32))), (.int v79)])
          refine own_st (fun t k => iremM Xj75 hx rfl (hb hby at_114) rfl (own_nz2_114 x0 x1 x2 x3 x4 v71 p76 v77 v79 hv71 qp76 hv77 hv79 c78 c80) k) ?_
          show own_Go _ _ _ _ Tj75 (mkF m 115 _ [(.int ((x4 &&& (2147483647 : Int32)) % ((1114112 : Int32) - v79))), (.int v79)])
          exact J83 Tj75 _ _ (Xj75.mono (by decide) (by decide)) ej75 Nj75 (by simp only [if_neg c80])
      · skip
        refine own_st (fun t k => XS.icmpNo Xj75.here hx rfl (hb hby at_66) rfl (flt c78).1 k) ?_
        show own_Go _ _ _ _ Tj75 (mkF m 69 _ [])
        refine own_st (fun t k => XS.iconst Xj75.here hx rfl (hb hby at_69) k) ?_
        show own_Go _ _ _ _ Tj75 (mkF m 70 _ [(.int (1 : Int32))])
        subst hPq
        refine own_out Xj75 (v := some (.int (nar .boolean (1 : Int32)))) (fun h => by rw [Bd.returns] at h; cases h) Bd.notSynchronized (fun fs hr => retN Xj75 hx (t := .boolean) Bd.returns (by simp) (hb hby at_70) hr) (by decide) (by decide) ?_
        show Q0 Z x0 x1 x2 x3 x4 h0 n0 _ Tj75.heap _
        rw [ej75]
        exact ⟨congrArg (fun z => some (Value.int (nar .boolean z))) (own_law4 x0 x1 x2 x3 x4 v71 p76 v77 hv71 qp76 hv77 c78), Nj75⟩
    by_cases c72 : (((x0.toUInt32 >>> ((2 : Int32) &&& 31).toUInt32).toInt32) &&& (1 : Int32)) = (0 : Int32)
    · skip
      refine own_st (fun t k => XS.ifNo X0.here hx rfl (hb hby at_22) rfl ((if0 _ _).trans (teq c72).2) k) ?_
      show own_Go _ _ _ _ s₁ (mkF m 25 _ [])
      refine own_st (fun t k => XS.iconst X0.here hx rfl (hb hby at_25) k) ?_
      show own_Go _ _ _ _ s₁ (mkF m 26 _ [(.int (0 : Int32))])
      refine own_st (fun t k => XS.goto X0.here hx rfl (pc0 := 26) (pc' := 39) rfl (hb hby at_26) (by decide) (by decide) k) ?_
      show own_Go _ _ _ _ s₁ (mkF m 39 _ [(.int (0 : Int32))])
      exact J75 s₁ _ _ X0 e0 N0 (by simp only [if_pos c72])
    · skip
      refine own_st (fun t k => XS.ifYes X0.here hx rfl (pc0 := 22) (pc' := 29) rfl (hb hby at_22) rfl ((if0 _ _).trans (feq c72).2) (by decide) (by decide) k) ?_
      show own_Go _ _ _ _ s₁ (mkF m 29 _ [])
      refine own_st (fun t k => XS.iloadN X0.here hx rfl (hb hby at_29) rfl k) ?_
      show own_Go _ _ _ _ s₁ (mkF m 30 _ [(.int x2)])
      refine own_st (fun t k => X0.ldcInt hx hown (mvT hZ (hw _ (List.mem_of_getElem? (i := 0) rfl))) (g := (mkF m 30 #[.val (.int x0), .val (.int x1), .val (.int x2), .val (.int x3), .val (.int x4), .val (.int (2 : Int32)), .val (.int v71), .unset, .unset, .unset, .unset, .unset, .unset, .unset, .unset] [(.int x2)])) rfl (hb hby at_30) _ k) ?_
      show own_Go _ _ _ _ s₁ (mkF m 32 _ [(.int (2147483647 : Int32)), (.int x2)])
      refine own_st (fun t k => XS.iand X0.here hx rfl (hb hby at_32) rfl k) ?_
      show own_Go _ _ _ _ s₁ (mkF m 33 _ [(.int (x2 &&& (2147483647 : Int32)))])
      refine own_st (fun t k => X0.ldcInt hx hown (mvT hZ (hw _ (List.mem_of_getElem? (i := 1) rfl))) (g := (mkF m 33 #[.val (.int x0), .val (.int x1), .val (.int x2), .val (.int x3), .val (.int x4), .val (.int (2 : Int32)), .val (.int v71), .unset, .unset, .unset, .unset, .unset, .unset, .unset, .unset] [(.int (x2 &&& (2147483647 : Int32)))])) rfl (hb hby at_33) _ k) ?_
      show own_Go _ _ _ _ s₁ (mkF m 35 _ [(.int (1114112 : Int32)), (.int (x2 &&& (2147483647 : Int32)))])
      refine own_st (fun t k => XS.iload X0.here hx rfl (hb hby at_35) rfl k) ?_
      show own_Go _ _ _ _ s₁ (mkF m 37 _ [(.int v71), (.int (1114112 : Int32)), (.int (x2 &&& (2147483647 : Int32)))])
      refine own_st (fun t k => XS.isub X0.here hx rfl (hb hby at_37) rfl k) ?_
      show own_Go _ _ _ _ s₁ (mkF m 38 _ [(.int ((1114112 : Int32) - v71)), (.int (x2 &&& (2147483647 : Int32)))])
      refine own_st (fun t k => iremM X0 hx rfl (hb hby at_38) rfl (own_nz2_38 x0 x1 x2 x3 x4 v71 hv71 c72) k) ?_
      show own_Go _ _ _ _ s₁ (mkF m 39 _ [(.int ((x2 &&& (2147483647 : Int32)) % ((1114112 : Int32) - v71)))])
      exact J75 s₁ _ _ X0 e0 N0 (by simp only [if_neg c72])
set_option maxRecDepth 65536 in
set_option maxHeartbeats 4000000 in
theorem own_comes {Post : Tables → Env → Array Value → State → Outcome → State → Prop} (hpost : ∀ tb e args s v u, (limb_1_1.after args s (.returned v) u = true ∧ limb_1_2.after args s (.returned v) u = true ∧ True) → FrameEnd s (.returned v) u (Jvm.fieldLocs frame_1_writes args s ++ Jvm.arrayLocs frame_1_arrays args s ++ Jvm.staticLocs frame_1_statics s) 16 128 → Post tb e args s (.returned v) u) :
    ArmFor flags0 classFile x code maxLocals ret World_1 tables_1 room_1 Calls_1 rest_1 Pre_1 Post := by
  intro l hfl _ _ p e ha hc hk s m args below hf hA hF happ hP
  obtain ⟨hcalls, hrest, hpre⟩ := hP
  obtain ⟨-, -, -, hnamed, -, -, -, hat⟩ := (Spec.applies_iff hf).mp happ
  obtain ⟨hg, hn⟩ := and_e (Cond.before_iff.mp (show (Jvm.Cond.and given_1 narrow_1).before args s = true from hpre))
  obtain ⟨g0, r0⟩ := and_e hg
  obtain ⟨g1, r1⟩ := and_e r0
  obtain ⟨g2, r2⟩ := and_e r1
  obtain ⟨g3, r3⟩ := and_e r2
  obtain ⟨g4, r4⟩ := and_e r3
  obtain ⟨w0, w1, w2, w3, w4, rfl⟩ : ∃ w0 w1 w2 w3 w4 : Value, args = #[w0, w1, w2, w3, w4] := by
    have hs : args.size = 5 := by simpa [Cond.value, given_1] using g0
    obtain ⟨L⟩ := args
    match L, hs with
    | [w0, w1, w2, w3, w4], _ => exact ⟨w0, w1, w2, w3, w4, rfl⟩
  have hw := fun d (hd : d ∈ tables_1) => atoms_spec (ws := Jvm.Cond.code x code maxLocals ret :: tables_1) hat d (List.mem_cons_of_mem _ hd)
  obtain ⟨i0, ei0⟩ := is_v g1
  obtain rfl : w0 = (.int i0) := Option.some.inj ei0
  obtain ⟨i1, ei1⟩ := is_v g2
  obtain rfl : w1 = (.int i1) := Option.some.inj ei1
  obtain ⟨i2, ei2⟩ := is_v g3
  obtain rfl : w2 = (.int i2) := Option.some.inj ei2
  obtain ⟨i3, ei3⟩ := is_v g4
  obtain rfl : w3 = (.int i3) := Option.some.inj ei3
  obtain ⟨i4, ei4⟩ := is_v r4
  obtain rfl : w4 = (.int i4) := Option.some.inj ei4
  obtain ⟨n, o, h1, h2, h3, _, L, rfl, ⟨rfl, N⟩, hq⟩ := rm0 l s _ hw tables_1 i0 i1 i2 i3 i4 s.heap s.heap.size (Nat.le_refl _) p e ha hc hk s m _ below hf ((Spec.applies_iff_loose hf).mp happ).1 ⟨rfl, State.Warmed39.refl s, rfl⟩ trivial
  refine ⟨n, _, h1, h2, h3, hpost _ _ _ _ _ _ ⟨Cond.after_iff.mpr rfl, Cond.after_iff.mpr (eq_i res_at (Term.int_eval (1)) rfl), trivial⟩ ⟨hq.1, hq.2.1, (hq.2.2.sift fun y hy => Or.inr (N y hy)).mono (by decide) (by decide)⟩⟩
theorem main_1_1 : Claimed_1_1 := own_comes fun _ _ _ _ _ _ h hF => ⟨h.1, hF⟩
theorem main_1_2 : Claimed_1_2 := own_comes fun _ _ _ _ _ _ h hF => ⟨h.2.1, hF⟩
end Jvm.Pilot.@@N@@
namespace Jvm.Pilot.@@N@@
open Jvm Jvm.ClassFile Sem Op Lib Jvm.Free Jvm.Stand Jvm.Pilot.@@N@@.Jvm.D
/-! MADE BY PROGRAM (witnessworld.py) out of the Statement's table words and the real class files: 12 classes; the members and pool entries that the words name. The judged class is class 1, her method 1. -/
namespace start1
open Jvm.ClassFile
def u (s : String) : CpInfo := .utf8 (stringToUtf16 s)
/-- a pool by its gaps: so many unusable entries, then the entry; so many at the end -/
def gap : Nat → List CpInfo → List CpInfo
  | 0, r => r
  | n + 1, r => .unusable :: gap n r
def poolList (es : List (Nat × CpInfo)) (last : Nat) : List CpInfo := es.foldr (fun e r => gap e.1 (e.2 :: r)) (gap last [])
def pool (es : List (Nat × CpInfo)) (last : Nat) : Array CpInfo := ⟨poolList es last⟩
def fileOf (pool : Array CpInfo) (this : Nat) (attrs : Array Attribute := #[]) (ms : Array MethodInfo := #[]) (fl : Nat := 33) (sup : Nat := 0) (ifs : Array Nat := #[]) (fds : Array FieldInfo := #[]) : ClassFile where
  minorVersion := 0
  majorVersion := 65
  constantPool := pool
  accessFlags := fl
  thisClass := this
  superClass := sup
  interfaces := ifs
  fields := fds
  methods := ms
  attributes := attrs
def plain (name : String) (sup : Option ClassId) : Class where
  name := name
  kind := .ordinary
  loader := none
  accessFlags := 33
  super := sup
  interfaces := #[]
  cf := none
  fields := #[]
  methods := #[]
  instanceTypes := #[]
  staticTypes := #[]
  resolved := #[]
  callSites := []
  init := .initialized
  statics := none
  mirror := none

def pool0 : Array CpInfo := pool [(5, u "<init>"), (0, u "()V"), (1, .class_ 10), (1, u "java/lang/Object")] 113

def k0c0 : Code := { maxStack := 0, maxLocals := 1, code := object_method_1_code, exceptionTable := #[], attributes := #[] }
def k0m0 : Method := { name := "<init>", desc := "()V", sig := { parameters := [], returnType := none }, accessFlags := 1, code := some k0c0 }
/-- java/lang/Object -/
def k0 : Class := { plain "java/lang/Object" none with
  accessFlags := 33
  interfaces := #[]
  cf := some (fileOf pool0 8 #[] #[{ accessFlags := 1, nameIndex := 5, descriptorIndex := 6, attributes := #[] }] 33 0 #[] #[])
  fields := #[]
  methods := #[k0m0]
  instanceTypes := #[]
  staticTypes := #[]
  resolved := Array.replicate 124 none
  statics := none }

def pool1 : Array CpInfo := pool [(2, .class_ 4), (1, u "java/lang/Object"), (0, u "<init>"), (0, u "()V"), (0, .integer 2147483647), (0, .integer 1114112), (0, .class_ 10), (0, u "com/example/premise/premise/regex/RegexProgram$Ranges"), (0, .methodref 9 12), (0, .nameAndType 5 13), (0, u "([I)V"), (0, .methodref 9 15), (0, .nameAndType 16 17), (0, u "single"), (0, u "()I"), (0, .methodref 9 19), (0, .nameAndType 20 21), (0, u "test"), (0, u "(I)Z"), (0, .class_ 23), (0, u "com/example/premise/premise/regex/RangesSinglePinLaw"), (2, u "law"), (0, u "(IIIII)Z")] 9

def k1m0 : Method := { name := "<init>", desc := "()V", sig := { parameters := [], returnType := none }, accessFlags := 1, code := none }
def k1c1 : Code := { maxStack := 4, maxLocals := 15, code := code, exceptionTable := #[], attributes := #[] }
def k1m1 : Method := { name := "law", desc := "(IIIII)Z", sig := { parameters := [.int, .int, .int, .int, .int], returnType := some .boolean }, accessFlags := 9, code := some k1c1 }
/-- com/example/premise/premise/regex/RangesSinglePinLaw -/
def k1 : Class := { plain "com/example/premise/premise/regex/RangesSinglePinLaw" (some 0) with
  accessFlags := 49
  interfaces := #[]
  cf := some (fileOf pool1 22 #[] #[{ accessFlags := 1, nameIndex := 5, descriptorIndex := 6, attributes := #[] }, { accessFlags := 9, nameIndex := 26, descriptorIndex := 27, attributes := #[] }] 49 2 #[] #[])
  fields := #[]
  methods := #[k1m0, k1m1]
  instanceTypes := #[]
  staticTypes := #[]
  resolved := Array.replicate 37 none
  statics := none }

def pool2 : Array CpInfo := pool [(1, .methodref 2 3), (0, .class_ 4), (0, .nameAndType 5 6), (0, u "java/lang/Object"), (0, u "<init>"), (0, u "()V"), (0, .class_ 8), (0, u "java/lang/Record")] 13

def k2c0 : Code := { maxStack := 1, maxLocals := 1, code := jdk_30_method_1_code, exceptionTable := #[], attributes := #[] }
def k2m0 : Method := { name := "<init>", desc := "()V", sig := { parameters := [], returnType := none }, accessFlags := 4, code := some k2c0 }
/-- java/lang/Record -/
def k2 : Class := { plain "java/lang/Record" (some 0) with
  accessFlags := 1057
  interfaces := #[]
  cf := some (fileOf pool2 7 #[] #[{ accessFlags := 4, nameIndex := 5, descriptorIndex := 6, attributes := #[] }] 1057 2 #[] #[])
  fields := #[]
  methods := #[k2m0]
  instanceTypes := #[]
  staticTypes := #[]
  resolved := Array.replicate 22 none
  statics := none }

def pool3 : Array CpInfo := pool [(16, .class_ 18), (1, u "java/util/function/IntPredicate"), (1, .class_ 21), (0, u "java/lang/Object")] 45

/-- java/util/function/IntPredicate -/
def k3 : Class := { plain "java/util/function/IntPredicate" (some 0) with
  accessFlags := 1537
  interfaces := #[]
  cf := some (fileOf pool3 16 #[] #[] 1537 20 #[] #[])
  fields := #[]
  methods := #[]
  instanceTypes := #[]
  staticTypes := #[]
  resolved := Array.replicate 67 none
  statics := none }

def pool4 : Array CpInfo := pool [(1, .methodref 2 3), (0, .class_ 4), (0, .nameAndType 5 6), (0, u "java/lang/Record"), (0, u "<init>"), (0, u "()V"), (0, .fieldref 8 9), (0, .class_ 10), (0, .nameAndType 11 12), (0, u "com/example/premise/premise/regex/RegexProgram$Ranges"), (0, u "bounds"), (0, u "[I"), (24, u "()I"), (22, .class_ 62), (1, u "java/util/Arrays"), (4, u "([I)V"), (0, .methodref 60 69), (0, .nameAndType 70 71), (0, u "binarySearch"), (0, u "([II)I"), (12, .class_ 85), (0, u "java/util/function/IntPredicate"), (8, u "single"), (0, u "test"), (0, u "(I)Z"), (8, .class_ 106), (0, u "com/example/premise/premise/regex/RegexProgram")] 31

def k4c0 : Code := { maxStack := 2, maxLocals := 2, code := prog_38_method_1_code, exceptionTable := #[], attributes := #[] }
def k4m0 : Method := { name := "<init>", desc := "([I)V", sig := { parameters := [(.array .int)], returnType := none }, accessFlags := 0, code := some k4c0 }
def k4c1 : Code := { maxStack := 3, maxLocals := 1, code := prog_38_method_3_code, exceptionTable := #[], attributes := #[] }
def k4m1 : Method := { name := "single", desc := "()I", sig := { parameters := [], returnType := some .int }, accessFlags := 0, code := some k4c1 }
def k4c2 : Code := { maxStack := 2, maxLocals := 3, code := prog_38_method_4_code, exceptionTable := #[], attributes := #[] }
def k4m2 : Method := { name := "test", desc := "(I)Z", sig := { parameters := [.int], returnType := some .boolean }, accessFlags := 1, code := some k4c2 }
/-- com/example/premise/premise/regex/RegexProgram$Ranges -/
def k4 : Class := { plain "com/example/premise/premise/regex/RegexProgram$Ranges" (some 2) with
  accessFlags := 48
  interfaces := #[3]
  cf := some (fileOf pool4 8 #[.nestHost 105] #[{ accessFlags := 0, nameIndex := 5, descriptorIndex := 67, attributes := #[] }, { accessFlags := 0, nameIndex := 94, descriptorIndex := 37, attributes := #[] }, { accessFlags := 1, nameIndex := 95, descriptorIndex := 96, attributes := #[] }] 48 2 #[84] #[{ accessFlags := 18, nameIndex := 11, descriptorIndex := 12, attributes := #[] }])
  fields := #[{ name := "bounds", type := (.array .int), accessFlags := 18, slot := 0, constantValue := 0 }]
  methods := #[k4m0, k4m1, k4m2]
  instanceTypes := #[(.array .int)]
  staticTypes := #[]
  resolved := Array.replicate 138 none
  statics := none }

def pool5 : Array CpInfo := pool [(2, .class_ 4), (1, u "java/lang/Object"), (0, u "<init>"), (0, u "()V"), (7, .class_ 16), (1, u "java/util/Arrays"), (57, .class_ 76), (1, u "java/util/Arrays$NaturalOrder"), (36, .class_ 115), (1, u "java/util/Arrays$LegacyMergeSort"), (1, u "Z"), (89, u "binarySearch0"), (1, .methodref 14 210), (0, .nameAndType 207 211), (0, u "([IIII)I"), (163, .class_ 376), (0, u "java/util/Arrays$ArrayList"), (68, u "$assertionsDisabled"), (269, u "MIN_ARRAY_SORT_GRAN"), (0, u "I"), (2, u "INSERTIONSORT_THRESHOLD"), (74, u "binarySearch"), (4, u "([II)I"), (175, .class_ 976), (0, u "java/util/Arrays$ArrayItr")] 52

def k5m0 : Method := { name := "<init>", desc := "()V", sig := { parameters := [], returnType := none }, accessFlags := 2, code := none }
def k5c1 : Code := { maxStack := 4, maxLocals := 2, code := jdk_65_method_57_code, exceptionTable := #[], attributes := #[] }
def k5m1 : Method := { name := "binarySearch", desc := "([II)I", sig := { parameters := [(.array .int), .int], returnType := some .int }, accessFlags := 9, code := some k5c1 }
def k5c2 : Code := { maxStack := 2, maxLocals := 8, code := jdk_65_method_59_code, exceptionTable := #[], attributes := #[] }
def k5m2 : Method := { name := "binarySearch0", desc := "([IIII)I", sig := { parameters := [(.array .int), .int, .int, .int], returnType := some .int }, accessFlags := 10, code := some k5c2 }
/-- java/util/Arrays -/
def k5 : Class := { plain "java/util/Arrays" (some 0) with
  accessFlags := 49
  interfaces := #[]
  cf := some (fileOf pool5 14 #[.nestMembers #[975, 375, 113, 74]] #[{ accessFlags := 2, nameIndex := 5, descriptorIndex := 6, attributes := #[] }, { accessFlags := 9, nameIndex := 794, descriptorIndex := 799, attributes := #[] }, { accessFlags := 10, nameIndex := 207, descriptorIndex := 211, attributes := #[] }] 49 2 #[] #[{ accessFlags := 26, nameIndex := 715, descriptorIndex := 716, attributes := #[] }, { accessFlags := 26, nameIndex := 719, descriptorIndex := 716, attributes := #[] }, { accessFlags := 4120, nameIndex := 445, descriptorIndex := 117, attributes := #[] }])
  fields := #[{ name := "MIN_ARRAY_SORT_GRAN", type := .int, accessFlags := 26, slot := 0, constantValue := 0 }, { name := "INSERTIONSORT_THRESHOLD", type := .int, accessFlags := 26, slot := 1, constantValue := 0 }, { name := "$assertionsDisabled", type := .boolean, accessFlags := 4120, slot := 2, constantValue := 0 }]
  methods := #[k5m0, k5m1, k5m2]
  instanceTypes := #[]
  staticTypes := #[.int, .int, .boolean]
  resolved := Array.replicate 1029 none
  statics := none }

def pool6 : Array CpInfo := pool [(1, u "java/lang/Cloneable"), (0, .class_ 1), (0, u "java/lang/Object"), (0, .class_ 3)] 3

/-- java/lang/Cloneable -/
def k6 : Class := { plain "java/lang/Cloneable" (some 0) with
  accessFlags := 1537
  interfaces := #[]
  cf := some (fileOf pool6 2 #[] #[] 1537 4 #[] #[])
  fields := #[]
  methods := #[]
  instanceTypes := #[]
  staticTypes := #[]
  resolved := Array.replicate 8 none
  statics := none }

def pool7 : Array CpInfo := pool [(1, u "java/io/Serializable"), (0, .class_ 1), (0, u "java/lang/Object"), (0, .class_ 3)] 3

/-- java/io/Serializable -/
def k7 : Class := { plain "java/io/Serializable" (some 0) with
  accessFlags := 1537
  interfaces := #[]
  cf := some (fileOf pool7 2 #[] #[] 1537 4 #[] #[])
  fields := #[]
  methods := #[]
  instanceTypes := #[]
  staticTypes := #[]
  resolved := Array.replicate 8 none
  statics := none }

/-- the primitive byte -/
def k8 : Class := { plain "byte" none with kind := .primitive 'B', accessFlags := 0x411 }
/-- [B -/
def k9 : Class := { plain "[B" (some 0) with kind := .array 8 .byte, interfaces := #[6, 7], accessFlags := 1041 }

/-- the primitive int -/
def k10 : Class := { plain "int" none with kind := .primitive 'I', accessFlags := 0x411 }
/-- [I -/
def k11 : Class := { plain "[I" (some 0) with kind := .array 10 .int, interfaces := #[6, 7], accessFlags := 1041 }

def heap : Heap := #[]
def classes : Array Class := #[k0, k1, k2, k3, k4, k5, k6, k7, k8, k9, k10, k11]
def interned : List (Array UInt16 × Addr) := []
def slotsUsed : Nat := 0
def theMethod : MethodId := ⟨1, 1⟩
def args0 : Array Value := #[.int 5, .int 5, .int 5, .int 5, .int 5]
def aboutOver (below : List Frame) : State where
  vm := { classes := classes, interned := interned.toArray }
  heap := heap
  slotsUsed := slotsUsed
  threads := #[{ frames := .invoking theMethod args0 :: below }]
def below0 : List Frame := [.native { method := ⟨0, 0⟩, args := #[] }]
def about1 : State := aboutOver below0
def p0 : Program := .bare "" "" ""
def e0 : Env := launch0.env 0 0 0
theorem w_frames : about1.frames = Frame.invoking theMethod args0 :: below0 := rfl
set_option maxRecDepth 65536 in
theorem w_args : argsFit about1.vm theMethod args0 = true := by decide +kernel
set_option maxRecDepth 65536 in
theorem w_heap : heapFits about1 = true := by decide +kernel
set_option maxRecDepth 65536 in
theorem w_runnable : about1.curStatus? = some .runnable := by decide +kernel
set_option maxRecDepth 65536 in
theorem w_alone : about1.alone = true := by decide +kernel
set_option maxRecDepth 65536 in
theorem w_named : about1.methodNamed? x = some theMethod := by decide +kernel
set_option maxRecDepth 65536 in
theorem w_hears : about1.hears theMethod below0 = true := by decide +kernel
set_option maxRecDepth 65536 in
theorem w_ripe : about1.ripe theMethod args0 below0 = true := by decide +kernel
theorem w_running : about1.status = .running := rfl
set_option maxRecDepth 65536 in
theorem w_room : about1.hasRoom e0.platform room_1 = true :=
  launch0.hasRoom_least _ room_1 (by decide +kernel) (by decide +kernel) (by decide +kernel) (by decide +kernel) (by decide +kernel) (by decide +kernel)
theorem allAtoms_all (ts : List Jvm.Cond) (a : Array Jvm.Value) (st : Jvm.State) : (allAtoms ts).before a st = ts.all (fun c => c.before a st) := by
  induction ts with
  | nil => rfl
  | cons c t ih =>
    show (Jvm.Cond.and c (allAtoms t)).before a st = _
    rw [Jvm.Cond.before_and, ih, List.all_cons]
def words1 : List Jvm.Cond := Jvm.Cond.code x code maxLocals ret :: tables_1
/-- a 'code' word, met by the world's own term for the bytes: nothing is compared byte by byte -/
theorem code_word {y : MethodName} {bytes : ByteArray} {mx : Nat} {rt : Option FieldType} {a : Array Value} {s : State} {m : MethodId} {meth : Method} {c : Code} (h1 : s.methodNamed? y = some m) (h2 : s.vm.method? m = some meth) (h3 : meth.code = some c) (h4 : c.code = bytes)
    (h5 : (c.maxLocals == mx && c.exceptionTable.isEmpty && decide (c.maxStack ≤ mostOperands) && decide (meth.sig.returnType = rt) && !meth.locks && decide (parseMethodDescriptor y.desc = some meth.sig)) = true) : (Jvm.Cond.code y bytes mx rt).before a s = true := by
  simp only [Bool.and_eq_true, beq_iff_eq, Bool.not_eq_true', decide_eq_true_eq] at h5
  obtain ⟨⟨⟨⟨⟨g1, g2⟩, g3⟩, g4⟩, g5⟩, g6⟩ := h5
  simp [Cond.before, Cond.holds, Cond.value, h1, h2, h3, h4, g1, g2, g3, g4, g5, g6]
def isCode : Jvm.Cond → Bool
  | .code _ _ _ _ => true
  | _ => false
theorem all_split {L : List Jvm.Cond} {P : Jvm.Cond → Bool} (h1 : L.all (fun c => isCode c || P c) = true) (h2 : ∀ c ∈ L.filter isCode, P c = true) : L.all P = true := by
  refine List.all_eq_true.mpr fun c hc => ?_
  have h := List.all_eq_true.mp h1 c hc
  rcases Bool.eq_false_or_eq_true (isCode c) with hi | hi
  · exact h2 c (List.mem_filter.mpr ⟨hc, hi⟩)
  · simpa [hi] using h
set_option maxRecDepth 65536 in
theorem w_c0 : (Jvm.Cond.code x code maxLocals ret).before args0 about1 = true := code_word (m := ⟨1, 1⟩) (meth := k1m1) (c := k1c1) (by decide +kernel) rfl rfl rfl (by decide +kernel)
set_option maxRecDepth 65536 in
theorem w_c1 : (Jvm.Cond.code ({ cls := "com/example/premise/premise/regex/RegexProgram$Ranges", name := "<init>", desc := "([I)V" } : Jvm.MethodName) prog_38_method_1_code (2 : Nat) (Option.none : Option Jvm.ClassFile.FieldType)).before args0 about1 = true := code_word (m := ⟨4, 0⟩) (meth := k4m0) (c := k4c0) (by decide +kernel) rfl rfl rfl (by decide +kernel)
set_option maxRecDepth 65536 in
theorem w_c2 : (Jvm.Cond.code ({ cls := "java/lang/Record", name := "<init>", desc := "()V" } : Jvm.MethodName) jdk_30_method_1_code (1 : Nat) (Option.none : Option Jvm.ClassFile.FieldType)).before args0 about1 = true := code_word (m := ⟨2, 0⟩) (meth := k2m0) (c := k2c0) (by decide +kernel) rfl rfl rfl (by decide +kernel)
set_option maxRecDepth 65536 in
theorem w_c3 : (Jvm.Cond.code ({ cls := "java/lang/Object", name := "<init>", desc := "()V" } : Jvm.MethodName) object_method_1_code (1 : Nat) (Option.none : Option Jvm.ClassFile.FieldType)).before args0 about1 = true := code_word (m := ⟨0, 0⟩) (meth := k0m0) (c := k0c0) (by decide +kernel) rfl rfl rfl (by decide +kernel)
set_option maxRecDepth 65536 in
theorem w_c4 : (Jvm.Cond.code ({ cls := "com/example/premise/premise/regex/RegexProgram$Ranges", name := "single", desc := "()I" } : Jvm.MethodName) prog_38_method_3_code (1 : Nat) (Option.some Jvm.ClassFile.FieldType.int)).before args0 about1 = true := code_word (m := ⟨4, 1⟩) (meth := k4m1) (c := k4c1) (by decide +kernel) rfl rfl rfl (by decide +kernel)
set_option maxRecDepth 65536 in
theorem w_c5 : (Jvm.Cond.code ({ cls := "com/example/premise/premise/regex/RegexProgram$Ranges", name := "test", desc := "(I)Z" } : Jvm.MethodName) prog_38_method_4_code (3 : Nat) (Option.some Jvm.ClassFile.FieldType.boolean)).before args0 about1 = true := code_word (m := ⟨4, 2⟩) (meth := k4m2) (c := k4c2) (by decide +kernel) rfl rfl rfl (by decide +kernel)
set_option maxRecDepth 65536 in
theorem w_c6 : (Jvm.Cond.code ({ cls := "java/util/Arrays", name := "binarySearch", desc := "([II)I" } : Jvm.MethodName) jdk_65_method_57_code (2 : Nat) (Option.some Jvm.ClassFile.FieldType.int)).before args0 about1 = true := code_word (m := ⟨5, 1⟩) (meth := k5m1) (c := k5c1) (by decide +kernel) rfl rfl rfl (by decide +kernel)
set_option maxRecDepth 65536 in
theorem w_c7 : (Jvm.Cond.code ({ cls := "java/util/Arrays", name := "binarySearch0", desc := "([IIII)I" } : Jvm.MethodName) jdk_65_method_59_code (8 : Nat) (Option.some Jvm.ClassFile.FieldType.int)).before args0 about1 = true := code_word (m := ⟨5, 2⟩) (meth := k5m2) (c := k5c2) (by decide +kernel) rfl rfl rfl (by decide +kernel)
def codes1 : List Jvm.Cond := [Jvm.Cond.code x code maxLocals ret, Jvm.Cond.code ({ cls := "com/example/premise/premise/regex/RegexProgram$Ranges", name := "<init>", desc := "([I)V" } : Jvm.MethodName) prog_38_method_1_code (2 : Nat) (Option.none : Option Jvm.ClassFile.FieldType), Jvm.Cond.code ({ cls := "java/lang/Record", name := "<init>", desc := "()V" } : Jvm.MethodName) jdk_30_method_1_code (1 : Nat) (Option.none : Option Jvm.ClassFile.FieldType), Jvm.Cond.code ({ cls := "java/lang/Object", name := "<init>", desc := "()V" } : Jvm.MethodName) object_method_1_code (1 : Nat) (Option.none : Option Jvm.ClassFile.FieldType), Jvm.Cond.code ({ cls := "com/example/premise/premise/regex/RegexProgram$Ranges", name := "single", desc := "()I" } : Jvm.MethodName) prog_38_method_3_code (1 : Nat) (Option.some Jvm.ClassFile.FieldType.int), Jvm.Cond.code ({ cls := "com/example/premise/premise/regex/RegexProgram$Ranges", name := "test", desc := "(I)Z" } : Jvm.MethodName) prog_38_method_4_code (3 : Nat) (Option.some Jvm.ClassFile.FieldType.boolean), Jvm.Cond.code ({ cls := "java/util/Arrays", name := "binarySearch", desc := "([II)I" } : Jvm.MethodName) jdk_65_method_57_code (2 : Nat) (Option.some Jvm.ClassFile.FieldType.int), Jvm.Cond.code ({ cls := "java/util/Arrays", name := "binarySearch0", desc := "([IIII)I" } : Jvm.MethodName) jdk_65_method_59_code (8 : Nat) (Option.some Jvm.ClassFile.FieldType.int)]
set_option maxRecDepth 65536 in
theorem codes_eq : words1.filter isCode = codes1 := rfl
theorem w_codes : ∀ c ∈ words1.filter isCode, c.before args0 about1 = true := by
  rw [codes_eq]
  intro c hc
  simp only [codes1, List.mem_cons, List.not_mem_nil, or_false] at hc
  rcases hc with rfl | rfl | rfl | rfl | rfl | rfl | rfl | rfl
  · exact w_c0
  · exact w_c1
  · exact w_c2
  · exact w_c3
  · exact w_c4
  · exact w_c5
  · exact w_c6
  · exact w_c7
set_option maxRecDepth 65536 in
theorem w_t1 : (words1.take 24).all (fun c => isCode c || c.before args0 about1) = true := by decide +kernel
set_option maxRecDepth 65536 in
theorem w_t2 : (words1.drop 24).all (fun c => isCode c || c.before args0 about1) = true := by decide +kernel
theorem w_tables : (allAtoms (Jvm.Cond.code x code maxLocals ret :: tables_1)).before args0 about1 = true := by
  rw [allAtoms_all]
  show words1.all (fun c => c.before args0 about1) = true
  refine all_split ?_ w_codes
  rw [← List.take_append_drop 24 words1, List.all_append, w_t1, w_t2]
  rfl
set_option maxRecDepth 65536 in
theorem w_case : (Jvm.Cond.and given_1 narrow_1).before args0 about1 = true := by decide +kernel
theorem w_applies : (headSpec (Jvm.Cond.code x code maxLocals ret :: tables_1) room_1).applies x e0.platform about1 = true :=
  (Spec.applies_iff w_frames).mpr ⟨w_running, w_runnable, w_alone, w_named, w_hears, w_ripe, w_room, w_tables⟩
theorem atStart : AtStart classFile x code maxLocals ret World_1 tables_1 room_1 Calls_1 rest_1 Pre_1 launch0 p0 e0 about1 theMethod args0 below0 :=
  ⟨lists_1, trivial, launch0.admits_env _ _ _, launch0.least_env, fairChoices_fair.cas, fairChoices_fair.clock, w_frames, w_args, w_heap, w_applies, trivial, trivial, w_case⟩
end start1
theorem witness_1 : WitnessClaimed_1 := ⟨start1.p0, start1.e0, start1.about1, start1.theMethod, start1.args0, start1.below0, start1.atStart⟩
end Jvm.Pilot.@@N@@
