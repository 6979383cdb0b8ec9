import JvmDerived
import JvmDerived.Pilot.@@N@@Statement
import JvmDerived.Pilot.@@N@@Code
set_option linter.unusedVariables false
set_option linter.unusedSimpArgs false
@@BLOCK:NumsL.lean.txt@@
namespace Jvm.Pilot.@@N@@
open Jvm Jvm.ClassFile Sem Op Lib Jvm.Free Jvm.Stand Jvm.LawKit Jvm.RoadKit Bundle Jvm.Pilot.@@N@@.Jvm.D
/-- from here the run comes to a state of which P holds -/
def own_Go (tb : Tables) (e : Env) (below : List Frame) (P : State → Prop) (T : State) (g : JFrame) : Prop := ∃ t, Steps tb e below (T.setTop g) t ∧ P t
theorem own_st {tb : Tables} {e : Env} {below : List Frame} {P : State → Prop} {T T' : State} {g g' : JFrame} (h : ∀ t, Steps tb e below (T'.setTop g') t → Steps tb e below (T.setTop g) t) (k : own_Go tb e below P T' g') : own_Go tb e below P T g := by
  obtain ⟨t, a, b⟩ := k; exact ⟨t, h t a, b⟩
/-- what the end of a body must be -/
def own_P (s : State) (below : List Frame) (Q : Option Value → Heap → List Loc → Prop) (C S : Nat) (t : State) : Prop := t.status = .running ∧ ∃ o, Ended t below o ∧ ∃ v L, o = .returned v ∧ Q v t.heap L ∧ FrameEnd s o t L C S
/-- .. of a body that may have interned -/
def own_PW (s : State) (below : List Frame) (Q : Option Value → Heap → List Loc → Prop) (C S : Nat) (t : State) : Prop := t.status = .running ∧ ∃ o, Ended t below o ∧ ∃ v L, o = .returned v ∧ Q v t.heap L ∧ ReturnedEndW s o t L C S
section own
variable {p : Program} {l : Launch} {e : Env} {R : Room} {s : State} {m : MethodId} {args : Array Value} {below : List Frame} {meth : Method} {c : Code} {T : State} {locs : List Loc} {cells slots : Nat} {Qo : Option Value → Heap → List Loc → Prop} {C' S' : Nat}
theorem own_out (X : Stand p l e R s m args below meth c T locs cells slots) {v : Option Value} {g : JFrame} (hv : meth.sig.returnType = none → v = none) (hlocks : meth.locks = false)
    (hst : ∀ fs, (∀ (f : JFrame) (acts : List Action), f.method = m → f.locked = none → f.entered = [] → (doReturn e (T.setTop f) acts v).1 = T.setFrames fs) → Steps p.tables e below (T.setTop g) (T.setFrames fs))
    (hc : cells ≤ C') (hs : slots ≤ S') (hq : Qo v T.heap locs) : own_Go p.tables e below (own_P s below Qo C' S') T g := by
  obtain ⟨fs, hr, hrun, hended, hW, hsame⟩ := X.leave (v := v) hv hlocks
  exact ⟨_, hst fs hr, hrun, _, hended, _, _, rfl, hq, ⟨_, rfl⟩, hW, hsame.mono hc hs⟩
theorem own_outW {vm0 : Vm} (X : Stand p l e R (s.setVm vm0) m args below meth c T locs cells slots) {k0 : Nat} (hS : s.Since vm0 k0) (hk : k0 ≤ T.heap.size) {v : Option Value} {g : JFrame} (hv : meth.sig.returnType = none → v = none) (hlocks : meth.locks = false)
    (hst : ∀ fs, (∀ (f : JFrame) (acts : List Action), f.method = m → f.locked = none → f.entered = [] → (doReturn e (T.setTop f) acts v).1 = T.setFrames fs) → Steps p.tables e below (T.setTop g) (T.setFrames fs))
    (hc : cells ≤ C') (hs : slots ≤ S') (hq : Qo v T.heap locs) : own_Go p.tables e below (own_PW s below Qo C' S') T g := by
  obtain ⟨fs, hr, hrun, hended, hW⟩ := X.leaveW hS hk (v := v) hv hlocks
  exact ⟨_, hst fs hr, hrun, _, hended, _, _, rfl, hq, hW.1, hW.2.1, hW.2.2.1, hW.2.2.2.mono hc hs⟩
theorem own_retI (X : Stand p l e R s m args below meth c T locs cells slots) (hx : p.tables.exec = Jvm.exec) {pc : Nat} {Ls : Array Slot} {z : Int32} {rest : List Value} (hret : meth.sig.returnType = some .int) (hd : decode c.code pc = .ok (.ireturn, 1)) (fs : List Frame)
    (hl : ∀ (f : JFrame) (acts : List Action), f.method = m → f.locked = none → f.entered = [] → (doReturn e (T.setTop f) acts (some (.int z))).1 = T.setFrames fs) : Steps p.tables e below (T.setTop (mkF m pc Ls (.int z :: rest))) (T.setFrames fs) :=
  retOut X hx hret rfl (Or.inl ⟨rfl, Or.inl rfl, _, rfl⟩) hd hl
theorem own_retZ (X : Stand p l e R s m args below meth c T locs cells slots) (hx : p.tables.exec = Jvm.exec) {pc : Nat} {Ls : Array Slot} {z : Int32} {rest : List Value} (hret : meth.sig.returnType = some .boolean) (hd : decode c.code pc = .ok (.ireturn, 1)) (hb : z = 0 ∨ z = 1) (fs : List Frame)
    (hl : ∀ (f : JFrame) (acts : List Action), f.method = m → f.locked = none → f.entered = [] → (doReturn e (T.setTop f) acts (some (.int z))).1 = T.setFrames fs) : Steps p.tables e below (T.setTop (mkF m pc Ls (.int z :: rest))) (T.setFrames fs) := by
  have e1 : nar .boolean z = z := by rcases hb with rfl | rfl <;> decide
  exact retN X hx hret (Or.inl rfl) hd (by rw [e1]; exact hl)
theorem own_retJ (X : Stand p l e R s m args below meth c T locs cells slots) (hx : p.tables.exec = Jvm.exec) {pc : Nat} {Ls : Array Slot} {z : Int64} {rest : List Value} (hret : meth.sig.returnType = some .long) (hd : decode c.code pc = .ok (.lreturn, 1)) (fs : List Frame)
    (hl : ∀ (f : JFrame) (acts : List Action), f.method = m → f.locked = none → f.entered = [] → (doReturn e (T.setTop f) acts (some (.long z))).1 = T.setFrames fs) : Steps p.tables e below (T.setTop (mkF m pc Ls (.long z :: rest))) (T.setFrames fs) :=
  retOut X hx hret rfl (Or.inr (Or.inl ⟨rfl, rfl, _, rfl⟩)) hd hl
theorem own_retD (X : Stand p l e R s m args below meth c T locs cells slots) (hx : p.tables.exec = Jvm.exec) {pc : Nat} {Ls : Array Slot} {z : UInt64} {rest : List Value} (hret : meth.sig.returnType = some .double) (hd : decode c.code pc = .ok (.dreturn, 1)) (fs : List Frame)
    (hl : ∀ (f : JFrame) (acts : List Action), f.method = m → f.locked = none → f.entered = [] → (doReturn e (T.setTop f) acts (some (.double z))).1 = T.setFrames fs) : Steps p.tables e below (T.setTop (mkF m pc Ls (.double z :: rest))) (T.setFrames fs) :=
  retOut X hx hret rfl (Or.inr (Or.inr (Or.inl ⟨rfl, rfl, _, rfl⟩))) hd hl
theorem own_retR (X : Stand p l e R s m args below meth c T locs cells slots) (hx : p.tables.exec = Jvm.exec) {pc : Nat} {Ls : Array Slot} {w : Value} {t : FieldType} {rest : List Value} (hret : meth.sig.returnType = some t) (ht : t.isReference = true) (hw : w.isRef = true) (hn : narrow t w = w) (hd : decode c.code pc = .ok (.areturn, 1)) (fs : List Frame)
    (hl : ∀ (f : JFrame) (acts : List Action), f.method = m → f.locked = none → f.entered = [] → (doReturn e (T.setTop f) acts (some w)).1 = T.setFrames fs) : Steps p.tables e below (T.setTop (mkF m pc Ls (w :: rest))) (T.setFrames fs) :=
  retOut X hx hret hn (Or.inr (Or.inr (Or.inr (Or.inr ⟨rfl, ht, hw⟩)))) hd hl
end own
/-- a private method is the one that is picked -/
theorem own_selp {s : State} {args : Array Value} {y : MethodName} {n : Nat} (hi : (Jvm.Cond.instantiable y.cls n).before args s = true) (hp : s.PrivateAt y) (hm : (Jvm.Cond.instanceMethod y).before args s = true) (hy : y.cls ≠ "java/lang/invoke/MethodHandle" ∧ y.cls ≠ "java/lang/invoke/VarHandle") : (Jvm.Cond.selects y.cls y y).before args s = true := by
  obtain ⟨c, k, h1, h2, -, h4, -⟩ := Cond.instantiable_spec hi
  exact selects_self_of_private h1 h2 (Bool.or_eq_false_iff.mp h4).1 hp hm hy
theorem own_staK {Z : State} {h h' : Heap} {C n d : String} {v : Value} {ws : List Addr} (F : Sta Z h C n d v) (K : Keep h h' ws) (q : ∀ x ∈ ws, ∃ D, Exa Z h x D) : Sta Z h' C n d v := by
  obtain ⟨cf, i, k, f, st, cell, h1, h2, h3, h4, h5, h6, h7⟩ := F
  refine ⟨cf, i, k, f, st, cell, h1, h2, h3, h4, K.2.1 st cell h5 (fun hm => ?_), h6, h7⟩
  obtain ⟨D, c', k', e1, -, -, e4, -⟩ := q st hm
  cases h5.symm.trans e1
  rw [h6] at e4; cases e4
/-- a reference or null -/
theorem own_refOf {w : Value} (h : w.isRef = true) (c : ¬ w = Value.null) : ∃ a, w = .ref a := (ref_cases h).resolve_left c
theorem own_nW {t : FieldType} {w : Value} (ht : t.isReference = true) (h : w.isRef = true) : narrow t w = w := by
  rcases ref_cases h with rfl | ⟨a, rfl⟩ <;> cases t <;> first | rfl | simp [FieldType.isReference] at ht
theorem own_fW {t : FieldType} {w : Value} (ht : t.isReference = true) (h : w.isRef = true) : fits t w = true := by
  rcases ref_cases h with rfl | ⟨a, rfl⟩ <;> cases t <;> first | rfl | simp [FieldType.isReference] at ht
theorem own_nb {z : Int32} (h : z = 0 ∨ z = 1) : narrow .boolean (.int z) = .int z := by rcases h with rfl | rfl <;> rfl
theorem own_fb {z : Int32} (h : z = 0 ∨ z = 1) : fits .boolean (.int z) = true := by rcases h with rfl | rfl <;> rfl
/-- lcmp and a branch, in one -/
def own_lcv : ClassFile.Cond → Int64 → Int64 → Prop
  | .lt, x, y => x < y | .ge, x, y => ¬ x < y | .gt, x, y => y < x | .le, x, y => ¬ y < x | .eq, x, y => x = y | .ne, x, y => ¬ x = y
theorem own_lcT {cd : ClassFile.Cond} {x y : Int64} (h : own_lcv cd x y) : ifCond.holds cd (lcmpW x y) = true := by
  rw [if0]
  cases cd
  · exact (teq ((lw_eq x y).mpr h)).1
  · exact (feq (fun q => h ((lw_eq x y).mp q))).2
  · exact (tlt ((lw_lt x y).mpr h)).1
  · exact (flt (fun q => h ((lw_lt x y).mp q))).2.1
  · exact (tlt ((lw_gt x y).mpr h)).2.2.1
  · exact (flt (fun q => h ((lw_gt x y).mp q))).2.2.2
theorem own_lcF {cd : ClassFile.Cond} {x y : Int64} (h : ¬ own_lcv cd x y) : ifCond.holds cd (lcmpW x y) = false := by
  rw [if0]
  cases cd
  · exact (feq (fun q => h ((lw_eq x y).mp q))).1
  · exact (teq (Classical.byContradiction fun q => h (fun r => q ((lw_eq x y).mpr r)))).2
  · exact (flt (fun q => h ((lw_lt x y).mp q))).1
  · exact (tlt (Classical.byContradiction fun q => h (fun r => q ((lw_lt x y).mpr r)))).2.1
  · exact (flt (fun q => h ((lw_gt x y).mp q))).2.2.1
  · exact (tlt (Classical.byContradiction fun q => h (fun r => q ((lw_gt x y).mpr r)))).2.2.2

theorem own_pd__I_Lcom_example_parley_parley_dcsp_Outcome_Status_ : parseMethodDescriptor "(I)Lcom/example/parley/parley/dcsp/Outcome$Status;" = some ⟨[.int], some (.object "com/example/parley/parley/dcsp/Outcome$Status")⟩ := by decide +kernel
theorem own_pd__Lcom_example_parley_parley_dcsp_Outcome_Status__I_JJJJJ_V : parseMethodDescriptor "(Lcom/example/parley/parley/dcsp/Outcome$Status;[I[JJJJJ)V" = some ⟨[(.object "com/example/parley/parley/dcsp/Outcome$Status"), (.array .int), (.array .long), .long, .long, .long, .long], none⟩ := by decide +kernel
theorem own_pd___J : parseMethodDescriptor "()J" = some ⟨[], some .long⟩ := by decide +kernel
def own_updI (g : Nat → Int32) (j : Nat) (x : Int32) : Nat → Int32 := fun i => if i = j then x else g i
def own_updJ (g : Nat → Int64) (j : Nat) (x : Int64) : Nat → Int64 := fun i => if i = j then x else g i
theorem own_lt {c : Cell} {j : Int32} (q : ¬ (j < 0 ∨ c.slots.size ≤ j.toNatClampNeg)) : j.toNatClampNeg < c.slots.size := Nat.lt_of_not_le fun y => q (Or.inr y)
/-- an array of her own kind, its content as a function -/
def own_AI (Z : State) (h : Heap) (a : Addr) (k : ClassId) (z : Int32) (g : Nat → Int32) : Prop := ∃ c : Cell, Arr Z h a c .int ∧ c.cls = k ∧ c.slots.size = z.toNatClampNeg ∧ ¬ z < 0 ∧ ∀ i, i < c.slots.size → c.slots[i]? = some (.int (g i))
section own_AI
variable {Z : State} {h h' : Heap} {a b : Addr} {k : ClassId} {z j : Int32} {g : Nat → Int32} {sl : Nat} {v : Value} {ws : List Addr}
theorem own_AI.lt (F : own_AI Z h a k z g) : a < h.size := by obtain ⟨c, A, -⟩ := F; exact A.lt
theorem own_AI.ext (F : own_AI Z h a k z g) (E : Ext h h') : own_AI Z h' a k z g := by obtain ⟨c, A, r⟩ := F; exact ⟨c, A.ext E, r⟩
theorem own_AI.other (F : own_AI Z h b k z g) (W : Wr h h' a sl v) (q : b ≠ a) : own_AI Z h' b k z g := by obtain ⟨c, A, r⟩ := F; exact ⟨c, A.other W q, r⟩
theorem own_AI.keep (F : own_AI Z h a k z g) (K : Keep h h' ws) (q : a ∉ ws) : own_AI Z h' a k z g := by obtain ⟨c, A, r⟩ := F; exact ⟨c, ⟨K.2.1 a c A.1 q, A.2⟩, r⟩
theorem own_AI.new (A : Arr Z h a (newA k .int z) .int) (q : ¬ z < 0) : own_AI Z h a k z (fun _ => 0) := by
  obtain ⟨c, r1, r2, r3, r4, r5, -⟩ := Arv.new A q
  exact ⟨c, r1, r2, r3, r4, fun i hi => by rw [r5 i hi]; rfl⟩
theorem own_AI.set {x : Int32} (F : own_AI Z h a k z g) (W : Wr h h' a j.toNatClampNeg (.int x)) : own_AI Z h' a k z (own_updI g j.toNatClampNeg x) := by
  obtain ⟨c, r1, r2, r3, r4, r5⟩ := F
  refine ⟨_, r1.same W, r2, by rw [sz_set]; exact r3, r4, fun i hi => ?_⟩
  rw [sz_set] at hi
  unfold own_updI
  by_cases u : i = j.toNatClampNeg
  · subst u; simp [Cell.setSlot, hi]
  · rw [if_neg u]; have := r5 i hi; simp only [Cell.setSlot] at this ⊢; rw [Array.getElem?_setIfInBounds_ne (Ne.symm u)]; exact this
theorem own_fitI {c : Cell} (A : Arr Z h a c .int) (H : ∀ i, i < c.slots.size → c.slots[i]? = some (.int (g i))) : FitC Z c := fitC_of A fun i hi v hv => by rw [H i hi] at hv; cases hv; rfl
theorem own_AI.clone {c : Cell} (H : ∀ i, i < c.slots.size → c.slots[i]? = some (.int (g i))) (q : c.cls = k) (S : c.slots.size = z.toNatClampNeg) (N : ¬ z < 0) (A : Arr Z h' b (cloneOf c) .int) : own_AI Z h' b k z g := ⟨_, A, q, S, N, H⟩
end own_AI

/-- an array of her own kind, its content as a function -/
def own_AJ (Z : State) (h : Heap) (a : Addr) (k : ClassId) (z : Int32) (g : Nat → Int64) : Prop := ∃ c : Cell, Arr Z h a c .long ∧ c.cls = k ∧ c.slots.size = z.toNatClampNeg ∧ ¬ z < 0 ∧ ∀ i, i < c.slots.size → c.slots[i]? = some (.long (g i))
section own_AJ
variable {Z : State} {h h' : Heap} {a b : Addr} {k : ClassId} {z j : Int32} {g : Nat → Int64} {sl : Nat} {v : Value} {ws : List Addr}
theorem own_AJ.lt (F : own_AJ Z h a k z g) : a < h.size := by obtain ⟨c, A, -⟩ := F; exact A.lt
theorem own_AJ.ext (F : own_AJ Z h a k z g) (E : Ext h h') : own_AJ Z h' a k z g := by obtain ⟨c, A, r⟩ := F; exact ⟨c, A.ext E, r⟩
theorem own_AJ.other (F : own_AJ Z h b k z g) (W : Wr h h' a sl v) (q : b ≠ a) : own_AJ Z h' b k z g := by obtain ⟨c, A, r⟩ := F; exact ⟨c, A.other W q, r⟩
theorem own_AJ.keep (F : own_AJ Z h a k z g) (K : Keep h h' ws) (q : a ∉ ws) : own_AJ Z h' a k z g := by obtain ⟨c, A, r⟩ := F; exact ⟨c, ⟨K.2.1 a c A.1 q, A.2⟩, r⟩
theorem own_AJ.new (A : Arr Z h a (newA k .long z) .long) (q : ¬ z < 0) : own_AJ Z h a k z (fun _ => 0) := by
  obtain ⟨c, r1, r2, r3, r4, r5, -⟩ := Arv.new A q
  exact ⟨c, r1, r2, r3, r4, fun i hi => by rw [r5 i hi]; rfl⟩
theorem own_AJ.set {x : Int64} (F : own_AJ Z h a k z g) (W : Wr h h' a j.toNatClampNeg (.long x)) : own_AJ Z h' a k z (own_updJ g j.toNatClampNeg x) := by
  obtain ⟨c, r1, r2, r3, r4, r5⟩ := F
  refine ⟨_, r1.same W, r2, by rw [sz_set]; exact r3, r4, fun i hi => ?_⟩
  rw [sz_set] at hi
  unfold own_updJ
  by_cases u : i = j.toNatClampNeg
  · subst u; simp [Cell.setSlot, hi]
  · rw [if_neg u]; have := r5 i hi; simp only [Cell.setSlot] at this ⊢; rw [Array.getElem?_setIfInBounds_ne (Ne.symm u)]; exact this
theorem own_fitJ {c : Cell} (A : Arr Z h a c .long) (H : ∀ i, i < c.slots.size → c.slots[i]? = some (.long (g i))) : FitC Z c := fitC_of A fun i hi v hv => by rw [H i hi] at hv; cases hv; rfl
theorem own_AJ.clone {c : Cell} (H : ∀ i, i < c.slots.size → c.slots[i]? = some (.long (g i))) (q : c.cls = k) (S : c.slots.size = z.toNatClampNeg) (N : ¬ z < 0) (A : Arr Z h' b (cloneOf c) .long) : own_AJ Z h' b k z g := ⟨_, A, q, S, N, H⟩
end own_AJ

theorem d1_0 : decode method_2_code 0 = .ok (.iload_n 0, 1) := by decide +kernel
theorem d1_1 : decode method_2_code 1 = .ok (.ldc 7, 2) := by decide +kernel
theorem d1_3 : decode method_2_code 3 = .ok (.iand, 1) := by decide +kernel
theorem d1_4 : decode method_2_code 4 = .ok (.iconst 3, 1) := by decide +kernel
theorem d1_5 : decode method_2_code 5 = .ok (.irem, 1) := by decide +kernel
theorem d1_6 : decode method_2_code 6 = .ok (.istore_n 1, 1) := by decide +kernel
theorem d1_7 : decode method_2_code 7 = .ok (.iload_n 1, 1) := by decide +kernel
theorem d1_8 : decode method_2_code 8 = .ok (.ifCond .ne 7, 3) := by decide +kernel
theorem d1_11 : decode method_2_code 11 = .ok (.getstatic 8, 3) := by decide +kernel
theorem d1_14 : decode method_2_code 14 = .ok (.areturn, 1) := by decide +kernel
theorem d1_15 : decode method_2_code 15 = .ok (.iload_n 1, 1) := by decide +kernel
theorem d1_16 : decode method_2_code 16 = .ok (.iconst 1, 1) := by decide +kernel
theorem d1_17 : decode method_2_code 17 = .ok (.if_icmp .ne 7, 3) := by decide +kernel
theorem d1_20 : decode method_2_code 20 = .ok (.getstatic 14, 3) := by decide +kernel
theorem d1_23 : decode method_2_code 23 = .ok (.areturn, 1) := by decide +kernel
theorem d1_24 : decode method_2_code 24 = .ok (.getstatic 17, 3) := by decide +kernel
theorem d1_27 : decode method_2_code 27 = .ok (.areturn, 1) := by decide +kernel
theorem own_pn1 : plainName "com/example/parley/parley/dcsp/OutcomeMessagesPinLaw" = true := by first | (simp [plainName, overriddenIn]; done) | decide +kernel
theorem own_ef1 (m : MethodId) (x0 : Int32) : entryFrame m #[(.int x0)] 2 = mkF m 0 #[.val (.int x0), .unset] [] := by first | (simp [entryFrame, mkF, argsToLocals, Value.category]; done) | rfl
def Q1 (Z : State) (x0 : Int32) (sa : Addr) (sb : Addr) (sc : Addr) (h0 : Heap) (n0 : Nat) (v : Option Value) (h : Heap) (L : List Loc) : Prop := ∃ (rs : Addr), v = some (.ref rs) ∧ Fr n0 L ∧ h = h0
set_option maxRecDepth 65536 in
set_option maxHeartbeats 4000000 in
theorem rm1 (l : Launch) (Z : State) (a0 : Array Value) (hw : ∀ d ∈ tables_1, d.before a0 Z = true) (ws : List Jvm.Cond) (x0 : Int32) (sa : Addr) (sb : Addr) (sc : Addr) (h0 : Heap) (n0 : Nat) (Z0 : n0 ≤ h0.size) (F0 : Sta Z h0 "com/example/parley/parley/dcsp/Outcome$Status" "SATISFIABLE" "Lcom/example/parley/parley/dcsp/Outcome$Status;" (.ref sa)) (F1 : Sta Z h0 "com/example/parley/parley/dcsp/Outcome$Status" "UNSATISFIABLE" "Lcom/example/parley/parley/dcsp/Outcome$Status;" (.ref sb)) (F2 : Sta Z h0 "com/example/parley/parley/dcsp/Outcome$Status" "UNKNOWN" "Lcom/example/parley/parley/dcsp/Outcome$Status;" (.ref sc)) :
    MetFree l (⟨"com/example/parley/parley/dcsp/OutcomeMessagesPinLaw", "statusOf", "(I)Lcom/example/parley/parley/dcsp/Outcome$Status;"⟩ : MethodName) (head1 (Jvm.Cond.code (⟨"com/example/parley/parley/dcsp/OutcomeMessagesPinLaw", "statusOf", "(I)Lcom/example/parley/parley/dcsp/Outcome$Status;"⟩ : MethodName) method_2_code 2 (some (.object "com/example/parley/parley/dcsp/Outcome$Status")) :: ws) ({ frames := 0, cells := 0, slots := 0, locals := 0 } : Room)) (fun aW U => aW = #[(.int x0)] ∧ Z.Warmed39 U.vm ∧ U.heap = h0) (fun _ _ _ _ _ => True) (fun _ U o U' => ∃ v L, o = .returned v ∧ Q1 Z x0 sa sb sc h0 n0 v U'.heap L ∧ FrameEnd U o U' L ({ frames := 0, cells := 0, slots := 0, locals := 0 } : Room).cells ({ frames := 0, cells := 0, slots := 0, locals := 0 } : Room).slots) := by
  refine MetFree.of_bodySF (plainFor_of_name own_pn1) hisR ?_
  intro p e s m args below meth c s₁ Bd hml0 hP hK
  obtain ⟨rfl, hZ, hh⟩ := hP
  have hx := Bd.exec
  have hby := Bd.bytes
  have hml : c.maxLocals = 2 := hml0
  have hown : s.vm.findClass "com/example/parley/parley/dcsp/OutcomeMessagesPinLaw" = some m.cls := findClass_of_methodNamed Bd.named
  have hnm := (name_of_methodNamed Bd.named Bd.method).1
  have X0 : Stand p l e ({ frames := 0, cells := 0, slots := 0, locals := 0 } : Room) s m #[(.int x0)] below meth c s₁ [] 0 0 := Stand.of_body Bd
  have e0 : s₁.heap = h0 := by rw [← hh, Bd.state]; rfl
  have N0 := Fr.nil n0
  obtain ⟨Pq, hPq⟩ : ∃ P, P = own_P s below (fun v h L => Q1 Z x0 sa sb sc h0 n0 v h L) ({ frames := 0, cells := 0, slots := 0, locals := 0 } : Room).cells ({ frames := 0, cells := 0, slots := 0, locals := 0 } : Room).slots := ⟨_, rfl⟩
  suffices hgo : own_Go p.tables e below Pq s₁ (mkF m 0 #[.val (.int x0), .unset] []) by
    subst hPq
    obtain ⟨t, k1, k2, o, k3, k4⟩ := hgo
    exact ⟨t, o, castTop (own_ef1 m x0) k1, k2, k3, k4⟩
  show own_Go _ _ _ _ s₁ (mkF m 0 #[.val (.int x0), .unset] [])
  refine own_st (fun t k => XS.iloadN X0.here hx rfl (hb hby d1_0) rfl k) ?_
  show own_Go _ _ _ _ s₁ (mkF m 1 _ [(.int x0)])
  refine own_st (fun t k => X0.ldcInt hx hown (mvT hZ (hw _ (List.mem_of_getElem? (i := 8) rfl))) (g := (mkF m 1 #[.val (.int x0), .unset] [(.int x0)])) rfl (hb hby d1_1) _ k) ?_
  show own_Go _ _ _ _ s₁ (mkF m 3 _ [(.int (2147483647 : Int32)), (.int x0)])
  refine own_st (fun t k => XS.iand X0.here hx rfl (hb hby d1_3) rfl k) ?_
  show own_Go _ _ _ _ s₁ (mkF m 4 _ [(.int (x0 &&& (2147483647 : Int32)))])
  refine own_st (fun t k => XS.iconst X0.here hx rfl (hb hby d1_4) k) ?_
  show own_Go _ _ _ _ s₁ (mkF m 5 _ [(.int (3 : Int32)), (.int (x0 &&& (2147483647 : Int32)))])
  refine own_st (fun t k => iremM X0 hx rfl (hb hby d1_5) rfl (by decide) k) ?_
  show own_Go _ _ _ _ s₁ (mkF m 6 _ [(.int ((x0 &&& (2147483647 : Int32)) % (3 : Int32)))])
  generalize hv1 : ((x0 &&& (2147483647 : Int32)) % (3 : Int32)) = v1
  refine own_st (fun t k => XS.istoreN X0.here hx rfl (hb hby d1_6) rfl (l' := #[.val (.int x0), .val (.int v1)]) rfl k) ?_
  show own_Go _ _ _ _ s₁ (mkF m 7 #[.val (.int x0), .val (.int v1)] [])
  refine own_st (fun t k => XS.iloadN X0.here hx rfl (hb hby d1_7) rfl k) ?_
  show own_Go _ _ _ _ s₁ (mkF m 8 _ [(.int v1)])
  by_cases c2 : v1 = (0 : Int32)
  · skip
    refine own_st (fun t k => XS.ifNo X0.here hx rfl (hb hby d1_8) rfl ((if0 _ _).trans (teq c2).2) k) ?_
    show own_Go _ _ _ _ s₁ (mkF m 11 _ [])
    obtain ⟨T3, X3, e3, st3⟩ := getS2 X0 hx hZ hown (host := "") (Or.inl (hw _ (List.mem_of_getElem? (i := 9) rfl))) Via.refl e0 F0 (g := (mkF m 11 #[.val (.int x0), .val (.int v1)] [])) rfl (hb hby d1_11)
    refine own_st st3 ?_
    show own_Go _ _ _ _ T3 (mkF m 14 _ [(.ref sa)])
    subst hPq
    refine own_out X3 (v := some (.ref sa)) (fun h => by rw [Bd.returns] at h; cases h) Bd.notSynchronized (own_retR X3 hx (t := (.object "com/example/parley/parley/dcsp/Outcome$Status")) Bd.returns rfl rfl rfl (hb hby d1_14)) (by decide) (by decide) ?_
    show Q1 Z x0 sa sb sc h0 n0 _ T3.heap _
    rw [e3]
    exact ⟨sa, rfl, N0, rfl⟩
  · skip
    refine own_st (fun t k => XS.ifYes X0.here hx rfl (pc0 := 8) (pc' := 15) rfl (hb hby d1_8) rfl ((if0 _ _).trans (feq c2).2) (by decide) (by decide) k) ?_
    show own_Go _ _ _ _ s₁ (mkF m 15 _ [])
    refine own_st (fun t k => XS.iloadN X0.here hx rfl (hb hby d1_15) rfl k) ?_
    show own_Go _ _ _ _ s₁ (mkF m 16 _ [(.int v1)])
    refine own_st (fun t k => XS.iconst X0.here hx rfl (hb hby d1_16) k) ?_
    show own_Go _ _ _ _ s₁ (mkF m 17 _ [(.int (1 : Int32)), (.int v1)])
    by_cases c4 : v1 = (1 : Int32)
    · skip
      refine own_st (fun t k => XS.icmpNo X0.here hx rfl (hb hby d1_17) rfl (teq c4).2 k) ?_
      show own_Go _ _ _ _ s₁ (mkF m 20 _ [])
      obtain ⟨T5, X5, e5, st5⟩ := getS2 X0 hx hZ hown (host := "") (Or.inl (hw _ (List.mem_of_getElem? (i := 53) rfl))) Via.refl e0 F1 (g := (mkF m 20 #[.val (.int x0), .val (.int v1)] [])) rfl (hb hby d1_20)
      refine own_st st5 ?_
      show own_Go _ _ _ _ T5 (mkF m 23 _ [(.ref sb)])
      subst hPq
      refine own_out X5 (v := some (.ref sb)) (fun h => by rw [Bd.returns] at h; cases h) Bd.notSynchronized (own_retR X5 hx (t := (.object "com/example/parley/parley/dcsp/Outcome$Status")) Bd.returns rfl rfl rfl (hb hby d1_23)) (by decide) (by decide) ?_
      show Q1 Z x0 sa sb sc h0 n0 _ T5.heap _
      rw [e5]
      exact ⟨sb, rfl, N0, rfl⟩
    · skip
      refine own_st (fun t k => XS.icmpYes X0.here hx rfl (pc0 := 17) (pc' := 24) rfl (hb hby d1_17) rfl (feq c4).2 (by decide) (by decide) k) ?_
      show own_Go _ _ _ _ s₁ (mkF m 24 _ [])
      obtain ⟨T6, X6, e6, st6⟩ := getS2 X0 hx hZ hown (host := "") (Or.inl (hw _ (List.mem_of_getElem? (i := 55) rfl))) Via.refl e0 F2 (g := (mkF m 24 #[.val (.int x0), .val (.int v1)] [])) rfl (hb hby d1_24)
      refine own_st st6 ?_
      show own_Go _ _ _ _ T6 (mkF m 27 _ [(.ref sc)])
      subst hPq
      refine own_out X6 (v := some (.ref sc)) (fun h => by rw [Bd.returns] at h; cases h) Bd.notSynchronized (own_retR X6 hx (t := (.object "com/example/parley/parley/dcsp/Outcome$Status")) Bd.returns rfl rfl rfl (hb hby d1_27)) (by decide) (by decide) ?_
      show Q1 Z x0 sa sb sc h0 n0 _ T6.heap _
      rw [e6]
      exact ⟨sc, rfl, N0, rfl⟩
theorem d2_0 : decode prog_42_method_1_code 0 = .ok (.aload_n 0, 1) := by decide +kernel
theorem d2_1 : decode prog_42_method_1_code 1 = .ok (.invokespecial 1, 3) := by decide +kernel
theorem d2_4 : decode prog_42_method_1_code 4 = .ok (.aload_n 0, 1) := by decide +kernel
theorem d2_5 : decode prog_42_method_1_code 5 = .ok (.aload_n 1, 1) := by decide +kernel
theorem d2_6 : decode prog_42_method_1_code 6 = .ok (.putfield 7, 3) := by decide +kernel
theorem d2_9 : decode prog_42_method_1_code 9 = .ok (.aload_n 0, 1) := by decide +kernel
theorem d2_10 : decode prog_42_method_1_code 10 = .ok (.aload_n 2, 1) := by decide +kernel
theorem d2_11 : decode prog_42_method_1_code 11 = .ok (.invokevirtual 13, 3) := by decide +kernel
theorem d2_14 : decode prog_42_method_1_code 14 = .ok (.checkcast 14, 3) := by decide +kernel
theorem d2_17 : decode prog_42_method_1_code 17 = .ok (.putfield 19, 3) := by decide +kernel
theorem d2_20 : decode prog_42_method_1_code 20 = .ok (.aload_n 0, 1) := by decide +kernel
theorem d2_21 : decode prog_42_method_1_code 21 = .ok (.aload_n 3, 1) := by decide +kernel
theorem d2_22 : decode prog_42_method_1_code 22 = .ok (.invokevirtual 22, 3) := by decide +kernel
theorem d2_25 : decode prog_42_method_1_code 25 = .ok (.checkcast 23, 3) := by decide +kernel
theorem d2_28 : decode prog_42_method_1_code 28 = .ok (.putfield 25, 3) := by decide +kernel
theorem d2_31 : decode prog_42_method_1_code 31 = .ok (.aload_n 0, 1) := by decide +kernel
theorem d2_32 : decode prog_42_method_1_code 32 = .ok (.lload 4, 2) := by decide +kernel
theorem d2_34 : decode prog_42_method_1_code 34 = .ok (.putfield 28, 3) := by decide +kernel
theorem d2_37 : decode prog_42_method_1_code 37 = .ok (.aload_n 0, 1) := by decide +kernel
theorem d2_38 : decode prog_42_method_1_code 38 = .ok (.lload 6, 2) := by decide +kernel
theorem d2_40 : decode prog_42_method_1_code 40 = .ok (.putfield 32, 3) := by decide +kernel
theorem d2_43 : decode prog_42_method_1_code 43 = .ok (.aload_n 0, 1) := by decide +kernel
theorem d2_44 : decode prog_42_method_1_code 44 = .ok (.lload 8, 2) := by decide +kernel
theorem d2_46 : decode prog_42_method_1_code 46 = .ok (.putfield 35, 3) := by decide +kernel
theorem d2_49 : decode prog_42_method_1_code 49 = .ok (.aload_n 0, 1) := by decide +kernel
theorem d2_50 : decode prog_42_method_1_code 50 = .ok (.lload 10, 2) := by decide +kernel
theorem d2_52 : decode prog_42_method_1_code 52 = .ok (.putfield 38, 3) := by decide +kernel
theorem d2_55 : decode prog_42_method_1_code 55 = .ok (.return_, 1) := by decide +kernel
theorem own_pn2 : plainName "com/example/parley/parley/dcsp/Outcome" = true := by first | (simp [plainName, overriddenIn]; done) | decide +kernel
theorem own_ef2 (m : MethodId) (a : Addr) (rs : Addr) (vi : Addr) (vj : Addr) (x0 : Int64) (x1 : Int64) (x2 : Int64) (x3 : Int64) : entryFrame m #[(.ref a), (.ref rs), (.ref vi), (.ref vj), (.long x0), (.long x1), (.long x2), (.long x3)] 12 = mkF m 0 #[.val (.ref a), .val (.ref rs), .val (.ref vi), .val (.ref vj), .val (.long x0), .second, .val (.long x1), .second, .val (.long x2), .second, .val (.long x3), .second] [] := by first | (simp [entryFrame, mkF, argsToLocals, Value.category]; done) | rfl
def Q2 (Z : State) (a : Addr) (rs : Addr) (vi : Addr) (vj : Addr) (x0 : Int64) (x1 : Int64) (x2 : Int64) (x3 : Int64) (u0 : Value) (u1 : Value) (u2 : Value) (u3 : Value) (u4 : Value) (u5 : Value) (u6 : Value) (ki : ClassId) (kj : ClassId) (gi : Nat → Int32) (gj : Nat → Int64) (h0 : Heap) (n0 : Nat) (v : Option Value) (h : Heap) (L : List Loc) : Prop := ∃ (bj : Addr), v = none ∧ Fr n0 L ∧ Keep h0 h [a] ∧ n0 ≤ bj ∧ h0.size ≤ bj ∧ Exa Z h a "com/example/parley/parley/dcsp/Outcome" ∧ Fld Z h a "com/example/parley/parley/dcsp/Outcome" "messages" "[J" (.ref bj) ∧ own_AJ Z h bj kj (4 : Int32) gj
set_option maxRecDepth 65536 in
set_option maxHeartbeats 4000000 in
theorem rm2 (l : Launch) (Z : State) (a0 : Array Value) (hw : ∀ d ∈ tables_1, d.before a0 Z = true) (ws : List Jvm.Cond) (a : Addr) (rs : Addr) (vi : Addr) (vj : Addr) (x0 : Int64) (x1 : Int64) (x2 : Int64) (x3 : Int64) (u0 : Value) (u1 : Value) (u2 : Value) (u3 : Value) (u4 : Value) (u5 : Value) (u6 : Value) (ki : ClassId) (kj : ClassId) (gi : Nat → Int32) (gj : Nat → Int64) (h0 : Heap) (n0 : Nat) (Z0 : n0 ≤ h0.size) (F0 : Exa Z h0 a "com/example/parley/parley/dcsp/Outcome") (F1 : Exa Z h0 vi "[I") (F2 : Exa Z h0 vj "[J") (F3 : own_AI Z h0 vi ki (0 : Int32) gi) (F4 : own_AJ Z h0 vj kj (4 : Int32) gj) (F5 : Fld Z h0 a "com/example/parley/parley/dcsp/Outcome" "status" "Lcom/example/parley/parley/dcsp/Outcome$Status;" u0) (F6 : Fld Z h0 a "com/example/parley/parley/dcsp/Outcome" "values" "[I" u1) (F7 : Fld Z h0 a "com/example/parley/parley/dcsp/Outcome" "messages" "[J" u2) (F8 : Fld Z h0 a "com/example/parley/parley/dcsp/Outcome" "checks" "J" u3) (F9 : Fld Z h0 a "com/example/parley/parley/dcsp/Outcome" "nonConcurrentChecks" "J" u4) (F10 : Fld Z h0 a "com/example/parley/parley/dcsp/Outcome" "viewChecks" "J" u5) (F11 : Fld Z h0 a "com/example/parley/parley/dcsp/Outcome" "time" "J" u6) (n1 : vi ≠ a) (n2 : vj ≠ a) (g_a : n0 ≤ a) :
    MetFree l (⟨"com/example/parley/parley/dcsp/Outcome", "<init>", "(Lcom/example/parley/parley/dcsp/Outcome$Status;[I[JJJJJ)V"⟩ : MethodName) (head1 (Jvm.Cond.code (⟨"com/example/parley/parley/dcsp/Outcome", "<init>", "(Lcom/example/parley/parley/dcsp/Outcome$Status;[I[JJJJJ)V"⟩ : MethodName) prog_42_method_1_code 12 none :: ws) ({ frames := 1, cells := 2, slots := 4, locals := 15 } : Room)) (fun aW U => aW = #[(.ref a), (.ref rs), (.ref vi), (.ref vj), (.long x0), (.long x1), (.long x2), (.long x3)] ∧ Z.Warmed39 U.vm ∧ U.heap = h0) (fun _ _ _ _ _ => True) (fun _ U o U' => ∃ v L, o = .returned v ∧ Q2 Z a rs vi vj x0 x1 x2 x3 u0 u1 u2 u3 u4 u5 u6 ki kj gi gj h0 n0 v U'.heap L ∧ FrameEnd U o U' L ({ frames := 1, cells := 2, slots := 4, locals := 15 } : Room).cells ({ frames := 1, cells := 2, slots := 4, locals := 15 } : Room).slots) := by
  refine MetFree.of_bodySF (plainFor_of_name own_pn2) hisR ?_
  intro p e s m args below meth c s₁ Bd hml0 hP hK
  obtain ⟨rfl, hZ, hh⟩ := hP
  have hx := Bd.exec
  have hby := Bd.bytes
  have hml : c.maxLocals = 12 := hml0
  have hown : s.vm.findClass "com/example/parley/parley/dcsp/Outcome" = some m.cls := findClass_of_methodNamed Bd.named
  have hnm := (name_of_methodNamed Bd.named Bd.method).1
  have X0 : Stand p l e ({ frames := 1, cells := 2, slots := 4, locals := 15 } : Room) s m #[(.ref a), (.ref rs), (.ref vi), (.ref vj), (.long x0), (.long x1), (.long x2), (.long x3)] below meth c s₁ [] 0 0 := Stand.of_body Bd
  have e0 : s₁.heap = h0 := by rw [← hh, Bd.state]; rfl
  have N0 := Fr.nil n0
  have K0 : Keep h0 h0 [a] := Keep.refl _ _
  obtain ⟨Pq, hPq⟩ : ∃ P, P = own_P s below (fun v h L => Q2 Z a rs vi vj x0 x1 x2 x3 u0 u1 u2 u3 u4 u5 u6 ki kj gi gj h0 n0 v h L) ({ frames := 1, cells := 2, slots := 4, locals := 15 } : Room).cells ({ frames := 1, cells := 2, slots := 4, locals := 15 } : Room).slots := ⟨_, rfl⟩
  suffices hgo : own_Go p.tables e below Pq s₁ (mkF m 0 #[.val (.ref a), .val (.ref rs), .val (.ref vi), .val (.ref vj), .val (.long x0), .second, .val (.long x1), .second, .val (.long x2), .second, .val (.long x3), .second] []) by
    subst hPq
    obtain ⟨t, k1, k2, o, k3, k4⟩ := hgo
    exact ⟨t, o, castTop (own_ef2 m a rs vi vj x0 x1 x2 x3) k1, k2, k3, k4⟩
  show own_Go _ _ _ _ s₁ (mkF m 0 #[.val (.ref a), .val (.ref rs), .val (.ref vi), .val (.ref vj), .val (.long x0), .second, .val (.long x1), .second, .val (.long x2), .second, .val (.long x3), .second] [])
  refine own_st (fun t k => XS.aloadN X0.here hx rfl (hb hby d2_0) rfl rfl k) ?_
  show own_Go _ _ _ _ s₁ (mkF m 1 _ [(.ref a)])
  obtain ⟨T1, X1, e1, st1⟩ := initO X0 hx hZ hown (hw _ (List.mem_of_getElem? (i := 16) rfl)) (hw _ (List.mem_of_getElem? (i := 17) rfl)) (hw _ (List.mem_of_getElem? (i := 18) rfl)) e0 (g := (mkF m 1 #[.val (.ref a), .val (.ref rs), .val (.ref vi), .val (.ref vj), .val (.long x0), .second, .val (.long x1), .second, .val (.long x2), .second, .val (.long x3), .second] [(.ref a)])) rfl (by rw [hml]; rfl) rfl (hb hby d2_1) (by decide) (W := 0) (by show 2 * 0 + _ ≤ _; exact Nat.le_of_eq rfl) (by decide)
  refine own_st st1 ?_
  show own_Go _ _ _ _ T1 (mkF m 4 _ [])
  refine own_st (fun t k => XS.aloadN X1.here hx rfl (hb hby d2_4) rfl rfl k) ?_
  show own_Go _ _ _ _ T1 (mkF m 5 _ [(.ref a)])
  refine own_st (fun t k => XS.aloadN X1.here hx rfl (hb hby d2_5) rfl rfl k) ?_
  show own_Go _ _ _ _ T1 (mkF m 6 _ [(.ref rs), (.ref a)])
  obtain ⟨T2, h2, X2, e2, W2, st2⟩ := putF X1 hx hZ hown (host := "") (Or.inl (hw _ (List.mem_of_getElem? (i := 19) rfl))) Via.refl e1 F5 F0 (Or.inr ⟨(hw _ (List.mem_of_getElem? (i := 20) rfl)), rfl, hnm⟩) (hw _ (List.mem_of_getElem? (i := 2) rfl)) (ty := (.object "com/example/parley/parley/dcsp/Outcome$Status")) (by decide) rfl rfl (g := (mkF m 6 #[.val (.ref a), .val (.ref rs), .val (.ref vi), .val (.ref vj), .val (.long x0), .second, .val (.long x1), .second, .val (.long x2), .second, .val (.long x3), .second] [(.ref rs), (.ref a)])) rfl rfl (hb hby d2_6)
  refine own_st st2 ?_
  have f3 := F0.wr W2
  have f4 := F1.wr W2
  have f5 := F2.wr W2
  have f6 := F3.other W2 n1
  have f7 := F4.other W2 n2
  have f8 := F6.other W2 (Or.inr (slot_ne (Or.inr (hw _ (List.mem_of_getElem? (i := 31) rfl))) (Or.inr (hw _ (List.mem_of_getElem? (i := 20) rfl))) (by decide) (t := (.array .int)) (t' := (.object "com/example/parley/parley/dcsp/Outcome$Status")) (by decide) (by decide)))
  have f9 := F7.other W2 (Or.inr (slot_ne (Or.inr (hw _ (List.mem_of_getElem? (i := 39) rfl))) (Or.inr (hw _ (List.mem_of_getElem? (i := 20) rfl))) (by decide) (t := (.array .long)) (t' := (.object "com/example/parley/parley/dcsp/Outcome$Status")) (by decide) (by decide)))
  have f10 := F8.other W2 (Or.inr (slot_ne (Or.inr (hw _ (List.mem_of_getElem? (i := 41) rfl))) (Or.inr (hw _ (List.mem_of_getElem? (i := 20) rfl))) (by decide) (t := .long) (t' := (.object "com/example/parley/parley/dcsp/Outcome$Status")) (by decide) (by decide)))
  have f11 := F9.other W2 (Or.inr (slot_ne (Or.inr (hw _ (List.mem_of_getElem? (i := 43) rfl))) (Or.inr (hw _ (List.mem_of_getElem? (i := 20) rfl))) (by decide) (t := .long) (t' := (.object "com/example/parley/parley/dcsp/Outcome$Status")) (by decide) (by decide)))
  have f12 := F10.other W2 (Or.inr (slot_ne (Or.inr (hw _ (List.mem_of_getElem? (i := 45) rfl))) (Or.inr (hw _ (List.mem_of_getElem? (i := 20) rfl))) (by decide) (t := .long) (t' := (.object "com/example/parley/parley/dcsp/Outcome$Status")) (by decide) (by decide)))
  have f13 := F11.other W2 (Or.inr (slot_ne (Or.inr (hw _ (List.mem_of_getElem? (i := 47) rfl))) (Or.inr (hw _ (List.mem_of_getElem? (i := 20) rfl))) (by decide) (t := .long) (t' := (.object "com/example/parley/parley/dcsp/Outcome$Status")) (by decide) (by decide)))
  have N14 := Fr.snoc X2 N0 g_a
  have Z15 : n0 ≤ h2.size := Nat.le_trans Z0 (Nat.le_of_eq W2.size.symm)
  have K16 : Keep h0 h2 [a] := K0.wr W2 (Or.inl (List.mem_of_getElem? (i := 0) rfl))
  have f17 := F5.same W2
  show own_Go _ _ _ _ T2 (mkF m 9 _ [])
  refine own_st (fun t k => XS.aloadN X2.here hx rfl (hb hby d2_9) rfl rfl k) ?_
  show own_Go _ _ _ _ T2 (mkF m 10 _ [(.ref a)])
  refine own_st (fun t k => XS.aloadN X2.here hx rfl (hb hby d2_10) rfl rfl k) ?_
  show own_Go _ _ _ _ T2 (mkF m 11 _ [(.ref vi), (.ref a)])
  obtain ⟨c18, Ar18, q18, S18, N18, H18⟩ := id f6
  obtain ⟨T18, h18, X18, e18, E18, A18, EA18, st18⟩ := cloneA X2 hx hZ hown (hw _ (List.mem_of_getElem? (i := 21) rfl)) (hw _ (List.mem_of_getElem? (i := 22) rfl)) (hw _ (List.mem_of_getElem? (i := 26) rfl)) (hw _ (List.mem_of_getElem? (i := 24) rfl)) (hw _ (List.mem_of_getElem? (i := 25) rfl)) (hw _ (List.mem_of_getElem? (i := 27) rfl)) e2 Ar18 f4 (own_fitI Ar18 H18) (g := (mkF m 11 #[.val (.ref a), .val (.ref rs), .val (.ref vi), .val (.ref vj), .val (.long x0), .second, .val (.long x1), .second, .val (.long x2), .second, .val (.long x3), .second] [(.ref vi), (.ref a)])) rfl (by rw [hml]; rfl) rfl (hb hby d2_11) (by decide) (W := 1) (cap := 0) (by show 2 * 0 + _ ≤ _; exact Nat.le_of_eq rfl) (by decide) (by rw [S18]; decide) (by decide) (by decide)
  obtain ⟨b18, g18⟩ : ∃ z, z = h2.size := ⟨_, rfl⟩
  rw [← g18] at A18 EA18 st18
  refine own_st st18 ?_
  have ne19 : a ≠ b18 := Nat.ne_of_lt (Nat.lt_of_lt_of_le f3.lt (Nat.le_of_eq g18.symm))
  have ne20 : vi ≠ b18 := Nat.ne_of_lt (Nat.lt_of_lt_of_le f4.lt (Nat.le_of_eq g18.symm))
  have ne21 : vj ≠ b18 := Nat.ne_of_lt (Nat.lt_of_lt_of_le f5.lt (Nat.le_of_eq g18.symm))
  have f22 := f3.ext E18
  have f23 := f4.ext E18
  have f24 := f5.ext E18
  have f25 := f6.ext E18
  have f26 := f7.ext E18
  have f27 := f8.ext E18
  have f28 := f9.ext E18
  have f29 := f10.ext E18
  have f30 := f11.ext E18
  have f31 := f12.ext E18
  have f32 := f13.ext E18
  have f33 := f17.ext E18
  have gx34 : n0 ≤ b18 := Nat.le_trans Z15 (Nat.le_of_eq g18.symm)
  have Z35 : n0 ≤ h18.size := Nat.le_trans Z15 E18.1
  have sz37 : h0.size ≤ b18 := Nat.le_trans K16.1 (Nat.le_of_eq g18.symm)
  have K36 : Keep h0 h18 [a] := K16.ext E18
  have V18 : own_AI Z h18 b18 ki (0 : Int32) gi := own_AI.clone H18 q18 S18 N18 A18
  show own_Go _ _ _ _ T18 (mkF m 14 _ [(.ref b18), (.ref a)])
  obtain ⟨T38, X38, e38, st38⟩ := castY X18 hx hZ hown (hw _ (List.mem_of_getElem? (i := 28) rfl)) e18 (Ins.self EA18) (g := (mkF m 14 #[.val (.ref a), .val (.ref rs), .val (.ref vi), .val (.ref vj), .val (.long x0), .second, .val (.long x1), .second, .val (.long x2), .second, .val (.long x3), .second] [(.ref b18), (.ref a)])) rfl rfl (hb hby d2_14)
  refine own_st st38 ?_
  show own_Go _ _ _ _ T38 (mkF m 17 _ [(.ref b18), (.ref a)])
  obtain ⟨T39, h39, X39, e39, W39, st39⟩ := putF X38 hx hZ hown (host := "") (Or.inl (hw _ (List.mem_of_getElem? (i := 30) rfl))) Via.refl e38 f27 f22 (Or.inr ⟨(hw _ (List.mem_of_getElem? (i := 31) rfl)), rfl, hnm⟩) (hw _ (List.mem_of_getElem? (i := 2) rfl)) (ty := (.array .int)) (by decide) rfl rfl (g := (mkF m 17 #[.val (.ref a), .val (.ref rs), .val (.ref vi), .val (.ref vj), .val (.long x0), .second, .val (.long x1), .second, .val (.long x2), .second, .val (.long x3), .second] [(.ref b18), (.ref a)])) rfl rfl (hb hby d2_17)
  refine own_st st39 ?_
  have f40 := f22.wr W39
  have f41 := f23.wr W39
  have f42 := f24.wr W39
  have f43 := f25.other W39 n1
  have f44 := f26.other W39 n2
  have f45 := f28.other W39 (Or.inr (slot_ne (Or.inr (hw _ (List.mem_of_getElem? (i := 39) rfl))) (Or.inr (hw _ (List.mem_of_getElem? (i := 31) rfl))) (by decide) (t := (.array .long)) (t' := (.array .int)) (by decide) (by decide)))
  have f46 := f29.other W39 (Or.inr (slot_ne (Or.inr (hw _ (List.mem_of_getElem? (i := 41) rfl))) (Or.inr (hw _ (List.mem_of_getElem? (i := 31) rfl))) (by decide) (t := .long) (t' := (.array .int)) (by decide) (by decide)))
  have f47 := f30.other W39 (Or.inr (slot_ne (Or.inr (hw _ (List.mem_of_getElem? (i := 43) rfl))) (Or.inr (hw _ (List.mem_of_getElem? (i := 31) rfl))) (by decide) (t := .long) (t' := (.array .int)) (by decide) (by decide)))
  have f48 := f31.other W39 (Or.inr (slot_ne (Or.inr (hw _ (List.mem_of_getElem? (i := 45) rfl))) (Or.inr (hw _ (List.mem_of_getElem? (i := 31) rfl))) (by decide) (t := .long) (t' := (.array .int)) (by decide) (by decide)))
  have f49 := f32.other W39 (Or.inr (slot_ne (Or.inr (hw _ (List.mem_of_getElem? (i := 47) rfl))) (Or.inr (hw _ (List.mem_of_getElem? (i := 31) rfl))) (by decide) (t := .long) (t' := (.array .int)) (by decide) (by decide)))
  have f50 := f33.other W39 (Or.inr (slot_ne (Or.inr (hw _ (List.mem_of_getElem? (i := 20) rfl))) (Or.inr (hw _ (List.mem_of_getElem? (i := 31) rfl))) (by decide) (t := (.object "com/example/parley/parley/dcsp/Outcome$Status")) (t' := (.array .int)) (by decide) (by decide)))
  have f51 := V18.other W39 (Ne.symm ne19)
  have f52 := EA18.wr W39
  have N53 := Fr.snoc X39 N14 g_a
  have Z54 : n0 ≤ h39.size := Nat.le_trans Z35 (Nat.le_of_eq W39.size.symm)
  have K55 : Keep h0 h39 [a] := K36.wr W39 (Or.inl (List.mem_of_getElem? (i := 0) rfl))
  have f56 := f27.same W39
  show own_Go _ _ _ _ T39 (mkF m 20 _ [])
  refine own_st (fun t k => XS.aloadN X39.here hx rfl (hb hby d2_20) rfl rfl k) ?_
  show own_Go _ _ _ _ T39 (mkF m 21 _ [(.ref a)])
  refine own_st (fun t k => XS.aloadN X39.here hx rfl (hb hby d2_21) rfl rfl k) ?_
  show own_Go _ _ _ _ T39 (mkF m 22 _ [(.ref vj), (.ref a)])
  obtain ⟨c57, Ar57, q57, S57, N57, H57⟩ := id f44
  obtain ⟨T57, h57, X57, e57, E57, A57, EA57, st57⟩ := cloneA X39 hx hZ hown (hw _ (List.mem_of_getElem? (i := 32) rfl)) (hw _ (List.mem_of_getElem? (i := 33) rfl)) (hw _ (List.mem_of_getElem? (i := 26) rfl)) (hw _ (List.mem_of_getElem? (i := 24) rfl)) (hw _ (List.mem_of_getElem? (i := 34) rfl)) (hw _ (List.mem_of_getElem? (i := 35) rfl)) e39 Ar57 f42 (own_fitJ Ar57 H57) (g := (mkF m 22 #[.val (.ref a), .val (.ref rs), .val (.ref vi), .val (.ref vj), .val (.long x0), .second, .val (.long x1), .second, .val (.long x2), .second, .val (.long x3), .second] [(.ref vj), (.ref a)])) rfl (by rw [hml]; rfl) rfl (hb hby d2_22) (by decide) (W := 1) (cap := 4) (by show 2 * 0 + _ ≤ _; exact Nat.le_of_eq rfl) (by decide) (by rw [S57]; decide) (by decide) (by decide)
  obtain ⟨b57, g57⟩ : ∃ z, z = h39.size := ⟨_, rfl⟩
  rw [← g57] at A57 EA57 st57
  refine own_st st57 ?_
  have ne58 : a ≠ b57 := Nat.ne_of_lt (Nat.lt_of_lt_of_le f40.lt (Nat.le_of_eq g57.symm))
  have ne59 : vi ≠ b57 := Nat.ne_of_lt (Nat.lt_of_lt_of_le f41.lt (Nat.le_of_eq g57.symm))
  have ne60 : vj ≠ b57 := Nat.ne_of_lt (Nat.lt_of_lt_of_le f42.lt (Nat.le_of_eq g57.symm))
  have ne61 : b18 ≠ b57 := Nat.ne_of_lt (Nat.lt_of_lt_of_le f51.lt (Nat.le_of_eq g57.symm))
  have f62 := f40.ext E57
  have f63 := f41.ext E57
  have f64 := f42.ext E57
  have f65 := f43.ext E57
  have f66 := f44.ext E57
  have f67 := f45.ext E57
  have f68 := f46.ext E57
  have f69 := f47.ext E57
  have f70 := f48.ext E57
  have f71 := f49.ext E57
  have f72 := f50.ext E57
  have f73 := f51.ext E57
  have f74 := f52.ext E57
  have f75 := f56.ext E57
  have gx76 : n0 ≤ b57 := Nat.le_trans Z54 (Nat.le_of_eq g57.symm)
  have Z77 : n0 ≤ h57.size := Nat.le_trans Z54 E57.1
  have sz79 : h0.size ≤ b57 := Nat.le_trans K55.1 (Nat.le_of_eq g57.symm)
  have K78 : Keep h0 h57 [a] := K55.ext E57
  have V57 : own_AJ Z h57 b57 kj (4 : Int32) gj := own_AJ.clone H57 q57 S57 N57 A57
  show own_Go _ _ _ _ T57 (mkF m 25 _ [(.ref b57), (.ref a)])
  obtain ⟨T80, X80, e80, st80⟩ := castY X57 hx hZ hown (hw _ (List.mem_of_getElem? (i := 36) rfl)) e57 (Ins.self EA57) (g := (mkF m 25 #[.val (.ref a), .val (.ref rs), .val (.ref vi), .val (.ref vj), .val (.long x0), .second, .val (.long x1), .second, .val (.long x2), .second, .val (.long x3), .second] [(.ref b57), (.ref a)])) rfl rfl (hb hby d2_25)
  refine own_st st80 ?_
  show own_Go _ _ _ _ T80 (mkF m 28 _ [(.ref b57), (.ref a)])
  obtain ⟨T81, h81, X81, e81, W81, st81⟩ := putF X80 hx hZ hown (host := "") (Or.inl (hw _ (List.mem_of_getElem? (i := 38) rfl))) Via.refl e80 f67 f62 (Or.inr ⟨(hw _ (List.mem_of_getElem? (i := 39) rfl)), rfl, hnm⟩) (hw _ (List.mem_of_getElem? (i := 2) rfl)) (ty := (.array .long)) (by decide) rfl rfl (g := (mkF m 28 #[.val (.ref a), .val (.ref rs), .val (.ref vi), .val (.ref vj), .val (.long x0), .second, .val (.long x1), .second, .val (.long x2), .second, .val (.long x3), .second] [(.ref b57), (.ref a)])) rfl rfl (hb hby d2_28)
  refine own_st st81 ?_
  have f82 := f62.wr W81
  have f83 := f63.wr W81
  have f84 := f64.wr W81
  have f85 := f65.other W81 n1
  have f86 := f66.other W81 n2
  have f87 := f68.other W81 (Or.inr (slot_ne (Or.inr (hw _ (List.mem_of_getElem? (i := 41) rfl))) (Or.inr (hw _ (List.mem_of_getElem? (i := 39) rfl))) (by decide) (t := .long) (t' := (.array .long)) (by decide) (by decide)))
  have f88 := f69.other W81 (Or.inr (slot_ne (Or.inr (hw _ (List.mem_of_getElem? (i := 43) rfl))) (Or.inr (hw _ (List.mem_of_getElem? (i := 39) rfl))) (by decide) (t := .long) (t' := (.array .long)) (by decide) (by decide)))
  have f89 := f70.other W81 (Or.inr (slot_ne (Or.inr (hw _ (List.mem_of_getElem? (i := 45) rfl))) (Or.inr (hw _ (List.mem_of_getElem? (i := 39) rfl))) (by decide) (t := .long) (t' := (.array .long)) (by decide) (by decide)))
  have f90 := f71.other W81 (Or.inr (slot_ne (Or.inr (hw _ (List.mem_of_getElem? (i := 47) rfl))) (Or.inr (hw _ (List.mem_of_getElem? (i := 39) rfl))) (by decide) (t := .long) (t' := (.array .long)) (by decide) (by decide)))
  have f91 := f72.other W81 (Or.inr (slot_ne (Or.inr (hw _ (List.mem_of_getElem? (i := 20) rfl))) (Or.inr (hw _ (List.mem_of_getElem? (i := 39) rfl))) (by decide) (t := (.object "com/example/parley/parley/dcsp/Outcome$Status")) (t' := (.array .long)) (by decide) (by decide)))
  have f92 := f73.other W81 (Ne.symm ne19)
  have f93 := f74.wr W81
  have f94 := f75.other W81 (Or.inr (slot_ne (Or.inr (hw _ (List.mem_of_getElem? (i := 31) rfl))) (Or.inr (hw _ (List.mem_of_getElem? (i := 39) rfl))) (by decide) (t := (.array .int)) (t' := (.array .long)) (by decide) (by decide)))
  have f95 := V57.other W81 (Ne.symm ne58)
  have f96 := EA57.wr W81
  have N97 := Fr.snoc X81 N53 g_a
  have Z98 : n0 ≤ h81.size := Nat.le_trans Z77 (Nat.le_of_eq W81.size.symm)
  have K99 : Keep h0 h81 [a] := K78.wr W81 (Or.inl (List.mem_of_getElem? (i := 0) rfl))
  have f100 := f67.same W81
  show own_Go _ _ _ _ T81 (mkF m 31 _ [])
  refine own_st (fun t k => XS.aloadN X81.here hx rfl (hb hby d2_31) rfl rfl k) ?_
  show own_Go _ _ _ _ T81 (mkF m 32 _ [(.ref a)])
  refine own_st (fun t k => XS.lload X81.here hx rfl (hb hby d2_32) rfl k) ?_
  show own_Go _ _ _ _ T81 (mkF m 34 _ [(.long x0), (.ref a)])
  obtain ⟨T101, h101, X101, e101, W101, st101⟩ := putF X81 hx hZ hown (host := "") (Or.inl (hw _ (List.mem_of_getElem? (i := 40) rfl))) Via.refl e81 f87 f82 (Or.inr ⟨(hw _ (List.mem_of_getElem? (i := 41) rfl)), rfl, hnm⟩) (hw _ (List.mem_of_getElem? (i := 2) rfl)) (ty := .long) (by decide) rfl rfl (g := (mkF m 34 #[.val (.ref a), .val (.ref rs), .val (.ref vi), .val (.ref vj), .val (.long x0), .second, .val (.long x1), .second, .val (.long x2), .second, .val (.long x3), .second] [(.long x0), (.ref a)])) rfl rfl (hb hby d2_34)
  refine own_st st101 ?_
  have f102 := f82.wr W101
  have f103 := f83.wr W101
  have f104 := f84.wr W101
  have f105 := f85.other W101 n1
  have f106 := f86.other W101 n2
  have f107 := f88.other W101 (Or.inr (slot_ne (Or.inr (hw _ (List.mem_of_getElem? (i := 43) rfl))) (Or.inr (hw _ (List.mem_of_getElem? (i := 41) rfl))) (by decide) (t := .long) (t' := .long) (by decide) (by decide)))
  have f108 := f89.other W101 (Or.inr (slot_ne (Or.inr (hw _ (List.mem_of_getElem? (i := 45) rfl))) (Or.inr (hw _ (List.mem_of_getElem? (i := 41) rfl))) (by decide) (t := .long) (t' := .long) (by decide) (by decide)))
  have f109 := f90.other W101 (Or.inr (slot_ne (Or.inr (hw _ (List.mem_of_getElem? (i := 47) rfl))) (Or.inr (hw _ (List.mem_of_getElem? (i := 41) rfl))) (by decide) (t := .long) (t' := .long) (by decide) (by decide)))
  have f110 := f91.other W101 (Or.inr (slot_ne (Or.inr (hw _ (List.mem_of_getElem? (i := 20) rfl))) (Or.inr (hw _ (List.mem_of_getElem? (i := 41) rfl))) (by decide) (t := (.object "com/example/parley/parley/dcsp/Outcome$Status")) (t' := .long) (by decide) (by decide)))
  have f111 := f92.other W101 (Ne.symm ne19)
  have f112 := f93.wr W101
  have f113 := f94.other W101 (Or.inr (slot_ne (Or.inr (hw _ (List.mem_of_getElem? (i := 31) rfl))) (Or.inr (hw _ (List.mem_of_getElem? (i := 41) rfl))) (by decide) (t := (.array .int)) (t' := .long) (by decide) (by decide)))
  have f114 := f95.other W101 (Ne.symm ne58)
  have f115 := f96.wr W101
  have f116 := f100.other W101 (Or.inr (slot_ne (Or.inr (hw _ (List.mem_of_getElem? (i := 39) rfl))) (Or.inr (hw _ (List.mem_of_getElem? (i := 41) rfl))) (by decide) (t := (.array .long)) (t' := .long) (by decide) (by decide)))
  have N117 := Fr.snoc X101 N97 g_a
  have Z118 : n0 ≤ h101.size := Nat.le_trans Z98 (Nat.le_of_eq W101.size.symm)
  have K119 : Keep h0 h101 [a] := K99.wr W101 (Or.inl (List.mem_of_getElem? (i := 0) rfl))
  have f120 := f87.same W101
  show own_Go _ _ _ _ T101 (mkF m 37 _ [])
  refine own_st (fun t k => XS.aloadN X101.here hx rfl (hb hby d2_37) rfl rfl k) ?_
  show own_Go _ _ _ _ T101 (mkF m 38 _ [(.ref a)])
  refine own_st (fun t k => XS.lload X101.here hx rfl (hb hby d2_38) rfl k) ?_
  show own_Go _ _ _ _ T101 (mkF m 40 _ [(.long x1), (.ref a)])
  obtain ⟨T121, h121, X121, e121, W121, st121⟩ := putF X101 hx hZ hown (host := "") (Or.inl (hw _ (List.mem_of_getElem? (i := 42) rfl))) Via.refl e101 f107 f102 (Or.inr ⟨(hw _ (List.mem_of_getElem? (i := 43) rfl)), rfl, hnm⟩) (hw _ (List.mem_of_getElem? (i := 2) rfl)) (ty := .long) (by decide) rfl rfl (g := (mkF m 40 #[.val (.ref a), .val (.ref rs), .val (.ref vi), .val (.ref vj), .val (.long x0), .second, .val (.long x1), .second, .val (.long x2), .second, .val (.long x3), .second] [(.long x1), (.ref a)])) rfl rfl (hb hby d2_40)
  refine own_st st121 ?_
  have f122 := f102.wr W121
  have f123 := f103.wr W121
  have f124 := f104.wr W121
  have f125 := f105.other W121 n1
  have f126 := f106.other W121 n2
  have f127 := f108.other W121 (Or.inr (slot_ne (Or.inr (hw _ (List.mem_of_getElem? (i := 45) rfl))) (Or.inr (hw _ (List.mem_of_getElem? (i := 43) rfl))) (by decide) (t := .long) (t' := .long) (by decide) (by decide)))
  have f128 := f109.other W121 (Or.inr (slot_ne (Or.inr (hw _ (List.mem_of_getElem? (i := 47) rfl))) (Or.inr (hw _ (List.mem_of_getElem? (i := 43) rfl))) (by decide) (t := .long) (t' := .long) (by decide) (by decide)))
  have f129 := f110.other W121 (Or.inr (slot_ne (Or.inr (hw _ (List.mem_of_getElem? (i := 20) rfl))) (Or.inr (hw _ (List.mem_of_getElem? (i := 43) rfl))) (by decide) (t := (.object "com/example/parley/parley/dcsp/Outcome$Status")) (t' := .long) (by decide) (by decide)))
  have f130 := f111.other W121 (Ne.symm ne19)
  have f131 := f112.wr W121
  have f132 := f113.other W121 (Or.inr (slot_ne (Or.inr (hw _ (List.mem_of_getElem? (i := 31) rfl))) (Or.inr (hw _ (List.mem_of_getElem? (i := 43) rfl))) (by decide) (t := (.array .int)) (t' := .long) (by decide) (by decide)))
  have f133 := f114.other W121 (Ne.symm ne58)
  have f134 := f115.wr W121
  have f135 := f116.other W121 (Or.inr (slot_ne (Or.inr (hw _ (List.mem_of_getElem? (i := 39) rfl))) (Or.inr (hw _ (List.mem_of_getElem? (i := 43) rfl))) (by decide) (t := (.array .long)) (t' := .long) (by decide) (by decide)))
  have f136 := f120.other W121 (Or.inr (slot_ne (Or.inr (hw _ (List.mem_of_getElem? (i := 41) rfl))) (Or.inr (hw _ (List.mem_of_getElem? (i := 43) rfl))) (by decide) (t := .long) (t' := .long) (by decide) (by decide)))
  have N137 := Fr.snoc X121 N117 g_a
  have Z138 : n0 ≤ h121.size := Nat.le_trans Z118 (Nat.le_of_eq W121.size.symm)
  have K139 : Keep h0 h121 [a] := K119.wr W121 (Or.inl (List.mem_of_getElem? (i := 0) rfl))
  have f140 := f107.same W121
  show own_Go _ _ _ _ T121 (mkF m 43 _ [])
  refine own_st (fun t k => XS.aloadN X121.here hx rfl (hb hby d2_43) rfl rfl k) ?_
  show own_Go _ _ _ _ T121 (mkF m 44 _ [(.ref a)])
  refine own_st (fun t k => XS.lload X121.here hx rfl (hb hby d2_44) rfl k) ?_
  show own_Go _ _ _ _ T121 (mkF m 46 _ [(.long x2), (.ref a)])
  obtain ⟨T141, h141, X141, e141, W141, st141⟩ := putF X121 hx hZ hown (host := "") (Or.inl (hw _ (List.mem_of_getElem? (i := 44) rfl))) Via.refl e121 f127 f122 (Or.inr ⟨(hw _ (List.mem_of_getElem? (i := 45) rfl)), rfl, hnm⟩) (hw _ (List.mem_of_getElem? (i := 2) rfl)) (ty := .long) (by decide) rfl rfl (g := (mkF m 46 #[.val (.ref a), .val (.ref rs), .val (.ref vi), .val (.ref vj), .val (.long x0), .second, .val (.long x1), .second, .val (.long x2), .second, .val (.long x3), .second] [(.long x2), (.ref a)])) rfl rfl (hb hby d2_46)
  refine own_st st141 ?_
  have f142 := f122.wr W141
  have f143 := f123.wr W141
  have f144 := f124.wr W141
  have f145 := f125.other W141 n1
  have f146 := f126.other W141 n2
  have f147 := f128.other W141 (Or.inr (slot_ne (Or.inr (hw _ (List.mem_of_getElem? (i := 47) rfl))) (Or.inr (hw _ (List.mem_of_getElem? (i := 45) rfl))) (by decide) (t := .long) (t' := .long) (by decide) (by decide)))
  have f148 := f129.other W141 (Or.inr (slot_ne (Or.inr (hw _ (List.mem_of_getElem? (i := 20) rfl))) (Or.inr (hw _ (List.mem_of_getElem? (i := 45) rfl))) (by decide) (t := (.object "com/example/parley/parley/dcsp/Outcome$Status")) (t' := .long) (by decide) (by decide)))
  have f149 := f130.other W141 (Ne.symm ne19)
  have f150 := f131.wr W141
  have f151 := f132.other W141 (Or.inr (slot_ne (Or.inr (hw _ (List.mem_of_getElem? (i := 31) rfl))) (Or.inr (hw _ (List.mem_of_getElem? (i := 45) rfl))) (by decide) (t := (.array .int)) (t' := .long) (by decide) (by decide)))
  have f152 := f133.other W141 (Ne.symm ne58)
  have f153 := f134.wr W141
  have f154 := f135.other W141 (Or.inr (slot_ne (Or.inr (hw _ (List.mem_of_getElem? (i := 39) rfl))) (Or.inr (hw _ (List.mem_of_getElem? (i := 45) rfl))) (by decide) (t := (.array .long)) (t' := .long) (by decide) (by decide)))
  have f155 := f136.other W141 (Or.inr (slot_ne (Or.inr (hw _ (List.mem_of_getElem? (i := 41) rfl))) (Or.inr (hw _ (List.mem_of_getElem? (i := 45) rfl))) (by decide) (t := .long) (t' := .long) (by decide) (by decide)))
  have f156 := f140.other W141 (Or.inr (slot_ne (Or.inr (hw _ (List.mem_of_getElem? (i := 43) rfl))) (Or.inr (hw _ (List.mem_of_getElem? (i := 45) rfl))) (by decide) (t := .long) (t' := .long) (by decide) (by decide)))
  have N157 := Fr.snoc X141 N137 g_a
  have Z158 : n0 ≤ h141.size := Nat.le_trans Z138 (Nat.le_of_eq W141.size.symm)
  have K159 : Keep h0 h141 [a] := K139.wr W141 (Or.inl (List.mem_of_getElem? (i := 0) rfl))
  have f160 := f127.same W141
  show own_Go _ _ _ _ T141 (mkF m 49 _ [])
  refine own_st (fun t k => XS.aloadN X141.here hx rfl (hb hby d2_49) rfl rfl k) ?_
  show own_Go _ _ _ _ T141 (mkF m 50 _ [(.ref a)])
  refine own_st (fun t k => XS.lload X141.here hx rfl (hb hby d2_50) rfl k) ?_
  show own_Go _ _ _ _ T141 (mkF m 52 _ [(.long x3), (.ref a)])
  obtain ⟨T161, h161, X161, e161, W161, st161⟩ := putF X141 hx hZ hown (host := "") (Or.inl (hw _ (List.mem_of_getElem? (i := 46) rfl))) Via.refl e141 f147 f142 (Or.inr ⟨(hw _ (List.mem_of_getElem? (i := 47) rfl)), rfl, hnm⟩) (hw _ (List.mem_of_getElem? (i := 2) rfl)) (ty := .long) (by decide) rfl rfl (g := (mkF m 52 #[.val (.ref a), .val (.ref rs), .val (.ref vi), .val (.ref vj), .val (.long x0), .second, .val (.long x1), .second, .val (.long x2), .second, .val (.long x3), .second] [(.long x3), (.ref a)])) rfl rfl (hb hby d2_52)
  refine own_st st161 ?_
  have f162 := f142.wr W161
  have f163 := f143.wr W161
  have f164 := f144.wr W161
  have f165 := f145.other W161 n1
  have f166 := f146.other W161 n2
  have f167 := f148.other W161 (Or.inr (slot_ne (Or.inr (hw _ (List.mem_of_getElem? (i := 20) rfl))) (Or.inr (hw _ (List.mem_of_getElem? (i := 47) rfl))) (by decide) (t := (.object "com/example/parley/parley/dcsp/Outcome$Status")) (t' := .long) (by decide) (by decide)))
  have f168 := f149.other W161 (Ne.symm ne19)
  have f169 := f150.wr W161
  have f170 := f151.other W161 (Or.inr (slot_ne (Or.inr (hw _ (List.mem_of_getElem? (i := 31) rfl))) (Or.inr (hw _ (List.mem_of_getElem? (i := 47) rfl))) (by decide) (t := (.array .int)) (t' := .long) (by decide) (by decide)))
  have f171 := f152.other W161 (Ne.symm ne58)
  have f172 := f153.wr W161
  have f173 := f154.other W161 (Or.inr (slot_ne (Or.inr (hw _ (List.mem_of_getElem? (i := 39) rfl))) (Or.inr (hw _ (List.mem_of_getElem? (i := 47) rfl))) (by decide) (t := (.array .long)) (t' := .long) (by decide) (by decide)))
  have f174 := f155.other W161 (Or.inr (slot_ne (Or.inr (hw _ (List.mem_of_getElem? (i := 41) rfl))) (Or.inr (hw _ (List.mem_of_getElem? (i := 47) rfl))) (by decide) (t := .long) (t' := .long) (by decide) (by decide)))
  have f175 := f156.other W161 (Or.inr (slot_ne (Or.inr (hw _ (List.mem_of_getElem? (i := 43) rfl))) (Or.inr (hw _ (List.mem_of_getElem? (i := 47) rfl))) (by decide) (t := .long) (t' := .long) (by decide) (by decide)))
  have f176 := f160.other W161 (Or.inr (slot_ne (Or.inr (hw _ (List.mem_of_getElem? (i := 45) rfl))) (Or.inr (hw _ (List.mem_of_getElem? (i := 47) rfl))) (by decide) (t := .long) (t' := .long) (by decide) (by decide)))
  have N177 := Fr.snoc X161 N157 g_a
  have Z178 : n0 ≤ h161.size := Nat.le_trans Z158 (Nat.le_of_eq W161.size.symm)
  have K179 : Keep h0 h161 [a] := K159.wr W161 (Or.inl (List.mem_of_getElem? (i := 0) rfl))
  have f180 := f147.same W161
  show own_Go _ _ _ _ T161 (mkF m 55 _ [])
  subst hPq
  refine own_out X161 (v := none) (fun _ => rfl) Bd.notSynchronized (fun fs hr => X161.returnOut hx Bd.returns (hb hby d2_55) hr) (by decide) (by decide) ?_
  show Q2 Z a rs vi vj x0 x1 x2 x3 u0 u1 u2 u3 u4 u5 u6 ki kj gi gj h0 n0 _ T161.heap _
  rw [e161]
  exact ⟨b57, rfl, N177, K179, gx76, sz79, f162, f173, f171⟩
def own_sum (gf : Nat → Int64) : Int64 := (((((0 : Int64) + (gf 0)) + (gf 1)) + (gf 2)) + (gf 3))
theorem d3_0 : decode prog_42_method_5_code 0 = .ok (.lconst 0, 1) := by decide +kernel
theorem d3_1 : decode prog_42_method_5_code 1 = .ok (.lstore_n 1, 1) := by decide +kernel
theorem d3_2 : decode prog_42_method_5_code 2 = .ok (.aload_n 0, 1) := by decide +kernel
theorem d3_3 : decode prog_42_method_5_code 3 = .ok (.getfield 25, 3) := by decide +kernel
theorem d3_6 : decode prog_42_method_5_code 6 = .ok (.astore_n 3, 1) := by decide +kernel
theorem d3_7 : decode prog_42_method_5_code 7 = .ok (.aload_n 3, 1) := by decide +kernel
theorem d3_8 : decode prog_42_method_5_code 8 = .ok (.arraylength, 1) := by decide +kernel
theorem d3_9 : decode prog_42_method_5_code 9 = .ok (.istore 4, 2) := by decide +kernel
theorem d3_11 : decode prog_42_method_5_code 11 = .ok (.iconst 0, 1) := by decide +kernel
theorem d3_12 : decode prog_42_method_5_code 12 = .ok (.istore 5, 2) := by decide +kernel
theorem d3_14 : decode prog_42_method_5_code 14 = .ok (.iload 5, 2) := by decide +kernel
theorem d3_16 : decode prog_42_method_5_code 16 = .ok (.iload 4, 2) := by decide +kernel
theorem d3_18 : decode prog_42_method_5_code 18 = .ok (.if_icmp .ge 20, 3) := by decide +kernel
theorem d3_21 : decode prog_42_method_5_code 21 = .ok (.aload_n 3, 1) := by decide +kernel
theorem d3_22 : decode prog_42_method_5_code 22 = .ok (.iload 5, 2) := by decide +kernel
theorem d3_24 : decode prog_42_method_5_code 24 = .ok (.laload, 1) := by decide +kernel
theorem d3_25 : decode prog_42_method_5_code 25 = .ok (.lstore 6, 2) := by decide +kernel
theorem d3_27 : decode prog_42_method_5_code 27 = .ok (.lload_n 1, 1) := by decide +kernel
theorem d3_28 : decode prog_42_method_5_code 28 = .ok (.lload 6, 2) := by decide +kernel
theorem d3_30 : decode prog_42_method_5_code 30 = .ok (.ladd, 1) := by decide +kernel
theorem d3_31 : decode prog_42_method_5_code 31 = .ok (.lstore_n 1, 1) := by decide +kernel
theorem d3_32 : decode prog_42_method_5_code 32 = .ok (.iinc 5 1, 3) := by decide +kernel
theorem d3_35 : decode prog_42_method_5_code 35 = .ok (.goto (-21), 3) := by decide +kernel
theorem d3_38 : decode prog_42_method_5_code 38 = .ok (.lload_n 1, 1) := by decide +kernel
theorem d3_39 : decode prog_42_method_5_code 39 = .ok (.lreturn, 1) := by decide +kernel
theorem own_pn3 : plainName "com/example/parley/parley/dcsp/Outcome" = true := by first | (simp [plainName, overriddenIn]; done) | decide +kernel
theorem own_ef3 (m : MethodId) (a : Addr) : entryFrame m #[(.ref a)] 8 = mkF m 0 #[.val (.ref a), .unset, .unset, .unset, .unset, .unset, .unset, .unset] [] := by first | (simp [entryFrame, mkF, argsToLocals, Value.category]; done) | rfl
def Q3 (Z : State) (a : Addr) (ar : Addr) (kc : ClassId) (gf : Nat → Int64) (h0 : Heap) (n0 : Nat) (v : Option Value) (h : Heap) (L : List Loc) : Prop := v = some (.long (own_sum gf)) ∧ Fr n0 L ∧ h = h0
set_option maxRecDepth 65536 in
set_option maxHeartbeats 4000000 in
theorem rm3 (l : Launch) (Z : State) (a0 : Array Value) (hw : ∀ d ∈ tables_1, d.before a0 Z = true) (ws : List Jvm.Cond) (a : Addr) (ar : Addr) (kc : ClassId) (gf : Nat → Int64) (h0 : Heap) (n0 : Nat) (Z0 : n0 ≤ h0.size) (F0 : Exa Z h0 a "com/example/parley/parley/dcsp/Outcome") (F1 : Fld Z h0 a "com/example/parley/parley/dcsp/Outcome" "messages" "[J" (.ref ar)) (F2 : own_AJ Z h0 ar kc (4 : Int32) gf) :
    MetFree l (⟨"com/example/parley/parley/dcsp/Outcome", "messages", "()J"⟩ : MethodName) (head1 (Jvm.Cond.code (⟨"com/example/parley/parley/dcsp/Outcome", "messages", "()J"⟩ : MethodName) prog_42_method_5_code 8 (some .long) :: ws) ({ frames := 0, cells := 0, slots := 0, locals := 0 } : Room)) (fun aW U => aW = #[(.ref a)] ∧ Z.Warmed39 U.vm ∧ U.heap = h0) (fun _ _ _ _ _ => True) (fun _ U o U' => ∃ v L, o = .returned v ∧ Q3 Z a ar kc gf h0 n0 v U'.heap L ∧ FrameEnd U o U' L ({ frames := 0, cells := 0, slots := 0, locals := 0 } : Room).cells ({ frames := 0, cells := 0, slots := 0, locals := 0 } : Room).slots) := by
  refine MetFree.of_bodySF (plainFor_of_name own_pn3) hisR ?_
  intro p e s m args below meth c s₁ Bd hml0 hP hK
  obtain ⟨rfl, hZ, hh⟩ := hP
  have hx := Bd.exec
  have hby := Bd.bytes
  have hml : c.maxLocals = 8 := hml0
  have hown : s.vm.findClass "com/example/parley/parley/dcsp/Outcome" = some m.cls := findClass_of_methodNamed Bd.named
  have hnm := (name_of_methodNamed Bd.named Bd.method).1
  have X0 : Stand p l e ({ frames := 0, cells := 0, slots := 0, locals := 0 } : Room) s m #[(.ref a)] below meth c s₁ [] 0 0 := Stand.of_body Bd
  have e0 : s₁.heap = h0 := by rw [← hh, Bd.state]; rfl
  have N0 := Fr.nil n0
  obtain ⟨Pq, hPq⟩ : ∃ P, P = own_P s below (fun v h L => Q3 Z a ar kc gf h0 n0 v h L) ({ frames := 0, cells := 0, slots := 0, locals := 0 } : Room).cells ({ frames := 0, cells := 0, slots := 0, locals := 0 } : Room).slots := ⟨_, rfl⟩
  suffices hgo : own_Go p.tables e below Pq s₁ (mkF m 0 #[.val (.ref a), .unset, .unset, .unset, .unset, .unset, .unset, .unset] []) by
    subst hPq
    obtain ⟨t, k1, k2, o, k3, k4⟩ := hgo
    exact ⟨t, o, castTop (own_ef3 m a) k1, k2, k3, k4⟩
  show own_Go _ _ _ _ s₁ (mkF m 0 #[.val (.ref a), .unset, .unset, .unset, .unset, .unset, .unset, .unset] [])
  refine own_st (fun t k => XS.lconst X0.here hx rfl (hb hby d3_0) k) ?_
  show own_Go _ _ _ _ s₁ (mkF m 1 _ [(.long (0 : Int64))])
  refine own_st (fun t k => XS.lstoreN X0.here hx rfl (hb hby d3_1) rfl (l' := #[.val (.ref a), .val (.long (0 : Int64)), .second, .unset, .unset, .unset, .unset, .unset]) rfl k) ?_
  show own_Go _ _ _ _ s₁ (mkF m 2 #[.val (.ref a), .val (.long (0 : Int64)), .second, .unset, .unset, .unset, .unset, .unset] [])
  refine own_st (fun t k => XS.aloadN X0.here hx rfl (hb hby d3_2) rfl rfl k) ?_
  show own_Go _ _ _ _ s₁ (mkF m 3 _ [(.ref a)])
  obtain ⟨T1, X1, e1, st1⟩ := getF X0 hx hZ hown (host := "") (Or.inl (hw _ (List.mem_of_getElem? (i := 38) rfl))) Via.refl e0 F1 (g := (mkF m 3 #[.val (.ref a), .val (.long (0 : Int64)), .second, .unset, .unset, .unset, .unset, .unset] [(.ref a)])) rfl rfl (hb hby d3_3)
  refine own_st st1 ?_
  show own_Go _ _ _ _ T1 (mkF m 6 _ [(.ref ar)])
  refine own_st (fun t k => XS.astoreN X1.here hx rfl (hb hby d3_6) rfl rfl (l' := #[.val (.ref a), .val (.long (0 : Int64)), .second, .val (.ref ar), .unset, .unset, .unset, .unset]) rfl k) ?_
  show own_Go _ _ _ _ T1 (mkF m 7 #[.val (.ref a), .val (.long (0 : Int64)), .second, .val (.ref ar), .unset, .unset, .unset, .unset] [])
  refine own_st (fun t k => XS.aloadN X1.here hx rfl (hb hby d3_7) rfl rfl k) ?_
  show own_Go _ _ _ _ T1 (mkF m 8 _ [(.ref ar)])
  obtain ⟨c2, Ar2, q2, S2, N2, H2⟩ := id F2
  refine own_st (fun t k => X1.arraylength hx (by rw [e1]; exact Ar2.1) (State.isArrayOf_alike hZ.alike Ar2.2.1) (g := (mkF m 8 #[.val (.ref a), .val (.long (0 : Int64)), .second, .val (.ref ar), .unset, .unset, .unset, .unset] [(.ref ar)])) rfl rfl (hb hby d3_8) _ k) ?_
  rw [len_of S2 N2]
  show own_Go _ _ _ _ T1 (mkF m 9 _ [(.int (4 : Int32))])
  refine own_st (fun t k => XS.istore X1.here hx rfl (hb hby d3_9) rfl (l' := #[.val (.ref a), .val (.long (0 : Int64)), .second, .val (.ref ar), .val (.int (4 : Int32)), .unset, .unset, .unset]) rfl k) ?_
  show own_Go _ _ _ _ T1 (mkF m 11 #[.val (.ref a), .val (.long (0 : Int64)), .second, .val (.ref ar), .val (.int (4 : Int32)), .unset, .unset, .unset] [])
  refine own_st (fun t k => XS.iconst X1.here hx rfl (hb hby d3_11) k) ?_
  show own_Go _ _ _ _ T1 (mkF m 12 _ [(.int (0 : Int32))])
  refine own_st (fun t k => XS.istore X1.here hx rfl (hb hby d3_12) rfl (l' := #[.val (.ref a), .val (.long (0 : Int64)), .second, .val (.ref ar), .val (.int (4 : Int32)), .val (.int (0 : Int32)), .unset, .unset]) rfl k) ?_
  show own_Go _ _ _ _ T1 (mkF m 14 #[.val (.ref a), .val (.long (0 : Int64)), .second, .val (.ref ar), .val (.int (4 : Int32)), .val (.int (0 : Int32)), .unset, .unset] [])
  refine own_st (fun t k => XS.iload X1.here hx rfl (hb hby d3_14) rfl k) ?_
  show own_Go _ _ _ _ T1 (mkF m 16 _ [(.int (0 : Int32))])
  refine own_st (fun t k => XS.iload X1.here hx rfl (hb hby d3_16) rfl k) ?_
  show own_Go _ _ _ _ T1 (mkF m 18 _ [(.int (4 : Int32)), (.int (0 : Int32))])
  refine own_st (fun t k => XS.icmpNo X1.here hx rfl (hb hby d3_18) rfl (tlt (by decide : ((0 : Int32) < (4 : Int32)))).2.1 k) ?_
  show own_Go _ _ _ _ T1 (mkF m 21 _ [])
  refine own_st (fun t k => XS.aloadN X1.here hx rfl (hb hby d3_21) rfl rfl k) ?_
  show own_Go _ _ _ _ T1 (mkF m 22 _ [(.ref ar)])
  refine own_st (fun t k => XS.iload X1.here hx rfl (hb hby d3_22) rfl k) ?_
  show own_Go _ _ _ _ T1 (mkF m 24 _ [(.int (0 : Int32)), (.ref ar)])
  obtain ⟨c3, Ar3, q3, S3, N3, H3⟩ := id F2
  refine own_st (fun t k => X1.laload hx (j := (0 : Int32)) (v := (.long (gf 0))) (by rw [e1]; exact Ar3.1) (State.isArrayOf_alike hZ.alike Ar3.2.1) Ar3.2.2 (inb_of S3 ⟨by decide, by decide⟩) (H3 _ (own_lt (inb_of S3 ⟨by decide, by decide⟩))) (g := (mkF m 24 #[.val (.ref a), .val (.long (0 : Int64)), .second, .val (.ref ar), .val (.int (4 : Int32)), .val (.int (0 : Int32)), .unset, .unset] [(.int (0 : Int32)), (.ref ar)])) rfl rfl (hb hby d3_24) _ k) ?_
  show own_Go _ _ _ _ T1 (mkF m 25 _ [(.long (gf 0))])
  generalize hv4 : (gf 0) = v4
  refine own_st (fun t k => XS.lstore X1.here hx rfl (hb hby d3_25) rfl (l' := #[.val (.ref a), .val (.long (0 : Int64)), .second, .val (.ref ar), .val (.int (4 : Int32)), .val (.int (0 : Int32)), .val (.long v4), .second]) rfl k) ?_
  show own_Go _ _ _ _ T1 (mkF m 27 #[.val (.ref a), .val (.long (0 : Int64)), .second, .val (.ref ar), .val (.int (4 : Int32)), .val (.int (0 : Int32)), .val (.long v4), .second] [])
  refine own_st (fun t k => XS.lloadN X1.here hx rfl (hb hby d3_27) rfl k) ?_
  show own_Go _ _ _ _ T1 (mkF m 28 _ [(.long (0 : Int64))])
  refine own_st (fun t k => XS.lload X1.here hx rfl (hb hby d3_28) rfl k) ?_
  show own_Go _ _ _ _ T1 (mkF m 30 _ [(.long v4), (.long (0 : Int64))])
  refine own_st (fun t k => XS.ladd X1.here hx rfl (hb hby d3_30) rfl k) ?_
  show own_Go _ _ _ _ T1 (mkF m 31 _ [(.long ((0 : Int64) + v4))])
  generalize hv5 : ((0 : Int64) + v4) = v5
  refine own_st (fun t k => XS.lstoreN X1.here hx rfl (hb hby d3_31) rfl (l' := #[.val (.ref a), .val (.long v5), .second, .val (.ref ar), .val (.int (4 : Int32)), .val (.int (0 : Int32)), .val (.long v4), .second]) rfl k) ?_
  show own_Go _ _ _ _ T1 (mkF m 32 #[.val (.ref a), .val (.long v5), .second, .val (.ref ar), .val (.int (4 : Int32)), .val (.int (0 : Int32)), .val (.long v4), .second] [])
  refine own_st (fun t k => XS.iinc X1.here hx rfl (hb hby d3_32) rfl (l' := #[.val (.ref a), .val (.long v5), .second, .val (.ref ar), .val (.int (4 : Int32)), .val (.int (1 : Int32)), .val (.long v4), .second]) rfl k) ?_
  show own_Go _ _ _ _ T1 (mkF m 35 #[.val (.ref a), .val (.long v5), .second, .val (.ref ar), .val (.int (4 : Int32)), .val (.int (1 : Int32)), .val (.long v4), .second] [])
  show own_Go _ _ _ _ T1 (mkF m 35 _ [])
  refine own_st (fun t k => XS.goto X1.here hx rfl (pc0 := 35) (pc' := 14) rfl (hb hby d3_35) (by decide) (by decide) k) ?_
  show own_Go _ _ _ _ T1 (mkF m 14 _ [])
  refine own_st (fun t k => XS.iload X1.here hx rfl (hb hby d3_14) rfl k) ?_
  show own_Go _ _ _ _ T1 (mkF m 16 _ [(.int (1 : Int32))])
  refine own_st (fun t k => XS.iload X1.here hx rfl (hb hby d3_16) rfl k) ?_
  show own_Go _ _ _ _ T1 (mkF m 18 _ [(.int (4 : Int32)), (.int (1 : Int32))])
  refine own_st (fun t k => XS.icmpNo X1.here hx rfl (hb hby d3_18) rfl (tlt (by decide : ((1 : Int32) < (4 : Int32)))).2.1 k) ?_
  show own_Go _ _ _ _ T1 (mkF m 21 _ [])
  refine own_st (fun t k => XS.aloadN X1.here hx rfl (hb hby d3_21) rfl rfl k) ?_
  show own_Go _ _ _ _ T1 (mkF m 22 _ [(.ref ar)])
  refine own_st (fun t k => XS.iload X1.here hx rfl (hb hby d3_22) rfl k) ?_
  show own_Go _ _ _ _ T1 (mkF m 24 _ [(.int (1 : Int32)), (.ref ar)])
  obtain ⟨c6, Ar6, q6, S6, N6, H6⟩ := id F2
  refine own_st (fun t k => X1.laload hx (j := (1 : Int32)) (v := (.long (gf 1))) (by rw [e1]; exact Ar6.1) (State.isArrayOf_alike hZ.alike Ar6.2.1) Ar6.2.2 (inb_of S6 ⟨by decide, by decide⟩) (H6 _ (own_lt (inb_of S6 ⟨by decide, by decide⟩))) (g := (mkF m 24 #[.val (.ref a), .val (.long v5), .second, .val (.ref ar), .val (.int (4 : Int32)), .val (.int (1 : Int32)), .val (.long v4), .second] [(.int (1 : Int32)), (.ref ar)])) rfl rfl (hb hby d3_24) _ k) ?_
  show own_Go _ _ _ _ T1 (mkF m 25 _ [(.long (gf 1))])
  generalize hv7 : (gf 1) = v7
  refine own_st (fun t k => XS.lstore X1.here hx rfl (hb hby d3_25) rfl (l' := #[.val (.ref a), .val (.long v5), .second, .val (.ref ar), .val (.int (4 : Int32)), .val (.int (1 : Int32)), .val (.long v7), .second]) rfl k) ?_
  show own_Go _ _ _ _ T1 (mkF m 27 #[.val (.ref a), .val (.long v5), .second, .val (.ref ar), .val (.int (4 : Int32)), .val (.int (1 : Int32)), .val (.long v7), .second] [])
  refine own_st (fun t k => XS.lloadN X1.here hx rfl (hb hby d3_27) rfl k) ?_
  show own_Go _ _ _ _ T1 (mkF m 28 _ [(.long v5)])
  refine own_st (fun t k => XS.lload X1.here hx rfl (hb hby d3_28) rfl k) ?_
  show own_Go _ _ _ _ T1 (mkF m 30 _ [(.long v7), (.long v5)])
  refine own_st (fun t k => XS.ladd X1.here hx rfl (hb hby d3_30) rfl k) ?_
  show own_Go _ _ _ _ T1 (mkF m 31 _ [(.long (v5 + v7))])
  generalize hv8 : (v5 + v7) = v8
  refine own_st (fun t k => XS.lstoreN X1.here hx rfl (hb hby d3_31) rfl (l' := #[.val (.ref a), .val (.long v8), .second, .val (.ref ar), .val (.int (4 : Int32)), .val (.int (1 : Int32)), .val (.long v7), .second]) rfl k) ?_
  show own_Go _ _ _ _ T1 (mkF m 32 #[.val (.ref a), .val (.long v8), .second, .val (.ref ar), .val (.int (4 : Int32)), .val (.int (1 : Int32)), .val (.long v7), .second] [])
  refine own_st (fun t k => XS.iinc X1.here hx rfl (hb hby d3_32) rfl (l' := #[.val (.ref a), .val (.long v8), .second, .val (.ref ar), .val (.int (4 : Int32)), .val (.int (2 : Int32)), .val (.long v7), .second]) rfl k) ?_
  show own_Go _ _ _ _ T1 (mkF m 35 #[.val (.ref a), .val (.long v8), .second, .val (.ref ar), .val (.int (4 : Int32)), .val (.int (2 : Int32)), .val (.long v7), .second] [])
  show own_Go _ _ _ _ T1 (mkF m 35 _ [])
  refine own_st (fun t k => XS.goto X1.here hx rfl (pc0 := 35) (pc' := 14) rfl (hb hby d3_35) (by decide) (by decide) k) ?_
  show own_Go _ _ _ _ T1 (mkF m 14 _ [])
  refine own_st (fun t k => XS.iload X1.here hx rfl (hb hby d3_14) rfl k) ?_
  show own_Go _ _ _ _ T1 (mkF m 16 _ [(.int (2 : Int32))])
  refine own_st (fun t k => XS.iload X1.here hx rfl (hb hby d3_16) rfl k) ?_
  show own_Go _ _ _ _ T1 (mkF m 18 _ [(.int (4 : Int32)), (.int (2 : Int32))])
  refine own_st (fun t k => XS.icmpNo X1.here hx rfl (hb hby d3_18) rfl (tlt (by decide : ((2 : Int32) < (4 : Int32)))).2.1 k) ?_
  show own_Go _ _ _ _ T1 (mkF m 21 _ [])
  refine own_st (fun t k => XS.aloadN X1.here hx rfl (hb hby d3_21) rfl rfl k) ?_
  show own_Go _ _ _ _ T1 (mkF m 22 _ [(.ref ar)])
  refine own_st (fun t k => XS.iload X1.here hx rfl (hb hby d3_22) rfl k) ?_
  show own_Go _ _ _ _ T1 (mkF m 24 _ [(.int (2 : Int32)), (.ref ar)])
  obtain ⟨c9, Ar9, q9, S9, N9, H9⟩ := id F2
  refine own_st (fun t k => X1.laload hx (j := (2 : Int32)) (v := (.long (gf 2))) (by rw [e1]; exact Ar9.1) (State.isArrayOf_alike hZ.alike Ar9.2.1) Ar9.2.2 (inb_of S9 ⟨by decide, by decide⟩) (H9 _ (own_lt (inb_of S9 ⟨by decide, by decide⟩))) (g := (mkF m 24 #[.val (.ref a), .val (.long v8), .second, .val (.ref ar), .val (.int (4 : Int32)), .val (.int (2 : Int32)), .val (.long v7), .second] [(.int (2 : Int32)), (.ref ar)])) rfl rfl (hb hby d3_24) _ k) ?_
  show own_Go _ _ _ _ T1 (mkF m 25 _ [(.long (gf 2))])
  generalize hv10 : (gf 2) = v10
  refine own_st (fun t k => XS.lstore X1.here hx rfl (hb hby d3_25) rfl (l' := #[.val (.ref a), .val (.long v8), .second, .val (.ref ar), .val (.int (4 : Int32)), .val (.int (2 : Int32)), .val (.long v10), .second]) rfl k) ?_
  show own_Go _ _ _ _ T1 (mkF m 27 #[.val (.ref a), .val (.long v8), .second, .val (.ref ar), .val (.int (4 : Int32)), .val (.int (2 : Int32)), .val (.long v10), .second] [])
  refine own_st (fun t k => XS.lloadN X1.here hx rfl (hb hby d3_27) rfl k) ?_
  show own_Go _ _ _ _ T1 (mkF m 28 _ [(.long v8)])
  refine own_st (fun t k => XS.lload X1.here hx rfl (hb hby d3_28) rfl k) ?_
  show own_Go _ _ _ _ T1 (mkF m 30 _ [(.long v10), (.long v8)])
  refine own_st (fun t k => XS.ladd X1.here hx rfl (hb hby d3_30) rfl k) ?_
  show own_Go _ _ _ _ T1 (mkF m 31 _ [(.long (v8 + v10))])
  generalize hv11 : (v8 + v10) = v11
  refine own_st (fun t k => XS.lstoreN X1.here hx rfl (hb hby d3_31) rfl (l' := #[.val (.ref a), .val (.long v11), .second, .val (.ref ar), .val (.int (4 : Int32)), .val (.int (2 : Int32)), .val (.long v10), .second]) rfl k) ?_
  show own_Go _ _ _ _ T1 (mkF m 32 #[.val (.ref a), .val (.long v11), .second, .val (.ref ar), .val (.int (4 : Int32)), .val (.int (2 : Int32)), .val (.long v10), .second] [])
  refine own_st (fun t k => XS.iinc X1.here hx rfl (hb hby d3_32) rfl (l' := #[.val (.ref a), .val (.long v11), .second, .val (.ref ar), .val (.int (4 : Int32)), .val (.int (3 : Int32)), .val (.long v10), .second]) rfl k) ?_
  show own_Go _ _ _ _ T1 (mkF m 35 #[.val (.ref a), .val (.long v11), .second, .val (.ref ar), .val (.int (4 : Int32)), .val (.int (3 : Int32)), .val (.long v10), .second] [])
  show own_Go _ _ _ _ T1 (mkF m 35 _ [])
  refine own_st (fun t k => XS.goto X1.here hx rfl (pc0 := 35) (pc' := 14) rfl (hb hby d3_35) (by decide) (by decide) k) ?_
  show own_Go _ _ _ _ T1 (mkF m 14 _ [])
  refine own_st (fun t k => XS.iload X1.here hx rfl (hb hby d3_14) rfl k) ?_
  show own_Go _ _ _ _ T1 (mkF m 16 _ [(.int (3 : Int32))])
  refine own_st (fun t k => XS.iload X1.here hx rfl (hb hby d3_16) rfl k) ?_
  show own_Go _ _ _ _ T1 (mkF m 18 _ [(.int (4 : Int32)), (.int (3 : Int32))])
  refine own_st (fun t k => XS.icmpNo X1.here hx rfl (hb hby d3_18) rfl (tlt (by decide : ((3 : Int32) < (4 : Int32)))).2.1 k) ?_
  show own_Go _ _ _ _ T1 (mkF m 21 _ [])
  refine own_st (fun t k => XS.aloadN X1.here hx rfl (hb hby d3_21) rfl rfl k) ?_
  show own_Go _ _ _ _ T1 (mkF m 22 _ [(.ref ar)])
  refine own_st (fun t k => XS.iload X1.here hx rfl (hb hby d3_22) rfl k) ?_
  show own_Go _ _ _ _ T1 (mkF m 24 _ [(.int (3 : Int32)), (.ref ar)])
  obtain ⟨c12, Ar12, q12, S12, N12, H12⟩ := id F2
  refine own_st (fun t k => X1.laload hx (j := (3 : Int32)) (v := (.long (gf 3))) (by rw [e1]; exact Ar12.1) (State.isArrayOf_alike hZ.alike Ar12.2.1) Ar12.2.2 (inb_of S12 ⟨by decide, by decide⟩) (H12 _ (own_lt (inb_of S12 ⟨by decide, by decide⟩))) (g := (mkF m 24 #[.val (.ref a), .val (.long v11), .second, .val (.ref ar), .val (.int (4 : Int32)), .val (.int (3 : Int32)), .val (.long v10), .second] [(.int (3 : Int32)), (.ref ar)])) rfl rfl (hb hby d3_24) _ k) ?_
  show own_Go _ _ _ _ T1 (mkF m 25 _ [(.long (gf 3))])
  generalize hv13 : (gf 3) = v13
  refine own_st (fun t k => XS.lstore X1.here hx rfl (hb hby d3_25) rfl (l' := #[.val (.ref a), .val (.long v11), .second, .val (.ref ar), .val (.int (4 : Int32)), .val (.int (3 : Int32)), .val (.long v13), .second]) rfl k) ?_
  show own_Go _ _ _ _ T1 (mkF m 27 #[.val (.ref a), .val (.long v11), .second, .val (.ref ar), .val (.int (4 : Int32)), .val (.int (3 : Int32)), .val (.long v13), .second] [])
  refine own_st (fun t k => XS.lloadN X1.here hx rfl (hb hby d3_27) rfl k) ?_
  show own_Go _ _ _ _ T1 (mkF m 28 _ [(.long v11)])
  refine own_st (fun t k => XS.lload X1.here hx rfl (hb hby d3_28) rfl k) ?_
  show own_Go _ _ _ _ T1 (mkF m 30 _ [(.long v13), (.long v11)])
  refine own_st (fun t k => XS.ladd X1.here hx rfl (hb hby d3_30) rfl k) ?_
  show own_Go _ _ _ _ T1 (mkF m 31 _ [(.long (v11 + v13))])
  generalize hv14 : (v11 + v13) = v14
  refine own_st (fun t k => XS.lstoreN X1.here hx rfl (hb hby d3_31) rfl (l' := #[.val (.ref a), .val (.long v14), .second, .val (.ref ar), .val (.int (4 : Int32)), .val (.int (3 : Int32)), .val (.long v13), .second]) rfl k) ?_
  show own_Go _ _ _ _ T1 (mkF m 32 #[.val (.ref a), .val (.long v14), .second, .val (.ref ar), .val (.int (4 : Int32)), .val (.int (3 : Int32)), .val (.long v13), .second] [])
  refine own_st (fun t k => XS.iinc X1.here hx rfl (hb hby d3_32) rfl (l' := #[.val (.ref a), .val (.long v14), .second, .val (.ref ar), .val (.int (4 : Int32)), .val (.int (4 : Int32)), .val (.long v13), .second]) rfl k) ?_
  show own_Go _ _ _ _ T1 (mkF m 35 #[.val (.ref a), .val (.long v14), .second, .val (.ref ar), .val (.int (4 : Int32)), .val (.int (4 : Int32)), .val (.long v13), .second] [])
  show own_Go _ _ _ _ T1 (mkF m 35 _ [])
  refine own_st (fun t k => XS.goto X1.here hx rfl (pc0 := 35) (pc' := 14) rfl (hb hby d3_35) (by decide) (by decide) k) ?_
  show own_Go _ _ _ _ T1 (mkF m 14 _ [])
  refine own_st (fun t k => XS.iload X1.here hx rfl (hb hby d3_14) rfl k) ?_
  show own_Go _ _ _ _ T1 (mkF m 16 _ [(.int (4 : Int32))])
  refine own_st (fun t k => XS.iload X1.here hx rfl (hb hby d3_16) rfl k) ?_
  show own_Go _ _ _ _ T1 (mkF m 18 _ [(.int (4 : Int32)), (.int (4 : Int32))])
  refine own_st (fun t k => XS.icmpYes X1.here hx rfl (pc0 := 18) (pc' := 38) rfl (hb hby d3_18) rfl (flt (by decide : ¬ ((4 : Int32) < (4 : Int32)))).2.1 (by decide) (by decide) k) ?_
  show own_Go _ _ _ _ T1 (mkF m 38 _ [])
  refine own_st (fun t k => XS.lloadN X1.here hx rfl (hb hby d3_38) rfl k) ?_
  show own_Go _ _ _ _ T1 (mkF m 39 _ [(.long v14)])
  subst hPq
  refine own_out X1 (v := some (.long v14)) (fun h => by rw [Bd.returns] at h; cases h) Bd.notSynchronized (own_retJ X1 hx Bd.returns (hb hby d3_39)) (by decide) (by decide) ?_
  show Q3 Z a ar kc gf h0 n0 _ T1.heap _
  rw [e1]
  exact ⟨by subst_vars; rfl, N0, rfl⟩
theorem own_pn0 : plainName "com/example/parley/parley/dcsp/OutcomeMessagesPinLaw" = true := by first | (simp [plainName, overriddenIn]; done) | decide +kernel
theorem own_ef0 (m : MethodId) (x0 : Int64) (x1 : Int64) (x2 : Int64) (x3 : Int64) (x4 : Int32) : entryFrame m #[(.long x0), (.long x1), (.long x2), (.long x3), (.int x4)] maxLocals = mkF m 0 #[.val (.long x0), .second, .val (.long x1), .second, .val (.long x2), .second, .val (.long x3), .second, .val (.int x4), .unset, .unset, .unset, .unset] [] := by first | (simp [entryFrame, mkF, argsToLocals, Value.category, maxLocals]; done) | rfl
def Q0 (Z : State) (x0 : Int64) (x1 : Int64) (x2 : Int64) (x3 : Int64) (x4 : Int32) (sa : Addr) (sb : Addr) (sc : Addr) (h0 : Heap) (n0 : Nat) (v : Option Value) (h : Heap) (L : List Loc) : Prop := v = some (.int 1) ∧ Fr n0 L
theorem own_law (x0 : Int64) (x1 : Int64) (x2 : Int64) (x3 : Int64) (x4 : Int32) (sa : Addr) (sb : Addr) (sc : Addr) (r55_rs : Addr) (v102 : Int64) (p109 : Int32) (hv102 : (((x0 + x1) + x2) + x3) = v102) (qp109 : p109 = (if (own_sum (own_updJ (own_updJ (own_updJ (own_updJ (fun _ => (0 : Int64)) 0 x0) 1 x1) 2 x2) 3 x3)) = v102 then (1 : Int32) else (0 : Int32))) : p109 = 1 := by
  rw [qp109, if_pos]
  rw [← hv102]
  show (((((0 : Int64) + x0) + x1) + x2) + x3) = _
  rw [Int64.zero_add]
set_option maxRecDepth 65536 in
set_option maxHeartbeats 4000000 in
theorem rm0 (l : Launch) (Z : State) (a0 : Array Value) (hw : ∀ d ∈ tables_1, d.before a0 Z = true) (ws : List Jvm.Cond) (x0 : Int64) (x1 : Int64) (x2 : Int64) (x3 : Int64) (x4 : Int32) (sa : Addr) (sb : Addr) (sc : Addr) (h0 : Heap) (n0 : Nat) (Z0 : n0 ≤ h0.size) (F0 : Sta Z h0 "com/example/parley/parley/dcsp/Outcome$Status" "SATISFIABLE" "Lcom/example/parley/parley/dcsp/Outcome$Status;" (.ref sa)) (F1 : Sta Z h0 "com/example/parley/parley/dcsp/Outcome$Status" "UNSATISFIABLE" "Lcom/example/parley/parley/dcsp/Outcome$Status;" (.ref sb)) (F2 : Sta Z h0 "com/example/parley/parley/dcsp/Outcome$Status" "UNKNOWN" "Lcom/example/parley/parley/dcsp/Outcome$Status;" (.ref sc)) :
    MetFree l x (head1 (Jvm.Cond.code x code maxLocals ret :: ws) room_1) (fun aW U => aW = #[(.long x0), (.long x1), (.long x2), (.long x3), (.int x4)] ∧ Z.Warmed39 U.vm ∧ U.heap = h0) (fun _ _ _ _ _ => True) (fun _ U o U' => ∃ v L, o = .returned v ∧ Q0 Z x0 x1 x2 x3 x4 sa sb sc h0 n0 v U'.heap L ∧ FrameEnd U o U' L 24 128) := by
  refine MetFree.of_bodySF (plainFor_of_name own_pn0) hisR ?_
  intro p e s m args below meth c s₁ Bd hml0 hP hK
  obtain ⟨rfl, hZ, hh⟩ := hP
  have hx := Bd.exec
  have hby := Bd.bytes
  have hml : c.maxLocals = 13 := hml0
  have hown : s.vm.findClass "com/example/parley/parley/dcsp/OutcomeMessagesPinLaw" = some m.cls := findClass_of_methodNamed Bd.named
  have hnm := (name_of_methodNamed Bd.named Bd.method).1
  have X0 : Stand p l e room_1 s m #[(.long x0), (.long x1), (.long x2), (.long x3), (.int x4)] below meth c s₁ [] 0 0 := Stand.of_body Bd
  have e0 : s₁.heap = h0 := by rw [← hh, Bd.state]; rfl
  have N0 := Fr.nil n0
  obtain ⟨Pq, hPq⟩ : ∃ P, P = own_P s below (fun v h L => Q0 Z x0 x1 x2 x3 x4 sa sb sc h0 n0 v h L) 24 128 := ⟨_, rfl⟩
  suffices hgo : own_Go p.tables e below Pq s₁ (mkF m 0 #[.val (.long x0), .second, .val (.long x1), .second, .val (.long x2), .second, .val (.long x3), .second, .val (.int x4), .unset, .unset, .unset, .unset] []) by
    subst hPq
    obtain ⟨t, k1, k2, o, k3, k4⟩ := hgo
    exact ⟨t, o, castTop (own_ef0 m x0 x1 x2 x3 x4) k1, k2, k3, k4⟩
  show own_Go _ _ _ _ s₁ (mkF m 0 #[.val (.long x0), .second, .val (.long x1), .second, .val (.long x2), .second, .val (.long x3), .second, .val (.int x4), .unset, .unset, .unset, .unset] [])
  refine own_st (fun t k => XS.iconst X0.here hx rfl (hb hby at_0) k) ?_
  show own_Go _ _ _ _ s₁ (mkF m 1 _ [(.int (4 : Int32))])
  obtain ⟨T1, h1, k1, X1, e1, E1, A1, EA1, st1⟩ := newPE X0 hx hZ (hw _ (List.mem_of_getElem? (i := 0) rfl)) e0 (g := (mkF m 1 #[.val (.long x0), .second, .val (.long x1), .second, .val (.long x2), .second, .val (.long x3), .second, .val (.int x4), .unset, .unset, .unset, .unset] [(.int (4 : Int32))])) rfl (hb hby at_1) rfl (by decide) (cap := 4) (by decide) (by decide) (by decide) (by decide) (ad := "[J") (by decide)
  obtain ⟨b1, g1⟩ : ∃ z, z = h0.size := ⟨_, rfl⟩
  rw [← g1] at A1 EA1 st1
  refine own_st st1 ?_
  have f2 := F0.ext E1
  have f3 := F1.ext E1
  have f4 := F2.ext E1
  have gx5 : n0 ≤ b1 := Nat.le_trans Z0 (Nat.le_of_eq g1.symm)
  have Z6 : n0 ≤ h1.size := Nat.le_trans Z0 E1.1
  have V1 : own_AJ Z h1 b1 k1 (4 : Int32) (fun _ => (0 : Int64)) := own_AJ.new A1 (by decide)
  show own_Go _ _ _ _ T1 (mkF m 3 _ [(.ref b1)])
  refine own_st (fun t k => XS.astore X1.here hx rfl (hb hby at_3) rfl rfl (l' := #[.val (.long x0), .second, .val (.long x1), .second, .val (.long x2), .second, .val (.long x3), .second, .val (.int x4), .val (.ref b1), .unset, .unset, .unset]) rfl k) ?_
  show own_Go _ _ _ _ T1 (mkF m 5 #[.val (.long x0), .second, .val (.long x1), .second, .val (.long x2), .second, .val (.long x3), .second, .val (.int x4), .val (.ref b1), .unset, .unset, .unset] [])
  refine own_st (fun t k => XS.aload X1.here hx rfl (hb hby at_5) rfl rfl k) ?_
  show own_Go _ _ _ _ T1 (mkF m 7 _ [(.ref b1)])
  refine own_st (fun t k => XS.iconst X1.here hx rfl (hb hby at_7) k) ?_
  show own_Go _ _ _ _ T1 (mkF m 8 _ [(.int (0 : Int32)), (.ref b1)])
  refine own_st (fun t k => XS.lloadN X1.here hx rfl (hb hby at_8) rfl k) ?_
  show own_Go _ _ _ _ T1 (mkF m 9 _ [(.long x0), (.int (0 : Int32)), (.ref b1)])
  obtain ⟨c7, Ar7, q7, S7, N7, H7⟩ := id V1
  obtain ⟨T7, h7, X7, e7, W7, st7⟩ := stJ X1 hx hZ e1 Ar7 (j := (0 : Int32)) (inb_of S7 ⟨by decide, by decide⟩) (g := (mkF m 9 #[.val (.long x0), .second, .val (.long x1), .second, .val (.long x2), .second, .val (.long x3), .second, .val (.int x4), .val (.ref b1), .unset, .unset, .unset] [(.long x0), (.int (0 : Int32)), (.ref b1)])) rfl rfl (hb hby at_9)
  refine own_st st7 ?_
  have f8 : own_AJ Z h7 b1 k1 (4 : Int32) (own_updJ (fun _ => (0 : Int64)) 0 x0) := own_AJ.set V1 W7
  have f9 := f2.wr W7
  have f10 := f3.wr W7
  have f11 := f4.wr W7
  have f12 := EA1.wr W7
  have N13 := Fr.snoc X7 N0 gx5
  have Z14 : n0 ≤ h7.size := Nat.le_trans Z6 (Nat.le_of_eq W7.size.symm)
  show own_Go _ _ _ _ T7 (mkF m 10 _ [])
  refine own_st (fun t k => XS.aload X7.here hx rfl (hb hby at_10) rfl rfl k) ?_
  show own_Go _ _ _ _ T7 (mkF m 12 _ [(.ref b1)])
  refine own_st (fun t k => XS.iconst X7.here hx rfl (hb hby at_12) k) ?_
  show own_Go _ _ _ _ T7 (mkF m 13 _ [(.int (1 : Int32)), (.ref b1)])
  refine own_st (fun t k => XS.lloadN X7.here hx rfl (hb hby at_13) rfl k) ?_
  show own_Go _ _ _ _ T7 (mkF m 14 _ [(.long x1), (.int (1 : Int32)), (.ref b1)])
  obtain ⟨c15, Ar15, q15, S15, N15, H15⟩ := id f8
  obtain ⟨T15, h15, X15, e15, W15, st15⟩ := stJ X7 hx hZ e7 Ar15 (j := (1 : Int32)) (inb_of S15 ⟨by decide, by decide⟩) (g := (mkF m 14 #[.val (.long x0), .second, .val (.long x1), .second, .val (.long x2), .second, .val (.long x3), .second, .val (.int x4), .val (.ref b1), .unset, .unset, .unset] [(.long x1), (.int (1 : Int32)), (.ref b1)])) rfl rfl (hb hby at_14)
  refine own_st st15 ?_
  have f16 : own_AJ Z h15 b1 k1 (4 : Int32) (own_updJ (own_updJ (fun _ => (0 : Int64)) 0 x0) 1 x1) := own_AJ.set f8 W15
  have f17 := f9.wr W15
  have f18 := f10.wr W15
  have f19 := f11.wr W15
  have f20 := f12.wr W15
  have N21 := Fr.snoc X15 N13 gx5
  have Z22 : n0 ≤ h15.size := Nat.le_trans Z14 (Nat.le_of_eq W15.size.symm)
  show own_Go _ _ _ _ T15 (mkF m 15 _ [])
  refine own_st (fun t k => XS.aload X15.here hx rfl (hb hby at_15) rfl rfl k) ?_
  show own_Go _ _ _ _ T15 (mkF m 17 _ [(.ref b1)])
  refine own_st (fun t k => XS.iconst X15.here hx rfl (hb hby at_17) k) ?_
  show own_Go _ _ _ _ T15 (mkF m 18 _ [(.int (2 : Int32)), (.ref b1)])
  refine own_st (fun t k => XS.lload X15.here hx rfl (hb hby at_18) rfl k) ?_
  show own_Go _ _ _ _ T15 (mkF m 20 _ [(.long x2), (.int (2 : Int32)), (.ref b1)])
  obtain ⟨c23, Ar23, q23, S23, N23, H23⟩ := id f16
  obtain ⟨T23, h23, X23, e23, W23, st23⟩ := stJ X15 hx hZ e15 Ar23 (j := (2 : Int32)) (inb_of S23 ⟨by decide, by decide⟩) (g := (mkF m 20 #[.val (.long x0), .second, .val (.long x1), .second, .val (.long x2), .second, .val (.long x3), .second, .val (.int x4), .val (.ref b1), .unset, .unset, .unset] [(.long x2), (.int (2 : Int32)), (.ref b1)])) rfl rfl (hb hby at_20)
  refine own_st st23 ?_
  have f24 : own_AJ Z h23 b1 k1 (4 : Int32) (own_updJ (own_updJ (own_updJ (fun _ => (0 : Int64)) 0 x0) 1 x1) 2 x2) := own_AJ.set f16 W23
  have f25 := f17.wr W23
  have f26 := f18.wr W23
  have f27 := f19.wr W23
  have f28 := f20.wr W23
  have N29 := Fr.snoc X23 N21 gx5
  have Z30 : n0 ≤ h23.size := Nat.le_trans Z22 (Nat.le_of_eq W23.size.symm)
  show own_Go _ _ _ _ T23 (mkF m 21 _ [])
  refine own_st (fun t k => XS.aload X23.here hx rfl (hb hby at_21) rfl rfl k) ?_
  show own_Go _ _ _ _ T23 (mkF m 23 _ [(.ref b1)])
  refine own_st (fun t k => XS.iconst X23.here hx rfl (hb hby at_23) k) ?_
  show own_Go _ _ _ _ T23 (mkF m 24 _ [(.int (3 : Int32)), (.ref b1)])
  refine own_st (fun t k => XS.lload X23.here hx rfl (hb hby at_24) rfl k) ?_
  show own_Go _ _ _ _ T23 (mkF m 26 _ [(.long x3), (.int (3 : Int32)), (.ref b1)])
  obtain ⟨c31, Ar31, q31, S31, N31, H31⟩ := id f24
  obtain ⟨T31, h31, X31, e31, W31, st31⟩ := stJ X23 hx hZ e23 Ar31 (j := (3 : Int32)) (inb_of S31 ⟨by decide, by decide⟩) (g := (mkF m 26 #[.val (.long x0), .second, .val (.long x1), .second, .val (.long x2), .second, .val (.long x3), .second, .val (.int x4), .val (.ref b1), .unset, .unset, .unset] [(.long x3), (.int (3 : Int32)), (.ref b1)])) rfl rfl (hb hby at_26)
  refine own_st st31 ?_
  have f32 : own_AJ Z h31 b1 k1 (4 : Int32) (own_updJ (own_updJ (own_updJ (own_updJ (fun _ => (0 : Int64)) 0 x0) 1 x1) 2 x2) 3 x3) := own_AJ.set f24 W31
  have f33 := f25.wr W31
  have f34 := f26.wr W31
  have f35 := f27.wr W31
  have f36 := f28.wr W31
  have N37 := Fr.snoc X31 N29 gx5
  have Z38 : n0 ≤ h31.size := Nat.le_trans Z30 (Nat.le_of_eq W31.size.symm)
  show own_Go _ _ _ _ T31 (mkF m 27 _ [])
  obtain ⟨T39, h39, X39, e39, E39, A39, D39, -, st39⟩ := newO X31 hx hZ hown (hw _ (List.mem_of_getElem? (i := 1) rfl)) (hw _ (List.mem_of_getElem? (i := 2) rfl)) (hw _ (List.mem_of_getElem? (i := 3) rfl)) e31 (g := (mkF m 27 #[.val (.long x0), .second, .val (.long x1), .second, .val (.long x2), .second, .val (.long x3), .second, .val (.int x4), .val (.ref b1), .unset, .unset, .unset] [])) rfl (hb hby at_27) (by decide) (by decide)
  obtain ⟨b39, g39⟩ : ∃ z, z = h31.size := ⟨_, rfl⟩
  rw [← g39] at A39 D39 st39
  refine own_st st39 ?_
  have ne40 : b1 ≠ b39 := Nat.ne_of_lt (Nat.lt_of_lt_of_le f36.lt (Nat.le_of_eq g39.symm))
  have f41 := f33.ext E39
  have f42 := f34.ext E39
  have f43 := f35.ext E39
  have f44 := f36.ext E39
  have f45 := f32.ext E39
  have gx46 : n0 ≤ b39 := Nat.le_trans Z38 (Nat.le_of_eq g39.symm)
  have Z47 : n0 ≤ h39.size := Nat.le_trans Z38 E39.1
  have f48 : Fld Z h39 b39 "com/example/parley/parley/dcsp/Outcome" "status" "Lcom/example/parley/parley/dcsp/Outcome$Status;" .null := D39 (Or.inr (hw _ (List.mem_of_getElem? (i := 20) rfl))) (ty := (.object "com/example/parley/parley/dcsp/Outcome$Status")) (by decide)
  have f49 : Fld Z h39 b39 "com/example/parley/parley/dcsp/Outcome" "values" "[I" .null := D39 (Or.inr (hw _ (List.mem_of_getElem? (i := 31) rfl))) (ty := (.array .int)) (by decide)
  have f50 : Fld Z h39 b39 "com/example/parley/parley/dcsp/Outcome" "messages" "[J" .null := D39 (Or.inr (hw _ (List.mem_of_getElem? (i := 39) rfl))) (ty := (.array .long)) (by decide)
  have f51 : Fld Z h39 b39 "com/example/parley/parley/dcsp/Outcome" "checks" "J" (.long (0 : Int64)) := D39 (Or.inr (hw _ (List.mem_of_getElem? (i := 41) rfl))) (ty := .long) (by decide)
  have f52 : Fld Z h39 b39 "com/example/parley/parley/dcsp/Outcome" "nonConcurrentChecks" "J" (.long (0 : Int64)) := D39 (Or.inr (hw _ (List.mem_of_getElem? (i := 43) rfl))) (ty := .long) (by decide)
  have f53 : Fld Z h39 b39 "com/example/parley/parley/dcsp/Outcome" "viewChecks" "J" (.long (0 : Int64)) := D39 (Or.inr (hw _ (List.mem_of_getElem? (i := 45) rfl))) (ty := .long) (by decide)
  have f54 : Fld Z h39 b39 "com/example/parley/parley/dcsp/Outcome" "time" "J" (.long (0 : Int64)) := D39 (Or.inr (hw _ (List.mem_of_getElem? (i := 47) rfl))) (ty := .long) (by decide)
  show own_Go _ _ _ _ T39 (mkF m 30 _ [(.ref b39)])
  refine own_st (fun t k => XS.dup X39.here hx rfl (hb hby at_30) rfl rfl k) ?_
  show own_Go _ _ _ _ T39 (mkF m 31 _ [(.ref b39), (.ref b39)])
  refine own_st (fun t k => XS.iload X39.here hx rfl (hb hby at_31) rfl k) ?_
  show own_Go _ _ _ _ T39 (mkF m 33 _ [(.int x4), (.ref b39), (.ref b39)])
  obtain ⟨_, _, ⟨T55, L55, k55, n55⟩, -, X55, ⟨Lc55, hQ55, l55, y55, z55⟩, st55⟩ := Jvm.LawKit.callS X39 hx (y := (⟨"com/example/parley/parley/dcsp/OutcomeMessagesPinLaw", "statusOf", "(I)Lcom/example/parley/parley/dcsp/Outcome$Status;"⟩ : MethodName)) hown (mvT hZ (hw _ (List.mem_of_getElem? (i := 4) rfl))) (mvT hZ (hw _ (List.mem_of_getElem? (i := 5) rfl))) (mvT hZ (hw _ (List.mem_of_getElem? (i := 6) rfl))) (mvT hZ (hw _ (List.mem_of_getElem? (i := 7) rfl))) (by decide) (backOf (W := 2) (rm1 l Z a0 hw [] x4 sa sb sc h39 n0 Z47 f41 f42 f43) hZ (hw _ (List.mem_of_getElem? (i := 7) rfl)) (hw _ (List.mem_of_getElem? (i := 6) rfl)) (by decide) (by decide)) (g := (mkF m 33 #[.val (.long x0), .second, .val (.long x1), .second, .val (.long x2), .second, .val (.long x3), .second, .val (.int x4), .val (.ref b1), .unset, .unset, .unset] [(.int x4), (.ref b39), (.ref b39)])) rfl (by rw [hml]; rfl) (argsL := [(.int x4)]) (rest := [(.ref b39), (.ref b39)]) (lenOf own_pd__I_Lcom_example_parley_parley_dcsp_Outcome_Status_ rfl) rfl (by show 2 * 0 + _ ≤ _; exact Nat.le_of_eq rfl) (hb hby at_33) (fun _ _ => ⟨rfl, e39, (by decide : 2 + 0 ≤ _), (by decide : 11 + 0 ≤ _)⟩)
  dsimp only [Pt.U, Pt.locs, Pt.cells, Pt.slots] at X55 l55 y55 z55 st55 hQ55
  subst l55 y55 z55
  obtain ⟨r55_rs, rfl, NQ55, eq55⟩ := hQ55
  have N56 := Fr.app N37 NQ55
  refine own_st st55 ?_
  show own_Go _ _ _ _ T55 (mkF m 36 _ [(.ref r55_rs), (.ref b39), (.ref b39)])
  refine own_st (fun t k => XS.iconst X55.here hx rfl (hb hby at_36) k) ?_
  show own_Go _ _ _ _ T55 (mkF m 37 _ [(.int (0 : Int32)), (.ref r55_rs), (.ref b39), (.ref b39)])
  obtain ⟨T57, h57, k57, X57, e57, E57, A57, EA57, st57⟩ := newPE X55 hx hZ (hw _ (List.mem_of_getElem? (i := 12) rfl)) eq55 (g := (mkF m 37 #[.val (.long x0), .second, .val (.long x1), .second, .val (.long x2), .second, .val (.long x3), .second, .val (.int x4), .val (.ref b1), .unset, .unset, .unset] [(.int (0 : Int32)), (.ref r55_rs), (.ref b39), (.ref b39)])) rfl (hb hby at_37) rfl (by decide) (cap := 0) (by decide) (by decide) (by decide) (by decide) (ad := "[I") (by decide)
  obtain ⟨b57, g57⟩ : ∃ z, z = h39.size := ⟨_, rfl⟩
  rw [← g57] at A57 EA57 st57
  refine own_st st57 ?_
  have ne58 : b1 ≠ b57 := Nat.ne_of_lt (Nat.lt_of_lt_of_le f44.lt (Nat.le_of_eq g57.symm))
  have ne59 : b39 ≠ b57 := Nat.ne_of_lt (Nat.lt_of_lt_of_le A39.lt (Nat.le_of_eq g57.symm))
  have f60 := f41.ext E57
  have f61 := f42.ext E57
  have f62 := f43.ext E57
  have f63 := f44.ext E57
  have f64 := f45.ext E57
  have f65 := A39.ext E57
  have f66 := f48.ext E57
  have f67 := f49.ext E57
  have f68 := f50.ext E57
  have f69 := f51.ext E57
  have f70 := f52.ext E57
  have f71 := f53.ext E57
  have f72 := f54.ext E57
  have gx73 : n0 ≤ b57 := Nat.le_trans Z47 (Nat.le_of_eq g57.symm)
  have Z74 : n0 ≤ h57.size := Nat.le_trans Z47 E57.1
  have V57 : own_AI Z h57 b57 k57 (0 : Int32) (fun _ => (0 : Int32)) := own_AI.new A57 (by decide)
  show own_Go _ _ _ _ T57 (mkF m 39 _ [(.ref b57), (.ref r55_rs), (.ref b39), (.ref b39)])
  refine own_st (fun t k => XS.aload X57.here hx rfl (hb hby at_39) rfl rfl k) ?_
  show own_Go _ _ _ _ T57 (mkF m 41 _ [(.ref b1), (.ref b57), (.ref r55_rs), (.ref b39), (.ref b39)])
  refine own_st (fun t k => XS.lconst X57.here hx rfl (hb hby at_41) k) ?_
  show own_Go _ _ _ _ T57 (mkF m 42 _ [(.long (0 : Int64)), (.ref b1), (.ref b57), (.ref r55_rs), (.ref b39), (.ref b39)])
  refine own_st (fun t k => XS.lconst X57.here hx rfl (hb hby at_42) k) ?_
  show own_Go _ _ _ _ T57 (mkF m 43 _ [(.long (0 : Int64)), (.long (0 : Int64)), (.ref b1), (.ref b57), (.ref r55_rs), (.ref b39), (.ref b39)])
  refine own_st (fun t k => XS.lconst X57.here hx rfl (hb hby at_43) k) ?_
  show own_Go _ _ _ _ T57 (mkF m 44 _ [(.long (0 : Int64)), (.long (0 : Int64)), (.long (0 : Int64)), (.ref b1), (.ref b57), (.ref r55_rs), (.ref b39), (.ref b39)])
  refine own_st (fun t k => XS.lconst X57.here hx rfl (hb hby at_44) k) ?_
  show own_Go _ _ _ _ T57 (mkF m 45 _ [(.long (0 : Int64)), (.long (0 : Int64)), (.long (0 : Int64)), (.long (0 : Int64)), (.ref b1), (.ref b57), (.ref r55_rs), (.ref b39), (.ref b39)])
  obtain ⟨_, _, ⟨T75, L75, k75, n75⟩, -, X75, ⟨Lc75, hQ75, l75, y75, z75⟩, st75⟩ := X57.specialBack hx (y := (⟨"com/example/parley/parley/dcsp/Outcome", "<init>", "(Lcom/example/parley/parley/dcsp/Outcome$Status;[I[JJJJJ)V"⟩ : MethodName)) rfl hown (mvT hZ (hw _ (List.mem_of_getElem? (i := 13) rfl))) (mvT hZ (hw _ (List.mem_of_getElem? (i := 14) rfl))) (mvT hZ (hw _ (List.mem_of_getElem? (i := 15) rfl))) (by decide) (backOf (W := 1) (rm2 l Z a0 hw [] b39 r55_rs b57 b1 (0 : Int64) (0 : Int64) (0 : Int64) (0 : Int64) (.null) (.null) (.null) (.long (0 : Int64)) (.long (0 : Int64)) (.long (0 : Int64)) (.long (0 : Int64)) k57 k1 (fun _ => (0 : Int32)) (own_updJ (own_updJ (own_updJ (own_updJ (fun _ => (0 : Int64)) 0 x0) 1 x1) 2 x2) 3 x3) h57 n0 Z74 f65 EA57 f63 V57 f64 f66 f67 f68 f69 f70 f71 f72 (Ne.symm ne59) ne40 gx46) hZ (hw _ (List.mem_of_getElem? (i := 15) rfl)) (hw _ (List.mem_of_getElem? (i := 3) rfl)) (by decide) (by decide)) (g := (mkF m 45 #[.val (.long x0), .second, .val (.long x1), .second, .val (.long x2), .second, .val (.long x3), .second, .val (.int x4), .val (.ref b1), .unset, .unset, .unset] [(.long (0 : Int64)), (.long (0 : Int64)), (.long (0 : Int64)), (.long (0 : Int64)), (.ref b1), (.ref b57), (.ref r55_rs), (.ref b39), (.ref b39)])) rfl (by rw [hml]; rfl) (Steps.refl _) (a := b39) (argsL := [(.ref r55_rs), (.ref b57), (.ref b1), (.long (0 : Int64)), (.long (0 : Int64)), (.long (0 : Int64)), (.long (0 : Int64))]) (rest := [(.ref b39)]) (lenOf own_pd__Lcom_example_parley_parley_dcsp_Outcome_Status__I_JJJJJ_V rfl) rfl (by show 2 * 0 + _ ≤ _; exact Nat.le_of_eq rfl) (hb hby at_45) (fun _ _ => ⟨rfl, e57, (by decide : 3 + 2 ≤ _), (by decide : 11 + 4 ≤ _)⟩)
  dsimp only [Pt.U, Pt.locs, Pt.cells, Pt.slots] at X75 l75 y75 z75 st75 hQ75
  subst l75 y75 z75
  obtain ⟨b75_bj, rfl, NQ75, K75, gx_b75_bj, sz_b75_bj, fq75_0, fq75_1, fq75_2⟩ := hQ75
  have N76 := Fr.app N56 NQ75
  refine own_st (fun t k => st75.trans k) ?_
  have f77 := own_staK f60 K75 (allS ⟨_, f65⟩ all0)
  have f78 := own_staK f61 K75 (allS ⟨_, f65⟩ all0)
  have f79 := own_staK f62 K75 (allS ⟨_, f65⟩ all0)
  have f80 := f63.keep K75
  have f81 := f64.keep K75 (ninS ne40 nin0)
  have f82 := f65.keep K75
  have f83 := EA57.keep K75
  have f84 := V57.keep K75 (ninS (Ne.symm ne59) nin0)
  have Z85 : n0 ≤ T75.heap.size := Nat.le_trans Z74 K75.1
  have ne86 : b1 ≠ b75_bj := Nat.ne_of_lt (Nat.lt_of_lt_of_le f63.lt sz_b75_bj)
  have ne87 : b39 ≠ b75_bj := Nat.ne_of_lt (Nat.lt_of_lt_of_le f65.lt sz_b75_bj)
  have ne88 : b57 ≠ b75_bj := Nat.ne_of_lt (Nat.lt_of_lt_of_le EA57.lt sz_b75_bj)
  show own_Go _ _ _ _ T75 (mkF m 48 _ [(.ref b39)])
  refine own_st (fun t k => XS.astore X75.here hx rfl (hb hby at_48) rfl rfl (l' := #[.val (.long x0), .second, .val (.long x1), .second, .val (.long x2), .second, .val (.long x3), .second, .val (.int x4), .val (.ref b1), .val (.ref b39), .unset, .unset]) rfl k) ?_
  show own_Go _ _ _ _ T75 (mkF m 50 #[.val (.long x0), .second, .val (.long x1), .second, .val (.long x2), .second, .val (.long x3), .second, .val (.int x4), .val (.ref b1), .val (.ref b39), .unset, .unset] [])
  refine own_st (fun t k => XS.aload X75.here hx rfl (hb hby at_50) rfl rfl k) ?_
  show own_Go _ _ _ _ T75 (mkF m 52 _ [(.ref b1)])
  refine own_st (fun t k => XS.iconst X75.here hx rfl (hb hby at_52) k) ?_
  show own_Go _ _ _ _ T75 (mkF m 53 _ [(.int (1 : Int32)), (.ref b1)])
  refine own_st (fun t k => XS.lloadN X75.here hx rfl (hb hby at_53) rfl k) ?_
  show own_Go _ _ _ _ T75 (mkF m 54 _ [(.long x1), (.int (1 : Int32)), (.ref b1)])
  refine own_st (fun t k => XS.lconst X75.here hx rfl (hb hby at_54) k) ?_
  show own_Go _ _ _ _ T75 (mkF m 55 _ [(.long (1 : Int64)), (.long x1), (.int (1 : Int32)), (.ref b1)])
  refine own_st (fun t k => XS.lxor X75.here hx rfl (hb hby at_55) rfl k) ?_
  show own_Go _ _ _ _ T75 (mkF m 56 _ [(.long (x1 ^^^ (1 : Int64))), (.int (1 : Int32)), (.ref b1)])
  obtain ⟨c89, Ar89, q89, S89, N89, H89⟩ := id f81
  obtain ⟨T89, h89, X89, e89, W89, st89⟩ := stJ X75 hx hZ rfl Ar89 (j := (1 : Int32)) (inb_of S89 ⟨by decide, by decide⟩) (g := (mkF m 56 #[.val (.long x0), .second, .val (.long x1), .second, .val (.long x2), .second, .val (.long x3), .second, .val (.int x4), .val (.ref b1), .val (.ref b39), .unset, .unset] [(.long (x1 ^^^ (1 : Int64))), (.int (1 : Int32)), (.ref b1)])) rfl rfl (hb hby at_56)
  refine own_st st89 ?_
  have f90 : own_AJ Z h89 b1 k1 (4 : Int32) (own_updJ (own_updJ (own_updJ (own_updJ (own_updJ (fun _ => (0 : Int64)) 0 x0) 1 x1) 2 x2) 3 x3) 1 (x1 ^^^ (1 : Int64))) := own_AJ.set f81 W89
  have f91 := f77.wr W89
  have f92 := f78.wr W89
  have f93 := f79.wr W89
  have f94 := f80.wr W89
  have f95 := fq75_0.wr W89
  have f96 := f83.wr W89
  have f97 := f84.other W89 (Ne.symm ne58)
  have f98 := fq75_1.other W89 (Or.inl (Ne.symm ne40))
  have f99 := fq75_2.other W89 (Ne.symm ne86)
  have N100 := Fr.snoc X89 N76 gx5
  have Z101 : n0 ≤ h89.size := Nat.le_trans Z85 (Nat.le_of_eq W89.size.symm)
  show own_Go _ _ _ _ T89 (mkF m 57 _ [])
  refine own_st (fun t k => XS.lloadN X89.here hx rfl (hb hby at_57) rfl k) ?_
  show own_Go _ _ _ _ T89 (mkF m 58 _ [(.long x0)])
  refine own_st (fun t k => XS.lloadN X89.here hx rfl (hb hby at_58) rfl k) ?_
  show own_Go _ _ _ _ T89 (mkF m 59 _ [(.long x1), (.long x0)])
  refine own_st (fun t k => XS.ladd X89.here hx rfl (hb hby at_59) rfl k) ?_
  show own_Go _ _ _ _ T89 (mkF m 60 _ [(.long (x0 + x1))])
  refine own_st (fun t k => XS.lload X89.here hx rfl (hb hby at_60) rfl k) ?_
  show own_Go _ _ _ _ T89 (mkF m 62 _ [(.long x2), (.long (x0 + x1))])
  refine own_st (fun t k => XS.ladd X89.here hx rfl (hb hby at_62) rfl k) ?_
  show own_Go _ _ _ _ T89 (mkF m 63 _ [(.long ((x0 + x1) + x2))])
  refine own_st (fun t k => XS.lload X89.here hx rfl (hb hby at_63) rfl k) ?_
  show own_Go _ _ _ _ T89 (mkF m 65 _ [(.long x3), (.long ((x0 + x1) + x2))])
  refine own_st (fun t k => XS.ladd X89.here hx rfl (hb hby at_65) rfl k) ?_
  show own_Go _ _ _ _ T89 (mkF m 66 _ [(.long (((x0 + x1) + x2) + x3))])
  generalize hv102 : (((x0 + x1) + x2) + x3) = v102
  refine own_st (fun t k => XS.lstore X89.here hx rfl (hb hby at_66) rfl (l' := #[.val (.long x0), .second, .val (.long x1), .second, .val (.long x2), .second, .val (.long x3), .second, .val (.int x4), .val (.ref b1), .val (.ref b39), .val (.long v102), .second]) rfl k) ?_
  show own_Go _ _ _ _ T89 (mkF m 68 #[.val (.long x0), .second, .val (.long x1), .second, .val (.long x2), .second, .val (.long x3), .second, .val (.int x4), .val (.ref b1), .val (.ref b39), .val (.long v102), .second] [])
  refine own_st (fun t k => XS.aload X89.here hx rfl (hb hby at_68) rfl rfl k) ?_
  show own_Go _ _ _ _ T89 (mkF m 70 _ [(.ref b39)])
  obtain ⟨cq103, kq103, q103a, q103b, q103c⟩ := isOf hZ e89 f95
  obtain ⟨_, _, ⟨T103, L103, k103, n103⟩, -, X103, ⟨Lc103, hQ103, l103, y103, z103⟩, st103⟩ := X89.virtualBack hx (y := (⟨"com/example/parley/parley/dcsp/Outcome", "messages", "()J"⟩ : MethodName)) (z := (⟨"com/example/parley/parley/dcsp/Outcome", "messages", "()J"⟩ : MethodName)) hown (mvT hZ (hw _ (List.mem_of_getElem? (i := 48) rfl))) (mvT hZ (hw _ (List.mem_of_getElem? (i := 49) rfl))) (notFace_of_selects (args := #[]) (mvT hZ (hw _ (List.mem_of_getElem? (i := 51) rfl)))) (mvT hZ (hw _ (List.mem_of_getElem? (i := 51) rfl))) (mvT hZ (hw _ (List.mem_of_getElem? (i := 50) rfl))) (by decide) (backOf (W := 0) (rm3 l Z a0 hw [] b39 b75_bj k1 (own_updJ (own_updJ (own_updJ (own_updJ (fun _ => (0 : Int64)) 0 x0) 1 x1) 2 x2) 3 x3) h89 n0 Z101 f95 f98 f99) hZ (hw _ (List.mem_of_getElem? (i := 52) rfl)) (hw _ (List.mem_of_getElem? (i := 3) rfl)) (by decide) (by decide)) q103a q103c (g := (mkF m 70 #[.val (.long x0), .second, .val (.long x1), .second, .val (.long x2), .second, .val (.long x3), .second, .val (.int x4), .val (.ref b1), .val (.ref b39), .val (.long v102), .second] [(.ref b39)])) rfl (by rw [hml]; rfl) (Steps.refl _) (argsL := []) (rest := []) (lenOf own_pd___J rfl) rfl (by show 2 * 0 + _ ≤ _; exact Nat.le_of_eq rfl) (hb hby at_70) (fun _ _ => ⟨rfl, e89, (by decide : 5 + 0 ≤ _), (by decide : 15 + 0 ≤ _)⟩)
  dsimp only [Pt.U, Pt.locs, Pt.cells, Pt.slots] at X103 l103 y103 z103 st103 hQ103
  subst l103 y103 z103
  obtain ⟨rfl, NQ103, eq103⟩ := hQ103
  have N104 := Fr.app N100 NQ103
  refine own_st (fun t k => st103.trans k) ?_
  show own_Go _ _ _ _ T103 (mkF m 73 _ [(.long (own_sum (own_updJ (own_updJ (own_updJ (own_updJ (fun _ => (0 : Int64)) 0 x0) 1 x1) 2 x2) 3 x3)))])
  refine own_st (fun t k => XS.lload X103.here hx rfl (hb hby at_73) rfl k) ?_
  show own_Go _ _ _ _ T103 (mkF m 75 _ [(.long v102), (.long (own_sum (own_updJ (own_updJ (own_updJ (own_updJ (fun _ => (0 : Int64)) 0 x0) 1 x1) 2 x2) 3 x3)))])
  refine own_st (fun t k => XS.lcmp X103.here hx rfl (hb hby at_75) rfl k) ?_
  show own_Go _ _ _ _ T103 (mkF m 76 _ [(.int (lcmpW (own_sum (own_updJ (own_updJ (own_updJ (own_updJ (fun _ => (0 : Int64)) 0 x0) 1 x1) 2 x2) 3 x3)) v102))])
  have J108 : ∀ (Tj108 : State) (Lj108 : List Loc) (p109 : Int32), Stand p l e room_1 s m #[(.long x0), (.long x1), (.long x2), (.long x3), (.int x4)] below meth c Tj108 Lj108 5 15 → Tj108.heap = h89 → Fr n0 Lj108 → p109 = (if (own_sum (own_updJ (own_updJ (own_updJ (own_updJ (fun _ => (0 : Int64)) 0 x0) 1 x1) 2 x2) 3 x3)) = v102 then (1 : Int32) else (0 : Int32)) → own_Go p.tables e below Pq Tj108 (mkF m 84 #[.val (.long x0), .second, .val (.long x1), .second, .val (.long x2), .second, .val (.long x3), .second, .val (.int x4), .val (.ref b1), .val (.ref b39), .val (.long v102), .second] [(.int p109)]) := by
    intro Tj108 Lj108 p109 Xj108 ej108 Nj108 qp109
    show own_Go _ _ _ _ Tj108 (mkF m 84 _ [(.int p109)])
    subst hPq
    refine own_out Xj108 (v := some (.int (nar .boolean p109))) (fun h => by rw [Bd.returns] at h; cases h) Bd.notSynchronized (fun fs hr => retN Xj108 hx (t := .boolean) Bd.returns (by simp) (hb hby at_84) hr) (by decide) (by decide) ?_
    show Q0 Z x0 x1 x2 x3 x4 sa sb sc h0 n0 _ Tj108.heap _
    rw [ej108]
    exact ⟨congrArg (fun z => some (Value.int (nar .boolean z))) (own_law x0 x1 x2 x3 x4 sa sb sc r55_rs v102 p109 hv102 qp109), Nj108⟩
  by_cases c105 : (own_sum (own_updJ (own_updJ (own_updJ (own_updJ (fun _ => (0 : Int64)) 0 x0) 1 x1) 2 x2) 3 x3)) = v102
  · skip
    refine own_st (fun t k => XS.ifNo X103.here hx rfl (hb hby at_76) rfl (own_lcF (cd := .ne) (not_not_intro c105)) k) ?_
    show own_Go _ _ _ _ T103 (mkF m 79 _ [])
    refine own_st (fun t k => XS.iconst X103.here hx rfl (hb hby at_79) k) ?_
    show own_Go _ _ _ _ T103 (mkF m 80 _ [(.int (1 : Int32))])
    refine own_st (fun t k => XS.goto X103.here hx rfl (pc0 := 80) (pc' := 84) rfl (hb hby at_80) (by decide) (by decide) k) ?_
    show own_Go _ _ _ _ T103 (mkF m 84 _ [(.int (1 : Int32))])
    exact J108 T103 _ _ X103 eq103 N104 (by simp only [if_pos c105])
  · skip
    refine own_st (fun t k => XS.ifYes X103.here hx rfl (pc0 := 76) (pc' := 83) rfl (hb hby at_76) rfl (own_lcT (cd := .ne) c105) (by decide) (by decide) k) ?_
    show own_Go _ _ _ _ T103 (mkF m 83 _ [])
    refine own_st (fun t k => XS.iconst X103.here hx rfl (hb hby at_83) k) ?_
    show own_Go _ _ _ _ T103 (mkF m 84 _ [(.int (0 : Int32))])
    exact J108 T103 _ _ X103 eq103 N104 (by simp only [if_neg c105])
set_option maxRecDepth 65536 in
set_option maxHeartbeats 4000000 in
theorem own_comes {Post : Tables → Env → Array Value → State → Outcome → State → Prop} (hpost : ∀ tb e args s v u, (limb_1_1.after args s (.returned v) u = true ∧ limb_1_2.after args s (.returned v) u = true ∧ True) → FrameEnd s (.returned v) u (Jvm.fieldLocs frame_1_writes args s ++ Jvm.arrayLocs frame_1_arrays args s ++ Jvm.staticLocs frame_1_statics s) 24 128 → Post tb e args s (.returned v) u) :
    ArmFor flags0 classFile x code maxLocals ret World_1 tables_1 room_1 Calls_1 rest_1 Pre_1 Post := by
  intro l hfl _ _ p e ha hc hk s m args below hf hA hF happ hP
  obtain ⟨hcalls, hrest, hpre⟩ := hP
  obtain ⟨-, -, -, hnamed, -, -, -, hat⟩ := (Spec.applies_iff hf).mp happ
  obtain ⟨hg, hn⟩ := and_e (Cond.before_iff.mp (show (Jvm.Cond.and given_1 narrow_1).before args s = true from hpre))
  obtain ⟨g0, r0⟩ := and_e hg
  obtain ⟨g1, r1⟩ := and_e r0
  obtain ⟨g2, r2⟩ := and_e r1
  obtain ⟨g3, r3⟩ := and_e r2
  obtain ⟨g4, r4⟩ := and_e r3
  obtain ⟨w0, w1, w2, w3, w4, rfl⟩ : ∃ w0 w1 w2 w3 w4 : Value, args = #[w0, w1, w2, w3, w4] := by
    have hs : args.size = 5 := by simpa [Cond.value, given_1] using g0
    obtain ⟨L⟩ := args
    match L, hs with
    | [w0, w1, w2, w3, w4], _ => exact ⟨w0, w1, w2, w3, w4, rfl⟩
  have hw := fun d (hd : d ∈ tables_1) => atoms_spec (ws := Jvm.Cond.code x code maxLocals ret :: tables_1) hat d (List.mem_cons_of_mem _ hd)
  obtain ⟨m0, hn⟩ := and_e hn
  obtain ⟨m1, m2⟩ := and_e hn
  obtain ⟨sa, ev0⟩ := exa_v m0
  have S0 := Sta.start ev0 (Or.inr ⟨(hw _ (List.mem_of_getElem? (i := 10) rfl)), (hw _ (List.mem_of_getElem? (i := 11) rfl))⟩)
  obtain ⟨sb, ev1⟩ := exa_v m1
  have S1 := Sta.start ev1 (Or.inr ⟨(hw _ (List.mem_of_getElem? (i := 10) rfl)), (hw _ (List.mem_of_getElem? (i := 54) rfl))⟩)
  obtain ⟨sc, ev2⟩ := exa_v m2
  have S2 := Sta.start ev2 (Or.inr ⟨(hw _ (List.mem_of_getElem? (i := 10) rfl)), (hw _ (List.mem_of_getElem? (i := 56) rfl))⟩)
  obtain ⟨i0, ei0⟩ := isL_v g1
  obtain rfl : w0 = (.long i0) := Option.some.inj ei0
  obtain ⟨i1, ei1⟩ := isL_v g2
  obtain rfl : w1 = (.long i1) := Option.some.inj ei1
  obtain ⟨i2, ei2⟩ := isL_v g3
  obtain rfl : w2 = (.long i2) := Option.some.inj ei2
  obtain ⟨i3, ei3⟩ := isL_v g4
  obtain rfl : w3 = (.long i3) := Option.some.inj ei3
  obtain ⟨i4, ei4⟩ := is_v r4
  obtain rfl : w4 = (.int i4) := Option.some.inj ei4
  obtain ⟨n, o, h1, h2, h3, _, L, rfl, ⟨rfl, N⟩, hq⟩ := rm0 l s _ hw tables_1 i0 i1 i2 i3 i4 sa sb sc s.heap s.heap.size (Nat.le_refl _) S0 S1 S2 p e ha hc hk s m _ below hf ((Spec.applies_iff_loose hf).mp happ).1 ⟨rfl, State.Warmed39.refl s, rfl⟩ trivial
  refine ⟨n, _, h1, h2, h3, hpost _ _ _ _ _ _ ⟨Cond.after_iff.mpr rfl, Cond.after_iff.mpr (eq_i res_at (Term.int_eval (1)) rfl), trivial⟩ ⟨hq.1, hq.2.1, (hq.2.2.sift fun y hy => Or.inr (N y hy)).mono (by decide) (by decide)⟩⟩
theorem main_1_1 : Claimed_1_1 := own_comes fun _ _ _ _ _ _ h hF => ⟨h.1, hF⟩
theorem main_1_2 : Claimed_1_2 := own_comes fun _ _ _ _ _ _ h hF => ⟨h.2.1, hF⟩
end Jvm.Pilot.@@N@@
namespace Jvm.Pilot.@@N@@
open Jvm Jvm.ClassFile Sem Op Lib Jvm.Free Jvm.Stand Jvm.Pilot.@@N@@.Jvm.D
/-! MADE BY PROGRAM (witnessworld.py) out of the Statement's table words and the real class files: 15 classes; the members and pool entries that the words name. The judged class is class 1, her method 2. -/
namespace start1
open Jvm.ClassFile
def u (s : String) : CpInfo := .utf8 (stringToUtf16 s)
/-- a pool by its gaps: so many unusable entries, then the entry; so many at the end -/
def gap : Nat → List CpInfo → List CpInfo
  | 0, r => r
  | n + 1, r => .unusable :: gap n r
def poolList (es : List (Nat × CpInfo)) (last : Nat) : List CpInfo := es.foldr (fun e r => gap e.1 (e.2 :: r)) (gap last [])
def pool (es : List (Nat × CpInfo)) (last : Nat) : Array CpInfo := ⟨poolList es last⟩
def fileOf (pool : Array CpInfo) (this : Nat) (attrs : Array Attribute := #[]) (ms : Array MethodInfo := #[]) (fl : Nat := 33) (sup : Nat := 0) (ifs : Array Nat := #[]) (fds : Array FieldInfo := #[]) : ClassFile where
  minorVersion := 0
  majorVersion := 65
  constantPool := pool
  accessFlags := fl
  thisClass := this
  superClass := sup
  interfaces := ifs
  fields := fds
  methods := ms
  attributes := attrs
def plain (name : String) (sup : Option ClassId) : Class where
  name := name
  kind := .ordinary
  loader := none
  accessFlags := 33
  super := sup
  interfaces := #[]
  cf := none
  fields := #[]
  methods := #[]
  instanceTypes := #[]
  staticTypes := #[]
  resolved := #[]
  callSites := []
  init := .initialized
  statics := none
  mirror := none

def pool0 : Array CpInfo := pool [(5, u "<init>"), (0, u "()V"), (1, .class_ 10), (1, u "java/lang/Object"), (85, u "clone"), (0, u "()Ljava/lang/Object;")] 26

def k0c0 : Code := { maxStack := 0, maxLocals := 1, code := object_method_1_code, exceptionTable := #[], attributes := #[] }
def k0m0 : Method := { name := "<init>", desc := "()V", sig := { parameters := [], returnType := none }, accessFlags := 1, code := some k0c0 }
def k0m1 : Method := { name := "clone", desc := "()Ljava/lang/Object;", sig := { parameters := [], returnType := some (.object "java/lang/Object") }, accessFlags := 260, code := none }
/-- java/lang/Object -/
def k0 : Class := { plain "java/lang/Object" none with
  accessFlags := 33
  interfaces := #[]
  cf := some (fileOf pool0 8 #[] #[{ accessFlags := 1, nameIndex := 5, descriptorIndex := 6, attributes := #[] }, { accessFlags := 260, nameIndex := 96, descriptorIndex := 97, attributes := #[] }] 33 0 #[] #[])
  fields := #[]
  methods := #[k0m0, k0m1]
  instanceTypes := #[]
  staticTypes := #[]
  resolved := Array.replicate 124 none
  statics := none }

def pool1 : Array CpInfo := pool [(2, .class_ 4), (1, u "java/lang/Object"), (0, u "<init>"), (0, u "()V"), (0, .integer 2147483647), (0, .fieldref 9 10), (0, .class_ 11), (0, .nameAndType 12 13), (0, u "com/example/parley/parley/dcsp/Outcome$Status"), (0, u "SATISFIABLE"), (0, u "Lcom/example/parley/parley/dcsp/Outcome$Status;"), (0, .fieldref 9 15), (0, .nameAndType 16 13), (0, u "UNSATISFIABLE"), (0, .fieldref 9 18), (0, .nameAndType 19 13), (0, u "UNKNOWN"), (0, .class_ 21), (0, u "com/example/parley/parley/dcsp/Outcome"), (0, .methodref 23 24), (0, .class_ 25), (0, .nameAndType 26 27), (0, u "com/example/parley/parley/dcsp/OutcomeMessagesPinLaw"), (0, u "statusOf"), (0, u "(I)Lcom/example/parley/parley/dcsp/Outcome$Status;"), (0, .methodref 20 29), (0, .nameAndType 5 30), (0, u "(Lcom/example/parley/parley/dcsp/Outcome$Status;[I[JJJJJ)V"), (0, .methodref 20 32), (0, .nameAndType 33 34), (0, u "messages"), (0, u "()J"), (3, u "law"), (0, u "(JJJJI)Z")] 6

def k1m0 : Method := { name := "<init>", desc := "()V", sig := { parameters := [], returnType := none }, accessFlags := 1, code := none }
def k1c1 : Code := { maxStack := 2, maxLocals := 2, code := method_2_code, exceptionTable := #[], attributes := #[] }
def k1m1 : Method := { name := "statusOf", desc := "(I)Lcom/example/parley/parley/dcsp/Outcome$Status;", sig := { parameters := [.int], returnType := some (.object "com/example/parley/parley/dcsp/Outcome$Status") }, accessFlags := 10, code := some k1c1 }
def k1c2 : Code := { maxStack := 13, maxLocals := 13, code := code, exceptionTable := #[], attributes := #[] }
def k1m2 : Method := { name := "law", desc := "(JJJJI)Z", sig := { parameters := [.long, .long, .long, .long, .int], returnType := some .boolean }, accessFlags := 9, code := some k1c2 }
/-- com/example/parley/parley/dcsp/OutcomeMessagesPinLaw -/
def k1 : Class := { plain "com/example/parley/parley/dcsp/OutcomeMessagesPinLaw" (some 0) with
  accessFlags := 49
  interfaces := #[]
  cf := some (fileOf pool1 23 #[] #[{ accessFlags := 1, nameIndex := 5, descriptorIndex := 6, attributes := #[] }, { accessFlags := 10, nameIndex := 26, descriptorIndex := 27, attributes := #[] }, { accessFlags := 9, nameIndex := 38, descriptorIndex := 39, attributes := #[] }] 49 2 #[] #[])
  fields := #[]
  methods := #[k1m0, k1m1, k1m2]
  instanceTypes := #[]
  staticTypes := #[]
  resolved := Array.replicate 46 none
  statics := none }

def pool2 : Array CpInfo := pool [(1, .methodref 2 3), (0, .class_ 4), (0, .nameAndType 5 6), (0, u "java/lang/Object"), (0, u "<init>"), (0, u "()V"), (0, .fieldref 8 9), (0, .class_ 10), (0, .nameAndType 11 12), (0, u "com/example/parley/parley/dcsp/Outcome"), (0, u "status"), (0, u "Lcom/example/parley/parley/dcsp/Outcome$Status;"), (0, .methodref 14 15), (0, .class_ 16), (0, .nameAndType 17 18), (0, u "[I"), (0, u "clone"), (0, u "()Ljava/lang/Object;"), (0, .fieldref 8 20), (0, .nameAndType 21 16), (0, u "values"), (0, .methodref 23 15), (0, .class_ 24), (0, u "[J"), (0, .fieldref 8 26), (0, .nameAndType 27 24), (0, u "messages"), (0, .fieldref 8 29), (0, .nameAndType 30 31), (0, u "checks"), (0, u "J"), (0, .fieldref 8 33), (0, .nameAndType 34 31), (0, u "nonConcurrentChecks"), (0, .fieldref 8 36), (0, .nameAndType 37 31), (0, u "viewChecks"), (0, .fieldref 8 39), (0, .nameAndType 40 31), (0, u "time"), (6, u "(Lcom/example/parley/parley/dcsp/Outcome$Status;[I[JJJJJ)V"), (5, u "()J"), (4, .class_ 59), (0, u "com/example/parley/parley/dcsp/Outcome$Status")] 5

def k2c0 : Code := { maxStack := 3, maxLocals := 12, code := prog_42_method_1_code, exceptionTable := #[], attributes := #[] }
def k2m0 : Method := { name := "<init>", desc := "(Lcom/example/parley/parley/dcsp/Outcome$Status;[I[JJJJJ)V", sig := { parameters := [(.object "com/example/parley/parley/dcsp/Outcome$Status"), (.array .int), (.array .long), .long, .long, .long, .long], returnType := none }, accessFlags := 0, code := some k2c0 }
def k2c1 : Code := { maxStack := 4, maxLocals := 8, code := prog_42_method_5_code, exceptionTable := #[], attributes := #[] }
def k2m1 : Method := { name := "messages", desc := "()J", sig := { parameters := [], returnType := some .long }, accessFlags := 1, code := some k2c1 }
/-- com/example/parley/parley/dcsp/Outcome -/
def k2 : Class := { plain "com/example/parley/parley/dcsp/Outcome" (some 0) with
  accessFlags := 49
  interfaces := #[]
  cf := some (fileOf pool2 8 #[.nestMembers #[58]] #[{ accessFlags := 0, nameIndex := 5, descriptorIndex := 47, attributes := #[] }, { accessFlags := 1, nameIndex := 27, descriptorIndex := 53, attributes := #[] }] 49 2 #[] #[{ accessFlags := 18, nameIndex := 11, descriptorIndex := 12, attributes := #[] }, { accessFlags := 18, nameIndex := 21, descriptorIndex := 16, attributes := #[] }, { accessFlags := 18, nameIndex := 27, descriptorIndex := 24, attributes := #[] }, { accessFlags := 18, nameIndex := 30, descriptorIndex := 31, attributes := #[] }, { accessFlags := 18, nameIndex := 34, descriptorIndex := 31, attributes := #[] }, { accessFlags := 18, nameIndex := 37, descriptorIndex := 31, attributes := #[] }, { accessFlags := 18, nameIndex := 40, descriptorIndex := 31, attributes := #[] }])
  fields := #[{ name := "status", type := (.object "com/example/parley/parley/dcsp/Outcome$Status"), accessFlags := 18, slot := 0, constantValue := 0 }, { name := "values", type := (.array .int), accessFlags := 18, slot := 1, constantValue := 0 }, { name := "messages", type := (.array .long), accessFlags := 18, slot := 2, constantValue := 0 }, { name := "checks", type := .long, accessFlags := 18, slot := 3, constantValue := 0 }, { name := "nonConcurrentChecks", type := .long, accessFlags := 18, slot := 4, constantValue := 0 }, { name := "viewChecks", type := .long, accessFlags := 18, slot := 5, constantValue := 0 }, { name := "time", type := .long, accessFlags := 18, slot := 6, constantValue := 0 }]
  methods := #[k2m0, k2m1]
  instanceTypes := #[(.object "com/example/parley/parley/dcsp/Outcome$Status"), (.array .int), (.array .long), .long, .long, .long, .long]
  staticTypes := #[]
  resolved := Array.replicate 65 none
  statics := none }

def pool3 : Array CpInfo := pool [(1, .class_ 2), (0, u "java/lang/constant/Constable"), (0, .class_ 4), (0, u "java/lang/Object")] 6

/-- java/lang/constant/Constable -/
def k3 : Class := { plain "java/lang/constant/Constable" (some 0) with
  accessFlags := 1537
  interfaces := #[]
  cf := some (fileOf pool3 1 #[] #[] 1537 3 #[] #[])
  fields := #[]
  methods := #[]
  instanceTypes := #[]
  staticTypes := #[]
  resolved := Array.replicate 11 none
  statics := none }

def pool4 : Array CpInfo := pool [(1, .class_ 2), (0, u "java/lang/Comparable"), (0, .class_ 4), (0, u "java/lang/Object")] 7

/-- java/lang/Comparable -/
def k4 : Class := { plain "java/lang/Comparable" (some 0) with
  accessFlags := 1537
  interfaces := #[]
  cf := some (fileOf pool4 1 #[] #[] 1537 3 #[] #[])
  fields := #[]
  methods := #[]
  instanceTypes := #[]
  staticTypes := #[]
  resolved := Array.replicate 12 none
  statics := none }

def pool5 : Array CpInfo := pool [(1, .class_ 2), (0, u "java/io/Serializable"), (0, .class_ 4), (0, u "java/lang/Object")] 2

/-- java/io/Serializable -/
def k5 : Class := { plain "java/io/Serializable" (some 0) with
  accessFlags := 1537
  interfaces := #[]
  cf := some (fileOf pool5 1 #[] #[] 1537 3 #[] #[])
  fields := #[]
  methods := #[]
  instanceTypes := #[]
  staticTypes := #[]
  resolved := Array.replicate 7 none
  statics := none }

def pool6 : Array CpInfo := pool [(2, .class_ 4), (1, u "java/lang/Enum"), (0, u "name"), (0, u "Ljava/lang/String;"), (2, u "ordinal"), (0, u "I"), (1, .class_ 14), (1, u "java/lang/Object"), (4, u "hash"), (86, .class_ 108), (1, u "java/lang/Enum$EnumDesc"), (2, .class_ 112), (0, u "java/lang/constant/Constable"), (0, .class_ 114), (0, u "java/lang/Comparable"), (0, .class_ 116), (0, u "java/io/Serializable")] 87

/-- java/lang/Enum -/
def k6 : Class := { plain "java/lang/Enum" (some 0) with
  accessFlags := 1057
  interfaces := #[3, 4, 5]
  cf := some (fileOf pool6 2 #[.nestMembers #[106]] #[] 1057 12 #[111, 113, 115] #[{ accessFlags := 18, nameIndex := 5, descriptorIndex := 6, attributes := #[] }, { accessFlags := 18, nameIndex := 9, descriptorIndex := 10, attributes := #[] }, { accessFlags := 2, nameIndex := 19, descriptorIndex := 10, attributes := #[] }])
  fields := #[{ name := "name", type := (.object "java/lang/String"), accessFlags := 18, slot := 0, constantValue := 0 }, { name := "ordinal", type := .int, accessFlags := 18, slot := 1, constantValue := 0 }, { name := "hash", type := .int, accessFlags := 2, slot := 2, constantValue := 0 }]
  methods := #[]
  instanceTypes := #[(.object "java/lang/String"), .int, .int]
  staticTypes := #[]
  resolved := Array.replicate 204 none
  statics := none }

def pool7 : Array CpInfo := pool [(1, .class_ 2), (0, u "com/example/parley/parley/dcsp/Outcome$Status"), (2, u "SATISFIABLE"), (0, u "Lcom/example/parley/parley/dcsp/Outcome$Status;"), (2, u "UNSATISFIABLE"), (2, u "UNKNOWN"), (2, u "$VALUES"), (0, u "[Lcom/example/parley/parley/dcsp/Outcome$Status;"), (6, .class_ 25), (1, u "java/lang/Enum"), (26, .class_ 53), (0, u "com/example/parley/parley/dcsp/Outcome")] 2

/-- com/example/parley/parley/dcsp/Outcome$Status -/
def k7 : Class := { plain "com/example/parley/parley/dcsp/Outcome$Status" (some 6) with
  accessFlags := 16433
  interfaces := #[]
  cf := some (fileOf pool7 1 #[.nestHost 52] #[] 16433 23 #[] #[{ accessFlags := 16409, nameIndex := 5, descriptorIndex := 6, attributes := #[] }, { accessFlags := 16409, nameIndex := 9, descriptorIndex := 6, attributes := #[] }, { accessFlags := 16409, nameIndex := 12, descriptorIndex := 6, attributes := #[] }, { accessFlags := 4122, nameIndex := 15, descriptorIndex := 16, attributes := #[] }])
  fields := #[{ name := "SATISFIABLE", type := (.object "com/example/parley/parley/dcsp/Outcome$Status"), accessFlags := 16409, slot := 0, constantValue := 0 }, { name := "UNSATISFIABLE", type := (.object "com/example/parley/parley/dcsp/Outcome$Status"), accessFlags := 16409, slot := 1, constantValue := 0 }, { name := "UNKNOWN", type := (.object "com/example/parley/parley/dcsp/Outcome$Status"), accessFlags := 16409, slot := 2, constantValue := 0 }, { name := "$VALUES", type := (.array (.object "com/example/parley/parley/dcsp/Outcome$Status")), accessFlags := 4122, slot := 3, constantValue := 0 }]
  methods := #[]
  instanceTypes := #[(.object "java/lang/String"), .int, .int]
  staticTypes := #[(.object "com/example/parley/parley/dcsp/Outcome$Status"), (.object "com/example/parley/parley/dcsp/Outcome$Status"), (.object "com/example/parley/parley/dcsp/Outcome$Status"), (.array (.object "com/example/parley/parley/dcsp/Outcome$Status"))]
  resolved := Array.replicate 56 none
  statics := some 0 }

def pool8 : Array CpInfo := pool [(1, .class_ 2), (0, u "java/lang/Cloneable"), (0, .class_ 4), (0, u "java/lang/Object")] 2

/-- java/lang/Cloneable -/
def k8 : Class := { plain "java/lang/Cloneable" (some 0) with
  accessFlags := 1537
  interfaces := #[]
  cf := some (fileOf pool8 1 #[] #[] 1537 3 #[] #[])
  fields := #[]
  methods := #[]
  instanceTypes := #[]
  staticTypes := #[]
  resolved := Array.replicate 7 none
  statics := none }

/-- the primitive byte -/
def k9 : Class := { plain "byte" none with kind := .primitive 'B', accessFlags := 0x411 }
/-- [B -/
def k10 : Class := { plain "[B" (some 0) with kind := .array 9 .byte, interfaces := #[8, 5], accessFlags := 1041 }

/-- the primitive int -/
def k11 : Class := { plain "int" none with kind := .primitive 'I', accessFlags := 0x411 }
/-- [I -/
def k12 : Class := { plain "[I" (some 0) with kind := .array 11 .int, interfaces := #[8, 5], accessFlags := 1041 }

/-- the primitive long -/
def k13 : Class := { plain "long" none with kind := .primitive 'J', accessFlags := 0x411 }
/-- [J -/
def k14 : Class := { plain "[J" (some 0) with kind := .array 13 .long, interfaces := #[8, 5], accessFlags := 1041 }

def heap : Heap := #[{ cls := 7, slots := #[.ref 1, .ref 2, .ref 3, .null], vm := .statics 7 },
  { cls := 7, slots := #[.null, .int 0, .int 0], vm := .none },
  { cls := 7, slots := #[.null, .int 1, .int 0], vm := .none },
  { cls := 7, slots := #[.null, .int 2, .int 0], vm := .none }]
def classes : Array Class := #[k0, k1, k2, k3, k4, k5, k6, k7, k8, k9, k10, k11, k12, k13, k14]
def interned : List (Array UInt16 × Addr) := []
def slotsUsed : Nat := 13
def theMethod : MethodId := ⟨1, 2⟩
def args0 : Array Value := #[.long 5, .long 5, .long 5, .long 5, .int 5]
def aboutOver (below : List Frame) : State where
  vm := { classes := classes, interned := interned.toArray }
  heap := heap
  slotsUsed := slotsUsed
  threads := #[{ frames := .invoking theMethod args0 :: below }]
def below0 : List Frame := [.native { method := ⟨0, 0⟩, args := #[] }]
def about1 : State := aboutOver below0
def p0 : Program := .bare "" "" ""
def e0 : Env := launch0.env 0 0 0
theorem w_frames : about1.frames = Frame.invoking theMethod args0 :: below0 := rfl
set_option maxRecDepth 65536 in
theorem w_args : argsFit about1.vm theMethod args0 = true := by decide +kernel
set_option maxRecDepth 65536 in
theorem w_heap : heapFits about1 = true := by decide +kernel
set_option maxRecDepth 65536 in
theorem w_runnable : about1.curStatus? = some .runnable := by decide +kernel
set_option maxRecDepth 65536 in
theorem w_alone : about1.alone = true := by decide +kernel
set_option maxRecDepth 65536 in
theorem w_named : about1.methodNamed? x = some theMethod := by decide +kernel
set_option maxRecDepth 65536 in
theorem w_hears : about1.hears theMethod below0 = true := by decide +kernel
set_option maxRecDepth 65536 in
theorem w_ripe : about1.ripe theMethod args0 below0 = true := by decide +kernel
theorem w_running : about1.status = .running := rfl
set_option maxRecDepth 65536 in
theorem w_room : about1.hasRoom e0.platform room_1 = true :=
  launch0.hasRoom_least _ room_1 (by decide +kernel) (by decide +kernel) (by decide +kernel) (by decide +kernel) (by decide +kernel) (by decide +kernel)
theorem allAtoms_all (ts : List Jvm.Cond) (a : Array Jvm.Value) (st : Jvm.State) : (allAtoms ts).before a st = ts.all (fun c => c.before a st) := by
  induction ts with
  | nil => rfl
  | cons c t ih =>
    show (Jvm.Cond.and c (allAtoms t)).before a st = _
    rw [Jvm.Cond.before_and, ih, List.all_cons]
def words1 : List Jvm.Cond := Jvm.Cond.code x code maxLocals ret :: tables_1
/-- a 'code' word, met by the world's own term for the bytes: nothing is compared byte by byte -/
theorem code_word {y : MethodName} {bytes : ByteArray} {mx : Nat} {rt : Option FieldType} {a : Array Value} {s : State} {m : MethodId} {meth : Method} {c : Code} (h1 : s.methodNamed? y = some m) (h2 : s.vm.method? m = some meth) (h3 : meth.code = some c) (h4 : c.code = bytes)
    (h5 : (c.maxLocals == mx && c.exceptionTable.isEmpty && decide (c.maxStack ≤ mostOperands) && decide (meth.sig.returnType = rt) && !meth.locks && decide (parseMethodDescriptor y.desc = some meth.sig)) = true) : (Jvm.Cond.code y bytes mx rt).before a s = true := by
  simp only [Bool.and_eq_true, beq_iff_eq, Bool.not_eq_true', decide_eq_true_eq] at h5
  obtain ⟨⟨⟨⟨⟨g1, g2⟩, g3⟩, g4⟩, g5⟩, g6⟩ := h5
  simp [Cond.before, Cond.holds, Cond.value, h1, h2, h3, h4, g1, g2, g3, g4, g5, g6]
def isCode : Jvm.Cond → Bool
  | .code _ _ _ _ => true
  | _ => false
theorem all_split {L : List Jvm.Cond} {P : Jvm.Cond → Bool} (h1 : L.all (fun c => isCode c || P c) = true) (h2 : ∀ c ∈ L.filter isCode, P c = true) : L.all P = true := by
  refine List.all_eq_true.mpr fun c hc => ?_
  have h := List.all_eq_true.mp h1 c hc
  rcases Bool.eq_false_or_eq_true (isCode c) with hi | hi
  · exact h2 c (List.mem_filter.mpr ⟨hc, hi⟩)
  · simpa [hi] using h
set_option maxRecDepth 65536 in
theorem w_c0 : (Jvm.Cond.code x code maxLocals ret).before args0 about1 = true := code_word (m := ⟨1, 2⟩) (meth := k1m2) (c := k1c2) (by decide +kernel) rfl rfl rfl (by decide +kernel)
set_option maxRecDepth 65536 in
theorem w_c1 : (Jvm.Cond.code ({ cls := "com/example/parley/parley/dcsp/OutcomeMessagesPinLaw", name := "statusOf", desc := "(I)Lcom/example/parley/parley/dcsp/Outcome$Status;" } : Jvm.MethodName) method_2_code (2 : Nat) (Option.some (Jvm.ClassFile.FieldType.object "com/example/parley/parley/dcsp/Outcome$Status"))).before args0 about1 = true := code_word (m := ⟨1, 1⟩) (meth := k1m1) (c := k1c1) (by decide +kernel) rfl rfl rfl (by decide +kernel)
set_option maxRecDepth 65536 in
theorem w_c2 : (Jvm.Cond.code ({ cls := "com/example/parley/parley/dcsp/Outcome", name := "<init>", desc := "(Lcom/example/parley/parley/dcsp/Outcome$Status;[I[JJJJJ)V" } : Jvm.MethodName) prog_42_method_1_code (12 : Nat) (Option.none : Option Jvm.ClassFile.FieldType)).before args0 about1 = true := code_word (m := ⟨2, 0⟩) (meth := k2m0) (c := k2c0) (by decide +kernel) rfl rfl rfl (by decide +kernel)
set_option maxRecDepth 65536 in
theorem w_c3 : (Jvm.Cond.code ({ cls := "java/lang/Object", name := "<init>", desc := "()V" } : Jvm.MethodName) object_method_1_code (1 : Nat) (Option.none : Option Jvm.ClassFile.FieldType)).before args0 about1 = true := code_word (m := ⟨0, 0⟩) (meth := k0m0) (c := k0c0) (by decide +kernel) rfl rfl rfl (by decide +kernel)
set_option maxRecDepth 65536 in
theorem w_c4 : (Jvm.Cond.code ({ cls := "com/example/parley/parley/dcsp/Outcome", name := "messages", desc := "()J" } : Jvm.MethodName) prog_42_method_5_code (8 : Nat) (Option.some Jvm.ClassFile.FieldType.long)).before args0 about1 = true := code_word (m := ⟨2, 1⟩) (meth := k2m1) (c := k2c1) (by decide +kernel) rfl rfl rfl (by decide +kernel)
def codes1 : List Jvm.Cond := [Jvm.Cond.code x code maxLocals ret, Jvm.Cond.code ({ cls := "com/example/parley/parley/dcsp/OutcomeMessagesPinLaw", name := "statusOf", desc := "(I)Lcom/example/parley/parley/dcsp/Outcome$Status;" } : Jvm.MethodName) method_2_code (2 : Nat) (Option.some (Jvm.ClassFile.FieldType.object "com/example/parley/parley/dcsp/Outcome$Status")), Jvm.Cond.code ({ cls := "com/example/parley/parley/dcsp/Outcome", name := "<init>", desc := "(Lcom/example/parley/parley/dcsp/Outcome$Status;[I[JJJJJ)V" } : Jvm.MethodName) prog_42_method_1_code (12 : Nat) (Option.none : Option Jvm.ClassFile.FieldType), Jvm.Cond.code ({ cls := "java/lang/Object", name := "<init>", desc := "()V" } : Jvm.MethodName) object_method_1_code (1 : Nat) (Option.none : Option Jvm.ClassFile.FieldType), Jvm.Cond.code ({ cls := "com/example/parley/parley/dcsp/Outcome", name := "messages", desc := "()J" } : Jvm.MethodName) prog_42_method_5_code (8 : Nat) (Option.some Jvm.ClassFile.FieldType.long)]
set_option maxRecDepth 65536 in
theorem codes_eq : words1.filter isCode = codes1 := rfl
theorem w_codes : ∀ c ∈ words1.filter isCode, c.before args0 about1 = true := by
  rw [codes_eq]
  intro c hc
  simp only [codes1, List.mem_cons, List.not_mem_nil, or_false] at hc
  rcases hc with rfl | rfl | rfl | rfl | rfl
  · exact w_c0
  · exact w_c1
  · exact w_c2
  · exact w_c3
  · exact w_c4
set_option maxRecDepth 65536 in
theorem w_t1 : (words1.take 24).all (fun c => isCode c || c.before args0 about1) = true := by decide +kernel
set_option maxRecDepth 65536 in
theorem w_t2 : ((words1.drop 24).take 24).all (fun c => isCode c || c.before args0 about1) = true := by decide +kernel
set_option maxRecDepth 65536 in
theorem w_t3 : ((words1.drop 24).drop 24).all (fun c => isCode c || c.before args0 about1) = true := by decide +kernel
theorem w_tables : (allAtoms (Jvm.Cond.code x code maxLocals ret :: tables_1)).before args0 about1 = true := by
  rw [allAtoms_all]
  show words1.all (fun c => c.before args0 about1) = true
  refine all_split ?_ w_codes
  rw [← List.take_append_drop 24 words1, List.all_append, w_t1, ← List.take_append_drop 24 (words1.drop 24), List.all_append, w_t2, w_t3]
  rfl
set_option maxRecDepth 65536 in
theorem w_case : (Jvm.Cond.and given_1 narrow_1).before args0 about1 = true := by decide +kernel
theorem w_applies : (headSpec (Jvm.Cond.code x code maxLocals ret :: tables_1) room_1).applies x e0.platform about1 = true :=
  (Spec.applies_iff w_frames).mpr ⟨w_running, w_runnable, w_alone, w_named, w_hears, w_ripe, w_room, w_tables⟩
theorem atStart : AtStart classFile x code maxLocals ret World_1 tables_1 room_1 Calls_1 rest_1 Pre_1 launch0 p0 e0 about1 theMethod args0 below0 :=
  ⟨lists_1, trivial, launch0.admits_env _ _ _, launch0.least_env, fairChoices_fair.cas, fairChoices_fair.clock, w_frames, w_args, w_heap, w_applies, trivial, trivial, w_case⟩
end start1
theorem witness_1 : WitnessClaimed_1 := ⟨start1.p0, start1.e0, start1.about1, start1.theMethod, start1.args0, start1.below0, start1.atStart⟩
end Jvm.Pilot.@@N@@
