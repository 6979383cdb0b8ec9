import JvmDerived
import JvmDerived.Pilot.@@N@@Statement
import JvmDerived.Pilot.@@N@@Code
set_option linter.unusedVariables false
set_option linter.unusedSimpArgs false
@@BLOCK:NumsL.lean.txt@@
namespace Jvm.Pilot.@@N@@
open Jvm Jvm.ClassFile Sem Op Lib Jvm.Free Jvm.Stand Jvm.LawKit Jvm.RoadKit Bundle Jvm.Pilot.@@N@@.Jvm.D
/-- from here the run comes to a state of which P holds -/
def own_Go (tb : Tables) (e : Env) (below : List Frame) (P : State → Prop) (T : State) (g : JFrame) : Prop := ∃ t, Steps tb e below (T.setTop g) t ∧ P t
theorem own_st {tb : Tables} {e : Env} {below : List Frame} {P : State → Prop} {T T' : State} {g g' : JFrame} (h : ∀ t, Steps tb e below (T'.setTop g') t → Steps tb e below (T.setTop g) t) (k : own_Go tb e below P T' g') : own_Go tb e below P T g := by
  obtain ⟨t, a, b⟩ := k; exact ⟨t, h t a, b⟩
/-- what the end of a body must be -/
def own_P (s : State) (below : List Frame) (Q : Option Value → Heap → List Loc → Prop) (C S : Nat) (t : State) : Prop := t.status = .running ∧ ∃ o, Ended t below o ∧ ∃ v L, o = .returned v ∧ Q v t.heap L ∧ FrameEnd s o t L C S
/-- .. of a body that may have interned -/
def own_PW (s : State) (below : List Frame) (Q : Option Value → Heap → List Loc → Prop) (C S : Nat) (t : State) : Prop := t.status = .running ∧ ∃ o, Ended t below o ∧ ∃ v L, o = .returned v ∧ Q v t.heap L ∧ ReturnedEndW s o t L C S
section own
variable {p : Program} {l : Launch} {e : Env} {R : Room} {s : State} {m : MethodId} {args : Array Value} {below : List Frame} {meth : Method} {c : Code} {T : State} {locs : List Loc} {cells slots : Nat} {Qo : Option Value → Heap → List Loc → Prop} {C' S' : Nat}
theorem own_out (X : Stand p l e R s m args below meth c T locs cells slots) {v : Option Value} {g : JFrame} (hv : meth.sig.returnType = none → v = none) (hlocks : meth.locks = false)
    (hst : ∀ fs, (∀ (f : JFrame) (acts : List Action), f.method = m → f.locked = none → f.entered = [] → (doReturn e (T.setTop f) acts v).1 = T.setFrames fs) → Steps p.tables e below (T.setTop g) (T.setFrames fs))
    (hc : cells ≤ C') (hs : slots ≤ S') (hq : Qo v T.heap locs) : own_Go p.tables e below (own_P s below Qo C' S') T g := by
  obtain ⟨fs, hr, hrun, hended, hW, hsame⟩ := X.leave (v := v) hv hlocks
  exact ⟨_, hst fs hr, hrun, _, hended, _, _, rfl, hq, ⟨_, rfl⟩, hW, hsame.mono hc hs⟩
theorem own_outW {vm0 : Vm} (X : Stand p l e R (s.setVm vm0) m args below meth c T locs cells slots) {k0 : Nat} (hS : s.Since vm0 k0) (hk : k0 ≤ T.heap.size) {v : Option Value} {g : JFrame} (hv : meth.sig.returnType = none → v = none) (hlocks : meth.locks = false)
    (hst : ∀ fs, (∀ (f : JFrame) (acts : List Action), f.method = m → f.locked = none → f.entered = [] → (doReturn e (T.setTop f) acts v).1 = T.setFrames fs) → Steps p.tables e below (T.setTop g) (T.setFrames fs))
    (hc : cells ≤ C') (hs : slots ≤ S') (hq : Qo v T.heap locs) : own_Go p.tables e below (own_PW s below Qo C' S') T g := by
  obtain ⟨fs, hr, hrun, hended, hW⟩ := X.leaveW hS hk (v := v) hv hlocks
  exact ⟨_, hst fs hr, hrun, _, hended, _, _, rfl, hq, hW.1, hW.2.1, hW.2.2.1, hW.2.2.2.mono hc hs⟩
theorem own_retI (X : Stand p l e R s m args below meth c T locs cells slots) (hx : p.tables.exec = Jvm.exec) {pc : Nat} {Ls : Array Slot} {z : Int32} {rest : List Value} (hret : meth.sig.returnType = some .int) (hd : decode c.code pc = .ok (.ireturn, 1)) (fs : List Frame)
    (hl : ∀ (f : JFrame) (acts : List Action), f.method = m → f.locked = none → f.entered = [] → (doReturn e (T.setTop f) acts (some (.int z))).1 = T.setFrames fs) : Steps p.tables e below (T.setTop (mkF m pc Ls (.int z :: rest))) (T.setFrames fs) :=
  retOut X hx hret rfl (Or.inl ⟨rfl, Or.inl rfl, _, rfl⟩) hd hl
theorem own_retZ (X : Stand p l e R s m args below meth c T locs cells slots) (hx : p.tables.exec = Jvm.exec) {pc : Nat} {Ls : Array Slot} {z : Int32} {rest : List Value} (hret : meth.sig.returnType = some .boolean) (hd : decode c.code pc = .ok (.ireturn, 1)) (hb : z = 0 ∨ z = 1) (fs : List Frame)
    (hl : ∀ (f : JFrame) (acts : List Action), f.method = m → f.locked = none → f.entered = [] → (doReturn e (T.setTop f) acts (some (.int z))).1 = T.setFrames fs) : Steps p.tables e below (T.setTop (mkF m pc Ls (.int z :: rest))) (T.setFrames fs) := by
  have e1 : nar .boolean z = z := by rcases hb with rfl | rfl <;> decide
  exact retN X hx hret (Or.inl rfl) hd (by rw [e1]; exact hl)
theorem own_retJ (X : Stand p l e R s m args below meth c T locs cells slots) (hx : p.tables.exec = Jvm.exec) {pc : Nat} {Ls : Array Slot} {z : Int64} {rest : List Value} (hret : meth.sig.returnType = some .long) (hd : decode c.code pc = .ok (.lreturn, 1)) (fs : List Frame)
    (hl : ∀ (f : JFrame) (acts : List Action), f.method = m → f.locked = none → f.entered = [] → (doReturn e (T.setTop f) acts (some (.long z))).1 = T.setFrames fs) : Steps p.tables e below (T.setTop (mkF m pc Ls (.long z :: rest))) (T.setFrames fs) :=
  retOut X hx hret rfl (Or.inr (Or.inl ⟨rfl, rfl, _, rfl⟩)) hd hl
theorem own_retR (X : Stand p l e R s m args below meth c T locs cells slots) (hx : p.tables.exec = Jvm.exec) {pc : Nat} {Ls : Array Slot} {w : Value} {t : FieldType} {rest : List Value} (hret : meth.sig.returnType = some t) (ht : t.isReference = true) (hw : w.isRef = true) (hn : narrow t w = w) (hd : decode c.code pc = .ok (.areturn, 1)) (fs : List Frame)
    (hl : ∀ (f : JFrame) (acts : List Action), f.method = m → f.locked = none → f.entered = [] → (doReturn e (T.setTop f) acts (some w)).1 = T.setFrames fs) : Steps p.tables e below (T.setTop (mkF m pc Ls (w :: rest))) (T.setFrames fs) :=
  retOut X hx hret hn (Or.inr (Or.inr (Or.inr (Or.inr ⟨rfl, ht, hw⟩)))) hd hl
end own
/-- a private method is the one that is picked -/
theorem own_selp {s : State} {args : Array Value} {y : MethodName} {n : Nat} (hi : (Jvm.Cond.instantiable y.cls n).before args s = true) (hp : s.PrivateAt y) (hm : (Jvm.Cond.instanceMethod y).before args s = true) (hy : y.cls ≠ "java/lang/invoke/MethodHandle" ∧ y.cls ≠ "java/lang/invoke/VarHandle") : (Jvm.Cond.selects y.cls y y).before args s = true := by
  obtain ⟨c, k, h1, h2, -, h4, -⟩ := Cond.instantiable_spec hi
  exact selects_self_of_private h1 h2 (Bool.or_eq_false_iff.mp h4).1 hp hm hy
theorem own_staK {Z : State} {h h' : Heap} {C n d : String} {v : Value} {ws : List Addr} (F : Sta Z h C n d v) (K : Keep h h' ws) (q : ∀ x ∈ ws, ∃ D, Exa Z h x D) : Sta Z h' C n d v := by
  obtain ⟨cf, i, k, f, st, cell, h1, h2, h3, h4, h5, h6, h7⟩ := F
  refine ⟨cf, i, k, f, st, cell, h1, h2, h3, h4, K.2.1 st cell h5 (fun hm => ?_), h6, h7⟩
  obtain ⟨D, c', k', e1, -, -, e4, -⟩ := q st hm
  cases h5.symm.trans e1
  rw [h6] at e4; cases e4
/-- a reference or null -/
theorem own_refOf {w : Value} (h : w.isRef = true) (c : ¬ w = Value.null) : ∃ a, w = .ref a := (ref_cases h).resolve_left c
theorem own_nW {t : FieldType} {w : Value} (ht : t.isReference = true) (h : w.isRef = true) : narrow t w = w := by
  rcases ref_cases h with rfl | ⟨a, rfl⟩ <;> cases t <;> first | rfl | simp [FieldType.isReference] at ht
theorem own_fW {t : FieldType} {w : Value} (ht : t.isReference = true) (h : w.isRef = true) : fits t w = true := by
  rcases ref_cases h with rfl | ⟨a, rfl⟩ <;> cases t <;> first | rfl | simp [FieldType.isReference] at ht
theorem own_nb {z : Int32} (h : z = 0 ∨ z = 1) : narrow .boolean (.int z) = .int z := by rcases h with rfl | rfl <;> rfl
theorem own_fb {z : Int32} (h : z = 0 ∨ z = 1) : fits .boolean (.int z) = true := by rcases h with rfl | rfl <;> rfl
/-- lcmp and a branch, in one -/
def own_lcv : ClassFile.Cond → Int64 → Int64 → Prop
  | .lt, x, y => x < y | .ge, x, y => ¬ x < y | .gt, x, y => y < x | .le, x, y => ¬ y < x | .eq, x, y => x = y | .ne, x, y => ¬ x = y
theorem own_lcT {cd : ClassFile.Cond} {x y : Int64} (h : own_lcv cd x y) : ifCond.holds cd (lcmpW x y) = true := by
  rw [if0]
  cases cd
  · exact (teq ((lw_eq x y).mpr h)).1
  · exact (feq (fun q => h ((lw_eq x y).mp q))).2
  · exact (tlt ((lw_lt x y).mpr h)).1
  · exact (flt (fun q => h ((lw_lt x y).mp q))).2.1
  · exact (tlt ((lw_gt x y).mpr h)).2.2.1
  · exact (flt (fun q => h ((lw_gt x y).mp q))).2.2.2
theorem own_lcF {cd : ClassFile.Cond} {x y : Int64} (h : ¬ own_lcv cd x y) : ifCond.holds cd (lcmpW x y) = false := by
  rw [if0]
  cases cd
  · exact (feq (fun q => h ((lw_eq x y).mp q))).1
  · exact (teq (Classical.byContradiction fun q => h (fun r => q ((lw_eq x y).mpr r)))).2
  · exact (flt (fun q => h ((lw_lt x y).mp q))).1
  · exact (tlt (Classical.byContradiction fun q => h (fun r => q ((lw_lt x y).mpr r)))).2.1
  · exact (flt (fun q => h ((lw_gt x y).mp q))).2.2.1
  · exact (tlt (Classical.byContradiction fun q => h (fun r => q ((lw_gt x y).mpr r)))).2.2.2

theorem own_pd___I_I_I_Z : parseMethodDescriptor "([I[I[I)Z" = some ⟨[(.array .int), (.array .int), (.array .int)], some .boolean⟩ := by decide +kernel
def own_updI (g : Nat → Int32) (j : Nat) (x : Int32) : Nat → Int32 := fun i => if i = j then x else g i
def own_updJ (g : Nat → Int64) (j : Nat) (x : Int64) : Nat → Int64 := fun i => if i = j then x else g i
theorem own_lt {c : Cell} {j : Int32} (q : ¬ (j < 0 ∨ c.slots.size ≤ j.toNatClampNeg)) : j.toNatClampNeg < c.slots.size := Nat.lt_of_not_le fun y => q (Or.inr y)
/-- an array of her own kind, its content as a function -/
def own_AI (Z : State) (h : Heap) (a : Addr) (k : ClassId) (z : Int32) (g : Nat → Int32) : Prop := ∃ c : Cell, Arr Z h a c .int ∧ c.cls = k ∧ c.slots.size = z.toNatClampNeg ∧ ¬ z < 0 ∧ ∀ i, i < c.slots.size → c.slots[i]? = some (.int (g i))
section own_AI
variable {Z : State} {h h' : Heap} {a b : Addr} {k : ClassId} {z j : Int32} {g : Nat → Int32} {sl : Nat} {v : Value} {ws : List Addr}
theorem own_AI.lt (F : own_AI Z h a k z g) : a < h.size := by obtain ⟨c, A, -⟩ := F; exact A.lt
theorem own_AI.ext (F : own_AI Z h a k z g) (E : Ext h h') : own_AI Z h' a k z g := by obtain ⟨c, A, r⟩ := F; exact ⟨c, A.ext E, r⟩
theorem own_AI.other (F : own_AI Z h b k z g) (W : Wr h h' a sl v) (q : b ≠ a) : own_AI Z h' b k z g := by obtain ⟨c, A, r⟩ := F; exact ⟨c, A.other W q, r⟩
theorem own_AI.keep (F : own_AI Z h a k z g) (K : Keep h h' ws) (q : a ∉ ws) : own_AI Z h' a k z g := by obtain ⟨c, A, r⟩ := F; exact ⟨c, ⟨K.2.1 a c A.1 q, A.2⟩, r⟩
theorem own_AI.new (A : Arr Z h a (newA k .int z) .int) (q : ¬ z < 0) : own_AI Z h a k z (fun _ => 0) := by
  obtain ⟨c, r1, r2, r3, r4, r5, -⟩ := Arv.new A q
  exact ⟨c, r1, r2, r3, r4, fun i hi => by rw [r5 i hi]; rfl⟩
theorem own_AI.set {x : Int32} (F : own_AI Z h a k z g) (W : Wr h h' a j.toNatClampNeg (.int x)) : own_AI Z h' a k z (own_updI g j.toNatClampNeg x) := by
  obtain ⟨c, r1, r2, r3, r4, r5⟩ := F
  refine ⟨_, r1.same W, r2, by rw [sz_set]; exact r3, r4, fun i hi => ?_⟩
  rw [sz_set] at hi
  unfold own_updI
  by_cases u : i = j.toNatClampNeg
  · subst u; simp [Cell.setSlot, hi]
  · rw [if_neg u]; have := r5 i hi; simp only [Cell.setSlot] at this ⊢; rw [Array.getElem?_setIfInBounds_ne (Ne.symm u)]; exact this
theorem own_fitI {c : Cell} (A : Arr Z h a c .int) (H : ∀ i, i < c.slots.size → c.slots[i]? = some (.int (g i))) : FitC Z c := fitC_of A fun i hi v hv => by rw [H i hi] at hv; cases hv; rfl
theorem own_AI.clone {c : Cell} (H : ∀ i, i < c.slots.size → c.slots[i]? = some (.int (g i))) (q : c.cls = k) (S : c.slots.size = z.toNatClampNeg) (N : ¬ z < 0) (A : Arr Z h' b (cloneOf c) .int) : own_AI Z h' b k z g := ⟨_, A, q, S, N, H⟩
end own_AI

/-- an array of her own kind, its content as a function -/
def own_AJ (Z : State) (h : Heap) (a : Addr) (k : ClassId) (z : Int32) (g : Nat → Int64) : Prop := ∃ c : Cell, Arr Z h a c .long ∧ c.cls = k ∧ c.slots.size = z.toNatClampNeg ∧ ¬ z < 0 ∧ ∀ i, i < c.slots.size → c.slots[i]? = some (.long (g i))
section own_AJ
variable {Z : State} {h h' : Heap} {a b : Addr} {k : ClassId} {z j : Int32} {g : Nat → Int64} {sl : Nat} {v : Value} {ws : List Addr}
theorem own_AJ.lt (F : own_AJ Z h a k z g) : a < h.size := by obtain ⟨c, A, -⟩ := F; exact A.lt
theorem own_AJ.ext (F : own_AJ Z h a k z g) (E : Ext h h') : own_AJ Z h' a k z g := by obtain ⟨c, A, r⟩ := F; exact ⟨c, A.ext E, r⟩
theorem own_AJ.other (F : own_AJ Z h b k z g) (W : Wr h h' a sl v) (q : b ≠ a) : own_AJ Z h' b k z g := by obtain ⟨c, A, r⟩ := F; exact ⟨c, A.other W q, r⟩
theorem own_AJ.keep (F : own_AJ Z h a k z g) (K : Keep h h' ws) (q : a ∉ ws) : own_AJ Z h' a k z g := by obtain ⟨c, A, r⟩ := F; exact ⟨c, ⟨K.2.1 a c A.1 q, A.2⟩, r⟩
theorem own_AJ.new (A : Arr Z h a (newA k .long z) .long) (q : ¬ z < 0) : own_AJ Z h a k z (fun _ => 0) := by
  obtain ⟨c, r1, r2, r3, r4, r5, -⟩ := Arv.new A q
  exact ⟨c, r1, r2, r3, r4, fun i hi => by rw [r5 i hi]; rfl⟩
theorem own_AJ.set {x : Int64} (F : own_AJ Z h a k z g) (W : Wr h h' a j.toNatClampNeg (.long x)) : own_AJ Z h' a k z (own_updJ g j.toNatClampNeg x) := by
  obtain ⟨c, r1, r2, r3, r4, r5⟩ := F
  refine ⟨_, r1.same W, r2, by rw [sz_set]; exact r3, r4, fun i hi => ?_⟩
  rw [sz_set] at hi
  unfold own_updJ
  by_cases u : i = j.toNatClampNeg
  · subst u; simp [Cell.setSlot, hi]
  · rw [if_neg u]; have := r5 i hi; simp only [Cell.setSlot] at this ⊢; rw [Array.getElem?_setIfInBounds_ne (Ne.symm u)]; exact this
theorem own_fitJ {c : Cell} (A : Arr Z h a c .long) (H : ∀ i, i < c.slots.size → c.slots[i]? = some (.long (g i))) : FitC Z c := fitC_of A fun i hi v hv => by rw [H i hi] at hv; cases hv; rfl
theorem own_AJ.clone {c : Cell} (H : ∀ i, i < c.slots.size → c.slots[i]? = some (.long (g i))) (q : c.cls = k) (S : c.slots.size = z.toNatClampNeg) (N : ¬ z < 0) (A : Arr Z h' b (cloneOf c) .long) : own_AJ Z h' b k z g := ⟨_, A, q, S, N, H⟩
end own_AJ

/-- what advance makes of the profile: m places are left, the next is the i-th -/
def own_adv (gl gc : Nat → Int32) : Nat → Nat → (Nat → Int32) → Int32 × (Nat → Int32)
  | 0, _, g => (0, g)
  | m + 1, i, g => if (own_updI g (gl i).toNatClampNeg ((g (gl i).toNatClampNeg) + (1 : Int32))) (gl i).toNatClampNeg < gc (gl i).toNatClampNeg then (1, own_updI g (gl i).toNatClampNeg ((g (gl i).toNatClampNeg) + (1 : Int32))) else own_adv gl gc m (i + 1) (own_updI (own_updI g (gl i).toNatClampNeg ((g (gl i).toNatClampNeg) + (1 : Int32))) (gl i).toNatClampNeg (0 : Int32))
/-- at the loop's head: k places are left -/
def own_ai (gl gc gp : Nat → Int32) (z : Int32) (k : Nat) (i : Int32) (g : Nat → Int32) : Prop := ¬ i < 0 ∧ i.toInt + k = z.toInt ∧ own_adv gl gc k i.toNatClampNeg g = own_adv gl gc z.toNatClampNeg 0 gp
theorem own_ai0 {gl gc gp : Nat → Int32} {z : Int32} (hz : ¬ z < 0 ∧ z < 4) : own_ai gl gc gp z z.toNatClampNeg 0 gp := by
  refine ⟨by decide, ?_, rfl⟩
  have a := hz.1
  rw [Int32.lt_iff_toInt_lt, show (0 : Int32).toInt = 0 from rfl] at a
  rw [show (0 : Int32).toInt = 0 from rfl]
  simp only [Int32.toNatClampNeg]; omega
theorem own_aiE {gl gc gp g : Nat → Int32} {z i : Int32} {k : Nat} (h : own_ai gl gc gp z k i g) (c : ¬ i < z) : own_adv gl gc z.toNatClampNeg 0 gp = (0, g) := by
  obtain ⟨a, b, e⟩ := h
  rw [Int32.lt_iff_toInt_lt] at c
  have : k = 0 := by omega
  subst this
  rw [← e]; rfl
theorem own_aiS {gl gc gp g : Nat → Int32} {z i : Int32} {k : Nat} (h : own_ai gl gc gp z k i g) (c : i < z) : k - 1 < k ∧ ∃ m, k = m + 1 ∧ k - 1 = m := by
  obtain ⟨a, b, e⟩ := h
  rw [Int32.lt_iff_toInt_lt] at c
  exact ⟨by omega, k - 1, by omega, rfl⟩
theorem own_ai1 {gl gc gp g : Nat → Int32} {z i : Int32} {k : Nat} (h : own_ai gl gc gp z k i g) (c : i < z) (d : (own_updI g (gl i.toNatClampNeg).toNatClampNeg ((g (gl i.toNatClampNeg).toNatClampNeg) + (1 : Int32))) (gl i.toNatClampNeg).toNatClampNeg < gc (gl i.toNatClampNeg).toNatClampNeg) :
    own_adv gl gc z.toNatClampNeg 0 gp = (1, own_updI g (gl i.toNatClampNeg).toNatClampNeg ((g (gl i.toNatClampNeg).toNatClampNeg) + (1 : Int32))) := by
  obtain ⟨-, m, rfl, -⟩ := own_aiS h c
  rw [← h.2.2]; exact if_pos d
theorem own_ai2 {gl gc gp g : Nat → Int32} {z i : Int32} {k : Nat} (hz : ¬ z < 0 ∧ z < 4) (h : own_ai gl gc gp z k i g) (c : i < z) (d : ¬ (own_updI g (gl i.toNatClampNeg).toNatClampNeg ((g (gl i.toNatClampNeg).toNatClampNeg) + (1 : Int32))) (gl i.toNatClampNeg).toNatClampNeg < gc (gl i.toNatClampNeg).toNatClampNeg) :
    own_ai gl gc gp z (k - 1) (i + (1 : Int32)) (own_updI (own_updI g (gl i.toNatClampNeg).toNatClampNeg ((g (gl i.toNatClampNeg).toNatClampNeg) + (1 : Int32))) (gl i.toNatClampNeg).toNatClampNeg (0 : Int32)) := by
  obtain ⟨-, m, rfl, -⟩ := own_aiS h c
  obtain ⟨a, b, e⟩ := h
  have s := c_iadd i 1
  have r := rng32 (i + 1); have r2 := rng32 i; have rz := rng32 z
  rw [Int32.lt_iff_toInt_lt, show (0 : Int32).toInt = 0 from rfl] at a
  rw [Int32.lt_iff_toInt_lt] at c
  rw [show (1 : Int32).toInt = 1 from rfl] at s
  have f : (i + 1).toInt = i.toInt + 1 := by omega
  refine ⟨by rw [Int32.lt_iff_toInt_lt, f, show (0 : Int32).toInt = 0 from rfl]; omega, by rw [f]; simp only [Nat.add_sub_cancel]; omega, ?_⟩
  rw [← e]
  have t : (i + 1).toNatClampNeg = i.toNatClampNeg + 1 := by simp only [Int32.toNatClampNeg, f]; omega
  rw [t]
  exact (if_neg d).symm
theorem own_lti {i z : Int32} (a : ¬ i < 0) (c : i < z) : i.toNatClampNeg < z.toNatClampNeg := by
  rw [Int32.lt_iff_toInt_lt] at a c
  rw [show (0 : Int32).toInt = 0 from rfl] at a
  simp only [Int32.toNatClampNeg]; omega
theorem d1_0 : decode prog_50_method_4_code 0 = .ok (.aload_n 1, 1) := by decide +kernel
theorem d1_1 : decode prog_50_method_4_code 1 = .ok (.astore_n 3, 1) := by decide +kernel
theorem d1_2 : decode prog_50_method_4_code 2 = .ok (.aload_n 3, 1) := by decide +kernel
theorem d1_3 : decode prog_50_method_4_code 3 = .ok (.arraylength, 1) := by decide +kernel
theorem d1_4 : decode prog_50_method_4_code 4 = .ok (.istore 4, 2) := by decide +kernel
theorem d1_6 : decode prog_50_method_4_code 6 = .ok (.iconst 0, 1) := by decide +kernel
theorem d1_7 : decode prog_50_method_4_code 7 = .ok (.istore 5, 2) := by decide +kernel
theorem d1_9 : decode prog_50_method_4_code 9 = .ok (.iload 5, 2) := by decide +kernel
theorem d1_11 : decode prog_50_method_4_code 11 = .ok (.iload 4, 2) := by decide +kernel
theorem d1_13 : decode prog_50_method_4_code 13 = .ok (.if_icmp .ge 41, 3) := by decide +kernel
theorem d1_16 : decode prog_50_method_4_code 16 = .ok (.aload_n 3, 1) := by decide +kernel
theorem d1_17 : decode prog_50_method_4_code 17 = .ok (.iload 5, 2) := by decide +kernel
theorem d1_19 : decode prog_50_method_4_code 19 = .ok (.iaload, 1) := by decide +kernel
theorem d1_20 : decode prog_50_method_4_code 20 = .ok (.istore 6, 2) := by decide +kernel
theorem d1_22 : decode prog_50_method_4_code 22 = .ok (.aload_n 0, 1) := by decide +kernel
theorem d1_23 : decode prog_50_method_4_code 23 = .ok (.iload 6, 2) := by decide +kernel
theorem d1_25 : decode prog_50_method_4_code 25 = .ok (.dup2, 1) := by decide +kernel
theorem d1_26 : decode prog_50_method_4_code 26 = .ok (.iaload, 1) := by decide +kernel
theorem d1_27 : decode prog_50_method_4_code 27 = .ok (.iconst 1, 1) := by decide +kernel
theorem d1_28 : decode prog_50_method_4_code 28 = .ok (.iadd, 1) := by decide +kernel
theorem d1_29 : decode prog_50_method_4_code 29 = .ok (.iastore, 1) := by decide +kernel
theorem d1_30 : decode prog_50_method_4_code 30 = .ok (.aload_n 0, 1) := by decide +kernel
theorem d1_31 : decode prog_50_method_4_code 31 = .ok (.iload 6, 2) := by decide +kernel
theorem d1_33 : decode prog_50_method_4_code 33 = .ok (.iaload, 1) := by decide +kernel
theorem d1_34 : decode prog_50_method_4_code 34 = .ok (.aload_n 2, 1) := by decide +kernel
theorem d1_35 : decode prog_50_method_4_code 35 = .ok (.iload 6, 2) := by decide +kernel
theorem d1_37 : decode prog_50_method_4_code 37 = .ok (.iaload, 1) := by decide +kernel
theorem d1_38 : decode prog_50_method_4_code 38 = .ok (.if_icmp .ge 5, 3) := by decide +kernel
theorem d1_41 : decode prog_50_method_4_code 41 = .ok (.iconst 1, 1) := by decide +kernel
theorem d1_42 : decode prog_50_method_4_code 42 = .ok (.ireturn, 1) := by decide +kernel
theorem d1_43 : decode prog_50_method_4_code 43 = .ok (.aload_n 0, 1) := by decide +kernel
theorem d1_44 : decode prog_50_method_4_code 44 = .ok (.iload 6, 2) := by decide +kernel
theorem d1_46 : decode prog_50_method_4_code 46 = .ok (.iconst 0, 1) := by decide +kernel
theorem d1_47 : decode prog_50_method_4_code 47 = .ok (.iastore, 1) := by decide +kernel
theorem d1_48 : decode prog_50_method_4_code 48 = .ok (.iinc 5 1, 3) := by decide +kernel
theorem d1_51 : decode prog_50_method_4_code 51 = .ok (.goto (-42), 3) := by decide +kernel
theorem d1_54 : decode prog_50_method_4_code 54 = .ok (.iconst 0, 1) := by decide +kernel
theorem d1_55 : decode prog_50_method_4_code 55 = .ok (.ireturn, 1) := by decide +kernel
theorem own_pn1 : plainName "com/example/parley/parley/game/Profiles" = true := by first | (simp [plainName, overriddenIn]; done) | decide +kernel
theorem own_ef1 (m : MethodId) (pa : Addr) (la : Addr) (ca : Addr) : entryFrame m #[(.ref pa), (.ref la), (.ref ca)] 7 = mkF m 0 #[.val (.ref pa), .val (.ref la), .val (.ref ca), .unset, .unset, .unset, .unset] [] := by first | (simp [entryFrame, mkF, argsToLocals, Value.category]; done) | rfl
def Q1 (Z : State) (pa : Addr) (la : Addr) (ca : Addr) (kp : ClassId) (kl : ClassId) (kc : ClassId) (z : Int32) (gp : Nat → Int32) (gl : Nat → Int32) (gc : Nat → Int32) (h0 : Heap) (n0 : Nat) (v : Option Value) (h : Heap) (L : List Loc) : Prop := ∃ (r : Int32) (g2 : Nat → Int32), v = some (.int r) ∧ Fr n0 L ∧ Keep h0 h [pa] ∧ own_AI Z h pa kp (3 : Int32) g2 ∧ own_adv gl gc z.toNatClampNeg 0 gp = (r, g2)
set_option maxRecDepth 65536 in
set_option maxHeartbeats 4000000 in
theorem rm1 (l : Launch) (Z : State) (a0 : Array Value) (hw : ∀ d ∈ tables_1, d.before a0 Z = true) (ws : List Jvm.Cond) (pa : Addr) (la : Addr) (ca : Addr) (kp : ClassId) (kl : ClassId) (kc : ClassId) (z : Int32) (gp : Nat → Int32) (gl : Nat → Int32) (gc : Nat → Int32) (h0 : Heap) (n0 : Nat) (Z0 : n0 ≤ h0.size) (F0 : own_AI Z h0 pa kp (3 : Int32) gp) (F1 : own_AI Z h0 la kl z gl) (F2 : own_AI Z h0 ca kc (3 : Int32) gc) (n1 : la ≠ pa) (n2 : ca ≠ pa) (hz : ¬ z < 0 ∧ z < 4) (hl : ∀ i, i < z.toNatClampNeg → ¬ (gl i) < 0 ∧ (gl i) < (3 : Int32)) (g_pa : n0 ≤ pa) :
    MetFree l (⟨"com/example/parley/parley/game/Profiles", "advance", "([I[I[I)Z"⟩ : MethodName) (head1 (Jvm.Cond.code (⟨"com/example/parley/parley/game/Profiles", "advance", "([I[I[I)Z"⟩ : MethodName) prog_50_method_4_code 7 (some .boolean) :: ws) ({ frames := 0, cells := 0, slots := 0, locals := 0 } : Room)) (fun aW U => aW = #[(.ref pa), (.ref la), (.ref ca)] ∧ Z.Warmed39 U.vm ∧ U.heap = h0) (fun _ _ _ _ _ => True) (fun _ U o U' => ∃ v L, o = .returned v ∧ Q1 Z pa la ca kp kl kc z gp gl gc h0 n0 v U'.heap L ∧ FrameEnd U o U' L ({ frames := 0, cells := 0, slots := 0, locals := 0 } : Room).cells ({ frames := 0, cells := 0, slots := 0, locals := 0 } : Room).slots) := by
  refine MetFree.of_bodySF (plainFor_of_name own_pn1) hisR ?_
  intro p e s m args below meth c s₁ Bd hml0 hP hK
  obtain ⟨rfl, hZ, hh⟩ := hP
  have hx := Bd.exec
  have hby := Bd.bytes
  have hml : c.maxLocals = 7 := hml0
  have hown : s.vm.findClass "com/example/parley/parley/game/Profiles" = some m.cls := findClass_of_methodNamed Bd.named
  have hnm := (name_of_methodNamed Bd.named Bd.method).1
  have X0 : Stand p l e ({ frames := 0, cells := 0, slots := 0, locals := 0 } : Room) s m #[(.ref pa), (.ref la), (.ref ca)] below meth c s₁ [] 0 0 := Stand.of_body Bd
  have e0 : s₁.heap = h0 := by rw [← hh, Bd.state]; rfl
  have N0 := Fr.nil n0
  have K0 : Keep h0 h0 [pa] := Keep.refl _ _
  obtain ⟨Pq, hPq⟩ : ∃ P, P = own_P s below (fun v h L => Q1 Z pa la ca kp kl kc z gp gl gc h0 n0 v h L) ({ frames := 0, cells := 0, slots := 0, locals := 0 } : Room).cells ({ frames := 0, cells := 0, slots := 0, locals := 0 } : Room).slots := ⟨_, rfl⟩
  suffices hgo : own_Go p.tables e below Pq s₁ (mkF m 0 #[.val (.ref pa), .val (.ref la), .val (.ref ca), .unset, .unset, .unset, .unset] []) by
    subst hPq
    obtain ⟨t, k1, k2, o, k3, k4⟩ := hgo
    exact ⟨t, o, castTop (own_ef1 m pa la ca) k1, k2, k3, k4⟩
  show own_Go _ _ _ _ s₁ (mkF m 0 #[.val (.ref pa), .val (.ref la), .val (.ref ca), .unset, .unset, .unset, .unset] [])
  refine own_st (fun t k => XS.aloadN X0.here hx rfl (hb hby d1_0) rfl rfl k) ?_
  show own_Go _ _ _ _ s₁ (mkF m 1 _ [(.ref la)])
  refine own_st (fun t k => XS.astoreN X0.here hx rfl (hb hby d1_1) rfl rfl (l' := #[.val (.ref pa), .val (.ref la), .val (.ref ca), .val (.ref la), .unset, .unset, .unset]) rfl k) ?_
  show own_Go _ _ _ _ s₁ (mkF m 2 #[.val (.ref pa), .val (.ref la), .val (.ref ca), .val (.ref la), .unset, .unset, .unset] [])
  refine own_st (fun t k => XS.aloadN X0.here hx rfl (hb hby d1_2) rfl rfl k) ?_
  show own_Go _ _ _ _ s₁ (mkF m 3 _ [(.ref la)])
  obtain ⟨c1, Ar1, q1, S1, N1, H1⟩ := id F1
  refine own_st (fun t k => X0.arraylength hx (by rw [e0]; exact Ar1.1) (State.isArrayOf_alike hZ.alike Ar1.2.1) (g := (mkF m 3 #[.val (.ref pa), .val (.ref la), .val (.ref ca), .val (.ref la), .unset, .unset, .unset] [(.ref la)])) rfl rfl (hb hby d1_3) _ k) ?_
  rw [len_of S1 N1]
  show own_Go _ _ _ _ s₁ (mkF m 4 _ [(.int z)])
  refine own_st (fun t k => XS.istore X0.here hx rfl (hb hby d1_4) rfl (l' := #[.val (.ref pa), .val (.ref la), .val (.ref ca), .val (.ref la), .val (.int z), .unset, .unset]) rfl k) ?_
  show own_Go _ _ _ _ s₁ (mkF m 6 #[.val (.ref pa), .val (.ref la), .val (.ref ca), .val (.ref la), .val (.int z), .unset, .unset] [])
  refine own_st (fun t k => XS.iconst X0.here hx rfl (hb hby d1_6) k) ?_
  show own_Go _ _ _ _ s₁ (mkF m 7 _ [(.int (0 : Int32))])
  refine own_st (fun t k => XS.istore X0.here hx rfl (hb hby d1_7) rfl (l' := #[.val (.ref pa), .val (.ref la), .val (.ref ca), .val (.ref la), .val (.int z), .val (.int (0 : Int32)), .unset]) rfl k) ?_
  show own_Go _ _ _ _ s₁ (mkF m 9 #[.val (.ref pa), .val (.ref la), .val (.ref ca), .val (.ref la), .val (.int z), .val (.int (0 : Int32)), .unset] [])
  have Lp : ∀ (kk : Nat) (Tl : State) (Ll : List Loc) (hl_ : Heap) (i : Int32) (g : Nat → Int32) (s6 : Slot), Stand p l e ({ frames := 0, cells := 0, slots := 0, locals := 0 } : Room) s m #[(.ref pa), (.ref la), (.ref ca)] below meth c Tl Ll 0 0 → Tl.heap = hl_ → Fr n0 Ll → n0 ≤ hl_.size → Keep h0 hl_ [pa] → own_AI Z hl_ pa kp (3 : Int32) g → own_AI Z hl_ la kl z gl → own_AI Z hl_ ca kc (3 : Int32) gc → (s6 = .unset ∨ ∃ x : Int32, s6 = .val (.int x)) → own_ai gl gc gp z kk i g → own_Go p.tables e below Pq Tl (mkF m 9 #[.val (.ref pa), .val (.ref la), .val (.ref ca), .val (.ref la), .val (.int z), .val (.int i), s6] []) := by
    intro kk
    induction kk using Nat.strongRecOn with
    | _ kk ih =>
      intro Tl Ll hl_ i g s6 Xl el Nl Zl Kl fp fl fc D6 Iv
      show own_Go _ _ _ _ Tl (mkF m 9 #[.val (.ref pa), .val (.ref la), .val (.ref ca), .val (.ref la), .val (.int z), .val (.int i), s6] [])
      refine own_st (fun t k => XS.iload Xl.here hx rfl (hb hby d1_9) rfl k) ?_
      show own_Go _ _ _ _ Tl (mkF m 11 _ [(.int i)])
      refine own_st (fun t k => XS.iload Xl.here hx rfl (hb hby d1_11) rfl k) ?_
      show own_Go _ _ _ _ Tl (mkF m 13 _ [(.int z), (.int i)])
      by_cases c2 : i < z
      · skip
        refine own_st (fun t k => XS.icmpNo Xl.here hx rfl (hb hby d1_13) rfl (tlt c2).2.1 k) ?_
        show own_Go _ _ _ _ Tl (mkF m 16 _ [])
        refine own_st (fun t k => XS.aloadN Xl.here hx rfl (hb hby d1_16) rfl rfl k) ?_
        show own_Go _ _ _ _ Tl (mkF m 17 _ [(.ref la)])
        refine own_st (fun t k => XS.iload Xl.here hx rfl (hb hby d1_17) rfl k) ?_
        show own_Go _ _ _ _ Tl (mkF m 19 _ [(.int i), (.ref la)])
        obtain ⟨c3, Ar3, q3, S3, N3, H3⟩ := id fl
        refine own_st (fun t k => Xl.iaload hx (j := i) (v := (.int (gl i.toNatClampNeg))) (by rw [el]; exact Ar3.1) (State.isArrayOf_alike hZ.alike Ar3.2.1) Ar3.2.2 (inb_of S3 ⟨Iv.1, c2⟩) (H3 _ (own_lt (inb_of S3 ⟨Iv.1, c2⟩))) (g := (mkF m 19 #[.val (.ref pa), .val (.ref la), .val (.ref ca), .val (.ref la), .val (.int z), .val (.int i), s6] [(.int i), (.ref la)])) rfl rfl (hb hby d1_19) _ k) ?_
        show own_Go _ _ _ _ Tl (mkF m 20 _ [(.int (gl i.toNatClampNeg))])
        have os4 : storeLocals #[.val (.ref pa), .val (.ref la), .val (.ref ca), .val (.ref la), .val (.int z), .val (.int i), s6] 6 (.int (gl i.toNatClampNeg)) = some #[.val (.ref pa), .val (.ref la), .val (.ref ca), .val (.ref la), .val (.int z), .val (.int i), .val (.int (gl i.toNatClampNeg))] := by rcases D6 with ⟨rfl⟩ | ⟨_, rfl⟩ <;> rfl
        refine own_st (fun t k => XS.istore Xl.here hx rfl (hb hby d1_20) rfl (l' := #[.val (.ref pa), .val (.ref la), .val (.ref ca), .val (.ref la), .val (.int z), .val (.int i), .val (.int (gl i.toNatClampNeg))]) os4 k) ?_
        show own_Go _ _ _ _ Tl (mkF m 22 #[.val (.ref pa), .val (.ref la), .val (.ref ca), .val (.ref la), .val (.int z), .val (.int i), .val (.int (gl i.toNatClampNeg))] [])
        refine own_st (fun t k => XS.aloadN Xl.here hx rfl (hb hby d1_22) rfl rfl k) ?_
        show own_Go _ _ _ _ Tl (mkF m 23 _ [(.ref pa)])
        refine own_st (fun t k => XS.iload Xl.here hx rfl (hb hby d1_23) rfl k) ?_
        show own_Go _ _ _ _ Tl (mkF m 25 _ [(.int (gl i.toNatClampNeg)), (.ref pa)])
        refine own_st (fun t k => XT.dup2 Xl.here hx rfl (hb hby d1_25) rfl rfl rfl k) ?_
        show own_Go _ _ _ _ Tl (mkF m 26 _ [(.int (gl i.toNatClampNeg)), (.ref pa), (.int (gl i.toNatClampNeg)), (.ref pa)])
        obtain ⟨c5, Ar5, q5, S5, N5, H5⟩ := id fp
        refine own_st (fun t k => Xl.iaload hx (j := (gl i.toNatClampNeg)) (v := (.int (g (gl i.toNatClampNeg).toNatClampNeg))) (by rw [el]; exact Ar5.1) (State.isArrayOf_alike hZ.alike Ar5.2.1) Ar5.2.2 (inb_of S5 (hl _ (own_lti Iv.1 c2))) (H5 _ (own_lt (inb_of S5 (hl _ (own_lti Iv.1 c2))))) (g := (mkF m 26 #[.val (.ref pa), .val (.ref la), .val (.ref ca), .val (.ref la), .val (.int z), .val (.int i), .val (.int (gl i.toNatClampNeg))] [(.int (gl i.toNatClampNeg)), (.ref pa), (.int (gl i.toNatClampNeg)), (.ref pa)])) rfl rfl (hb hby d1_26) _ k) ?_
        show own_Go _ _ _ _ Tl (mkF m 27 _ [(.int (g (gl i.toNatClampNeg).toNatClampNeg)), (.int (gl i.toNatClampNeg)), (.ref pa)])
        refine own_st (fun t k => XS.iconst Xl.here hx rfl (hb hby d1_27) k) ?_
        show own_Go _ _ _ _ Tl (mkF m 28 _ [(.int (1 : Int32)), (.int (g (gl i.toNatClampNeg).toNatClampNeg)), (.int (gl i.toNatClampNeg)), (.ref pa)])
        refine own_st (fun t k => XS.iadd Xl.here hx rfl (hb hby d1_28) rfl k) ?_
        show own_Go _ _ _ _ Tl (mkF m 29 _ [(.int ((g (gl i.toNatClampNeg).toNatClampNeg) + (1 : Int32))), (.int (gl i.toNatClampNeg)), (.ref pa)])
        obtain ⟨c6, Ar6, q6, S6, N6, H6⟩ := id fp
        obtain ⟨T6, h6, X6, e6, W6, st6⟩ := stI Xl hx hZ el Ar6 (j := (gl i.toNatClampNeg)) (inb_of S6 (hl _ (own_lti Iv.1 c2))) (g := (mkF m 29 #[.val (.ref pa), .val (.ref la), .val (.ref ca), .val (.ref la), .val (.int z), .val (.int i), .val (.int (gl i.toNatClampNeg))] [(.int ((g (gl i.toNatClampNeg).toNatClampNeg) + (1 : Int32))), (.int (gl i.toNatClampNeg)), (.ref pa)])) rfl rfl (hb hby d1_29)
        refine own_st st6 ?_
        have f7 : own_AI Z h6 pa kp (3 : Int32) (own_updI g (gl i.toNatClampNeg).toNatClampNeg ((g (gl i.toNatClampNeg).toNatClampNeg) + (1 : Int32))) := own_AI.set fp W6
        have f8 := fl.other W6 n1
        have f9 := fc.other W6 n2
        have N10 := Fr.snoc X6 Nl g_pa
        have Z11 : n0 ≤ h6.size := Nat.le_trans Zl (Nat.le_of_eq W6.size.symm)
        have K12 : Keep h0 h6 [pa] := Kl.wr W6 (Or.inl (List.mem_of_getElem? (i := 0) rfl))
        show own_Go _ _ _ _ T6 (mkF m 30 _ [])
        refine own_st (fun t k => XS.aloadN X6.here hx rfl (hb hby d1_30) rfl rfl k) ?_
        show own_Go _ _ _ _ T6 (mkF m 31 _ [(.ref pa)])
        refine own_st (fun t k => XS.iload X6.here hx rfl (hb hby d1_31) rfl k) ?_
        show own_Go _ _ _ _ T6 (mkF m 33 _ [(.int (gl i.toNatClampNeg)), (.ref pa)])
        obtain ⟨c13, Ar13, q13, S13, N13, H13⟩ := id f7
        refine own_st (fun t k => X6.iaload hx (j := (gl i.toNatClampNeg)) (v := (.int ((own_updI g (gl i.toNatClampNeg).toNatClampNeg ((g (gl i.toNatClampNeg).toNatClampNeg) + (1 : Int32))) (gl i.toNatClampNeg).toNatClampNeg))) (by rw [e6]; exact Ar13.1) (State.isArrayOf_alike hZ.alike Ar13.2.1) Ar13.2.2 (inb_of S13 (hl _ (own_lti Iv.1 c2))) (H13 _ (own_lt (inb_of S13 (hl _ (own_lti Iv.1 c2))))) (g := (mkF m 33 #[.val (.ref pa), .val (.ref la), .val (.ref ca), .val (.ref la), .val (.int z), .val (.int i), .val (.int (gl i.toNatClampNeg))] [(.int (gl i.toNatClampNeg)), (.ref pa)])) rfl rfl (hb hby d1_33) _ k) ?_
        show own_Go _ _ _ _ T6 (mkF m 34 _ [(.int ((own_updI g (gl i.toNatClampNeg).toNatClampNeg ((g (gl i.toNatClampNeg).toNatClampNeg) + (1 : Int32))) (gl i.toNatClampNeg).toNatClampNeg))])
        refine own_st (fun t k => XS.aloadN X6.here hx rfl (hb hby d1_34) rfl rfl k) ?_
        show own_Go _ _ _ _ T6 (mkF m 35 _ [(.ref ca), (.int ((own_updI g (gl i.toNatClampNeg).toNatClampNeg ((g (gl i.toNatClampNeg).toNatClampNeg) + (1 : Int32))) (gl i.toNatClampNeg).toNatClampNeg))])
        refine own_st (fun t k => XS.iload X6.here hx rfl (hb hby d1_35) rfl k) ?_
        show own_Go _ _ _ _ T6 (mkF m 37 _ [(.int (gl i.toNatClampNeg)), (.ref ca), (.int ((own_updI g (gl i.toNatClampNeg).toNatClampNeg ((g (gl i.toNatClampNeg).toNatClampNeg) + (1 : Int32))) (gl i.toNatClampNeg).toNatClampNeg))])
        obtain ⟨c14, Ar14, q14, S14, N14, H14⟩ := id f9
        refine own_st (fun t k => X6.iaload hx (j := (gl i.toNatClampNeg)) (v := (.int (gc (gl i.toNatClampNeg).toNatClampNeg))) (by rw [e6]; exact Ar14.1) (State.isArrayOf_alike hZ.alike Ar14.2.1) Ar14.2.2 (inb_of S14 (hl _ (own_lti Iv.1 c2))) (H14 _ (own_lt (inb_of S14 (hl _ (own_lti Iv.1 c2))))) (g := (mkF m 37 #[.val (.ref pa), .val (.ref la), .val (.ref ca), .val (.ref la), .val (.int z), .val (.int i), .val (.int (gl i.toNatClampNeg))] [(.int (gl i.toNatClampNeg)), (.ref ca), (.int ((own_updI g (gl i.toNatClampNeg).toNatClampNeg ((g (gl i.toNatClampNeg).toNatClampNeg) + (1 : Int32))) (gl i.toNatClampNeg).toNatClampNeg))])) rfl rfl (hb hby d1_37) _ k) ?_
        show own_Go _ _ _ _ T6 (mkF m 38 _ [(.int (gc (gl i.toNatClampNeg).toNatClampNeg)), (.int ((own_updI g (gl i.toNatClampNeg).toNatClampNeg ((g (gl i.toNatClampNeg).toNatClampNeg) + (1 : Int32))) (gl i.toNatClampNeg).toNatClampNeg))])
        by_cases c15 : ((own_updI g (gl i.toNatClampNeg).toNatClampNeg ((g (gl i.toNatClampNeg).toNatClampNeg) + (1 : Int32))) (gl i.toNatClampNeg).toNatClampNeg) < (gc (gl i.toNatClampNeg).toNatClampNeg)
        · skip
          refine own_st (fun t k => XS.icmpNo X6.here hx rfl (hb hby d1_38) rfl (tlt c15).2.1 k) ?_
          show own_Go _ _ _ _ T6 (mkF m 41 _ [])
          refine own_st (fun t k => XS.iconst X6.here hx rfl (hb hby d1_41) k) ?_
          show own_Go _ _ _ _ T6 (mkF m 42 _ [(.int (1 : Int32))])
          subst hPq
          refine own_out X6 (v := some (.int (1 : Int32))) (fun h => by rw [Bd.returns] at h; cases h) Bd.notSynchronized (own_retZ X6 hx Bd.returns (hb hby d1_42) (by decide)) (by decide) (by decide) ?_
          show Q1 Z pa la ca kp kl kc z gp gl gc h0 n0 _ T6.heap _
          rw [e6]
          exact ⟨(1 : Int32), (own_updI g (gl i.toNatClampNeg).toNatClampNeg ((g (gl i.toNatClampNeg).toNatClampNeg) + (1 : Int32))), rfl, N10, K12, f7, own_ai1 Iv c2 c15⟩
        · skip
          refine own_st (fun t k => XS.icmpYes X6.here hx rfl (pc0 := 38) (pc' := 43) rfl (hb hby d1_38) rfl (flt c15).2.1 (by decide) (by decide) k) ?_
          show own_Go _ _ _ _ T6 (mkF m 43 _ [])
          refine own_st (fun t k => XS.aloadN X6.here hx rfl (hb hby d1_43) rfl rfl k) ?_
          show own_Go _ _ _ _ T6 (mkF m 44 _ [(.ref pa)])
          refine own_st (fun t k => XS.iload X6.here hx rfl (hb hby d1_44) rfl k) ?_
          show own_Go _ _ _ _ T6 (mkF m 46 _ [(.int (gl i.toNatClampNeg)), (.ref pa)])
          refine own_st (fun t k => XS.iconst X6.here hx rfl (hb hby d1_46) k) ?_
          show own_Go _ _ _ _ T6 (mkF m 47 _ [(.int (0 : Int32)), (.int (gl i.toNatClampNeg)), (.ref pa)])
          obtain ⟨c16, Ar16, q16, S16, N16, H16⟩ := id f7
          obtain ⟨T16, h16, X16, e16, W16, st16⟩ := stI X6 hx hZ e6 Ar16 (j := (gl i.toNatClampNeg)) (inb_of S16 (hl _ (own_lti Iv.1 c2))) (g := (mkF m 47 #[.val (.ref pa), .val (.ref la), .val (.ref ca), .val (.ref la), .val (.int z), .val (.int i), .val (.int (gl i.toNatClampNeg))] [(.int (0 : Int32)), (.int (gl i.toNatClampNeg)), (.ref pa)])) rfl rfl (hb hby d1_47)
          refine own_st st16 ?_
          have f17 : own_AI Z h16 pa kp (3 : Int32) (own_updI (own_updI g (gl i.toNatClampNeg).toNatClampNeg ((g (gl i.toNatClampNeg).toNatClampNeg) + (1 : Int32))) (gl i.toNatClampNeg).toNatClampNeg (0 : Int32)) := own_AI.set f7 W16
          have f18 := f8.other W16 n1
          have f19 := f9.other W16 n2
          have N20 := Fr.snoc X16 N10 g_pa
          have Z21 : n0 ≤ h16.size := Nat.le_trans Z11 (Nat.le_of_eq W16.size.symm)
          have K22 : Keep h0 h16 [pa] := K12.wr W16 (Or.inl (List.mem_of_getElem? (i := 0) rfl))
          show own_Go _ _ _ _ T16 (mkF m 48 _ [])
          refine own_st (fun t k => XS.iinc X16.here hx rfl (hb hby d1_48) rfl (l' := #[.val (.ref pa), .val (.ref la), .val (.ref ca), .val (.ref la), .val (.int z), .val (.int (i + (1 : Int32))), .val (.int (gl i.toNatClampNeg))]) rfl k) ?_
          show own_Go _ _ _ _ T16 (mkF m 51 #[.val (.ref pa), .val (.ref la), .val (.ref ca), .val (.ref la), .val (.int z), .val (.int (i + (1 : Int32))), .val (.int (gl i.toNatClampNeg))] [])
          show own_Go _ _ _ _ T16 (mkF m 51 _ [])
          refine own_st (fun t k => XS.goto X16.here hx rfl (pc0 := 51) (pc' := 9) rfl (hb hby d1_51) (by decide) (by decide) k) ?_
          show own_Go _ _ _ _ T16 (mkF m 9 _ [])
          exact ih (kk - 1) (own_aiS Iv c2).1 T16 _ h16 _ _ _ X16 e16 N20 Z21 K22 f17 f18 f19 (Or.inr ⟨_, rfl⟩) (own_ai2 hz Iv c2 c15)
      · skip
        refine own_st (fun t k => XS.icmpYes Xl.here hx rfl (pc0 := 13) (pc' := 54) rfl (hb hby d1_13) rfl (flt c2).2.1 (by decide) (by decide) k) ?_
        show own_Go _ _ _ _ Tl (mkF m 54 _ [])
        refine own_st (fun t k => XS.iconst Xl.here hx rfl (hb hby d1_54) k) ?_
        show own_Go _ _ _ _ Tl (mkF m 55 _ [(.int (0 : Int32))])
        subst hPq
        refine own_out Xl (v := some (.int (0 : Int32))) (fun h => by rw [Bd.returns] at h; cases h) Bd.notSynchronized (own_retZ Xl hx Bd.returns (hb hby d1_55) (by decide)) (by decide) (by decide) ?_
        show Q1 Z pa la ca kp kl kc z gp gl gc h0 n0 _ Tl.heap _
        rw [el]
        exact ⟨(0 : Int32), g, rfl, Nl, Kl, fp, own_aiE Iv c2⟩
  exact Lp z.toNatClampNeg s₁ _ _ _ _ _ X0 e0 N0 Z0 K0 F0 F1 F2 (Or.inl rfl) (own_ai0 hz)
theorem own_cap3 {k : Int32} (h : ¬ k < 0 ∧ k < 4) : k.toNatClampNeg ≤ 3 := by
  have a := h.2
  rw [Int32.lt_iff_toInt_lt, show (4 : Int32).toInt = 4 from rfl] at a
  simp only [Int32.toNatClampNeg]; omega
/-- a count from 1 to 4 and a digit below it -/
def own_ok (r d : Int32) : Prop := ∃ a : Fin 4, ∃ b : Fin 4, r = Int32.ofNat (a.val + 1) ∧ d = Int32.ofNat b.val ∧ b.val ≤ a.val
/-- the mixed number's next, digit by digit: w: it wraps; x: the next number -/
def own_w (r0 r1 r2 d0 d1 d2 : Int32) : Int32 := if (d0 + (r0 * (d1 + (r1 * d2)))) + 1 = ((r0 * r1) * r2) then (1 : Int32) else 0
def own_nx (r0 r1 r2 d0 d1 d2 : Int32) : Int32 := if own_w r0 r1 r2 d0 d1 d2 = 0 then (d0 + (r0 * (d1 + (r1 * d2)))) + 1 else 0
def own_d4 (a b c d w x y z : Int32) : Prop := w = a ∧ x = b ∧ y = c ∧ z = d
instance own_d4D (a b c d w x y z : Int32) : Decidable (own_d4 a b c d w x y z) := by unfold own_d4; infer_instance
def own_dg (r0 r1 r2 d0 d1 d2 w x : Int32) : Prop :=
  (d0 + 1 < r0 → own_d4 0 (d0 + 1) d1 d2 w (x % r0) ((x / r0) % r1) ((x / (r0 * r1)) % r2)) ∧
  (¬ d0 + 1 < r0 → d1 + 1 < r1 → own_d4 0 0 (d1 + 1) d2 w (x % r0) ((x / r0) % r1) ((x / (r0 * r1)) % r2)) ∧
  (¬ d0 + 1 < r0 → ¬ d1 + 1 < r1 → d2 + 1 < r2 → own_d4 0 0 0 (d2 + 1) w (x % r0) ((x / r0) % r1) ((x / (r0 * r1)) % r2)) ∧
  (¬ d0 + 1 < r0 → ¬ d1 + 1 < r1 → ¬ d2 + 1 < r2 → own_d4 1 0 0 0 w (x % r0) ((x / r0) % r1) ((x / (r0 * r1)) % r2)) ∧ r0 ≠ 0 ∧ r1 ≠ 0 ∧ r2 ≠ 0 ∧ (r0 * r1) ≠ 0
instance own_dgD (r0 r1 r2 d0 d1 d2 w x : Int32) : Decidable (own_dg r0 r1 r2 d0 d1 d2 w x) := by unfold own_dg; infer_instance
theorem own_digA : ∀ a b c x y z : Fin 4, x.val ≤ a.val → y.val ≤ b.val → z.val ≤ c.val → own_dg (Int32.ofNat (a.val + 1)) (Int32.ofNat (b.val + 1)) (Int32.ofNat (c.val + 1)) (Int32.ofNat x.val) (Int32.ofNat y.val) (Int32.ofNat z.val)
    (own_w (Int32.ofNat (a.val + 1)) (Int32.ofNat (b.val + 1)) (Int32.ofNat (c.val + 1)) (Int32.ofNat x.val) (Int32.ofNat y.val) (Int32.ofNat z.val)) (own_nx (Int32.ofNat (a.val + 1)) (Int32.ofNat (b.val + 1)) (Int32.ofNat (c.val + 1)) (Int32.ofNat x.val) (Int32.ofNat y.val) (Int32.ofNat z.val)) := by decide +kernel
theorem own_dig {r0 r1 r2 d0 d1 d2 : Int32} (h0 : own_ok r0 d0) (h1 : own_ok r1 d1) (h2 : own_ok r2 d2) : own_dg r0 r1 r2 d0 d1 d2 (own_w r0 r1 r2 d0 d1 d2) (own_nx r0 r1 r2 d0 d1 d2) := by
  obtain ⟨a, x, rfl, rfl, l0⟩ := h0
  obtain ⟨b, y, rfl, rfl, l1⟩ := h1
  obtain ⟨c, z, rfl, rfl, l2⟩ := h2
  exact own_digA a b c x y z l0 l1 l2
theorem own_ok1 : own_ok 1 0 := ⟨0, 0, by decide, by decide, by decide⟩
theorem own_cnt {x r : Int32} (h : (1 : Int32) + (x &&& (3 : Int32)) = r) (y : Int32) (d : Int32) (hd : (y &&& (2147483647 : Int32)) % r = d) : own_ok r d := by
  have e := c_mask x 3 2 (by decide) (by decide)
  generalize (x &&& 3) = u at *
  have e2 := c_iadd 1 u
  rw [h, show (1 : Int32).toInt = 1 from rfl] at e2
  have rr := rng32 r
  have f : r.toInt = 1 + u.toInt := by omega
  have m := c_mask y 2147483647 31 (by decide) (by decide)
  generalize (y &&& 2147483647) = q at *
  have e3 := (c_irem q r r.toInt rfl).1 (by omega)
  rw [hd] at e3
  have m1 := Int.emod_nonneg q.toInt (show r.toInt ≠ 0 by omega)
  have m2 := Int.emod_lt_of_pos q.toInt (show 0 < r.toInt by omega)
  rw [← e3] at m1 m2
  have s : ∀ (v : Int32) (n : Nat), n < 5 → v.toInt = n → v = Int32.ofNat n := fun v n hn hv => by
    apply Int32.toInt_inj.mp
    rw [hv]
    have : n = 0 ∨ n = 1 ∨ n = 2 ∨ n = 3 ∨ n = 4 := by omega
    rcases this with rfl | rfl | rfl | rfl | rfl <;> decide
  refine ⟨⟨u.toInt.toNat, by omega⟩, ⟨d.toInt.toNat, by omega⟩, ?_, ?_, ?_⟩
  · exact s r (u.toInt.toNat + 1) (by omega) (by omega)
  · exact s d d.toInt.toNat (by omega) (by omega)
  · show d.toInt.toNat ≤ u.toInt.toNat; omega
def own_Pl (k q0 q1 q2 : Int32) : Nat → Int32 := if (2 : Int32) < k then own_updI (if (1 : Int32) < k then own_updI (if (0 : Int32) < k then own_updI (fun _ => 0) 0 q0 else fun _ => 0) 1 q1 else (if (0 : Int32) < k then own_updI (fun _ => 0) 0 q0 else fun _ => 0)) 2 q2 else (if (1 : Int32) < k then own_updI (if (0 : Int32) < k then own_updI (fun _ => 0) 0 q0 else fun _ => 0) 1 q1 else (if (0 : Int32) < k then own_updI (fun _ => 0) 0 q0 else fun _ => 0))
def own_Ex (G : Nat → Int32) (k q0 q1 q2 e0 e1 e2 : Int32) : Nat → Int32 := if (2 : Int32) < k then own_updI (if (1 : Int32) < k then own_updI (if (0 : Int32) < k then own_updI G q0.toNatClampNeg e0 else G) q1.toNatClampNeg e1 else (if (0 : Int32) < k then own_updI G q0.toNatClampNeg e0 else G)) q2.toNatClampNeg e2 else (if (1 : Int32) < k then own_updI (if (0 : Int32) < k then own_updI G q0.toNatClampNeg e0 else G) q1.toNatClampNeg e1 else (if (0 : Int32) < k then own_updI G q0.toNatClampNeg e0 else G))
def own_perm (q0 q1 q2 : Int32) : Prop := (q0 = 0 ∧ q1 = 1 ∧ q2 = 2) ∨ (q0 = 0 ∧ q1 = 2 ∧ q2 = 1) ∨ (q0 = 1 ∧ q1 = 0 ∧ q2 = 2) ∨ (q0 = 1 ∧ q1 = 2 ∧ q2 = 0) ∨ (q0 = 2 ∧ q1 = 0 ∧ q2 = 1) ∨ (q0 = 2 ∧ q1 = 1 ∧ q2 = 0)
theorem own_t0 : (0 : Int32).toNatClampNeg = 0 := by decide
theorem own_t1 : (1 : Int32).toNatClampNeg = 1 := by decide
theorem own_t2 : (2 : Int32).toNatClampNeg = 2 := by decide
theorem own_t3 : (3 : Int32).toNatClampNeg = 3 := by decide
theorem own_core (gc gd : Nat → Int32) (k q0 q1 q2 r0 r1 r2 d0 d1 d2 e0 e1 e2 r : Int32) (g2 : Nat → Int32) (hk : k = 0 ∨ k = 1 ∨ k = 2 ∨ k = 3) (hq : own_perm q0 q1 q2) (ok : ∀ i, i < 3 → own_ok (gc i) (gd i))
    (hr0 : r0 = if (0 : Int32) < k then gc q0.toNatClampNeg else 1) (hr1 : r1 = if (1 : Int32) < k then gc q1.toNatClampNeg else 1) (hr2 : r2 = if (2 : Int32) < k then gc q2.toNatClampNeg else 1)
    (hd0 : d0 = if (0 : Int32) < k then gd q0.toNatClampNeg else 0) (hd1 : d1 = if (1 : Int32) < k then gd q1.toNatClampNeg else 0) (hd2 : d2 = if (2 : Int32) < k then gd q2.toNatClampNeg else 0)
    (he0 : e0 = own_nx r0 r1 r2 d0 d1 d2 % r0) (he1 : e1 = (own_nx r0 r1 r2 d0 d1 d2 / r0) % r1) (he2 : e2 = (own_nx r0 r1 r2 d0 d1 d2 / (r0 * r1)) % r2)
    (ha : own_adv (own_Pl k q0 q1 q2) gc k.toNatClampNeg 0 gd = (r, g2)) :
    r = (if own_w r0 r1 r2 d0 d1 d2 = 0 then 1 else 0) ∧ g2 0 = own_Ex gd k q0 q1 q2 e0 e1 e2 0 ∧ g2 1 = own_Ex gd k q0 q1 q2 e0 e1 e2 1 ∧ g2 2 = own_Ex gd k q0 q1 q2 e0 e1 e2 2 := by
  have o0 := ok 0 (by decide); have o1 := ok 1 (by decide); have o2 := ok 2 (by decide)
  rcases hk with rfl | rfl | rfl | rfl
  · simp only [show ¬ (0 : Int32) < 0 by decide, show ¬ (1 : Int32) < 0 by decide, show ¬ (2 : Int32) < 0 by decide, if_false, if_true] at hr0 hr1 hr2 hd0 hd1 hd2
    subst hr0 hr1 hr2 hd0 hd1 hd2
    rw [own_t0] at ha
    simp only [own_adv, Prod.mk.injEq] at ha
    obtain ⟨rfl, rfl⟩ := ha
    simp only [own_Ex, show ¬ (0 : Int32) < 0 by decide, show ¬ (1 : Int32) < 0 by decide, show ¬ (2 : Int32) < 0 by decide, if_false, if_true]
    exact ⟨by decide, trivial, trivial, trivial⟩
  · simp only [show (0 : Int32) < 1 by decide, show ¬ (1 : Int32) < 1 by decide, show ¬ (2 : Int32) < 1 by decide, if_false, if_true] at hr0 hr1 hr2 hd0 hd1 hd2
    rcases hq with ⟨rfl, rfl, rfl⟩ | ⟨rfl, rfl, rfl⟩ | ⟨rfl, rfl, rfl⟩ | ⟨rfl, rfl, rfl⟩ | ⟨rfl, rfl, rfl⟩ | ⟨rfl, rfl, rfl⟩
    all_goals
      simp only [own_t0, own_t1, own_t2] at hr0 hr1 hr2 hd0 hd1 hd2
      have D : own_dg r0 r1 r2 d0 d1 d2 (own_w r0 r1 r2 d0 d1 d2) (own_nx r0 r1 r2 d0 d1 d2) := by
        subst hr0 hr1 hr2 hd0 hd1 hd2
        first | exact own_dig o0 own_ok1 own_ok1 | exact own_dig o1 own_ok1 own_ok1 | exact own_dig o2 own_ok1 own_ok1
      rw [own_t1] at ha
      simp [own_adv, own_Pl, show (0 : Int32) < 1 by decide, show ¬ (1 : Int32) < 1 by decide, show ¬ (2 : Int32) < 1 by decide, if_false, if_true, own_updI, own_t0, own_t1, own_t2, ← hr0, ← hd0] at ha
      simp only [own_Ex, show (0 : Int32) < 1 by decide, show ¬ (1 : Int32) < 1 by decide, show ¬ (2 : Int32) < 1 by decide, if_false, if_true, own_updI, own_t0, own_t1, own_t2]
      simp only [own_dg, ← he0, ← he1, ← he2] at D
      generalize own_w r0 r1 r2 d0 d1 d2 = w at *
      by_cases c0 : d0 + 1 < r0
      · skip
        obtain ⟨w0, x0, x1, x2⟩ := D.1 c0
        simp [c0] at ha
        obtain ⟨rfl, rfl⟩ := ha
        subst w0 x0 x1 x2
        simp [own_updI, hd0, hd1, hd2]
      · skip
        have n1 : ¬ d1 + 1 < r1 := by rw [hd1, hr1]; decide
        have n2 : ¬ d2 + 1 < r2 := by rw [hd2, hr2]; decide
        obtain ⟨w0, x0, x1, x2⟩ := D.2.2.2.1 c0 n1 n2
        simp [c0] at ha
        obtain ⟨rfl, rfl⟩ := ha
        subst w0 x0 x1 x2
        simp [own_updI, hd0, hd1, hd2]
  · simp only [show (0 : Int32) < 2 by decide, show (1 : Int32) < 2 by decide, show ¬ (2 : Int32) < 2 by decide, if_false, if_true] at hr0 hr1 hr2 hd0 hd1 hd2
    rcases hq with ⟨rfl, rfl, rfl⟩ | ⟨rfl, rfl, rfl⟩ | ⟨rfl, rfl, rfl⟩ | ⟨rfl, rfl, rfl⟩ | ⟨rfl, rfl, rfl⟩ | ⟨rfl, rfl, rfl⟩
    all_goals
      simp only [own_t0, own_t1, own_t2] at hr0 hr1 hr2 hd0 hd1 hd2
      have D : own_dg r0 r1 r2 d0 d1 d2 (own_w r0 r1 r2 d0 d1 d2) (own_nx r0 r1 r2 d0 d1 d2) := by
        subst hr0 hr1 hr2 hd0 hd1 hd2
        first | exact own_dig o0 o1 own_ok1 | exact own_dig o0 o2 own_ok1 | exact own_dig o1 o0 own_ok1 | exact own_dig o1 o2 own_ok1 | exact own_dig o2 o0 own_ok1 | exact own_dig o2 o1 own_ok1
      rw [own_t2] at ha
      simp [own_adv, own_Pl, show (0 : Int32) < 2 by decide, show (1 : Int32) < 2 by decide, show ¬ (2 : Int32) < 2 by decide, if_false, if_true, own_updI, own_t0, own_t1, own_t2, ← hr0, ← hd0, ← hr1, ← hd1] at ha
      simp only [own_Ex, show (0 : Int32) < 2 by decide, show (1 : Int32) < 2 by decide, show ¬ (2 : Int32) < 2 by decide, if_false, if_true, own_updI, own_t0, own_t1, own_t2]
      simp only [own_dg, ← he0, ← he1, ← he2] at D
      generalize own_w r0 r1 r2 d0 d1 d2 = w at *
      by_cases c0 : d0 + 1 < r0
      · skip
        obtain ⟨w0, x0, x1, x2⟩ := D.1 c0
        simp [c0] at ha
        obtain ⟨rfl, rfl⟩ := ha
        subst w0 x0 x1 x2
        simp [own_updI, hd0, hd1, hd2]
      · skip
        by_cases c1 : d1 + 1 < r1
        · skip
          obtain ⟨w0, x0, x1, x2⟩ := D.2.1 c0 c1
          simp [c0, c1] at ha
          obtain ⟨rfl, rfl⟩ := ha
          subst w0 x0 x1 x2
          simp [own_updI, hd0, hd1, hd2]
        · skip
          have n2 : ¬ d2 + 1 < r2 := by rw [hd2, hr2]; decide
          obtain ⟨w0, x0, x1, x2⟩ := D.2.2.2.1 c0 c1 n2
          simp [c0, c1] at ha
          obtain ⟨rfl, rfl⟩ := ha
          subst w0 x0 x1 x2
          simp [own_updI, hd0, hd1, hd2]
  · simp only [show (0 : Int32) < 3 by decide, show (1 : Int32) < 3 by decide, show (2 : Int32) < 3 by decide, if_false, if_true] at hr0 hr1 hr2 hd0 hd1 hd2
    rcases hq with ⟨rfl, rfl, rfl⟩ | ⟨rfl, rfl, rfl⟩ | ⟨rfl, rfl, rfl⟩ | ⟨rfl, rfl, rfl⟩ | ⟨rfl, rfl, rfl⟩ | ⟨rfl, rfl, rfl⟩
    all_goals
      simp only [own_t0, own_t1, own_t2] at hr0 hr1 hr2 hd0 hd1 hd2
      have D : own_dg r0 r1 r2 d0 d1 d2 (own_w r0 r1 r2 d0 d1 d2) (own_nx r0 r1 r2 d0 d1 d2) := by
        subst hr0 hr1 hr2 hd0 hd1 hd2
        first | exact own_dig o0 o1 o2 | exact own_dig o0 o2 o1 | exact own_dig o1 o0 o2 | exact own_dig o1 o2 o0 | exact own_dig o2 o0 o1 | exact own_dig o2 o1 o0
      rw [own_t3] at ha
      simp [own_adv, own_Pl, show (0 : Int32) < 3 by decide, show (1 : Int32) < 3 by decide, show (2 : Int32) < 3 by decide, if_false, if_true, own_updI, own_t0, own_t1, own_t2, ← hr0, ← hd0, ← hr1, ← hd1, ← hr2, ← hd2] at ha
      simp only [own_Ex, show (0 : Int32) < 3 by decide, show (1 : Int32) < 3 by decide, show (2 : Int32) < 3 by decide, if_false, if_true, own_updI, own_t0, own_t1, own_t2]
      simp only [own_dg, ← he0, ← he1, ← he2] at D
      generalize own_w r0 r1 r2 d0 d1 d2 = w at *
      by_cases c0 : d0 + 1 < r0
      · skip
        obtain ⟨w0, x0, x1, x2⟩ := D.1 c0
        simp [c0] at ha
        obtain ⟨rfl, rfl⟩ := ha
        subst w0 x0 x1 x2
        simp [own_updI, hd0, hd1, hd2]
      · skip
        by_cases c1 : d1 + 1 < r1
        · skip
          obtain ⟨w0, x0, x1, x2⟩ := D.2.1 c0 c1
          simp [c0, c1] at ha
          obtain ⟨rfl, rfl⟩ := ha
          subst w0 x0 x1 x2
          simp [own_updI, hd0, hd1, hd2]
        · skip
          by_cases c2 : d2 + 1 < r2
          · skip
            obtain ⟨w0, x0, x1, x2⟩ := D.2.2.1 c0 c1 c2
            simp [c0, c1, c2] at ha
            obtain ⟨rfl, rfl⟩ := ha
            subst w0 x0 x1 x2
            simp [own_updI, hd0, hd1, hd2]
          · skip
            obtain ⟨w0, x0, x1, x2⟩ := D.2.2.2.1 c0 c1 c2
            simp [c0, c1, c2] at ha
            obtain ⟨rfl, rfl⟩ := ha
            subst w0 x0 x1 x2
            simp [own_updI, hd0, hd1, hd2]
theorem own_cz (x : Int32) : (1 : Int32) + (x &&& (3 : Int32)) ≠ 0 := fun q => by
  have e := c_mask x 3 2 (by decide) (by decide)
  have e2 := c_iadd 1 (x &&& 3)
  rw [q, show (1 : Int32).toInt = 1 from rfl, show (0 : Int32).toInt = 0 from rfl] at e2
  omega
theorem own_of (v : Int32) (n : Nat) (hn : n < 6) (hv : v.toInt = n) : v = Int32.ofNat n := by
  apply Int32.toInt_inj.mp
  rw [hv]
  have : n = 0 ∨ n = 1 ∨ n = 2 ∨ n = 3 ∨ n = 4 ∨ n = 5 := by omega
  rcases this with rfl | rfl | rfl | rfl | rfl | rfl <;> decide
theorem own_k4 {x k : Int32} (h : (x &&& (3 : Int32)) = k) : k = 0 ∨ k = 1 ∨ k = 2 ∨ k = 3 := by
  have e := c_mask x 3 2 (by decide) (by decide)
  rw [h] at e
  have : k.toInt = 0 ∨ k.toInt = 1 ∨ k.toInt = 2 ∨ k.toInt = 3 := by omega
  rcases this with q | q | q | q
  · exact Or.inl (own_of k 0 (by decide) q)
  · exact Or.inr (Or.inl (own_of k 1 (by decide) q))
  · exact Or.inr (Or.inr (Or.inl (own_of k 2 (by decide) q)))
  · exact Or.inr (Or.inr (Or.inr (own_of k 3 (by decide) q)))
theorem own_permI {x v46 v47 p62 v63 : Int32} (h46 : (((x.toUInt32 >>> ((2 : Int32) &&& 31).toUInt32).toInt32) % (6 : Int32)) = v46) (h47 : (v46 / (2 : Int32)) = v47) (q62 : p62 = (if (v46 % (2 : Int32)) = (0 : Int32) then (if v47 = (0 : Int32) then (1 : Int32) else (0 : Int32)) else (if v47 = (2 : Int32) then (1 : Int32) else (2 : Int32)))) (h63 : (((3 : Int32) - v47) - p62) = v63) : own_perm v47 p62 v63 := by
  have e := c_iushr x 2 2 (by decide) (by decide)
  have e2 := (c_irem ((x.toUInt32 >>> ((2 : Int32) &&& 31).toUInt32).toInt32) 6 6 rfl).1 (by rw [e]; omega)
  rw [h46] at e2
  have : v46.toInt = 0 ∨ v46.toInt = 1 ∨ v46.toInt = 2 ∨ v46.toInt = 3 ∨ v46.toInt = 4 ∨ v46.toInt = 5 := by omega
  clear e e2 h46
  rcases this with q | q | q | q | q | q
  · obtain rfl := own_of v46 0 (by decide) q; subst h47; subst q62; subst h63; exact Or.inl (by decide)
  · obtain rfl := own_of v46 1 (by decide) q; subst h47; subst q62; subst h63; exact Or.inr (Or.inl (by decide))
  · obtain rfl := own_of v46 2 (by decide) q; subst h47; subst q62; subst h63; exact Or.inr (Or.inr (Or.inl (by decide)))
  · obtain rfl := own_of v46 3 (by decide) q; subst h47; subst q62; subst h63; exact Or.inr (Or.inr (Or.inr (Or.inl (by decide))))
  · obtain rfl := own_of v46 4 (by decide) q; subst h47; subst q62; subst h63; exact Or.inr (Or.inr (Or.inr (Or.inr (Or.inl (by decide)))))
  · obtain rfl := own_of v46 5 (by decide) q; subst h47; subst q62; subst h63; exact Or.inr (Or.inr (Or.inr (Or.inr (Or.inr (by decide)))))
theorem own_rg {q0 q1 q2 : Int32} (h : own_perm q0 q1 q2) : (¬ q0 < 0 ∧ q0 < (3 : Int32)) ∧ (¬ q1 < 0 ∧ q1 < (3 : Int32)) ∧ (¬ q2 < 0 ∧ q2 < (3 : Int32)) ∧ q0.toNatClampNeg < 3 ∧ q1.toNatClampNeg < 3 ∧ q2.toNatClampNeg < 3 := by
  rcases h with ⟨rfl, rfl, rfl⟩ | ⟨rfl, rfl, rfl⟩ | ⟨rfl, rfl, rfl⟩ | ⟨rfl, rfl, rfl⟩ | ⟨rfl, rfl, rfl⟩ | ⟨rfl, rfl, rfl⟩ <;> decide
theorem own_oks {x0 x1 x2 x3 : Int32} {gc gd : Nat → Int32} (a0 : gc 0 = (1 : Int32) + (x0 &&& (3 : Int32))) (a1 : gc 1 = (1 : Int32) + (((x0.toUInt32 >>> ((2 : Int32) &&& 31).toUInt32).toInt32) &&& (3 : Int32))) (a2 : gc 2 = (1 : Int32) + (((x0.toUInt32 >>> ((4 : Int32) &&& 31).toUInt32).toInt32) &&& (3 : Int32)))
    (b0 : gd 0 = (x1 &&& (2147483647 : Int32)) % gc 0) (b1 : gd 1 = (x2 &&& (2147483647 : Int32)) % gc 1) (b2 : gd 2 = (x3 &&& (2147483647 : Int32)) % gc 2) : ∀ i, i < 3 → own_ok (gc i) (gd i) := by
  intro i hi
  have : i = 0 ∨ i = 1 ∨ i = 2 := by omega
  rcases this with rfl | rfl | rfl
  · exact own_cnt a0.symm _ _ b0.symm
  · exact own_cnt a1.symm _ _ b1.symm
  · exact own_cnt a2.symm _ _ b2.symm
theorem own_okif {gc gd : Nat → Int32} (ok : ∀ i, i < 3 → own_ok (gc i) (gd i)) {c : Prop} [Decidable c] {n : Nat} (hn : n < 3) {r d : Int32} (hr : r = if c then gc n else 1) (hd : d = if c then gd n else 0) : own_ok r d := by
  rw [hr, hd]; split
  · exact ok n hn
  · exact own_ok1
theorem own_hlP {k q0 q1 q2 : Int32} (hk : k = 0 ∨ k = 1 ∨ k = 2 ∨ k = 3) (h : own_perm q0 q1 q2) : ∀ i, i < k.toNatClampNeg → ¬ (own_Pl k q0 q1 q2 i) < 0 ∧ (own_Pl k q0 q1 q2 i) < (3 : Int32) := by
  have r := own_rg h
  intro i hi
  rcases hk with rfl | rfl | rfl | rfl
  · exact absurd hi (by rw [own_t0]; omega)
  · rw [own_t1] at hi
    have : i = 0 := by omega
    subst this
    exact r.1
  · rw [own_t2] at hi
    have : i = 0 ∨ i = 1 := by omega
    rcases this with rfl | rfl
    · exact r.1
    · exact r.2.1
  · rw [own_t3] at hi
    have : i = 0 ∨ i = 1 ∨ i = 2 := by omega
    rcases this with rfl | rfl | rfl
    · exact r.1
    · exact r.2.1
    · exact r.2.2.1
theorem own_pn0 : plainName "com/example/parley/parley/game/ProfilesAdvancePinLaw" = true := by first | (simp [plainName, overriddenIn]; done) | decide +kernel
theorem own_ef0 (m : MethodId) (x0 : Int32) (x1 : Int32) (x2 : Int32) (x3 : Int32) (x4 : Int32) : entryFrame m #[(.int x0), (.int x1), (.int x2), (.int x3), (.int x4)] maxLocals = mkF m 0 #[.val (.int x0), .val (.int x1), .val (.int x2), .val (.int x3), .val (.int x4), .unset, .unset, .unset, .unset, .unset, .unset, .unset, .unset, .unset, .unset, .unset, .unset, .unset, .unset, .unset, .unset, .unset, .unset, .unset, .unset, .unset, .unset, .unset, .unset] [] := by first | (simp [entryFrame, mkF, argsToLocals, Value.category, maxLocals]; done) | rfl
def Q0 (Z : State) (x0 : Int32) (x1 : Int32) (x2 : Int32) (x3 : Int32) (x4 : Int32) (h0 : Heap) (n0 : Nat) (v : Option Value) (h : Heap) (L : List Loc) : Prop := v = some (.int 1) ∧ Fr n0 L
theorem own_nz52 (x0 : Int32) (x1 : Int32) (x2 : Int32) (x3 : Int32) (x4 : Int32) (g8v : Nat → Int32) (g13v : Nat → Int32) (g18v : Nat → Int32) (hgg8v : (own_updI (fun _ => (0 : Int32)) 0 ((1 : Int32) + (x0 &&& (3 : Int32)))) = g8v) (hgg13v : (own_updI g8v 1 ((1 : Int32) + (((x0.toUInt32 >>> ((2 : Int32) &&& 31).toUInt32).toInt32) &&& (3 : Int32)))) = g13v) (hgg18v : (own_updI g13v 2 ((1 : Int32) + (((x0.toUInt32 >>> ((4 : Int32) &&& 31).toUInt32).toInt32) &&& (3 : Int32)))) = g18v) : (g18v 0) ≠ (0 : Int32) := by
  have a0 : g18v 0 = (1 : Int32) + (x0 &&& (3 : Int32)) := by rw [← hgg18v, ← hgg13v, ← hgg8v]; rfl
  rw [a0]; exact own_cz _
theorem own_nz65 (x0 : Int32) (x1 : Int32) (x2 : Int32) (x3 : Int32) (x4 : Int32) (g8v : Nat → Int32) (g13v : Nat → Int32) (g18v : Nat → Int32) (g30v : Nat → Int32) (hgg8v : (own_updI (fun _ => (0 : Int32)) 0 ((1 : Int32) + (x0 &&& (3 : Int32)))) = g8v) (hgg13v : (own_updI g8v 1 ((1 : Int32) + (((x0.toUInt32 >>> ((2 : Int32) &&& 31).toUInt32).toInt32) &&& (3 : Int32)))) = g13v) (hgg18v : (own_updI g13v 2 ((1 : Int32) + (((x0.toUInt32 >>> ((4 : Int32) &&& 31).toUInt32).toInt32) &&& (3 : Int32)))) = g18v) (hgg30v : (own_updI (fun _ => (0 : Int32)) 0 ((x1 &&& (2147483647 : Int32)) % (g18v 0))) = g30v) : (g18v 1) ≠ (0 : Int32) := by
  have a1 : g18v 1 = (1 : Int32) + (((x0.toUInt32 >>> ((2 : Int32) &&& 31).toUInt32).toInt32) &&& (3 : Int32)) := by rw [← hgg18v, ← hgg13v]; rfl
  rw [a1]; exact own_cz _
theorem own_nz78 (x0 : Int32) (x1 : Int32) (x2 : Int32) (x3 : Int32) (x4 : Int32) (g8v : Nat → Int32) (g13v : Nat → Int32) (g18v : Nat → Int32) (g30v : Nat → Int32) (g37v : Nat → Int32) (hgg8v : (own_updI (fun _ => (0 : Int32)) 0 ((1 : Int32) + (x0 &&& (3 : Int32)))) = g8v) (hgg13v : (own_updI g8v 1 ((1 : Int32) + (((x0.toUInt32 >>> ((2 : Int32) &&& 31).toUInt32).toInt32) &&& (3 : Int32)))) = g13v) (hgg18v : (own_updI g13v 2 ((1 : Int32) + (((x0.toUInt32 >>> ((4 : Int32) &&& 31).toUInt32).toInt32) &&& (3 : Int32)))) = g18v) (hgg30v : (own_updI (fun _ => (0 : Int32)) 0 ((x1 &&& (2147483647 : Int32)) % (g18v 0))) = g30v) (hgg37v : (own_updI g30v 1 ((x2 &&& (2147483647 : Int32)) % (g18v 1))) = g37v) : (g18v 2) ≠ (0 : Int32) := by
  have a2 : g18v 2 = (1 : Int32) + (((x0.toUInt32 >>> ((4 : Int32) &&& 31).toUInt32).toInt32) &&& (3 : Int32)) := by rw [← hgg18v]; rfl
  rw [a2]; exact own_cz _
theorem own_hq (x0 : Int32) (x1 : Int32) (x2 : Int32) (x3 : Int32) (x4 : Int32) (g8v : Nat → Int32) (g13v : Nat → Int32) (g18v : Nat → Int32) (g30v : Nat → Int32) (g37v : Nat → Int32) (g44v : Nat → Int32) (v45 : Int32) (v46 : Int32) (v47 : Int32) (p62 : Int32) (v63 : Int32) (hgg8v : (own_updI (fun _ => (0 : Int32)) 0 ((1 : Int32) + (x0 &&& (3 : Int32)))) = g8v) (hgg13v : (own_updI g8v 1 ((1 : Int32) + (((x0.toUInt32 >>> ((2 : Int32) &&& 31).toUInt32).toInt32) &&& (3 : Int32)))) = g13v) (hgg18v : (own_updI g13v 2 ((1 : Int32) + (((x0.toUInt32 >>> ((4 : Int32) &&& 31).toUInt32).toInt32) &&& (3 : Int32)))) = g18v) (hgg30v : (own_updI (fun _ => (0 : Int32)) 0 ((x1 &&& (2147483647 : Int32)) % (g18v 0))) = g30v) (hgg37v : (own_updI g30v 1 ((x2 &&& (2147483647 : Int32)) % (g18v 1))) = g37v) (hgg44v : (own_updI g37v 2 ((x3 &&& (2147483647 : Int32)) % (g18v 2))) = g44v) (hv45 : (x4 &&& (3 : Int32)) = v45) (hv46 : (((x4.toUInt32 >>> ((2 : Int32) &&& 31).toUInt32).toInt32) % (6 : Int32)) = v46) (hv47 : (v46 / (2 : Int32)) = v47) (qp62 : p62 = (if (v46 % (2 : Int32)) = (0 : Int32) then (if v47 = (0 : Int32) then (1 : Int32) else (0 : Int32)) else (if v47 = (2 : Int32) then (1 : Int32) else (2 : Int32)))) (hv63 : (((3 : Int32) - v47) - p62) = v63) : (¬ v47 < 0 ∧ v47 < (3 : Int32)) ∧ (¬ p62 < 0 ∧ p62 < (3 : Int32)) ∧ (¬ v63 < 0 ∧ v63 < (3 : Int32)) ∧ (¬ v45 < 0 ∧ v45 < 4) := by
  have hp := own_permI hv46 hv47 qp62 hv63
  have hk := own_k4 hv45
  have rg := own_rg hp
  refine ⟨rg.1, rg.2.1, rg.2.2.1, ?_⟩
  rcases hk with h | h | h | h <;> rw [h] <;> decide
theorem own_hr (x0 : Int32) (x1 : Int32) (x2 : Int32) (x3 : Int32) (x4 : Int32) (g8v : Nat → Int32) (g13v : Nat → Int32) (g18v : Nat → Int32) (g30v : Nat → Int32) (g37v : Nat → Int32) (g44v : Nat → Int32) (v45 : Int32) (v46 : Int32) (v47 : Int32) (p62 : Int32) (v63 : Int32) (p83 : Nat → Int32) (p97 : Nat → Int32) (p111 : Nat → Int32) (p118 : Int32) (p124 : Int32) (p130 : Int32) (p136 : Int32) (p142 : Int32) (p148 : Int32) (v149 : Int32) (v150 : Int32) (v151 : Int32) (p156 : Int32) (p161 : Int32) (hgg8v : (own_updI (fun _ => (0 : Int32)) 0 ((1 : Int32) + (x0 &&& (3 : Int32)))) = g8v) (hgg13v : (own_updI g8v 1 ((1 : Int32) + (((x0.toUInt32 >>> ((2 : Int32) &&& 31).toUInt32).toInt32) &&& (3 : Int32)))) = g13v) (hgg18v : (own_updI g13v 2 ((1 : Int32) + (((x0.toUInt32 >>> ((4 : Int32) &&& 31).toUInt32).toInt32) &&& (3 : Int32)))) = g18v) (hgg30v : (own_updI (fun _ => (0 : Int32)) 0 ((x1 &&& (2147483647 : Int32)) % (g18v 0))) = g30v) (hgg37v : (own_updI g30v 1 ((x2 &&& (2147483647 : Int32)) % (g18v 1))) = g37v) (hgg44v : (own_updI g37v 2 ((x3 &&& (2147483647 : Int32)) % (g18v 2))) = g44v) (hv45 : (x4 &&& (3 : Int32)) = v45) (hv46 : (((x4.toUInt32 >>> ((2 : Int32) &&& 31).toUInt32).toInt32) % (6 : Int32)) = v46) (hv47 : (v46 / (2 : Int32)) = v47) (qp62 : p62 = (if (v46 % (2 : Int32)) = (0 : Int32) then (if v47 = (0 : Int32) then (1 : Int32) else (0 : Int32)) else (if v47 = (2 : Int32) then (1 : Int32) else (2 : Int32)))) (hv63 : (((3 : Int32) - v47) - p62) = v63) (qp83 : p83 = (if (0 : Int32) < v45 then (own_updI (fun _ => (0 : Int32)) 0 v47) else (fun _ => (0 : Int32)))) (qp97 : p97 = (if (1 : Int32) < v45 then (own_updI p83 1 p62) else p83)) (qp111 : p111 = (if (2 : Int32) < v45 then (own_updI p97 2 v63) else p97)) (qp118 : p118 = (if (0 : Int32) < v45 then (g18v v47.toNatClampNeg) else (1 : Int32))) (qp124 : p124 = (if (1 : Int32) < v45 then (g18v p62.toNatClampNeg) else (1 : Int32))) (qp130 : p130 = (if (2 : Int32) < v45 then (g18v v63.toNatClampNeg) else (1 : Int32))) (qp136 : p136 = (if (0 : Int32) < v45 then (g44v v47.toNatClampNeg) else (0 : Int32))) (qp142 : p142 = (if (1 : Int32) < v45 then (g44v p62.toNatClampNeg) else (0 : Int32))) (qp148 : p148 = (if (2 : Int32) < v45 then (g44v v63.toNatClampNeg) else (0 : Int32))) (hv149 : (p136 + (p118 * (p142 + (p124 * p148)))) = v149) (hv150 : ((p118 * p124) * p130) = v150) (hv151 : (v149 + (1 : Int32)) = v151) (qp156 : p156 = (if v151 = v150 then (1 : Int32) else (0 : Int32))) (qp161 : p161 = (if p156 = (0 : Int32) then v151 else (0 : Int32))) : p118 ≠ 0 ∧ p124 ≠ 0 ∧ p130 ≠ 0 ∧ (p118 * p124) ≠ 0 := by
  have a0 : g18v 0 = (1 : Int32) + (x0 &&& (3 : Int32)) := by rw [← hgg18v, ← hgg13v, ← hgg8v]; rfl
  have a1 : g18v 1 = (1 : Int32) + (((x0.toUInt32 >>> ((2 : Int32) &&& 31).toUInt32).toInt32) &&& (3 : Int32)) := by rw [← hgg18v, ← hgg13v]; rfl
  have a2 : g18v 2 = (1 : Int32) + (((x0.toUInt32 >>> ((4 : Int32) &&& 31).toUInt32).toInt32) &&& (3 : Int32)) := by rw [← hgg18v]; rfl
  have b0 : g44v 0 = (x1 &&& (2147483647 : Int32)) % g18v 0 := by rw [← hgg44v, ← hgg37v, ← hgg30v]; rfl
  have b1 : g44v 1 = (x2 &&& (2147483647 : Int32)) % g18v 1 := by rw [← hgg44v, ← hgg37v]; rfl
  have b2 : g44v 2 = (x3 &&& (2147483647 : Int32)) % g18v 2 := by rw [← hgg44v]; rfl
  have ok := own_oks a0 a1 a2 b0 b1 b2
  have hp := own_permI hv46 hv47 qp62 hv63
  have hk := own_k4 hv45
  have rg := own_rg hp
  have D := own_dig (own_okif ok rg.2.2.2.1 qp118 qp136) (own_okif ok rg.2.2.2.2.1 qp124 qp142) (own_okif ok rg.2.2.2.2.2 qp130 qp148)
  exact D.2.2.2.2
theorem own_hl (x0 : Int32) (x1 : Int32) (x2 : Int32) (x3 : Int32) (x4 : Int32) (g8v : Nat → Int32) (g13v : Nat → Int32) (g18v : Nat → Int32) (g30v : Nat → Int32) (g37v : Nat → Int32) (g44v : Nat → Int32) (v45 : Int32) (v46 : Int32) (v47 : Int32) (p62 : Int32) (v63 : Int32) (p83 : Nat → Int32) (p97 : Nat → Int32) (p111 : Nat → Int32) (p118 : Int32) (p124 : Int32) (p130 : Int32) (p136 : Int32) (p142 : Int32) (p148 : Int32) (v149 : Int32) (v150 : Int32) (v151 : Int32) (p156 : Int32) (p161 : Int32) (v162 : Int32) (v163 : Int32) (v164 : Int32) (g182v : Nat → Int32) (g191v : Nat → Int32) (g200v : Nat → Int32) (p215 : Nat → Int32) (p231 : Nat → Int32) (p247 : Nat → Int32) (g269v : Nat → Int32) (g279v : Nat → Int32) (g289v : Nat → Int32) (hgg8v : (own_updI (fun _ => (0 : Int32)) 0 ((1 : Int32) + (x0 &&& (3 : Int32)))) = g8v) (hgg13v : (own_updI g8v 1 ((1 : Int32) + (((x0.toUInt32 >>> ((2 : Int32) &&& 31).toUInt32).toInt32) &&& (3 : Int32)))) = g13v) (hgg18v : (own_updI g13v 2 ((1 : Int32) + (((x0.toUInt32 >>> ((4 : Int32) &&& 31).toUInt32).toInt32) &&& (3 : Int32)))) = g18v) (hgg30v : (own_updI (fun _ => (0 : Int32)) 0 ((x1 &&& (2147483647 : Int32)) % (g18v 0))) = g30v) (hgg37v : (own_updI g30v 1 ((x2 &&& (2147483647 : Int32)) % (g18v 1))) = g37v) (hgg44v : (own_updI g37v 2 ((x3 &&& (2147483647 : Int32)) % (g18v 2))) = g44v) (hv45 : (x4 &&& (3 : Int32)) = v45) (hv46 : (((x4.toUInt32 >>> ((2 : Int32) &&& 31).toUInt32).toInt32) % (6 : Int32)) = v46) (hv47 : (v46 / (2 : Int32)) = v47) (qp62 : p62 = (if (v46 % (2 : Int32)) = (0 : Int32) then (if v47 = (0 : Int32) then (1 : Int32) else (0 : Int32)) else (if v47 = (2 : Int32) then (1 : Int32) else (2 : Int32)))) (hv63 : (((3 : Int32) - v47) - p62) = v63) (qp83 : p83 = (if (0 : Int32) < v45 then (own_updI (fun _ => (0 : Int32)) 0 v47) else (fun _ => (0 : Int32)))) (qp97 : p97 = (if (1 : Int32) < v45 then (own_updI p83 1 p62) else p83)) (qp111 : p111 = (if (2 : Int32) < v45 then (own_updI p97 2 v63) else p97)) (qp118 : p118 = (if (0 : Int32) < v45 then (g18v v47.toNatClampNeg) else (1 : Int32))) (qp124 : p124 = (if (1 : Int32) < v45 then (g18v p62.toNatClampNeg) else (1 : Int32))) (qp130 : p130 = (if (2 : Int32) < v45 then (g18v v63.toNatClampNeg) else (1 : Int32))) (qp136 : p136 = (if (0 : Int32) < v45 then (g44v v47.toNatClampNeg) else (0 : Int32))) (qp142 : p142 = (if (1 : Int32) < v45 then (g44v p62.toNatClampNeg) else (0 : Int32))) (qp148 : p148 = (if (2 : Int32) < v45 then (g44v v63.toNatClampNeg) else (0 : Int32))) (hv149 : (p136 + (p118 * (p142 + (p124 * p148)))) = v149) (hv150 : ((p118 * p124) * p130) = v150) (hv151 : (v149 + (1 : Int32)) = v151) (qp156 : p156 = (if v151 = v150 then (1 : Int32) else (0 : Int32))) (qp161 : p161 = (if p156 = (0 : Int32) then v151 else (0 : Int32))) (hv162 : (p161 % p118) = v162) (hv163 : ((p161 / p118) % p124) = v163) (hv164 : ((p161 / (p118 * p124)) % p130) = v164) (hgg182v : (own_updI (fun _ => (0 : Int32)) 0 (g44v 0)) = g182v) (hgg191v : (own_updI g182v 1 (g44v 1)) = g191v) (hgg200v : (own_updI g191v 2 (g44v 2)) = g200v) (qp215 : p215 = (if (0 : Int32) < v45 then (own_updI g200v v47.toNatClampNeg v162) else g200v)) (qp231 : p231 = (if (1 : Int32) < v45 then (own_updI p215 p62.toNatClampNeg v163) else p215)) (qp247 : p247 = (if (2 : Int32) < v45 then (own_updI p231 v63.toNatClampNeg v164) else p231)) (hgg269v : (own_updI (fun _ => (0 : Int32)) 0 (g44v 0)) = g269v) (hgg279v : (own_updI g269v 1 (g44v 1)) = g279v) (hgg289v : (own_updI g279v 2 (g44v 2)) = g289v) : ∀ i, i < v45.toNatClampNeg → ¬ (p111 i) < 0 ∧ (p111 i) < (3 : Int32) := by
  have hp := own_permI hv46 hv47 qp62 hv63
  have hk := own_k4 hv45
  have rg := own_rg hp
  have eP : p111 = own_Pl v45 v47 p62 v63 := by rw [qp111, qp97, qp83]; rfl
  rw [eP]
  exact own_hlP hk hp
theorem own_law (x0 : Int32) (x1 : Int32) (x2 : Int32) (x3 : Int32) (x4 : Int32) (g8v : Nat → Int32) (g13v : Nat → Int32) (g18v : Nat → Int32) (g30v : Nat → Int32) (g37v : Nat → Int32) (g44v : Nat → Int32) (v45 : Int32) (v46 : Int32) (v47 : Int32) (p62 : Int32) (v63 : Int32) (p83 : Nat → Int32) (p97 : Nat → Int32) (p111 : Nat → Int32) (p118 : Int32) (p124 : Int32) (p130 : Int32) (p136 : Int32) (p142 : Int32) (p148 : Int32) (v149 : Int32) (v150 : Int32) (v151 : Int32) (p156 : Int32) (p161 : Int32) (v162 : Int32) (v163 : Int32) (v164 : Int32) (g182v : Nat → Int32) (g191v : Nat → Int32) (g200v : Nat → Int32) (p215 : Nat → Int32) (p231 : Nat → Int32) (p247 : Nat → Int32) (g269v : Nat → Int32) (g279v : Nat → Int32) (g289v : Nat → Int32) (r290_r : Int32) (r290_g2 : Nat → Int32) (p301 : Int32) (p318 : Int32) (hgg8v : (own_updI (fun _ => (0 : Int32)) 0 ((1 : Int32) + (x0 &&& (3 : Int32)))) = g8v) (hgg13v : (own_updI g8v 1 ((1 : Int32) + (((x0.toUInt32 >>> ((2 : Int32) &&& 31).toUInt32).toInt32) &&& (3 : Int32)))) = g13v) (hgg18v : (own_updI g13v 2 ((1 : Int32) + (((x0.toUInt32 >>> ((4 : Int32) &&& 31).toUInt32).toInt32) &&& (3 : Int32)))) = g18v) (hgg30v : (own_updI (fun _ => (0 : Int32)) 0 ((x1 &&& (2147483647 : Int32)) % (g18v 0))) = g30v) (hgg37v : (own_updI g30v 1 ((x2 &&& (2147483647 : Int32)) % (g18v 1))) = g37v) (hgg44v : (own_updI g37v 2 ((x3 &&& (2147483647 : Int32)) % (g18v 2))) = g44v) (hv45 : (x4 &&& (3 : Int32)) = v45) (hv46 : (((x4.toUInt32 >>> ((2 : Int32) &&& 31).toUInt32).toInt32) % (6 : Int32)) = v46) (hv47 : (v46 / (2 : Int32)) = v47) (qp62 : p62 = (if (v46 % (2 : Int32)) = (0 : Int32) then (if v47 = (0 : Int32) then (1 : Int32) else (0 : Int32)) else (if v47 = (2 : Int32) then (1 : Int32) else (2 : Int32)))) (hv63 : (((3 : Int32) - v47) - p62) = v63) (qp83 : p83 = (if (0 : Int32) < v45 then (own_updI (fun _ => (0 : Int32)) 0 v47) else (fun _ => (0 : Int32)))) (qp97 : p97 = (if (1 : Int32) < v45 then (own_updI p83 1 p62) else p83)) (qp111 : p111 = (if (2 : Int32) < v45 then (own_updI p97 2 v63) else p97)) (qp118 : p118 = (if (0 : Int32) < v45 then (g18v v47.toNatClampNeg) else (1 : Int32))) (qp124 : p124 = (if (1 : Int32) < v45 then (g18v p62.toNatClampNeg) else (1 : Int32))) (qp130 : p130 = (if (2 : Int32) < v45 then (g18v v63.toNatClampNeg) else (1 : Int32))) (qp136 : p136 = (if (0 : Int32) < v45 then (g44v v47.toNatClampNeg) else (0 : Int32))) (qp142 : p142 = (if (1 : Int32) < v45 then (g44v p62.toNatClampNeg) else (0 : Int32))) (qp148 : p148 = (if (2 : Int32) < v45 then (g44v v63.toNatClampNeg) else (0 : Int32))) (hv149 : (p136 + (p118 * (p142 + (p124 * p148)))) = v149) (hv150 : ((p118 * p124) * p130) = v150) (hv151 : (v149 + (1 : Int32)) = v151) (qp156 : p156 = (if v151 = v150 then (1 : Int32) else (0 : Int32))) (qp161 : p161 = (if p156 = (0 : Int32) then v151 else (0 : Int32))) (hv162 : (p161 % p118) = v162) (hv163 : ((p161 / p118) % p124) = v163) (hv164 : ((p161 / (p118 * p124)) % p130) = v164) (hgg182v : (own_updI (fun _ => (0 : Int32)) 0 (g44v 0)) = g182v) (hgg191v : (own_updI g182v 1 (g44v 1)) = g191v) (hgg200v : (own_updI g191v 2 (g44v 2)) = g200v) (qp215 : p215 = (if (0 : Int32) < v45 then (own_updI g200v v47.toNatClampNeg v162) else g200v)) (qp231 : p231 = (if (1 : Int32) < v45 then (own_updI p215 p62.toNatClampNeg v163) else p215)) (qp247 : p247 = (if (2 : Int32) < v45 then (own_updI p231 v63.toNatClampNeg v164) else p231)) (hgg269v : (own_updI (fun _ => (0 : Int32)) 0 (g44v 0)) = g269v) (hgg279v : (own_updI g269v 1 (g44v 1)) = g279v) (hgg289v : (own_updI g279v 2 (g44v 2)) = g289v) (hq290_0 : own_adv p111 g18v v45.toNatClampNeg 0 g289v = (r290_r, r290_g2)) (qp301 : p301 = (if p156 = (0 : Int32) then (1 : Int32) else (0 : Int32))) (qp318 : p318 = (if r290_r = p301 then (if (r290_g2 0) = (p247 0) then (if (r290_g2 1) = (p247 1) then (if (r290_g2 2) = (p247 2) then (1 : Int32) else (0 : Int32)) else (0 : Int32)) else (0 : Int32)) else (0 : Int32))) : p318 = 1 := by
  have a0 : g18v 0 = (1 : Int32) + (x0 &&& (3 : Int32)) := by rw [← hgg18v, ← hgg13v, ← hgg8v]; rfl
  have a1 : g18v 1 = (1 : Int32) + (((x0.toUInt32 >>> ((2 : Int32) &&& 31).toUInt32).toInt32) &&& (3 : Int32)) := by rw [← hgg18v, ← hgg13v]; rfl
  have a2 : g18v 2 = (1 : Int32) + (((x0.toUInt32 >>> ((4 : Int32) &&& 31).toUInt32).toInt32) &&& (3 : Int32)) := by rw [← hgg18v]; rfl
  have b0 : g44v 0 = (x1 &&& (2147483647 : Int32)) % g18v 0 := by rw [← hgg44v, ← hgg37v, ← hgg30v]; rfl
  have b1 : g44v 1 = (x2 &&& (2147483647 : Int32)) % g18v 1 := by rw [← hgg44v, ← hgg37v]; rfl
  have b2 : g44v 2 = (x3 &&& (2147483647 : Int32)) % g18v 2 := by rw [← hgg44v]; rfl
  have ok := own_oks a0 a1 a2 b0 b1 b2
  have hp := own_permI hv46 hv47 qp62 hv63
  have hk := own_k4 hv45
  have rg := own_rg hp
  have eP : p111 = own_Pl v45 v47 p62 v63 := by rw [qp111, qp97, qp83]; rfl
  have eG : g200v = g289v := by rw [← hgg289v, ← hgg279v, ← hgg269v, ← hgg200v, ← hgg191v, ← hgg182v]
  have g0 : g289v 0 = g44v 0 := by rw [← hgg289v, ← hgg279v, ← hgg269v]; rfl
  have g1 : g289v 1 = g44v 1 := by rw [← hgg289v, ← hgg279v]; rfl
  have g2 : g289v 2 = g44v 2 := by rw [← hgg289v]; rfl
  have gg : ∀ i, i < 3 → g289v i = g44v i := by
    intro i hi
    have : i = 0 ∨ i = 1 ∨ i = 2 := by omega
    rcases this with rfl | rfl | rfl
    · exact g0
    · exact g1
    · exact g2
  have ok2 : ∀ i, i < 3 → own_ok (g18v i) (g289v i) := fun i hi => by rw [gg i hi]; exact ok i hi
  have eW : p156 = own_w p118 p124 p130 p136 p142 p148 := by rw [qp156, ← hv151, ← hv150, ← hv149]; rfl
  have eX : p161 = own_nx p118 p124 p130 p136 p142 p148 := by rw [qp161, eW, ← hv151, ← hv149]; rfl
  have eE : p247 = own_Ex g289v v45 v47 p62 v63 v162 v163 v164 := by rw [qp247, qp231, qp215, eG]; rfl
  rw [eP] at hq290_0
  rw [← gg _ rg.2.2.2.1] at qp136
  rw [← gg _ rg.2.2.2.2.1] at qp142
  rw [← gg _ rg.2.2.2.2.2] at qp148
  obtain ⟨z0, z1, z2, z3⟩ := own_core g18v g289v v45 v47 p62 v63 p118 p124 p130 p136 p142 p148 v162 v163 v164 r290_r r290_g2 hk hp ok2 qp118 qp124 qp130 qp136 qp142 qp148 (by rw [← eX]; exact hv162.symm) (by rw [← eX]; exact hv163.symm) (by rw [← eX]; exact hv164.symm) hq290_0
  rw [qp318, if_pos (by rw [z0, qp301, eW]), if_pos (by rw [z1, eE]), if_pos (by rw [z2, eE]), if_pos (by rw [z3, eE])]
set_option maxRecDepth 65536 in
set_option maxHeartbeats 4000000 in
theorem rm0 (l : Launch) (Z : State) (a0 : Array Value) (hw : ∀ d ∈ tables_1, d.before a0 Z = true) (ws : List Jvm.Cond) (x0 : Int32) (x1 : Int32) (x2 : Int32) (x3 : Int32) (x4 : Int32) (h0 : Heap) (n0 : Nat) (Z0 : n0 ≤ h0.size) :
    MetFree l x (head1 (Jvm.Cond.code x code maxLocals ret :: ws) room_1) (fun aW U => aW = #[(.int x0), (.int x1), (.int x2), (.int x3), (.int x4)] ∧ Z.Warmed39 U.vm ∧ U.heap = h0) (fun _ _ _ _ _ => True) (fun _ U o U' => ∃ v L, o = .returned v ∧ Q0 Z x0 x1 x2 x3 x4 h0 n0 v U'.heap L ∧ FrameEnd U o U' L 24 128) := by
  refine MetFree.of_bodySF (plainFor_of_name own_pn0) hisR ?_
  intro p e s m args below meth c s₁ Bd hml0 hP hK
  obtain ⟨rfl, hZ, hh⟩ := hP
  have hx := Bd.exec
  have hby := Bd.bytes
  have hml : c.maxLocals = 29 := hml0
  have hown : s.vm.findClass "com/example/parley/parley/game/ProfilesAdvancePinLaw" = some m.cls := findClass_of_methodNamed Bd.named
  have hnm := (name_of_methodNamed Bd.named Bd.method).1
  have X0 : Stand p l e room_1 s m #[(.int x0), (.int x1), (.int x2), (.int x3), (.int x4)] below meth c s₁ [] 0 0 := Stand.of_body Bd
  have e0 : s₁.heap = h0 := by rw [← hh, Bd.state]; rfl
  have N0 := Fr.nil n0
  obtain ⟨Pq, hPq⟩ : ∃ P, P = own_P s below (fun v h L => Q0 Z x0 x1 x2 x3 x4 h0 n0 v h L) 24 128 := ⟨_, rfl⟩
  suffices hgo : own_Go p.tables e below Pq s₁ (mkF m 0 #[.val (.int x0), .val (.int x1), .val (.int x2), .val (.int x3), .val (.int x4), .unset, .unset, .unset, .unset, .unset, .unset, .unset, .unset, .unset, .unset, .unset, .unset, .unset, .unset, .unset, .unset, .unset, .unset, .unset, .unset, .unset, .unset, .unset, .unset] []) by
    subst hPq
    obtain ⟨t, k1, k2, o, k3, k4⟩ := hgo
    exact ⟨t, o, castTop (own_ef0 m x0 x1 x2 x3 x4) k1, k2, k3, k4⟩
  show own_Go _ _ _ _ s₁ (mkF m 0 #[.val (.int x0), .val (.int x1), .val (.int x2), .val (.int x3), .val (.int x4), .unset, .unset, .unset, .unset, .unset, .unset, .unset, .unset, .unset, .unset, .unset, .unset, .unset, .unset, .unset, .unset, .unset, .unset, .unset, .unset, .unset, .unset, .unset, .unset] [])
  refine own_st (fun t k => XS.iconst X0.here hx rfl (hb hby at_0) k) ?_
  show own_Go _ _ _ _ s₁ (mkF m 1 _ [(.int (3 : Int32))])
  obtain ⟨T1, h1, k1, X1, e1, E1, A1, st1⟩ := newP X0 hx hZ (hw _ (List.mem_of_getElem? (i := 0) rfl)) e0 (g := (mkF m 1 #[.val (.int x0), .val (.int x1), .val (.int x2), .val (.int x3), .val (.int x4), .unset, .unset, .unset, .unset, .unset, .unset, .unset, .unset, .unset, .unset, .unset, .unset, .unset, .unset, .unset, .unset, .unset, .unset, .unset, .unset, .unset, .unset, .unset, .unset] [(.int (3 : Int32))])) rfl (hb hby at_1) rfl (by decide) (cap := 3) (by decide) (by decide) (by decide) (by decide)
  obtain ⟨b1, g1⟩ : ∃ z, z = h0.size := ⟨_, rfl⟩
  rw [← g1] at A1 st1
  refine own_st st1 ?_
  have gx2 : n0 ≤ b1 := Nat.le_trans Z0 (Nat.le_of_eq g1.symm)
  have Z3 : n0 ≤ h1.size := Nat.le_trans Z0 E1.1
  have V1 : own_AI Z h1 b1 k1 (3 : Int32) (fun _ => (0 : Int32)) := own_AI.new A1 (by decide)
  show own_Go _ _ _ _ T1 (mkF m 3 _ [(.ref b1)])
  refine own_st (fun t k => XS.astore X1.here hx rfl (hb hby at_3) rfl rfl (l' := #[.val (.int x0), .val (.int x1), .val (.int x2), .val (.int x3), .val (.int x4), .val (.ref b1), .unset, .unset, .unset, .unset, .unset, .unset, .unset, .unset, .unset, .unset, .unset, .unset, .unset, .unset, .unset, .unset, .unset, .unset, .unset, .unset, .unset, .unset, .unset]) rfl k) ?_
  show own_Go _ _ _ _ T1 (mkF m 5 #[.val (.int x0), .val (.int x1), .val (.int x2), .val (.int x3), .val (.int x4), .val (.ref b1), .unset, .unset, .unset, .unset, .unset, .unset, .unset, .unset, .unset, .unset, .unset, .unset, .unset, .unset, .unset, .unset, .unset, .unset, .unset, .unset, .unset, .unset, .unset] [])
  refine own_st (fun t k => XS.aload X1.here hx rfl (hb hby at_5) rfl rfl k) ?_
  show own_Go _ _ _ _ T1 (mkF m 7 _ [(.ref b1)])
  refine own_st (fun t k => XS.iconst X1.here hx rfl (hb hby at_7) k) ?_
  show own_Go _ _ _ _ T1 (mkF m 8 _ [(.int (0 : Int32)), (.ref b1)])
  refine own_st (fun t k => XS.iconst X1.here hx rfl (hb hby at_8) k) ?_
  show own_Go _ _ _ _ T1 (mkF m 9 _ [(.int (1 : Int32)), (.int (0 : Int32)), (.ref b1)])
  refine own_st (fun t k => XS.iloadN X1.here hx rfl (hb hby at_9) rfl k) ?_
  show own_Go _ _ _ _ T1 (mkF m 10 _ [(.int x0), (.int (1 : Int32)), (.int (0 : Int32)), (.ref b1)])
  refine own_st (fun t k => XS.iconst X1.here hx rfl (hb hby at_10) k) ?_
  show own_Go _ _ _ _ T1 (mkF m 11 _ [(.int (3 : Int32)), (.int x0), (.int (1 : Int32)), (.int (0 : Int32)), (.ref b1)])
  refine own_st (fun t k => XS.iand X1.here hx rfl (hb hby at_11) rfl k) ?_
  show own_Go _ _ _ _ T1 (mkF m 12 _ [(.int (x0 &&& (3 : Int32))), (.int (1 : Int32)), (.int (0 : Int32)), (.ref b1)])
  refine own_st (fun t k => XS.iadd X1.here hx rfl (hb hby at_12) rfl k) ?_
  show own_Go _ _ _ _ T1 (mkF m 13 _ [(.int ((1 : Int32) + (x0 &&& (3 : Int32)))), (.int (0 : Int32)), (.ref b1)])
  obtain ⟨c4, Ar4, q4, S4, N4, H4⟩ := id V1
  obtain ⟨T4, h4, X4, e4, W4, st4⟩ := stI X1 hx hZ e1 Ar4 (j := (0 : Int32)) (inb_of S4 ⟨by decide, by decide⟩) (g := (mkF m 13 #[.val (.int x0), .val (.int x1), .val (.int x2), .val (.int x3), .val (.int x4), .val (.ref b1), .unset, .unset, .unset, .unset, .unset, .unset, .unset, .unset, .unset, .unset, .unset, .unset, .unset, .unset, .unset, .unset, .unset, .unset, .unset, .unset, .unset, .unset, .unset] [(.int ((1 : Int32) + (x0 &&& (3 : Int32)))), (.int (0 : Int32)), (.ref b1)])) rfl rfl (hb hby at_13)
  refine own_st st4 ?_
  have f5 : own_AI Z h4 b1 k1 (3 : Int32) (own_updI (fun _ => (0 : Int32)) 0 ((1 : Int32) + (x0 &&& (3 : Int32)))) := own_AI.set V1 W4
  have N6 := Fr.snoc X4 N0 gx2
  have Z7 : n0 ≤ h4.size := Nat.le_trans Z3 (Nat.le_of_eq W4.size.symm)
  show own_Go _ _ _ _ T4 (mkF m 14 _ [])
  generalize hgg8v : (own_updI (fun _ => (0 : Int32)) 0 ((1 : Int32) + (x0 &&& (3 : Int32)))) = g8v at f5
  refine own_st (fun t k => XS.aload X4.here hx rfl (hb hby at_14) rfl rfl k) ?_
  show own_Go _ _ _ _ T4 (mkF m 16 _ [(.ref b1)])
  refine own_st (fun t k => XS.iconst X4.here hx rfl (hb hby at_16) k) ?_
  show own_Go _ _ _ _ T4 (mkF m 17 _ [(.int (1 : Int32)), (.ref b1)])
  refine own_st (fun t k => XS.iconst X4.here hx rfl (hb hby at_17) k) ?_
  show own_Go _ _ _ _ T4 (mkF m 18 _ [(.int (1 : Int32)), (.int (1 : Int32)), (.ref b1)])
  refine own_st (fun t k => XS.iloadN X4.here hx rfl (hb hby at_18) rfl k) ?_
  show own_Go _ _ _ _ T4 (mkF m 19 _ [(.int x0), (.int (1 : Int32)), (.int (1 : Int32)), (.ref b1)])
  refine own_st (fun t k => XS.iconst X4.here hx rfl (hb hby at_19) k) ?_
  show own_Go _ _ _ _ T4 (mkF m 20 _ [(.int (2 : Int32)), (.int x0), (.int (1 : Int32)), (.int (1 : Int32)), (.ref b1)])
  refine own_st (fun t k => XS.iushr X4.here hx rfl (hb hby at_20) rfl k) ?_
  show own_Go _ _ _ _ T4 (mkF m 21 _ [(.int ((x0.toUInt32 >>> ((2 : Int32) &&& 31).toUInt32).toInt32)), (.int (1 : Int32)), (.int (1 : Int32)), (.ref b1)])
  refine own_st (fun t k => XS.iconst X4.here hx rfl (hb hby at_21) k) ?_
  show own_Go _ _ _ _ T4 (mkF m 22 _ [(.int (3 : Int32)), (.int ((x0.toUInt32 >>> ((2 : Int32) &&& 31).toUInt32).toInt32)), (.int (1 : Int32)), (.int (1 : Int32)), (.ref b1)])
  refine own_st (fun t k => XS.iand X4.here hx rfl (hb hby at_22) rfl k) ?_
  show own_Go _ _ _ _ T4 (mkF m 23 _ [(.int (((x0.toUInt32 >>> ((2 : Int32) &&& 31).toUInt32).toInt32) &&& (3 : Int32))), (.int (1 : Int32)), (.int (1 : Int32)), (.ref b1)])
  refine own_st (fun t k => XS.iadd X4.here hx rfl (hb hby at_23) rfl k) ?_
  show own_Go _ _ _ _ T4 (mkF m 24 _ [(.int ((1 : Int32) + (((x0.toUInt32 >>> ((2 : Int32) &&& 31).toUInt32).toInt32) &&& (3 : Int32)))), (.int (1 : Int32)), (.ref b1)])
  obtain ⟨c9, Ar9, q9, S9, N9, H9⟩ := id f5
  obtain ⟨T9, h9, X9, e9, W9, st9⟩ := stI X4 hx hZ e4 Ar9 (j := (1 : Int32)) (inb_of S9 ⟨by decide, by decide⟩) (g := (mkF m 24 #[.val (.int x0), .val (.int x1), .val (.int x2), .val (.int x3), .val (.int x4), .val (.ref b1), .unset, .unset, .unset, .unset, .unset, .unset, .unset, .unset, .unset, .unset, .unset, .unset, .unset, .unset, .unset, .unset, .unset, .unset, .unset, .unset, .unset, .unset, .unset] [(.int ((1 : Int32) + (((x0.toUInt32 >>> ((2 : Int32) &&& 31).toUInt32).toInt32) &&& (3 : Int32)))), (.int (1 : Int32)), (.ref b1)])) rfl rfl (hb hby at_24)
  refine own_st st9 ?_
  have f10 : own_AI Z h9 b1 k1 (3 : Int32) (own_updI g8v 1 ((1 : Int32) + (((x0.toUInt32 >>> ((2 : Int32) &&& 31).toUInt32).toInt32) &&& (3 : Int32)))) := own_AI.set f5 W9
  have N11 := Fr.snoc X9 N6 gx2
  have Z12 : n0 ≤ h9.size := Nat.le_trans Z7 (Nat.le_of_eq W9.size.symm)
  show own_Go _ _ _ _ T9 (mkF m 25 _ [])
  generalize hgg13v : (own_updI g8v 1 ((1 : Int32) + (((x0.toUInt32 >>> ((2 : Int32) &&& 31).toUInt32).toInt32) &&& (3 : Int32)))) = g13v at f10
  refine own_st (fun t k => XS.aload X9.here hx rfl (hb hby at_25) rfl rfl k) ?_
  show own_Go _ _ _ _ T9 (mkF m 27 _ [(.ref b1)])
  refine own_st (fun t k => XS.iconst X9.here hx rfl (hb hby at_27) k) ?_
  show own_Go _ _ _ _ T9 (mkF m 28 _ [(.int (2 : Int32)), (.ref b1)])
  refine own_st (fun t k => XS.iconst X9.here hx rfl (hb hby at_28) k) ?_
  show own_Go _ _ _ _ T9 (mkF m 29 _ [(.int (1 : Int32)), (.int (2 : Int32)), (.ref b1)])
  refine own_st (fun t k => XS.iloadN X9.here hx rfl (hb hby at_29) rfl k) ?_
  show own_Go _ _ _ _ T9 (mkF m 30 _ [(.int x0), (.int (1 : Int32)), (.int (2 : Int32)), (.ref b1)])
  refine own_st (fun t k => XS.iconst X9.here hx rfl (hb hby at_30) k) ?_
  show own_Go _ _ _ _ T9 (mkF m 31 _ [(.int (4 : Int32)), (.int x0), (.int (1 : Int32)), (.int (2 : Int32)), (.ref b1)])
  refine own_st (fun t k => XS.iushr X9.here hx rfl (hb hby at_31) rfl k) ?_
  show own_Go _ _ _ _ T9 (mkF m 32 _ [(.int ((x0.toUInt32 >>> ((4 : Int32) &&& 31).toUInt32).toInt32)), (.int (1 : Int32)), (.int (2 : Int32)), (.ref b1)])
  refine own_st (fun t k => XS.iconst X9.here hx rfl (hb hby at_32) k) ?_
  show own_Go _ _ _ _ T9 (mkF m 33 _ [(.int (3 : Int32)), (.int ((x0.toUInt32 >>> ((4 : Int32) &&& 31).toUInt32).toInt32)), (.int (1 : Int32)), (.int (2 : Int32)), (.ref b1)])
  refine own_st (fun t k => XS.iand X9.here hx rfl (hb hby at_33) rfl k) ?_
  show own_Go _ _ _ _ T9 (mkF m 34 _ [(.int (((x0.toUInt32 >>> ((4 : Int32) &&& 31).toUInt32).toInt32) &&& (3 : Int32))), (.int (1 : Int32)), (.int (2 : Int32)), (.ref b1)])
  refine own_st (fun t k => XS.iadd X9.here hx rfl (hb hby at_34) rfl k) ?_
  show own_Go _ _ _ _ T9 (mkF m 35 _ [(.int ((1 : Int32) + (((x0.toUInt32 >>> ((4 : Int32) &&& 31).toUInt32).toInt32) &&& (3 : Int32)))), (.int (2 : Int32)), (.ref b1)])
  obtain ⟨c14, Ar14, q14, S14, N14, H14⟩ := id f10
  obtain ⟨T14, h14, X14, e14, W14, st14⟩ := stI X9 hx hZ e9 Ar14 (j := (2 : Int32)) (inb_of S14 ⟨by decide, by decide⟩) (g := (mkF m 35 #[.val (.int x0), .val (.int x1), .val (.int x2), .val (.int x3), .val (.int x4), .val (.ref b1), .unset, .unset, .unset, .unset, .unset, .unset, .unset, .unset, .unset, .unset, .unset, .unset, .unset, .unset, .unset, .unset, .unset, .unset, .unset, .unset, .unset, .unset, .unset] [(.int ((1 : Int32) + (((x0.toUInt32 >>> ((4 : Int32) &&& 31).toUInt32).toInt32) &&& (3 : Int32)))), (.int (2 : Int32)), (.ref b1)])) rfl rfl (hb hby at_35)
  refine own_st st14 ?_
  have f15 : own_AI Z h14 b1 k1 (3 : Int32) (own_updI g13v 2 ((1 : Int32) + (((x0.toUInt32 >>> ((4 : Int32) &&& 31).toUInt32).toInt32) &&& (3 : Int32)))) := own_AI.set f10 W14
  have N16 := Fr.snoc X14 N11 gx2
  have Z17 : n0 ≤ h14.size := Nat.le_trans Z12 (Nat.le_of_eq W14.size.symm)
  show own_Go _ _ _ _ T14 (mkF m 36 _ [])
  generalize hgg18v : (own_updI g13v 2 ((1 : Int32) + (((x0.toUInt32 >>> ((4 : Int32) &&& 31).toUInt32).toInt32) &&& (3 : Int32)))) = g18v at f15
  refine own_st (fun t k => XS.iconst X14.here hx rfl (hb hby at_36) k) ?_
  show own_Go _ _ _ _ T14 (mkF m 37 _ [(.int (3 : Int32))])
  obtain ⟨T19, h19, k19, X19, e19, E19, A19, st19⟩ := newP X14 hx hZ (hw _ (List.mem_of_getElem? (i := 0) rfl)) e14 (g := (mkF m 37 #[.val (.int x0), .val (.int x1), .val (.int x2), .val (.int x3), .val (.int x4), .val (.ref b1), .unset, .unset, .unset, .unset, .unset, .unset, .unset, .unset, .unset, .unset, .unset, .unset, .unset, .unset, .unset, .unset, .unset, .unset, .unset, .unset, .unset, .unset, .unset] [(.int (3 : Int32))])) rfl (hb hby at_37) rfl (by decide) (cap := 3) (by decide) (by decide) (by decide) (by decide)
  obtain ⟨b19, g19⟩ : ∃ z, z = h14.size := ⟨_, rfl⟩
  rw [← g19] at A19 st19
  refine own_st st19 ?_
  have ne20 : b1 ≠ b19 := Nat.ne_of_lt (Nat.lt_of_lt_of_le f15.lt (Nat.le_of_eq g19.symm))
  have f21 := f15.ext E19
  have gx22 : n0 ≤ b19 := Nat.le_trans Z17 (Nat.le_of_eq g19.symm)
  have Z23 : n0 ≤ h19.size := Nat.le_trans Z17 E19.1
  have V19 : own_AI Z h19 b19 k19 (3 : Int32) (fun _ => (0 : Int32)) := own_AI.new A19 (by decide)
  show own_Go _ _ _ _ T19 (mkF m 39 _ [(.ref b19)])
  refine own_st (fun t k => XS.astore X19.here hx rfl (hb hby at_39) rfl rfl (l' := #[.val (.int x0), .val (.int x1), .val (.int x2), .val (.int x3), .val (.int x4), .val (.ref b1), .val (.ref b19), .unset, .unset, .unset, .unset, .unset, .unset, .unset, .unset, .unset, .unset, .unset, .unset, .unset, .unset, .unset, .unset, .unset, .unset, .unset, .unset, .unset, .unset]) rfl k) ?_
  show own_Go _ _ _ _ T19 (mkF m 41 #[.val (.int x0), .val (.int x1), .val (.int x2), .val (.int x3), .val (.int x4), .val (.ref b1), .val (.ref b19), .unset, .unset, .unset, .unset, .unset, .unset, .unset, .unset, .unset, .unset, .unset, .unset, .unset, .unset, .unset, .unset, .unset, .unset, .unset, .unset, .unset, .unset] [])
  refine own_st (fun t k => XS.aload X19.here hx rfl (hb hby at_41) rfl rfl k) ?_
  show own_Go _ _ _ _ T19 (mkF m 43 _ [(.ref b19)])
  refine own_st (fun t k => XS.iconst X19.here hx rfl (hb hby at_43) k) ?_
  show own_Go _ _ _ _ T19 (mkF m 44 _ [(.int (0 : Int32)), (.ref b19)])
  refine own_st (fun t k => XS.iloadN X19.here hx rfl (hb hby at_44) rfl k) ?_
  show own_Go _ _ _ _ T19 (mkF m 45 _ [(.int x1), (.int (0 : Int32)), (.ref b19)])
  refine own_st (fun t k => X19.ldcInt hx hown (mvT hZ (hw _ (List.mem_of_getElem? (i := 1) rfl))) (g := (mkF m 45 #[.val (.int x0), .val (.int x1), .val (.int x2), .val (.int x3), .val (.int x4), .val (.ref b1), .val (.ref b19), .unset, .unset, .unset, .unset, .unset, .unset, .unset, .unset, .unset, .unset, .unset, .unset, .unset, .unset, .unset, .unset, .unset, .unset, .unset, .unset, .unset, .unset] [(.int x1), (.int (0 : Int32)), (.ref b19)])) rfl (hb hby at_45) _ k) ?_
  show own_Go _ _ _ _ T19 (mkF m 47 _ [(.int (2147483647 : Int32)), (.int x1), (.int (0 : Int32)), (.ref b19)])
  refine own_st (fun t k => XS.iand X19.here hx rfl (hb hby at_47) rfl k) ?_
  show own_Go _ _ _ _ T19 (mkF m 48 _ [(.int (x1 &&& (2147483647 : Int32))), (.int (0 : Int32)), (.ref b19)])
  refine own_st (fun t k => XS.aload X19.here hx rfl (hb hby at_48) rfl rfl k) ?_
  show own_Go _ _ _ _ T19 (mkF m 50 _ [(.ref b1), (.int (x1 &&& (2147483647 : Int32))), (.int (0 : Int32)), (.ref b19)])
  refine own_st (fun t k => XS.iconst X19.here hx rfl (hb hby at_50) k) ?_
  show own_Go _ _ _ _ T19 (mkF m 51 _ [(.int (0 : Int32)), (.ref b1), (.int (x1 &&& (2147483647 : Int32))), (.int (0 : Int32)), (.ref b19)])
  obtain ⟨c24, Ar24, q24, S24, N24, H24⟩ := id f21
  refine own_st (fun t k => X19.iaload hx (j := (0 : Int32)) (v := (.int (g18v 0))) (by rw [e19]; exact Ar24.1) (State.isArrayOf_alike hZ.alike Ar24.2.1) Ar24.2.2 (inb_of S24 ⟨by decide, by decide⟩) (H24 _ (own_lt (inb_of S24 ⟨by decide, by decide⟩))) (g := (mkF m 51 #[.val (.int x0), .val (.int x1), .val (.int x2), .val (.int x3), .val (.int x4), .val (.ref b1), .val (.ref b19), .unset, .unset, .unset, .unset, .unset, .unset, .unset, .unset, .unset, .unset, .unset, .unset, .unset, .unset, .unset, .unset, .unset, .unset, .unset, .unset, .unset, .unset] [(.int (0 : Int32)), (.ref b1), (.int (x1 &&& (2147483647 : Int32))), (.int (0 : Int32)), (.ref b19)])) rfl rfl (hb hby at_51) _ k) ?_
  show own_Go _ _ _ _ T19 (mkF m 52 _ [(.int (g18v 0)), (.int (x1 &&& (2147483647 : Int32))), (.int (0 : Int32)), (.ref b19)])
  refine own_st (fun t k => iremM X19 hx rfl (hb hby at_52) rfl (own_nz52 x0 x1 x2 x3 x4 g8v g13v g18v hgg8v hgg13v hgg18v) k) ?_
  show own_Go _ _ _ _ T19 (mkF m 53 _ [(.int ((x1 &&& (2147483647 : Int32)) % (g18v 0))), (.int (0 : Int32)), (.ref b19)])
  obtain ⟨c25, Ar25, q25, S25, N25, H25⟩ := id V19
  obtain ⟨T25, h25, X25, e25, W25, st25⟩ := stI X19 hx hZ e19 Ar25 (j := (0 : Int32)) (inb_of S25 ⟨by decide, by decide⟩) (g := (mkF m 53 #[.val (.int x0), .val (.int x1), .val (.int x2), .val (.int x3), .val (.int x4), .val (.ref b1), .val (.ref b19), .unset, .unset, .unset, .unset, .unset, .unset, .unset, .unset, .unset, .unset, .unset, .unset, .unset, .unset, .unset, .unset, .unset, .unset, .unset, .unset, .unset, .unset] [(.int ((x1 &&& (2147483647 : Int32)) % (g18v 0))), (.int (0 : Int32)), (.ref b19)])) rfl rfl (hb hby at_53)
  refine own_st st25 ?_
  have f26 : own_AI Z h25 b19 k19 (3 : Int32) (own_updI (fun _ => (0 : Int32)) 0 ((x1 &&& (2147483647 : Int32)) % (g18v 0))) := own_AI.set V19 W25
  have f27 := f21.other W25 ne20
  have N28 := Fr.snoc X25 N16 gx22
  have Z29 : n0 ≤ h25.size := Nat.le_trans Z23 (Nat.le_of_eq W25.size.symm)
  show own_Go _ _ _ _ T25 (mkF m 54 _ [])
  generalize hgg30v : (own_updI (fun _ => (0 : Int32)) 0 ((x1 &&& (2147483647 : Int32)) % (g18v 0))) = g30v at f26
  refine own_st (fun t k => XS.aload X25.here hx rfl (hb hby at_54) rfl rfl k) ?_
  show own_Go _ _ _ _ T25 (mkF m 56 _ [(.ref b19)])
  refine own_st (fun t k => XS.iconst X25.here hx rfl (hb hby at_56) k) ?_
  show own_Go _ _ _ _ T25 (mkF m 57 _ [(.int (1 : Int32)), (.ref b19)])
  refine own_st (fun t k => XS.iloadN X25.here hx rfl (hb hby at_57) rfl k) ?_
  show own_Go _ _ _ _ T25 (mkF m 58 _ [(.int x2), (.int (1 : Int32)), (.ref b19)])
  refine own_st (fun t k => X25.ldcInt hx hown (mvT hZ (hw _ (List.mem_of_getElem? (i := 1) rfl))) (g := (mkF m 58 #[.val (.int x0), .val (.int x1), .val (.int x2), .val (.int x3), .val (.int x4), .val (.ref b1), .val (.ref b19), .unset, .unset, .unset, .unset, .unset, .unset, .unset, .unset, .unset, .unset, .unset, .unset, .unset, .unset, .unset, .unset, .unset, .unset, .unset, .unset, .unset, .unset] [(.int x2), (.int (1 : Int32)), (.ref b19)])) rfl (hb hby at_58) _ k) ?_
  show own_Go _ _ _ _ T25 (mkF m 60 _ [(.int (2147483647 : Int32)), (.int x2), (.int (1 : Int32)), (.ref b19)])
  refine own_st (fun t k => XS.iand X25.here hx rfl (hb hby at_60) rfl k) ?_
  show own_Go _ _ _ _ T25 (mkF m 61 _ [(.int (x2 &&& (2147483647 : Int32))), (.int (1 : Int32)), (.ref b19)])
  refine own_st (fun t k => XS.aload X25.here hx rfl (hb hby at_61) rfl rfl k) ?_
  show own_Go _ _ _ _ T25 (mkF m 63 _ [(.ref b1), (.int (x2 &&& (2147483647 : Int32))), (.int (1 : Int32)), (.ref b19)])
  refine own_st (fun t k => XS.iconst X25.here hx rfl (hb hby at_63) k) ?_
  show own_Go _ _ _ _ T25 (mkF m 64 _ [(.int (1 : Int32)), (.ref b1), (.int (x2 &&& (2147483647 : Int32))), (.int (1 : Int32)), (.ref b19)])
  obtain ⟨c31, Ar31, q31, S31, N31, H31⟩ := id f27
  refine own_st (fun t k => X25.iaload hx (j := (1 : Int32)) (v := (.int (g18v 1))) (by rw [e25]; exact Ar31.1) (State.isArrayOf_alike hZ.alike Ar31.2.1) Ar31.2.2 (inb_of S31 ⟨by decide, by decide⟩) (H31 _ (own_lt (inb_of S31 ⟨by decide, by decide⟩))) (g := (mkF m 64 #[.val (.int x0), .val (.int x1), .val (.int x2), .val (.int x3), .val (.int x4), .val (.ref b1), .val (.ref b19), .unset, .unset, .unset, .unset, .unset, .unset, .unset, .unset, .unset, .unset, .unset, .unset, .unset, .unset, .unset, .unset, .unset, .unset, .unset, .unset, .unset, .unset] [(.int (1 : Int32)), (.ref b1), (.int (x2 &&& (2147483647 : Int32))), (.int (1 : Int32)), (.ref b19)])) rfl rfl (hb hby at_64) _ k) ?_
  show own_Go _ _ _ _ T25 (mkF m 65 _ [(.int (g18v 1)), (.int (x2 &&& (2147483647 : Int32))), (.int (1 : Int32)), (.ref b19)])
  refine own_st (fun t k => iremM X25 hx rfl (hb hby at_65) rfl (own_nz65 x0 x1 x2 x3 x4 g8v g13v g18v g30v hgg8v hgg13v hgg18v hgg30v) k) ?_
  show own_Go _ _ _ _ T25 (mkF m 66 _ [(.int ((x2 &&& (2147483647 : Int32)) % (g18v 1))), (.int (1 : Int32)), (.ref b19)])
  obtain ⟨c32, Ar32, q32, S32, N32, H32⟩ := id f26
  obtain ⟨T32, h32, X32, e32, W32, st32⟩ := stI X25 hx hZ e25 Ar32 (j := (1 : Int32)) (inb_of S32 ⟨by decide, by decide⟩) (g := (mkF m 66 #[.val (.int x0), .val (.int x1), .val (.int x2), .val (.int x3), .val (.int x4), .val (.ref b1), .val (.ref b19), .unset, .unset, .unset, .unset, .unset, .unset, .unset, .unset, .unset, .unset, .unset, .unset, .unset, .unset, .unset, .unset, .unset, .unset, .unset, .unset, .unset, .unset] [(.int ((x2 &&& (2147483647 : Int32)) % (g18v 1))), (.int (1 : Int32)), (.ref b19)])) rfl rfl (hb hby at_66)
  refine own_st st32 ?_
  have f33 : own_AI Z h32 b19 k19 (3 : Int32) (own_updI g30v 1 ((x2 &&& (2147483647 : Int32)) % (g18v 1))) := own_AI.set f26 W32
  have f34 := f27.other W32 ne20
  have N35 := Fr.snoc X32 N28 gx22
  have Z36 : n0 ≤ h32.size := Nat.le_trans Z29 (Nat.le_of_eq W32.size.symm)
  show own_Go _ _ _ _ T32 (mkF m 67 _ [])
  generalize hgg37v : (own_updI g30v 1 ((x2 &&& (2147483647 : Int32)) % (g18v 1))) = g37v at f33
  refine own_st (fun t k => XS.aload X32.here hx rfl (hb hby at_67) rfl rfl k) ?_
  show own_Go _ _ _ _ T32 (mkF m 69 _ [(.ref b19)])
  refine own_st (fun t k => XS.iconst X32.here hx rfl (hb hby at_69) k) ?_
  show own_Go _ _ _ _ T32 (mkF m 70 _ [(.int (2 : Int32)), (.ref b19)])
  refine own_st (fun t k => XS.iloadN X32.here hx rfl (hb hby at_70) rfl k) ?_
  show own_Go _ _ _ _ T32 (mkF m 71 _ [(.int x3), (.int (2 : Int32)), (.ref b19)])
  refine own_st (fun t k => X32.ldcInt hx hown (mvT hZ (hw _ (List.mem_of_getElem? (i := 1) rfl))) (g := (mkF m 71 #[.val (.int x0), .val (.int x1), .val (.int x2), .val (.int x3), .val (.int x4), .val (.ref b1), .val (.ref b19), .unset, .unset, .unset, .unset, .unset, .unset, .unset, .unset, .unset, .unset, .unset, .unset, .unset, .unset, .unset, .unset, .unset, .unset, .unset, .unset, .unset, .unset] [(.int x3), (.int (2 : Int32)), (.ref b19)])) rfl (hb hby at_71) _ k) ?_
  show own_Go _ _ _ _ T32 (mkF m 73 _ [(.int (2147483647 : Int32)), (.int x3), (.int (2 : Int32)), (.ref b19)])
  refine own_st (fun t k => XS.iand X32.here hx rfl (hb hby at_73) rfl k) ?_
  show own_Go _ _ _ _ T32 (mkF m 74 _ [(.int (x3 &&& (2147483647 : Int32))), (.int (2 : Int32)), (.ref b19)])
  refine own_st (fun t k => XS.aload X32.here hx rfl (hb hby at_74) rfl rfl k) ?_
  show own_Go _ _ _ _ T32 (mkF m 76 _ [(.ref b1), (.int (x3 &&& (2147483647 : Int32))), (.int (2 : Int32)), (.ref b19)])
  refine own_st (fun t k => XS.iconst X32.here hx rfl (hb hby at_76) k) ?_
  show own_Go _ _ _ _ T32 (mkF m 77 _ [(.int (2 : Int32)), (.ref b1), (.int (x3 &&& (2147483647 : Int32))), (.int (2 : Int32)), (.ref b19)])
  obtain ⟨c38, Ar38, q38, S38, N38, H38⟩ := id f34
  refine own_st (fun t k => X32.iaload hx (j := (2 : Int32)) (v := (.int (g18v 2))) (by rw [e32]; exact Ar38.1) (State.isArrayOf_alike hZ.alike Ar38.2.1) Ar38.2.2 (inb_of S38 ⟨by decide, by decide⟩) (H38 _ (own_lt (inb_of S38 ⟨by decide, by decide⟩))) (g := (mkF m 77 #[.val (.int x0), .val (.int x1), .val (.int x2), .val (.int x3), .val (.int x4), .val (.ref b1), .val (.ref b19), .unset, .unset, .unset, .unset, .unset, .unset, .unset, .unset, .unset, .unset, .unset, .unset, .unset, .unset, .unset, .unset, .unset, .unset, .unset, .unset, .unset, .unset] [(.int (2 : Int32)), (.ref b1), (.int (x3 &&& (2147483647 : Int32))), (.int (2 : Int32)), (.ref b19)])) rfl rfl (hb hby at_77) _ k) ?_
  show own_Go _ _ _ _ T32 (mkF m 78 _ [(.int (g18v 2)), (.int (x3 &&& (2147483647 : Int32))), (.int (2 : Int32)), (.ref b19)])
  refine own_st (fun t k => iremM X32 hx rfl (hb hby at_78) rfl (own_nz78 x0 x1 x2 x3 x4 g8v g13v g18v g30v g37v hgg8v hgg13v hgg18v hgg30v hgg37v) k) ?_
  show own_Go _ _ _ _ T32 (mkF m 79 _ [(.int ((x3 &&& (2147483647 : Int32)) % (g18v 2))), (.int (2 : Int32)), (.ref b19)])
  obtain ⟨c39, Ar39, q39, S39, N39, H39⟩ := id f33
  obtain ⟨T39, h39, X39, e39, W39, st39⟩ := stI X32 hx hZ e32 Ar39 (j := (2 : Int32)) (inb_of S39 ⟨by decide, by decide⟩) (g := (mkF m 79 #[.val (.int x0), .val (.int x1), .val (.int x2), .val (.int x3), .val (.int x4), .val (.ref b1), .val (.ref b19), .unset, .unset, .unset, .unset, .unset, .unset, .unset, .unset, .unset, .unset, .unset, .unset, .unset, .unset, .unset, .unset, .unset, .unset, .unset, .unset, .unset, .unset] [(.int ((x3 &&& (2147483647 : Int32)) % (g18v 2))), (.int (2 : Int32)), (.ref b19)])) rfl rfl (hb hby at_79)
  refine own_st st39 ?_
  have f40 : own_AI Z h39 b19 k19 (3 : Int32) (own_updI g37v 2 ((x3 &&& (2147483647 : Int32)) % (g18v 2))) := own_AI.set f33 W39
  have f41 := f34.other W39 ne20
  have N42 := Fr.snoc X39 N35 gx22
  have Z43 : n0 ≤ h39.size := Nat.le_trans Z36 (Nat.le_of_eq W39.size.symm)
  show own_Go _ _ _ _ T39 (mkF m 80 _ [])
  generalize hgg44v : (own_updI g37v 2 ((x3 &&& (2147483647 : Int32)) % (g18v 2))) = g44v at f40
  refine own_st (fun t k => XS.iload X39.here hx rfl (hb hby at_80) rfl k) ?_
  show own_Go _ _ _ _ T39 (mkF m 82 _ [(.int x4)])
  refine own_st (fun t k => XS.iconst X39.here hx rfl (hb hby at_82) k) ?_
  show own_Go _ _ _ _ T39 (mkF m 83 _ [(.int (3 : Int32)), (.int x4)])
  refine own_st (fun t k => XS.iand X39.here hx rfl (hb hby at_83) rfl k) ?_
  show own_Go _ _ _ _ T39 (mkF m 84 _ [(.int (x4 &&& (3 : Int32)))])
  generalize hv45 : (x4 &&& (3 : Int32)) = v45
  refine own_st (fun t k => XS.istore X39.here hx rfl (hb hby at_84) rfl (l' := #[.val (.int x0), .val (.int x1), .val (.int x2), .val (.int x3), .val (.int x4), .val (.ref b1), .val (.ref b19), .val (.int v45), .unset, .unset, .unset, .unset, .unset, .unset, .unset, .unset, .unset, .unset, .unset, .unset, .unset, .unset, .unset, .unset, .unset, .unset, .unset, .unset, .unset]) rfl k) ?_
  show own_Go _ _ _ _ T39 (mkF m 86 #[.val (.int x0), .val (.int x1), .val (.int x2), .val (.int x3), .val (.int x4), .val (.ref b1), .val (.ref b19), .val (.int v45), .unset, .unset, .unset, .unset, .unset, .unset, .unset, .unset, .unset, .unset, .unset, .unset, .unset, .unset, .unset, .unset, .unset, .unset, .unset, .unset, .unset] [])
  refine own_st (fun t k => XS.iload X39.here hx rfl (hb hby at_86) rfl k) ?_
  show own_Go _ _ _ _ T39 (mkF m 88 _ [(.int x4)])
  refine own_st (fun t k => XS.iconst X39.here hx rfl (hb hby at_88) k) ?_
  show own_Go _ _ _ _ T39 (mkF m 89 _ [(.int (2 : Int32)), (.int x4)])
  refine own_st (fun t k => XS.iushr X39.here hx rfl (hb hby at_89) rfl k) ?_
  show own_Go _ _ _ _ T39 (mkF m 90 _ [(.int ((x4.toUInt32 >>> ((2 : Int32) &&& 31).toUInt32).toInt32))])
  refine own_st (fun t k => XS.bipush X39.here hx rfl (hb hby at_90) k) ?_
  show own_Go _ _ _ _ T39 (mkF m 92 _ [(.int (6 : Int32)), (.int ((x4.toUInt32 >>> ((2 : Int32) &&& 31).toUInt32).toInt32))])
  refine own_st (fun t k => iremM X39 hx rfl (hb hby at_92) rfl (by decide) k) ?_
  show own_Go _ _ _ _ T39 (mkF m 93 _ [(.int (((x4.toUInt32 >>> ((2 : Int32) &&& 31).toUInt32).toInt32) % (6 : Int32)))])
  generalize hv46 : (((x4.toUInt32 >>> ((2 : Int32) &&& 31).toUInt32).toInt32) % (6 : Int32)) = v46
  refine own_st (fun t k => XS.istore X39.here hx rfl (hb hby at_93) rfl (l' := #[.val (.int x0), .val (.int x1), .val (.int x2), .val (.int x3), .val (.int x4), .val (.ref b1), .val (.ref b19), .val (.int v45), .val (.int v46), .unset, .unset, .unset, .unset, .unset, .unset, .unset, .unset, .unset, .unset, .unset, .unset, .unset, .unset, .unset, .unset, .unset, .unset, .unset, .unset]) rfl k) ?_
  show own_Go _ _ _ _ T39 (mkF m 95 #[.val (.int x0), .val (.int x1), .val (.int x2), .val (.int x3), .val (.int x4), .val (.ref b1), .val (.ref b19), .val (.int v45), .val (.int v46), .unset, .unset, .unset, .unset, .unset, .unset, .unset, .unset, .unset, .unset, .unset, .unset, .unset, .unset, .unset, .unset, .unset, .unset, .unset, .unset] [])
  refine own_st (fun t k => XS.iload X39.here hx rfl (hb hby at_95) rfl k) ?_
  show own_Go _ _ _ _ T39 (mkF m 97 _ [(.int v46)])
  refine own_st (fun t k => XS.iconst X39.here hx rfl (hb hby at_97) k) ?_
  show own_Go _ _ _ _ T39 (mkF m 98 _ [(.int (2 : Int32)), (.int v46)])
  refine own_st (fun t k => XS.idiv X39.here hx rfl (hb hby at_98) rfl (by decide) k) ?_
  show own_Go _ _ _ _ T39 (mkF m 99 _ [(.int (v46 / (2 : Int32)))])
  generalize hv47 : (v46 / (2 : Int32)) = v47
  refine own_st (fun t k => XS.istore X39.here hx rfl (hb hby at_99) rfl (l' := #[.val (.int x0), .val (.int x1), .val (.int x2), .val (.int x3), .val (.int x4), .val (.ref b1), .val (.ref b19), .val (.int v45), .val (.int v46), .val (.int v47), .unset, .unset, .unset, .unset, .unset, .unset, .unset, .unset, .unset, .unset, .unset, .unset, .unset, .unset, .unset, .unset, .unset, .unset, .unset]) rfl k) ?_
  show own_Go _ _ _ _ T39 (mkF m 101 #[.val (.int x0), .val (.int x1), .val (.int x2), .val (.int x3), .val (.int x4), .val (.ref b1), .val (.ref b19), .val (.int v45), .val (.int v46), .val (.int v47), .unset, .unset, .unset, .unset, .unset, .unset, .unset, .unset, .unset, .unset, .unset, .unset, .unset, .unset, .unset, .unset, .unset, .unset, .unset] [])
  refine own_st (fun t k => XS.iload X39.here hx rfl (hb hby at_101) rfl k) ?_
  show own_Go _ _ _ _ T39 (mkF m 103 _ [(.int v46)])
  refine own_st (fun t k => XS.iconst X39.here hx rfl (hb hby at_103) k) ?_
  show own_Go _ _ _ _ T39 (mkF m 104 _ [(.int (2 : Int32)), (.int v46)])
  refine own_st (fun t k => iremM X39 hx rfl (hb hby at_104) rfl (by decide) k) ?_
  show own_Go _ _ _ _ T39 (mkF m 105 _ [(.int (v46 % (2 : Int32)))])
  have J61 : ∀ (Tj61 : State) (Lj61 : List Loc) (p62 : Int32), Stand p l e room_1 s m #[(.int x0), (.int x1), (.int x2), (.int x3), (.int x4)] below meth c Tj61 Lj61 2 6 → Tj61.heap = h39 → Fr n0 Lj61 → p62 = (if (v46 % (2 : Int32)) = (0 : Int32) then (if v47 = (0 : Int32) then (1 : Int32) else (0 : Int32)) else (if v47 = (2 : Int32) then (1 : Int32) else (2 : Int32))) → own_Go p.tables e below Pq Tj61 (mkF m 136 #[.val (.int x0), .val (.int x1), .val (.int x2), .val (.int x3), .val (.int x4), .val (.ref b1), .val (.ref b19), .val (.int v45), .val (.int v46), .val (.int v47), .val (.int p62), .unset, .unset, .unset, .unset, .unset, .unset, .unset, .unset, .unset, .unset, .unset, .unset, .unset, .unset, .unset, .unset, .unset, .unset] []) := by
    intro Tj61 Lj61 p62 Xj61 ej61 Nj61 qp62
    show own_Go _ _ _ _ Tj61 (mkF m 136 #[.val (.int x0), .val (.int x1), .val (.int x2), .val (.int x3), .val (.int x4), .val (.ref b1), .val (.ref b19), .val (.int v45), .val (.int v46), .val (.int v47), .val (.int p62), .unset, .unset, .unset, .unset, .unset, .unset, .unset, .unset, .unset, .unset, .unset, .unset, .unset, .unset, .unset, .unset, .unset, .unset] [])
    refine own_st (fun t k => XS.iconst Xj61.here hx rfl (hb hby at_136) k) ?_
    show own_Go _ _ _ _ Tj61 (mkF m 137 _ [(.int (3 : Int32))])
    refine own_st (fun t k => XS.iload Xj61.here hx rfl (hb hby at_137) rfl k) ?_
    show own_Go _ _ _ _ Tj61 (mkF m 139 _ [(.int v47), (.int (3 : Int32))])
    refine own_st (fun t k => XS.isub Xj61.here hx rfl (hb hby at_139) rfl k) ?_
    show own_Go _ _ _ _ Tj61 (mkF m 140 _ [(.int ((3 : Int32) - v47))])
    refine own_st (fun t k => XS.iload Xj61.here hx rfl (hb hby at_140) rfl k) ?_
    show own_Go _ _ _ _ Tj61 (mkF m 142 _ [(.int p62), (.int ((3 : Int32) - v47))])
    refine own_st (fun t k => XS.isub Xj61.here hx rfl (hb hby at_142) rfl k) ?_
    show own_Go _ _ _ _ Tj61 (mkF m 143 _ [(.int (((3 : Int32) - v47) - p62))])
    generalize hv63 : (((3 : Int32) - v47) - p62) = v63
    refine own_st (fun t k => XS.istore Xj61.here hx rfl (hb hby at_143) rfl (l' := #[.val (.int x0), .val (.int x1), .val (.int x2), .val (.int x3), .val (.int x4), .val (.ref b1), .val (.ref b19), .val (.int v45), .val (.int v46), .val (.int v47), .val (.int p62), .val (.int v63), .unset, .unset, .unset, .unset, .unset, .unset, .unset, .unset, .unset, .unset, .unset, .unset, .unset, .unset, .unset, .unset, .unset]) rfl k) ?_
    show own_Go _ _ _ _ Tj61 (mkF m 145 #[.val (.int x0), .val (.int x1), .val (.int x2), .val (.int x3), .val (.int x4), .val (.ref b1), .val (.ref b19), .val (.int v45), .val (.int v46), .val (.int v47), .val (.int p62), .val (.int v63), .unset, .unset, .unset, .unset, .unset, .unset, .unset, .unset, .unset, .unset, .unset, .unset, .unset, .unset, .unset, .unset, .unset] [])
    have HQ := (own_hq x0 x1 x2 x3 x4 g8v g13v g18v g30v g37v g44v v45 v46 v47 p62 v63 hgg8v hgg13v hgg18v hgg30v hgg37v hgg44v hv45 hv46 hv47 qp62 hv63)
    refine own_st (fun t k => XS.iload Xj61.here hx rfl (hb hby at_145) rfl k) ?_
    show own_Go _ _ _ _ Tj61 (mkF m 147 _ [(.int v45)])
    obtain ⟨T64, h64, k64, X64, e64, E64, A64, st64⟩ := newP Xj61 hx hZ (hw _ (List.mem_of_getElem? (i := 0) rfl)) ej61 (g := (mkF m 147 #[.val (.int x0), .val (.int x1), .val (.int x2), .val (.int x3), .val (.int x4), .val (.ref b1), .val (.ref b19), .val (.int v45), .val (.int v46), .val (.int v47), .val (.int p62), .val (.int v63), .unset, .unset, .unset, .unset, .unset, .unset, .unset, .unset, .unset, .unset, .unset, .unset, .unset, .unset, .unset, .unset, .unset] [(.int v45)])) rfl (hb hby at_147) rfl HQ.2.2.2.1 (cap := 3) (own_cap3 HQ.2.2.2) (by decide) (by decide) (by decide)
    obtain ⟨b64, g64⟩ : ∃ z, z = h39.size := ⟨_, rfl⟩
    rw [← g64] at A64 st64
    refine own_st st64 ?_
    have ne65 : b1 ≠ b64 := Nat.ne_of_lt (Nat.lt_of_lt_of_le f41.lt (Nat.le_of_eq g64.symm))
    have ne66 : b19 ≠ b64 := Nat.ne_of_lt (Nat.lt_of_lt_of_le f40.lt (Nat.le_of_eq g64.symm))
    have f67 := f41.ext E64
    have f68 := f40.ext E64
    have gx69 : n0 ≤ b64 := Nat.le_trans Z43 (Nat.le_of_eq g64.symm)
    have Z70 : n0 ≤ h64.size := Nat.le_trans Z43 E64.1
    have V64 : own_AI Z h64 b64 k64 v45 (fun _ => (0 : Int32)) := own_AI.new A64 HQ.2.2.2.1
    show own_Go _ _ _ _ T64 (mkF m 149 _ [(.ref b64)])
    refine own_st (fun t k => XS.astore X64.here hx rfl (hb hby at_149) rfl rfl (l' := #[.val (.int x0), .val (.int x1), .val (.int x2), .val (.int x3), .val (.int x4), .val (.ref b1), .val (.ref b19), .val (.int v45), .val (.int v46), .val (.int v47), .val (.int p62), .val (.int v63), .val (.ref b64), .unset, .unset, .unset, .unset, .unset, .unset, .unset, .unset, .unset, .unset, .unset, .unset, .unset, .unset, .unset, .unset]) rfl k) ?_
    show own_Go _ _ _ _ T64 (mkF m 151 #[.val (.int x0), .val (.int x1), .val (.int x2), .val (.int x3), .val (.int x4), .val (.ref b1), .val (.ref b19), .val (.int v45), .val (.int v46), .val (.int v47), .val (.int p62), .val (.int v63), .val (.ref b64), .unset, .unset, .unset, .unset, .unset, .unset, .unset, .unset, .unset, .unset, .unset, .unset, .unset, .unset, .unset, .unset] [])
    refine own_st (fun t k => XS.iload X64.here hx rfl (hb hby at_151) rfl k) ?_
    show own_Go _ _ _ _ T64 (mkF m 153 _ [(.int v45)])
    have J80 : ∀ (Tj80 : State) (Lj80 : List Loc) (hj80 : Heap) (p83 : Nat → Int32), Stand p l e room_1 s m #[(.int x0), (.int x1), (.int x2), (.int x3), (.int x4)] below meth c Tj80 Lj80 3 9 → Tj80.heap = hj80 → Fr n0 Lj80 → n0 ≤ hj80.size → own_AI Z hj80 b1 k1 (3 : Int32) g18v → own_AI Z hj80 b19 k19 (3 : Int32) g44v → own_AI Z hj80 b64 k64 v45 p83 → p83 = (if (0 : Int32) < v45 then (own_updI (fun _ => (0 : Int32)) 0 v47) else (fun _ => (0 : Int32))) → own_Go p.tables e below Pq Tj80 (mkF m 162 #[.val (.int x0), .val (.int x1), .val (.int x2), .val (.int x3), .val (.int x4), .val (.ref b1), .val (.ref b19), .val (.int v45), .val (.int v46), .val (.int v47), .val (.int p62), .val (.int v63), .val (.ref b64), .unset, .unset, .unset, .unset, .unset, .unset, .unset, .unset, .unset, .unset, .unset, .unset, .unset, .unset, .unset, .unset] []) := by
      intro Tj80 Lj80 hj80 p83 Xj80 ej80 Nj80 Zj80 fj81 fj82 fj84 qp83
      show own_Go _ _ _ _ Tj80 (mkF m 162 _ [])
      refine own_st (fun t k => XS.iload Xj80.here hx rfl (hb hby at_162) rfl k) ?_
      show own_Go _ _ _ _ Tj80 (mkF m 164 _ [(.int v45)])
      refine own_st (fun t k => XS.iconst Xj80.here hx rfl (hb hby at_164) k) ?_
      show own_Go _ _ _ _ Tj80 (mkF m 165 _ [(.int (1 : Int32)), (.int v45)])
      have J94 : ∀ (Tj94 : State) (Lj94 : List Loc) (hj94 : Heap) (p97 : Nat → Int32), Stand p l e room_1 s m #[(.int x0), (.int x1), (.int x2), (.int x3), (.int x4)] below meth c Tj94 Lj94 3 9 → Tj94.heap = hj94 → Fr n0 Lj94 → n0 ≤ hj94.size → own_AI Z hj94 b1 k1 (3 : Int32) g18v → own_AI Z hj94 b19 k19 (3 : Int32) g44v → own_AI Z hj94 b64 k64 v45 p97 → p97 = (if (1 : Int32) < v45 then (own_updI p83 1 p62) else p83) → own_Go p.tables e below Pq Tj94 (mkF m 174 #[.val (.int x0), .val (.int x1), .val (.int x2), .val (.int x3), .val (.int x4), .val (.ref b1), .val (.ref b19), .val (.int v45), .val (.int v46), .val (.int v47), .val (.int p62), .val (.int v63), .val (.ref b64), .unset, .unset, .unset, .unset, .unset, .unset, .unset, .unset, .unset, .unset, .unset, .unset, .unset, .unset, .unset, .unset] []) := by
        intro Tj94 Lj94 hj94 p97 Xj94 ej94 Nj94 Zj94 fj95 fj96 fj98 qp97
        show own_Go _ _ _ _ Tj94 (mkF m 174 _ [])
        refine own_st (fun t k => XS.iload Xj94.here hx rfl (hb hby at_174) rfl k) ?_
        show own_Go _ _ _ _ Tj94 (mkF m 176 _ [(.int v45)])
        refine own_st (fun t k => XS.iconst Xj94.here hx rfl (hb hby at_176) k) ?_
        show own_Go _ _ _ _ Tj94 (mkF m 177 _ [(.int (2 : Int32)), (.int v45)])
        have J108 : ∀ (Tj108 : State) (Lj108 : List Loc) (hj108 : Heap) (p111 : Nat → Int32), Stand p l e room_1 s m #[(.int x0), (.int x1), (.int x2), (.int x3), (.int x4)] below meth c Tj108 Lj108 3 9 → Tj108.heap = hj108 → Fr n0 Lj108 → n0 ≤ hj108.size → own_AI Z hj108 b1 k1 (3 : Int32) g18v → own_AI Z hj108 b19 k19 (3 : Int32) g44v → own_AI Z hj108 b64 k64 v45 p111 → p111 = (if (2 : Int32) < v45 then (own_updI p97 2 v63) else p97) → own_Go p.tables e below Pq Tj108 (mkF m 186 #[.val (.int x0), .val (.int x1), .val (.int x2), .val (.int x3), .val (.int x4), .val (.ref b1), .val (.ref b19), .val (.int v45), .val (.int v46), .val (.int v47), .val (.int p62), .val (.int v63), .val (.ref b64), .unset, .unset, .unset, .unset, .unset, .unset, .unset, .unset, .unset, .unset, .unset, .unset, .unset, .unset, .unset, .unset] []) := by
          intro Tj108 Lj108 hj108 p111 Xj108 ej108 Nj108 Zj108 fj109 fj110 fj112 qp111
          show own_Go _ _ _ _ Tj108 (mkF m 186 _ [])
          refine own_st (fun t k => XS.iload Xj108.here hx rfl (hb hby at_186) rfl k) ?_
          show own_Go _ _ _ _ Tj108 (mkF m 188 _ [(.int v45)])
          have J117 : ∀ (Tj117 : State) (Lj117 : List Loc) (p118 : Int32), Stand p l e room_1 s m #[(.int x0), (.int x1), (.int x2), (.int x3), (.int x4)] below meth c Tj117 Lj117 3 9 → Tj117.heap = hj108 → Fr n0 Lj117 → p118 = (if (0 : Int32) < v45 then (g18v v47.toNatClampNeg) else (1 : Int32)) → own_Go p.tables e below Pq Tj117 (mkF m 200 #[.val (.int x0), .val (.int x1), .val (.int x2), .val (.int x3), .val (.int x4), .val (.ref b1), .val (.ref b19), .val (.int v45), .val (.int v46), .val (.int v47), .val (.int p62), .val (.int v63), .val (.ref b64), .unset, .unset, .unset, .unset, .unset, .unset, .unset, .unset, .unset, .unset, .unset, .unset, .unset, .unset, .unset, .unset] [(.int p118)]) := by
            intro Tj117 Lj117 p118 Xj117 ej117 Nj117 qp118
            show own_Go _ _ _ _ Tj117 (mkF m 200 _ [(.int p118)])
            refine own_st (fun t k => XS.istore Xj117.here hx rfl (hb hby at_200) rfl (l' := #[.val (.int x0), .val (.int x1), .val (.int x2), .val (.int x3), .val (.int x4), .val (.ref b1), .val (.ref b19), .val (.int v45), .val (.int v46), .val (.int v47), .val (.int p62), .val (.int v63), .val (.ref b64), .val (.int p118), .unset, .unset, .unset, .unset, .unset, .unset, .unset, .unset, .unset, .unset, .unset, .unset, .unset, .unset, .unset]) rfl k) ?_
            show own_Go _ _ _ _ Tj117 (mkF m 202 #[.val (.int x0), .val (.int x1), .val (.int x2), .val (.int x3), .val (.int x4), .val (.ref b1), .val (.ref b19), .val (.int v45), .val (.int v46), .val (.int v47), .val (.int p62), .val (.int v63), .val (.ref b64), .val (.int p118), .unset, .unset, .unset, .unset, .unset, .unset, .unset, .unset, .unset, .unset, .unset, .unset, .unset, .unset, .unset] [])
            refine own_st (fun t k => XS.iload Xj117.here hx rfl (hb hby at_202) rfl k) ?_
            show own_Go _ _ _ _ Tj117 (mkF m 204 _ [(.int v45)])
            refine own_st (fun t k => XS.iconst Xj117.here hx rfl (hb hby at_204) k) ?_
            show own_Go _ _ _ _ Tj117 (mkF m 205 _ [(.int (1 : Int32)), (.int v45)])
            have J123 : ∀ (Tj123 : State) (Lj123 : List Loc) (p124 : Int32), Stand p l e room_1 s m #[(.int x0), (.int x1), (.int x2), (.int x3), (.int x4)] below meth c Tj123 Lj123 3 9 → Tj123.heap = hj108 → Fr n0 Lj123 → p124 = (if (1 : Int32) < v45 then (g18v p62.toNatClampNeg) else (1 : Int32)) → own_Go p.tables e below Pq Tj123 (mkF m 217 #[.val (.int x0), .val (.int x1), .val (.int x2), .val (.int x3), .val (.int x4), .val (.ref b1), .val (.ref b19), .val (.int v45), .val (.int v46), .val (.int v47), .val (.int p62), .val (.int v63), .val (.ref b64), .val (.int p118), .unset, .unset, .unset, .unset, .unset, .unset, .unset, .unset, .unset, .unset, .unset, .unset, .unset, .unset, .unset] [(.int p124)]) := by
              intro Tj123 Lj123 p124 Xj123 ej123 Nj123 qp124
              show own_Go _ _ _ _ Tj123 (mkF m 217 _ [(.int p124)])
              refine own_st (fun t k => XS.istore Xj123.here hx rfl (hb hby at_217) rfl (l' := #[.val (.int x0), .val (.int x1), .val (.int x2), .val (.int x3), .val (.int x4), .val (.ref b1), .val (.ref b19), .val (.int v45), .val (.int v46), .val (.int v47), .val (.int p62), .val (.int v63), .val (.ref b64), .val (.int p118), .val (.int p124), .unset, .unset, .unset, .unset, .unset, .unset, .unset, .unset, .unset, .unset, .unset, .unset, .unset, .unset]) rfl k) ?_
              show own_Go _ _ _ _ Tj123 (mkF m 219 #[.val (.int x0), .val (.int x1), .val (.int x2), .val (.int x3), .val (.int x4), .val (.ref b1), .val (.ref b19), .val (.int v45), .val (.int v46), .val (.int v47), .val (.int p62), .val (.int v63), .val (.ref b64), .val (.int p118), .val (.int p124), .unset, .unset, .unset, .unset, .unset, .unset, .unset, .unset, .unset, .unset, .unset, .unset, .unset, .unset] [])
              refine own_st (fun t k => XS.iload Xj123.here hx rfl (hb hby at_219) rfl k) ?_
              show own_Go _ _ _ _ Tj123 (mkF m 221 _ [(.int v45)])
              refine own_st (fun t k => XS.iconst Xj123.here hx rfl (hb hby at_221) k) ?_
              show own_Go _ _ _ _ Tj123 (mkF m 222 _ [(.int (2 : Int32)), (.int v45)])
              have J129 : ∀ (Tj129 : State) (Lj129 : List Loc) (p130 : Int32), Stand p l e room_1 s m #[(.int x0), (.int x1), (.int x2), (.int x3), (.int x4)] below meth c Tj129 Lj129 3 9 → Tj129.heap = hj108 → Fr n0 Lj129 → p130 = (if (2 : Int32) < v45 then (g18v v63.toNatClampNeg) else (1 : Int32)) → own_Go p.tables e below Pq Tj129 (mkF m 234 #[.val (.int x0), .val (.int x1), .val (.int x2), .val (.int x3), .val (.int x4), .val (.ref b1), .val (.ref b19), .val (.int v45), .val (.int v46), .val (.int v47), .val (.int p62), .val (.int v63), .val (.ref b64), .val (.int p118), .val (.int p124), .unset, .unset, .unset, .unset, .unset, .unset, .unset, .unset, .unset, .unset, .unset, .unset, .unset, .unset] [(.int p130)]) := by
                intro Tj129 Lj129 p130 Xj129 ej129 Nj129 qp130
                show own_Go _ _ _ _ Tj129 (mkF m 234 _ [(.int p130)])
                refine own_st (fun t k => XS.istore Xj129.here hx rfl (hb hby at_234) rfl (l' := #[.val (.int x0), .val (.int x1), .val (.int x2), .val (.int x3), .val (.int x4), .val (.ref b1), .val (.ref b19), .val (.int v45), .val (.int v46), .val (.int v47), .val (.int p62), .val (.int v63), .val (.ref b64), .val (.int p118), .val (.int p124), .val (.int p130), .unset, .unset, .unset, .unset, .unset, .unset, .unset, .unset, .unset, .unset, .unset, .unset, .unset]) rfl k) ?_
                show own_Go _ _ _ _ Tj129 (mkF m 236 #[.val (.int x0), .val (.int x1), .val (.int x2), .val (.int x3), .val (.int x4), .val (.ref b1), .val (.ref b19), .val (.int v45), .val (.int v46), .val (.int v47), .val (.int p62), .val (.int v63), .val (.ref b64), .val (.int p118), .val (.int p124), .val (.int p130), .unset, .unset, .unset, .unset, .unset, .unset, .unset, .unset, .unset, .unset, .unset, .unset, .unset] [])
                refine own_st (fun t k => XS.iload Xj129.here hx rfl (hb hby at_236) rfl k) ?_
                show own_Go _ _ _ _ Tj129 (mkF m 238 _ [(.int v45)])
                have J135 : ∀ (Tj135 : State) (Lj135 : List Loc) (p136 : Int32), Stand p l e room_1 s m #[(.int x0), (.int x1), (.int x2), (.int x3), (.int x4)] below meth c Tj135 Lj135 3 9 → Tj135.heap = hj108 → Fr n0 Lj135 → p136 = (if (0 : Int32) < v45 then (g44v v47.toNatClampNeg) else (0 : Int32)) → own_Go p.tables e below Pq Tj135 (mkF m 250 #[.val (.int x0), .val (.int x1), .val (.int x2), .val (.int x3), .val (.int x4), .val (.ref b1), .val (.ref b19), .val (.int v45), .val (.int v46), .val (.int v47), .val (.int p62), .val (.int v63), .val (.ref b64), .val (.int p118), .val (.int p124), .val (.int p130), .unset, .unset, .unset, .unset, .unset, .unset, .unset, .unset, .unset, .unset, .unset, .unset, .unset] [(.int p136)]) := by
                  intro Tj135 Lj135 p136 Xj135 ej135 Nj135 qp136
                  show own_Go _ _ _ _ Tj135 (mkF m 250 _ [(.int p136)])
                  refine own_st (fun t k => XS.istore Xj135.here hx rfl (hb hby at_250) rfl (l' := #[.val (.int x0), .val (.int x1), .val (.int x2), .val (.int x3), .val (.int x4), .val (.ref b1), .val (.ref b19), .val (.int v45), .val (.int v46), .val (.int v47), .val (.int p62), .val (.int v63), .val (.ref b64), .val (.int p118), .val (.int p124), .val (.int p130), .val (.int p136), .unset, .unset, .unset, .unset, .unset, .unset, .unset, .unset, .unset, .unset, .unset, .unset]) rfl k) ?_
                  show own_Go _ _ _ _ Tj135 (mkF m 252 #[.val (.int x0), .val (.int x1), .val (.int x2), .val (.int x3), .val (.int x4), .val (.ref b1), .val (.ref b19), .val (.int v45), .val (.int v46), .val (.int v47), .val (.int p62), .val (.int v63), .val (.ref b64), .val (.int p118), .val (.int p124), .val (.int p130), .val (.int p136), .unset, .unset, .unset, .unset, .unset, .unset, .unset, .unset, .unset, .unset, .unset, .unset] [])
                  refine own_st (fun t k => XS.iload Xj135.here hx rfl (hb hby at_252) rfl k) ?_
                  show own_Go _ _ _ _ Tj135 (mkF m 254 _ [(.int v45)])
                  refine own_st (fun t k => XS.iconst Xj135.here hx rfl (hb hby at_254) k) ?_
                  show own_Go _ _ _ _ Tj135 (mkF m 255 _ [(.int (1 : Int32)), (.int v45)])
                  have J141 : ∀ (Tj141 : State) (Lj141 : List Loc) (p142 : Int32), Stand p l e room_1 s m #[(.int x0), (.int x1), (.int x2), (.int x3), (.int x4)] below meth c Tj141 Lj141 3 9 → Tj141.heap = hj108 → Fr n0 Lj141 → p142 = (if (1 : Int32) < v45 then (g44v p62.toNatClampNeg) else (0 : Int32)) → own_Go p.tables e below Pq Tj141 (mkF m 267 #[.val (.int x0), .val (.int x1), .val (.int x2), .val (.int x3), .val (.int x4), .val (.ref b1), .val (.ref b19), .val (.int v45), .val (.int v46), .val (.int v47), .val (.int p62), .val (.int v63), .val (.ref b64), .val (.int p118), .val (.int p124), .val (.int p130), .val (.int p136), .unset, .unset, .unset, .unset, .unset, .unset, .unset, .unset, .unset, .unset, .unset, .unset] [(.int p142)]) := by
                    intro Tj141 Lj141 p142 Xj141 ej141 Nj141 qp142
                    show own_Go _ _ _ _ Tj141 (mkF m 267 _ [(.int p142)])
                    refine own_st (fun t k => XS.istore Xj141.here hx rfl (hb hby at_267) rfl (l' := #[.val (.int x0), .val (.int x1), .val (.int x2), .val (.int x3), .val (.int x4), .val (.ref b1), .val (.ref b19), .val (.int v45), .val (.int v46), .val (.int v47), .val (.int p62), .val (.int v63), .val (.ref b64), .val (.int p118), .val (.int p124), .val (.int p130), .val (.int p136), .val (.int p142), .unset, .unset, .unset, .unset, .unset, .unset, .unset, .unset, .unset, .unset, .unset]) rfl k) ?_
                    show own_Go _ _ _ _ Tj141 (mkF m 269 #[.val (.int x0), .val (.int x1), .val (.int x2), .val (.int x3), .val (.int x4), .val (.ref b1), .val (.ref b19), .val (.int v45), .val (.int v46), .val (.int v47), .val (.int p62), .val (.int v63), .val (.ref b64), .val (.int p118), .val (.int p124), .val (.int p130), .val (.int p136), .val (.int p142), .unset, .unset, .unset, .unset, .unset, .unset, .unset, .unset, .unset, .unset, .unset] [])
                    refine own_st (fun t k => XS.iload Xj141.here hx rfl (hb hby at_269) rfl k) ?_
                    show own_Go _ _ _ _ Tj141 (mkF m 271 _ [(.int v45)])
                    refine own_st (fun t k => XS.iconst Xj141.here hx rfl (hb hby at_271) k) ?_
                    show own_Go _ _ _ _ Tj141 (mkF m 272 _ [(.int (2 : Int32)), (.int v45)])
                    have J147 : ∀ (Tj147 : State) (Lj147 : List Loc) (p148 : Int32), Stand p l e room_1 s m #[(.int x0), (.int x1), (.int x2), (.int x3), (.int x4)] below meth c Tj147 Lj147 3 9 → Tj147.heap = hj108 → Fr n0 Lj147 → p148 = (if (2 : Int32) < v45 then (g44v v63.toNatClampNeg) else (0 : Int32)) → own_Go p.tables e below Pq Tj147 (mkF m 284 #[.val (.int x0), .val (.int x1), .val (.int x2), .val (.int x3), .val (.int x4), .val (.ref b1), .val (.ref b19), .val (.int v45), .val (.int v46), .val (.int v47), .val (.int p62), .val (.int v63), .val (.ref b64), .val (.int p118), .val (.int p124), .val (.int p130), .val (.int p136), .val (.int p142), .unset, .unset, .unset, .unset, .unset, .unset, .unset, .unset, .unset, .unset, .unset] [(.int p148)]) := by
                      intro Tj147 Lj147 p148 Xj147 ej147 Nj147 qp148
                      show own_Go _ _ _ _ Tj147 (mkF m 284 _ [(.int p148)])
                      refine own_st (fun t k => XS.istore Xj147.here hx rfl (hb hby at_284) rfl (l' := #[.val (.int x0), .val (.int x1), .val (.int x2), .val (.int x3), .val (.int x4), .val (.ref b1), .val (.ref b19), .val (.int v45), .val (.int v46), .val (.int v47), .val (.int p62), .val (.int v63), .val (.ref b64), .val (.int p118), .val (.int p124), .val (.int p130), .val (.int p136), .val (.int p142), .val (.int p148), .unset, .unset, .unset, .unset, .unset, .unset, .unset, .unset, .unset, .unset]) rfl k) ?_
                      show own_Go _ _ _ _ Tj147 (mkF m 286 #[.val (.int x0), .val (.int x1), .val (.int x2), .val (.int x3), .val (.int x4), .val (.ref b1), .val (.ref b19), .val (.int v45), .val (.int v46), .val (.int v47), .val (.int p62), .val (.int v63), .val (.ref b64), .val (.int p118), .val (.int p124), .val (.int p130), .val (.int p136), .val (.int p142), .val (.int p148), .unset, .unset, .unset, .unset, .unset, .unset, .unset, .unset, .unset, .unset] [])
                      refine own_st (fun t k => XS.iload Xj147.here hx rfl (hb hby at_286) rfl k) ?_
                      show own_Go _ _ _ _ Tj147 (mkF m 288 _ [(.int p136)])
                      refine own_st (fun t k => XS.iload Xj147.here hx rfl (hb hby at_288) rfl k) ?_
                      show own_Go _ _ _ _ Tj147 (mkF m 290 _ [(.int p118), (.int p136)])
                      refine own_st (fun t k => XS.iload Xj147.here hx rfl (hb hby at_290) rfl k) ?_
                      show own_Go _ _ _ _ Tj147 (mkF m 292 _ [(.int p142), (.int p118), (.int p136)])
                      refine own_st (fun t k => XS.iload Xj147.here hx rfl (hb hby at_292) rfl k) ?_
                      show own_Go _ _ _ _ Tj147 (mkF m 294 _ [(.int p124), (.int p142), (.int p118), (.int p136)])
                      refine own_st (fun t k => XS.iload Xj147.here hx rfl (hb hby at_294) rfl k) ?_
                      show own_Go _ _ _ _ Tj147 (mkF m 296 _ [(.int p148), (.int p124), (.int p142), (.int p118), (.int p136)])
                      refine own_st (fun t k => XS.imul Xj147.here hx rfl (hb hby at_296) rfl k) ?_
                      show own_Go _ _ _ _ Tj147 (mkF m 297 _ [(.int (p124 * p148)), (.int p142), (.int p118), (.int p136)])
                      refine own_st (fun t k => XS.iadd Xj147.here hx rfl (hb hby at_297) rfl k) ?_
                      show own_Go _ _ _ _ Tj147 (mkF m 298 _ [(.int (p142 + (p124 * p148))), (.int p118), (.int p136)])
                      refine own_st (fun t k => XS.imul Xj147.here hx rfl (hb hby at_298) rfl k) ?_
                      show own_Go _ _ _ _ Tj147 (mkF m 299 _ [(.int (p118 * (p142 + (p124 * p148)))), (.int p136)])
                      refine own_st (fun t k => XS.iadd Xj147.here hx rfl (hb hby at_299) rfl k) ?_
                      show own_Go _ _ _ _ Tj147 (mkF m 300 _ [(.int (p136 + (p118 * (p142 + (p124 * p148)))))])
                      generalize hv149 : (p136 + (p118 * (p142 + (p124 * p148)))) = v149
                      refine own_st (fun t k => XS.istore Xj147.here hx rfl (hb hby at_300) rfl (l' := #[.val (.int x0), .val (.int x1), .val (.int x2), .val (.int x3), .val (.int x4), .val (.ref b1), .val (.ref b19), .val (.int v45), .val (.int v46), .val (.int v47), .val (.int p62), .val (.int v63), .val (.ref b64), .val (.int p118), .val (.int p124), .val (.int p130), .val (.int p136), .val (.int p142), .val (.int p148), .val (.int v149), .unset, .unset, .unset, .unset, .unset, .unset, .unset, .unset, .unset]) rfl k) ?_
                      show own_Go _ _ _ _ Tj147 (mkF m 302 #[.val (.int x0), .val (.int x1), .val (.int x2), .val (.int x3), .val (.int x4), .val (.ref b1), .val (.ref b19), .val (.int v45), .val (.int v46), .val (.int v47), .val (.int p62), .val (.int v63), .val (.ref b64), .val (.int p118), .val (.int p124), .val (.int p130), .val (.int p136), .val (.int p142), .val (.int p148), .val (.int v149), .unset, .unset, .unset, .unset, .unset, .unset, .unset, .unset, .unset] [])
                      refine own_st (fun t k => XS.iload Xj147.here hx rfl (hb hby at_302) rfl k) ?_
                      show own_Go _ _ _ _ Tj147 (mkF m 304 _ [(.int p118)])
                      refine own_st (fun t k => XS.iload Xj147.here hx rfl (hb hby at_304) rfl k) ?_
                      show own_Go _ _ _ _ Tj147 (mkF m 306 _ [(.int p124), (.int p118)])
                      refine own_st (fun t k => XS.imul Xj147.here hx rfl (hb hby at_306) rfl k) ?_
                      show own_Go _ _ _ _ Tj147 (mkF m 307 _ [(.int (p118 * p124))])
                      refine own_st (fun t k => XS.iload Xj147.here hx rfl (hb hby at_307) rfl k) ?_
                      show own_Go _ _ _ _ Tj147 (mkF m 309 _ [(.int p130), (.int (p118 * p124))])
                      refine own_st (fun t k => XS.imul Xj147.here hx rfl (hb hby at_309) rfl k) ?_
                      show own_Go _ _ _ _ Tj147 (mkF m 310 _ [(.int ((p118 * p124) * p130))])
                      generalize hv150 : ((p118 * p124) * p130) = v150
                      refine own_st (fun t k => XS.istore Xj147.here hx rfl (hb hby at_310) rfl (l' := #[.val (.int x0), .val (.int x1), .val (.int x2), .val (.int x3), .val (.int x4), .val (.ref b1), .val (.ref b19), .val (.int v45), .val (.int v46), .val (.int v47), .val (.int p62), .val (.int v63), .val (.ref b64), .val (.int p118), .val (.int p124), .val (.int p130), .val (.int p136), .val (.int p142), .val (.int p148), .val (.int v149), .val (.int v150), .unset, .unset, .unset, .unset, .unset, .unset, .unset, .unset]) rfl k) ?_
                      show own_Go _ _ _ _ Tj147 (mkF m 312 #[.val (.int x0), .val (.int x1), .val (.int x2), .val (.int x3), .val (.int x4), .val (.ref b1), .val (.ref b19), .val (.int v45), .val (.int v46), .val (.int v47), .val (.int p62), .val (.int v63), .val (.ref b64), .val (.int p118), .val (.int p124), .val (.int p130), .val (.int p136), .val (.int p142), .val (.int p148), .val (.int v149), .val (.int v150), .unset, .unset, .unset, .unset, .unset, .unset, .unset, .unset] [])
                      refine own_st (fun t k => XS.iload Xj147.here hx rfl (hb hby at_312) rfl k) ?_
                      show own_Go _ _ _ _ Tj147 (mkF m 314 _ [(.int v149)])
                      refine own_st (fun t k => XS.iconst Xj147.here hx rfl (hb hby at_314) k) ?_
                      show own_Go _ _ _ _ Tj147 (mkF m 315 _ [(.int (1 : Int32)), (.int v149)])
                      refine own_st (fun t k => XS.iadd Xj147.here hx rfl (hb hby at_315) rfl k) ?_
                      show own_Go _ _ _ _ Tj147 (mkF m 316 _ [(.int (v149 + (1 : Int32)))])
                      generalize hv151 : (v149 + (1 : Int32)) = v151
                      refine own_st (fun t k => XS.istore Xj147.here hx rfl (hb hby at_316) rfl (l' := #[.val (.int x0), .val (.int x1), .val (.int x2), .val (.int x3), .val (.int x4), .val (.ref b1), .val (.ref b19), .val (.int v45), .val (.int v46), .val (.int v47), .val (.int p62), .val (.int v63), .val (.ref b64), .val (.int p118), .val (.int p124), .val (.int p130), .val (.int p136), .val (.int p142), .val (.int p148), .val (.int v149), .val (.int v150), .val (.int v151), .unset, .unset, .unset, .unset, .unset, .unset, .unset]) rfl k) ?_
                      show own_Go _ _ _ _ Tj147 (mkF m 318 #[.val (.int x0), .val (.int x1), .val (.int x2), .val (.int x3), .val (.int x4), .val (.ref b1), .val (.ref b19), .val (.int v45), .val (.int v46), .val (.int v47), .val (.int p62), .val (.int v63), .val (.ref b64), .val (.int p118), .val (.int p124), .val (.int p130), .val (.int p136), .val (.int p142), .val (.int p148), .val (.int v149), .val (.int v150), .val (.int v151), .unset, .unset, .unset, .unset, .unset, .unset, .unset] [])
                      refine own_st (fun t k => XS.iload Xj147.here hx rfl (hb hby at_318) rfl k) ?_
                      show own_Go _ _ _ _ Tj147 (mkF m 320 _ [(.int v151)])
                      refine own_st (fun t k => XS.iload Xj147.here hx rfl (hb hby at_320) rfl k) ?_
                      show own_Go _ _ _ _ Tj147 (mkF m 322 _ [(.int v150), (.int v151)])
                      have J155 : ∀ (Tj155 : State) (Lj155 : List Loc) (p156 : Int32), Stand p l e room_1 s m #[(.int x0), (.int x1), (.int x2), (.int x3), (.int x4)] below meth c Tj155 Lj155 3 9 → Tj155.heap = hj108 → Fr n0 Lj155 → p156 = (if v151 = v150 then (1 : Int32) else (0 : Int32)) → own_Go p.tables e below Pq Tj155 (mkF m 330 #[.val (.int x0), .val (.int x1), .val (.int x2), .val (.int x3), .val (.int x4), .val (.ref b1), .val (.ref b19), .val (.int v45), .val (.int v46), .val (.int v47), .val (.int p62), .val (.int v63), .val (.ref b64), .val (.int p118), .val (.int p124), .val (.int p130), .val (.int p136), .val (.int p142), .val (.int p148), .val (.int v149), .val (.int v150), .val (.int v151), .unset, .unset, .unset, .unset, .unset, .unset, .unset] [(.int p156)]) := by
                        intro Tj155 Lj155 p156 Xj155 ej155 Nj155 qp156
                        show own_Go _ _ _ _ Tj155 (mkF m 330 _ [(.int p156)])
                        refine own_st (fun t k => XS.istore Xj155.here hx rfl (hb hby at_330) rfl (l' := #[.val (.int x0), .val (.int x1), .val (.int x2), .val (.int x3), .val (.int x4), .val (.ref b1), .val (.ref b19), .val (.int v45), .val (.int v46), .val (.int v47), .val (.int p62), .val (.int v63), .val (.ref b64), .val (.int p118), .val (.int p124), .val (.int p130), .val (.int p136), .val (.int p142), .val (.int p148), .val (.int v149), .val (.int v150), .val (.int v151), .val (.int p156), .unset, .unset, .unset, .unset, .unset, .unset]) rfl k) ?_
                        show own_Go _ _ _ _ Tj155 (mkF m 332 #[.val (.int x0), .val (.int x1), .val (.int x2), .val (.int x3), .val (.int x4), .val (.ref b1), .val (.ref b19), .val (.int v45), .val (.int v46), .val (.int v47), .val (.int p62), .val (.int v63), .val (.ref b64), .val (.int p118), .val (.int p124), .val (.int p130), .val (.int p136), .val (.int p142), .val (.int p148), .val (.int v149), .val (.int v150), .val (.int v151), .val (.int p156), .unset, .unset, .unset, .unset, .unset, .unset] [])
                        refine own_st (fun t k => XS.iload Xj155.here hx rfl (hb hby at_332) rfl k) ?_
                        show own_Go _ _ _ _ Tj155 (mkF m 334 _ [(.int p156)])
                        have J160 : ∀ (Tj160 : State) (Lj160 : List Loc) (p161 : Int32), Stand p l e room_1 s m #[(.int x0), (.int x1), (.int x2), (.int x3), (.int x4)] below meth c Tj160 Lj160 3 9 → Tj160.heap = hj108 → Fr n0 Lj160 → p161 = (if p156 = (0 : Int32) then v151 else (0 : Int32)) → own_Go p.tables e below Pq Tj160 (mkF m 340 #[.val (.int x0), .val (.int x1), .val (.int x2), .val (.int x3), .val (.int x4), .val (.ref b1), .val (.ref b19), .val (.int v45), .val (.int v46), .val (.int v47), .val (.int p62), .val (.int v63), .val (.ref b64), .val (.int p118), .val (.int p124), .val (.int p130), .val (.int p136), .val (.int p142), .val (.int p148), .val (.int v149), .val (.int v150), .val (.int p161), .val (.int p156), .unset, .unset, .unset, .unset, .unset, .unset] []) := by
                          intro Tj160 Lj160 p161 Xj160 ej160 Nj160 qp161
                          show own_Go _ _ _ _ Tj160 (mkF m 340 #[.val (.int x0), .val (.int x1), .val (.int x2), .val (.int x3), .val (.int x4), .val (.ref b1), .val (.ref b19), .val (.int v45), .val (.int v46), .val (.int v47), .val (.int p62), .val (.int v63), .val (.ref b64), .val (.int p118), .val (.int p124), .val (.int p130), .val (.int p136), .val (.int p142), .val (.int p148), .val (.int v149), .val (.int v150), .val (.int p161), .val (.int p156), .unset, .unset, .unset, .unset, .unset, .unset] [])
                          have HR := (own_hr x0 x1 x2 x3 x4 g8v g13v g18v g30v g37v g44v v45 v46 v47 p62 v63 p83 p97 p111 p118 p124 p130 p136 p142 p148 v149 v150 v151 p156 p161 hgg8v hgg13v hgg18v hgg30v hgg37v hgg44v hv45 hv46 hv47 qp62 hv63 qp83 qp97 qp111 qp118 qp124 qp130 qp136 qp142 qp148 hv149 hv150 hv151 qp156 qp161)
                          refine own_st (fun t k => XS.iload Xj160.here hx rfl (hb hby at_340) rfl k) ?_
                          show own_Go _ _ _ _ Tj160 (mkF m 342 _ [(.int p161)])
                          refine own_st (fun t k => XS.iload Xj160.here hx rfl (hb hby at_342) rfl k) ?_
                          show own_Go _ _ _ _ Tj160 (mkF m 344 _ [(.int p118), (.int p161)])
                          refine own_st (fun t k => iremM Xj160 hx rfl (hb hby at_344) rfl HR.1 k) ?_
                          show own_Go _ _ _ _ Tj160 (mkF m 345 _ [(.int (p161 % p118))])
                          generalize hv162 : (p161 % p118) = v162
                          refine own_st (fun t k => XS.istore Xj160.here hx rfl (hb hby at_345) rfl (l' := #[.val (.int x0), .val (.int x1), .val (.int x2), .val (.int x3), .val (.int x4), .val (.ref b1), .val (.ref b19), .val (.int v45), .val (.int v46), .val (.int v47), .val (.int p62), .val (.int v63), .val (.ref b64), .val (.int p118), .val (.int p124), .val (.int p130), .val (.int p136), .val (.int p142), .val (.int p148), .val (.int v149), .val (.int v150), .val (.int p161), .val (.int p156), .val (.int v162), .unset, .unset, .unset, .unset, .unset]) rfl k) ?_
                          show own_Go _ _ _ _ Tj160 (mkF m 347 #[.val (.int x0), .val (.int x1), .val (.int x2), .val (.int x3), .val (.int x4), .val (.ref b1), .val (.ref b19), .val (.int v45), .val (.int v46), .val (.int v47), .val (.int p62), .val (.int v63), .val (.ref b64), .val (.int p118), .val (.int p124), .val (.int p130), .val (.int p136), .val (.int p142), .val (.int p148), .val (.int v149), .val (.int v150), .val (.int p161), .val (.int p156), .val (.int v162), .unset, .unset, .unset, .unset, .unset] [])
                          refine own_st (fun t k => XS.iload Xj160.here hx rfl (hb hby at_347) rfl k) ?_
                          show own_Go _ _ _ _ Tj160 (mkF m 349 _ [(.int p161)])
                          refine own_st (fun t k => XS.iload Xj160.here hx rfl (hb hby at_349) rfl k) ?_
                          show own_Go _ _ _ _ Tj160 (mkF m 351 _ [(.int p118), (.int p161)])
                          refine own_st (fun t k => XS.idiv Xj160.here hx rfl (hb hby at_351) rfl HR.1 k) ?_
                          show own_Go _ _ _ _ Tj160 (mkF m 352 _ [(.int (p161 / p118))])
                          refine own_st (fun t k => XS.iload Xj160.here hx rfl (hb hby at_352) rfl k) ?_
                          show own_Go _ _ _ _ Tj160 (mkF m 354 _ [(.int p124), (.int (p161 / p118))])
                          refine own_st (fun t k => iremM Xj160 hx rfl (hb hby at_354) rfl HR.2.1 k) ?_
                          show own_Go _ _ _ _ Tj160 (mkF m 355 _ [(.int ((p161 / p118) % p124))])
                          generalize hv163 : ((p161 / p118) % p124) = v163
                          refine own_st (fun t k => XS.istore Xj160.here hx rfl (hb hby at_355) rfl (l' := #[.val (.int x0), .val (.int x1), .val (.int x2), .val (.int x3), .val (.int x4), .val (.ref b1), .val (.ref b19), .val (.int v45), .val (.int v46), .val (.int v47), .val (.int p62), .val (.int v63), .val (.ref b64), .val (.int p118), .val (.int p124), .val (.int p130), .val (.int p136), .val (.int p142), .val (.int p148), .val (.int v149), .val (.int v150), .val (.int p161), .val (.int p156), .val (.int v162), .val (.int v163), .unset, .unset, .unset, .unset]) rfl k) ?_
                          show own_Go _ _ _ _ Tj160 (mkF m 357 #[.val (.int x0), .val (.int x1), .val (.int x2), .val (.int x3), .val (.int x4), .val (.ref b1), .val (.ref b19), .val (.int v45), .val (.int v46), .val (.int v47), .val (.int p62), .val (.int v63), .val (.ref b64), .val (.int p118), .val (.int p124), .val (.int p130), .val (.int p136), .val (.int p142), .val (.int p148), .val (.int v149), .val (.int v150), .val (.int p161), .val (.int p156), .val (.int v162), .val (.int v163), .unset, .unset, .unset, .unset] [])
                          refine own_st (fun t k => XS.iload Xj160.here hx rfl (hb hby at_357) rfl k) ?_
                          show own_Go _ _ _ _ Tj160 (mkF m 359 _ [(.int p161)])
                          refine own_st (fun t k => XS.iload Xj160.here hx rfl (hb hby at_359) rfl k) ?_
                          show own_Go _ _ _ _ Tj160 (mkF m 361 _ [(.int p118), (.int p161)])
                          refine own_st (fun t k => XS.iload Xj160.here hx rfl (hb hby at_361) rfl k) ?_
                          show own_Go _ _ _ _ Tj160 (mkF m 363 _ [(.int p124), (.int p118), (.int p161)])
                          refine own_st (fun t k => XS.imul Xj160.here hx rfl (hb hby at_363) rfl k) ?_
                          show own_Go _ _ _ _ Tj160 (mkF m 364 _ [(.int (p118 * p124)), (.int p161)])
                          refine own_st (fun t k => XS.idiv Xj160.here hx rfl (hb hby at_364) rfl HR.2.2.2 k) ?_
                          show own_Go _ _ _ _ Tj160 (mkF m 365 _ [(.int (p161 / (p118 * p124)))])
                          refine own_st (fun t k => XS.iload Xj160.here hx rfl (hb hby at_365) rfl k) ?_
                          show own_Go _ _ _ _ Tj160 (mkF m 367 _ [(.int p130), (.int (p161 / (p118 * p124)))])
                          refine own_st (fun t k => iremM Xj160 hx rfl (hb hby at_367) rfl HR.2.2.1 k) ?_
                          show own_Go _ _ _ _ Tj160 (mkF m 368 _ [(.int ((p161 / (p118 * p124)) % p130))])
                          generalize hv164 : ((p161 / (p118 * p124)) % p130) = v164
                          refine own_st (fun t k => XS.istore Xj160.here hx rfl (hb hby at_368) rfl (l' := #[.val (.int x0), .val (.int x1), .val (.int x2), .val (.int x3), .val (.int x4), .val (.ref b1), .val (.ref b19), .val (.int v45), .val (.int v46), .val (.int v47), .val (.int p62), .val (.int v63), .val (.ref b64), .val (.int p118), .val (.int p124), .val (.int p130), .val (.int p136), .val (.int p142), .val (.int p148), .val (.int v149), .val (.int v150), .val (.int p161), .val (.int p156), .val (.int v162), .val (.int v163), .val (.int v164), .unset, .unset, .unset]) rfl k) ?_
                          show own_Go _ _ _ _ Tj160 (mkF m 370 #[.val (.int x0), .val (.int x1), .val (.int x2), .val (.int x3), .val (.int x4), .val (.ref b1), .val (.ref b19), .val (.int v45), .val (.int v46), .val (.int v47), .val (.int p62), .val (.int v63), .val (.ref b64), .val (.int p118), .val (.int p124), .val (.int p130), .val (.int p136), .val (.int p142), .val (.int p148), .val (.int v149), .val (.int v150), .val (.int p161), .val (.int p156), .val (.int v162), .val (.int v163), .val (.int v164), .unset, .unset, .unset] [])
                          refine own_st (fun t k => XS.iconst Xj160.here hx rfl (hb hby at_370) k) ?_
                          show own_Go _ _ _ _ Tj160 (mkF m 371 _ [(.int (3 : Int32))])
                          obtain ⟨T165, h165, k165, X165, e165, E165, A165, st165⟩ := newP Xj160 hx hZ (hw _ (List.mem_of_getElem? (i := 0) rfl)) ej160 (g := (mkF m 371 #[.val (.int x0), .val (.int x1), .val (.int x2), .val (.int x3), .val (.int x4), .val (.ref b1), .val (.ref b19), .val (.int v45), .val (.int v46), .val (.int v47), .val (.int p62), .val (.int v63), .val (.ref b64), .val (.int p118), .val (.int p124), .val (.int p130), .val (.int p136), .val (.int p142), .val (.int p148), .val (.int v149), .val (.int v150), .val (.int p161), .val (.int p156), .val (.int v162), .val (.int v163), .val (.int v164), .unset, .unset, .unset] [(.int (3 : Int32))])) rfl (hb hby at_371) rfl (by decide) (cap := 3) (by decide) (by decide) (by decide) (by decide)
                          obtain ⟨b165, g165⟩ : ∃ z, z = hj108.size := ⟨_, rfl⟩
                          rw [← g165] at A165 st165
                          refine own_st st165 ?_
                          have ne166 : b1 ≠ b165 := Nat.ne_of_lt (Nat.lt_of_lt_of_le fj109.lt (Nat.le_of_eq g165.symm))
                          have ne167 : b19 ≠ b165 := Nat.ne_of_lt (Nat.lt_of_lt_of_le fj110.lt (Nat.le_of_eq g165.symm))
                          have ne168 : b64 ≠ b165 := Nat.ne_of_lt (Nat.lt_of_lt_of_le fj112.lt (Nat.le_of_eq g165.symm))
                          have f169 := fj109.ext E165
                          have f170 := fj110.ext E165
                          have f171 := fj112.ext E165
                          have gx172 : n0 ≤ b165 := Nat.le_trans Zj108 (Nat.le_of_eq g165.symm)
                          have Z173 : n0 ≤ h165.size := Nat.le_trans Zj108 E165.1
                          have V165 : own_AI Z h165 b165 k165 (3 : Int32) (fun _ => (0 : Int32)) := own_AI.new A165 (by decide)
                          show own_Go _ _ _ _ T165 (mkF m 373 _ [(.ref b165)])
                          refine own_st (fun t k => XS.astore X165.here hx rfl (hb hby at_373) rfl rfl (l' := #[.val (.int x0), .val (.int x1), .val (.int x2), .val (.int x3), .val (.int x4), .val (.ref b1), .val (.ref b19), .val (.int v45), .val (.int v46), .val (.int v47), .val (.int p62), .val (.int v63), .val (.ref b64), .val (.int p118), .val (.int p124), .val (.int p130), .val (.int p136), .val (.int p142), .val (.int p148), .val (.int v149), .val (.int v150), .val (.int p161), .val (.int p156), .val (.int v162), .val (.int v163), .val (.int v164), .val (.ref b165), .unset, .unset]) rfl k) ?_
                          show own_Go _ _ _ _ T165 (mkF m 375 #[.val (.int x0), .val (.int x1), .val (.int x2), .val (.int x3), .val (.int x4), .val (.ref b1), .val (.ref b19), .val (.int v45), .val (.int v46), .val (.int v47), .val (.int p62), .val (.int v63), .val (.ref b64), .val (.int p118), .val (.int p124), .val (.int p130), .val (.int p136), .val (.int p142), .val (.int p148), .val (.int v149), .val (.int v150), .val (.int p161), .val (.int p156), .val (.int v162), .val (.int v163), .val (.int v164), .val (.ref b165), .unset, .unset] [])
                          refine own_st (fun t k => XS.aload X165.here hx rfl (hb hby at_375) rfl rfl k) ?_
                          show own_Go _ _ _ _ T165 (mkF m 377 _ [(.ref b165)])
                          refine own_st (fun t k => XS.iconst X165.here hx rfl (hb hby at_377) k) ?_
                          show own_Go _ _ _ _ T165 (mkF m 378 _ [(.int (0 : Int32)), (.ref b165)])
                          refine own_st (fun t k => XS.aload X165.here hx rfl (hb hby at_378) rfl rfl k) ?_
                          show own_Go _ _ _ _ T165 (mkF m 380 _ [(.ref b19), (.int (0 : Int32)), (.ref b165)])
                          refine own_st (fun t k => XS.iconst X165.here hx rfl (hb hby at_380) k) ?_
                          show own_Go _ _ _ _ T165 (mkF m 381 _ [(.int (0 : Int32)), (.ref b19), (.int (0 : Int32)), (.ref b165)])
                          obtain ⟨c174, Ar174, q174, S174, N174, H174⟩ := id f170
                          refine own_st (fun t k => X165.iaload hx (j := (0 : Int32)) (v := (.int (g44v 0))) (by rw [e165]; exact Ar174.1) (State.isArrayOf_alike hZ.alike Ar174.2.1) Ar174.2.2 (inb_of S174 ⟨by decide, by decide⟩) (H174 _ (own_lt (inb_of S174 ⟨by decide, by decide⟩))) (g := (mkF m 381 #[.val (.int x0), .val (.int x1), .val (.int x2), .val (.int x3), .val (.int x4), .val (.ref b1), .val (.ref b19), .val (.int v45), .val (.int v46), .val (.int v47), .val (.int p62), .val (.int v63), .val (.ref b64), .val (.int p118), .val (.int p124), .val (.int p130), .val (.int p136), .val (.int p142), .val (.int p148), .val (.int v149), .val (.int v150), .val (.int p161), .val (.int p156), .val (.int v162), .val (.int v163), .val (.int v164), .val (.ref b165), .unset, .unset] [(.int (0 : Int32)), (.ref b19), (.int (0 : Int32)), (.ref b165)])) rfl rfl (hb hby at_381) _ k) ?_
                          show own_Go _ _ _ _ T165 (mkF m 382 _ [(.int (g44v 0)), (.int (0 : Int32)), (.ref b165)])
                          obtain ⟨c175, Ar175, q175, S175, N175, H175⟩ := id V165
                          obtain ⟨T175, h175, X175, e175, W175, st175⟩ := stI X165 hx hZ e165 Ar175 (j := (0 : Int32)) (inb_of S175 ⟨by decide, by decide⟩) (g := (mkF m 382 #[.val (.int x0), .val (.int x1), .val (.int x2), .val (.int x3), .val (.int x4), .val (.ref b1), .val (.ref b19), .val (.int v45), .val (.int v46), .val (.int v47), .val (.int p62), .val (.int v63), .val (.ref b64), .val (.int p118), .val (.int p124), .val (.int p130), .val (.int p136), .val (.int p142), .val (.int p148), .val (.int v149), .val (.int v150), .val (.int p161), .val (.int p156), .val (.int v162), .val (.int v163), .val (.int v164), .val (.ref b165), .unset, .unset] [(.int (g44v 0)), (.int (0 : Int32)), (.ref b165)])) rfl rfl (hb hby at_382)
                          refine own_st st175 ?_
                          have f176 : own_AI Z h175 b165 k165 (3 : Int32) (own_updI (fun _ => (0 : Int32)) 0 (g44v 0)) := own_AI.set V165 W175
                          have f177 := f169.other W175 ne166
                          have f178 := f170.other W175 ne167
                          have f179 := f171.other W175 ne168
                          have N180 := Fr.snoc X175 Nj160 gx172
                          have Z181 : n0 ≤ h175.size := Nat.le_trans Z173 (Nat.le_of_eq W175.size.symm)
                          show own_Go _ _ _ _ T175 (mkF m 383 _ [])
                          generalize hgg182v : (own_updI (fun _ => (0 : Int32)) 0 (g44v 0)) = g182v at f176
                          refine own_st (fun t k => XS.aload X175.here hx rfl (hb hby at_383) rfl rfl k) ?_
                          show own_Go _ _ _ _ T175 (mkF m 385 _ [(.ref b165)])
                          refine own_st (fun t k => XS.iconst X175.here hx rfl (hb hby at_385) k) ?_
                          show own_Go _ _ _ _ T175 (mkF m 386 _ [(.int (1 : Int32)), (.ref b165)])
                          refine own_st (fun t k => XS.aload X175.here hx rfl (hb hby at_386) rfl rfl k) ?_
                          show own_Go _ _ _ _ T175 (mkF m 388 _ [(.ref b19), (.int (1 : Int32)), (.ref b165)])
                          refine own_st (fun t k => XS.iconst X175.here hx rfl (hb hby at_388) k) ?_
                          show own_Go _ _ _ _ T175 (mkF m 389 _ [(.int (1 : Int32)), (.ref b19), (.int (1 : Int32)), (.ref b165)])
                          obtain ⟨c183, Ar183, q183, S183, N183, H183⟩ := id f178
                          refine own_st (fun t k => X175.iaload hx (j := (1 : Int32)) (v := (.int (g44v 1))) (by rw [e175]; exact Ar183.1) (State.isArrayOf_alike hZ.alike Ar183.2.1) Ar183.2.2 (inb_of S183 ⟨by decide, by decide⟩) (H183 _ (own_lt (inb_of S183 ⟨by decide, by decide⟩))) (g := (mkF m 389 #[.val (.int x0), .val (.int x1), .val (.int x2), .val (.int x3), .val (.int x4), .val (.ref b1), .val (.ref b19), .val (.int v45), .val (.int v46), .val (.int v47), .val (.int p62), .val (.int v63), .val (.ref b64), .val (.int p118), .val (.int p124), .val (.int p130), .val (.int p136), .val (.int p142), .val (.int p148), .val (.int v149), .val (.int v150), .val (.int p161), .val (.int p156), .val (.int v162), .val (.int v163), .val (.int v164), .val (.ref b165), .unset, .unset] [(.int (1 : Int32)), (.ref b19), (.int (1 : Int32)), (.ref b165)])) rfl rfl (hb hby at_389) _ k) ?_
                          show own_Go _ _ _ _ T175 (mkF m 390 _ [(.int (g44v 1)), (.int (1 : Int32)), (.ref b165)])
                          obtain ⟨c184, Ar184, q184, S184, N184, H184⟩ := id f176
                          obtain ⟨T184, h184, X184, e184, W184, st184⟩ := stI X175 hx hZ e175 Ar184 (j := (1 : Int32)) (inb_of S184 ⟨by decide, by decide⟩) (g := (mkF m 390 #[.val (.int x0), .val (.int x1), .val (.int x2), .val (.int x3), .val (.int x4), .val (.ref b1), .val (.ref b19), .val (.int v45), .val (.int v46), .val (.int v47), .val (.int p62), .val (.int v63), .val (.ref b64), .val (.int p118), .val (.int p124), .val (.int p130), .val (.int p136), .val (.int p142), .val (.int p148), .val (.int v149), .val (.int v150), .val (.int p161), .val (.int p156), .val (.int v162), .val (.int v163), .val (.int v164), .val (.ref b165), .unset, .unset] [(.int (g44v 1)), (.int (1 : Int32)), (.ref b165)])) rfl rfl (hb hby at_390)
                          refine own_st st184 ?_
                          have f185 : own_AI Z h184 b165 k165 (3 : Int32) (own_updI g182v 1 (g44v 1)) := own_AI.set f176 W184
                          have f186 := f177.other W184 ne166
                          have f187 := f178.other W184 ne167
                          have f188 := f179.other W184 ne168
                          have N189 := Fr.snoc X184 N180 gx172
                          have Z190 : n0 ≤ h184.size := Nat.le_trans Z181 (Nat.le_of_eq W184.size.symm)
                          show own_Go _ _ _ _ T184 (mkF m 391 _ [])
                          generalize hgg191v : (own_updI g182v 1 (g44v 1)) = g191v at f185
                          refine own_st (fun t k => XS.aload X184.here hx rfl (hb hby at_391) rfl rfl k) ?_
                          show own_Go _ _ _ _ T184 (mkF m 393 _ [(.ref b165)])
                          refine own_st (fun t k => XS.iconst X184.here hx rfl (hb hby at_393) k) ?_
                          show own_Go _ _ _ _ T184 (mkF m 394 _ [(.int (2 : Int32)), (.ref b165)])
                          refine own_st (fun t k => XS.aload X184.here hx rfl (hb hby at_394) rfl rfl k) ?_
                          show own_Go _ _ _ _ T184 (mkF m 396 _ [(.ref b19), (.int (2 : Int32)), (.ref b165)])
                          refine own_st (fun t k => XS.iconst X184.here hx rfl (hb hby at_396) k) ?_
                          show own_Go _ _ _ _ T184 (mkF m 397 _ [(.int (2 : Int32)), (.ref b19), (.int (2 : Int32)), (.ref b165)])
                          obtain ⟨c192, Ar192, q192, S192, N192, H192⟩ := id f187
                          refine own_st (fun t k => X184.iaload hx (j := (2 : Int32)) (v := (.int (g44v 2))) (by rw [e184]; exact Ar192.1) (State.isArrayOf_alike hZ.alike Ar192.2.1) Ar192.2.2 (inb_of S192 ⟨by decide, by decide⟩) (H192 _ (own_lt (inb_of S192 ⟨by decide, by decide⟩))) (g := (mkF m 397 #[.val (.int x0), .val (.int x1), .val (.int x2), .val (.int x3), .val (.int x4), .val (.ref b1), .val (.ref b19), .val (.int v45), .val (.int v46), .val (.int v47), .val (.int p62), .val (.int v63), .val (.ref b64), .val (.int p118), .val (.int p124), .val (.int p130), .val (.int p136), .val (.int p142), .val (.int p148), .val (.int v149), .val (.int v150), .val (.int p161), .val (.int p156), .val (.int v162), .val (.int v163), .val (.int v164), .val (.ref b165), .unset, .unset] [(.int (2 : Int32)), (.ref b19), (.int (2 : Int32)), (.ref b165)])) rfl rfl (hb hby at_397) _ k) ?_
                          show own_Go _ _ _ _ T184 (mkF m 398 _ [(.int (g44v 2)), (.int (2 : Int32)), (.ref b165)])
                          obtain ⟨c193, Ar193, q193, S193, N193, H193⟩ := id f185
                          obtain ⟨T193, h193, X193, e193, W193, st193⟩ := stI X184 hx hZ e184 Ar193 (j := (2 : Int32)) (inb_of S193 ⟨by decide, by decide⟩) (g := (mkF m 398 #[.val (.int x0), .val (.int x1), .val (.int x2), .val (.int x3), .val (.int x4), .val (.ref b1), .val (.ref b19), .val (.int v45), .val (.int v46), .val (.int v47), .val (.int p62), .val (.int v63), .val (.ref b64), .val (.int p118), .val (.int p124), .val (.int p130), .val (.int p136), .val (.int p142), .val (.int p148), .val (.int v149), .val (.int v150), .val (.int p161), .val (.int p156), .val (.int v162), .val (.int v163), .val (.int v164), .val (.ref b165), .unset, .unset] [(.int (g44v 2)), (.int (2 : Int32)), (.ref b165)])) rfl rfl (hb hby at_398)
                          refine own_st st193 ?_
                          have f194 : own_AI Z h193 b165 k165 (3 : Int32) (own_updI g191v 2 (g44v 2)) := own_AI.set f185 W193
                          have f195 := f186.other W193 ne166
                          have f196 := f187.other W193 ne167
                          have f197 := f188.other W193 ne168
                          have N198 := Fr.snoc X193 N189 gx172
                          have Z199 : n0 ≤ h193.size := Nat.le_trans Z190 (Nat.le_of_eq W193.size.symm)
                          show own_Go _ _ _ _ T193 (mkF m 399 _ [])
                          generalize hgg200v : (own_updI g191v 2 (g44v 2)) = g200v at f194
                          refine own_st (fun t k => XS.iload X193.here hx rfl (hb hby at_399) rfl k) ?_
                          show own_Go _ _ _ _ T193 (mkF m 401 _ [(.int v45)])
                          have J211 : ∀ (Tj211 : State) (Lj211 : List Loc) (hj211 : Heap) (p215 : Nat → Int32), Stand p l e room_1 s m #[(.int x0), (.int x1), (.int x2), (.int x3), (.int x4)] below meth c Tj211 Lj211 4 12 → Tj211.heap = hj211 → Fr n0 Lj211 → n0 ≤ hj211.size → own_AI Z hj211 b1 k1 (3 : Int32) g18v → own_AI Z hj211 b19 k19 (3 : Int32) g44v → own_AI Z hj211 b64 k64 v45 p111 → own_AI Z hj211 b165 k165 (3 : Int32) p215 → p215 = (if (0 : Int32) < v45 then (own_updI g200v v47.toNatClampNeg v162) else g200v) → own_Go p.tables e below Pq Tj211 (mkF m 411 #[.val (.int x0), .val (.int x1), .val (.int x2), .val (.int x3), .val (.int x4), .val (.ref b1), .val (.ref b19), .val (.int v45), .val (.int v46), .val (.int v47), .val (.int p62), .val (.int v63), .val (.ref b64), .val (.int p118), .val (.int p124), .val (.int p130), .val (.int p136), .val (.int p142), .val (.int p148), .val (.int v149), .val (.int v150), .val (.int p161), .val (.int p156), .val (.int v162), .val (.int v163), .val (.int v164), .val (.ref b165), .unset, .unset] []) := by
                            intro Tj211 Lj211 hj211 p215 Xj211 ej211 Nj211 Zj211 fj212 fj213 fj214 fj216 qp215
                            show own_Go _ _ _ _ Tj211 (mkF m 411 _ [])
                            refine own_st (fun t k => XS.iload Xj211.here hx rfl (hb hby at_411) rfl k) ?_
                            show own_Go _ _ _ _ Tj211 (mkF m 413 _ [(.int v45)])
                            refine own_st (fun t k => XS.iconst Xj211.here hx rfl (hb hby at_413) k) ?_
                            show own_Go _ _ _ _ Tj211 (mkF m 414 _ [(.int (1 : Int32)), (.int v45)])
                            have J227 : ∀ (Tj227 : State) (Lj227 : List Loc) (hj227 : Heap) (p231 : Nat → Int32), Stand p l e room_1 s m #[(.int x0), (.int x1), (.int x2), (.int x3), (.int x4)] below meth c Tj227 Lj227 4 12 → Tj227.heap = hj227 → Fr n0 Lj227 → n0 ≤ hj227.size → own_AI Z hj227 b1 k1 (3 : Int32) g18v → own_AI Z hj227 b19 k19 (3 : Int32) g44v → own_AI Z hj227 b64 k64 v45 p111 → own_AI Z hj227 b165 k165 (3 : Int32) p231 → p231 = (if (1 : Int32) < v45 then (own_updI p215 p62.toNatClampNeg v163) else p215) → own_Go p.tables e below Pq Tj227 (mkF m 424 #[.val (.int x0), .val (.int x1), .val (.int x2), .val (.int x3), .val (.int x4), .val (.ref b1), .val (.ref b19), .val (.int v45), .val (.int v46), .val (.int v47), .val (.int p62), .val (.int v63), .val (.ref b64), .val (.int p118), .val (.int p124), .val (.int p130), .val (.int p136), .val (.int p142), .val (.int p148), .val (.int v149), .val (.int v150), .val (.int p161), .val (.int p156), .val (.int v162), .val (.int v163), .val (.int v164), .val (.ref b165), .unset, .unset] []) := by
                              intro Tj227 Lj227 hj227 p231 Xj227 ej227 Nj227 Zj227 fj228 fj229 fj230 fj232 qp231
                              show own_Go _ _ _ _ Tj227 (mkF m 424 _ [])
                              refine own_st (fun t k => XS.iload Xj227.here hx rfl (hb hby at_424) rfl k) ?_
                              show own_Go _ _ _ _ Tj227 (mkF m 426 _ [(.int v45)])
                              refine own_st (fun t k => XS.iconst Xj227.here hx rfl (hb hby at_426) k) ?_
                              show own_Go _ _ _ _ Tj227 (mkF m 427 _ [(.int (2 : Int32)), (.int v45)])
                              have J243 : ∀ (Tj243 : State) (Lj243 : List Loc) (hj243 : Heap) (p247 : Nat → Int32), Stand p l e room_1 s m #[(.int x0), (.int x1), (.int x2), (.int x3), (.int x4)] below meth c Tj243 Lj243 4 12 → Tj243.heap = hj243 → Fr n0 Lj243 → n0 ≤ hj243.size → own_AI Z hj243 b1 k1 (3 : Int32) g18v → own_AI Z hj243 b19 k19 (3 : Int32) g44v → own_AI Z hj243 b64 k64 v45 p111 → own_AI Z hj243 b165 k165 (3 : Int32) p247 → p247 = (if (2 : Int32) < v45 then (own_updI p231 v63.toNatClampNeg v164) else p231) → own_Go p.tables e below Pq Tj243 (mkF m 437 #[.val (.int x0), .val (.int x1), .val (.int x2), .val (.int x3), .val (.int x4), .val (.ref b1), .val (.ref b19), .val (.int v45), .val (.int v46), .val (.int v47), .val (.int p62), .val (.int v63), .val (.ref b64), .val (.int p118), .val (.int p124), .val (.int p130), .val (.int p136), .val (.int p142), .val (.int p148), .val (.int v149), .val (.int v150), .val (.int p161), .val (.int p156), .val (.int v162), .val (.int v163), .val (.int v164), .val (.ref b165), .unset, .unset] []) := by
                                intro Tj243 Lj243 hj243 p247 Xj243 ej243 Nj243 Zj243 fj244 fj245 fj246 fj248 qp247
                                show own_Go _ _ _ _ Tj243 (mkF m 437 _ [])
                                refine own_st (fun t k => XS.iconst Xj243.here hx rfl (hb hby at_437) k) ?_
                                show own_Go _ _ _ _ Tj243 (mkF m 438 _ [(.int (3 : Int32))])
                                obtain ⟨T249, h249, k249, X249, e249, E249, A249, st249⟩ := newP Xj243 hx hZ (hw _ (List.mem_of_getElem? (i := 0) rfl)) ej243 (g := (mkF m 438 #[.val (.int x0), .val (.int x1), .val (.int x2), .val (.int x3), .val (.int x4), .val (.ref b1), .val (.ref b19), .val (.int v45), .val (.int v46), .val (.int v47), .val (.int p62), .val (.int v63), .val (.ref b64), .val (.int p118), .val (.int p124), .val (.int p130), .val (.int p136), .val (.int p142), .val (.int p148), .val (.int v149), .val (.int v150), .val (.int p161), .val (.int p156), .val (.int v162), .val (.int v163), .val (.int v164), .val (.ref b165), .unset, .unset] [(.int (3 : Int32))])) rfl (hb hby at_438) rfl (by decide) (cap := 3) (by decide) (by decide) (by decide) (by decide)
                                obtain ⟨b249, g249⟩ : ∃ z, z = hj243.size := ⟨_, rfl⟩
                                rw [← g249] at A249 st249
                                refine own_st st249 ?_
                                have ne250 : b1 ≠ b249 := Nat.ne_of_lt (Nat.lt_of_lt_of_le fj244.lt (Nat.le_of_eq g249.symm))
                                have ne251 : b19 ≠ b249 := Nat.ne_of_lt (Nat.lt_of_lt_of_le fj245.lt (Nat.le_of_eq g249.symm))
                                have ne252 : b64 ≠ b249 := Nat.ne_of_lt (Nat.lt_of_lt_of_le fj246.lt (Nat.le_of_eq g249.symm))
                                have ne253 : b165 ≠ b249 := Nat.ne_of_lt (Nat.lt_of_lt_of_le fj248.lt (Nat.le_of_eq g249.symm))
                                have f254 := fj244.ext E249
                                have f255 := fj245.ext E249
                                have f256 := fj246.ext E249
                                have f257 := fj248.ext E249
                                have gx258 : n0 ≤ b249 := Nat.le_trans Zj243 (Nat.le_of_eq g249.symm)
                                have Z259 : n0 ≤ h249.size := Nat.le_trans Zj243 E249.1
                                have V249 : own_AI Z h249 b249 k249 (3 : Int32) (fun _ => (0 : Int32)) := own_AI.new A249 (by decide)
                                show own_Go _ _ _ _ T249 (mkF m 440 _ [(.ref b249)])
                                refine own_st (fun t k => XS.astore X249.here hx rfl (hb hby at_440) rfl rfl (l' := #[.val (.int x0), .val (.int x1), .val (.int x2), .val (.int x3), .val (.int x4), .val (.ref b1), .val (.ref b19), .val (.int v45), .val (.int v46), .val (.int v47), .val (.int p62), .val (.int v63), .val (.ref b64), .val (.int p118), .val (.int p124), .val (.int p130), .val (.int p136), .val (.int p142), .val (.int p148), .val (.int v149), .val (.int v150), .val (.int p161), .val (.int p156), .val (.int v162), .val (.int v163), .val (.int v164), .val (.ref b165), .val (.ref b249), .unset]) rfl k) ?_
                                show own_Go _ _ _ _ T249 (mkF m 442 #[.val (.int x0), .val (.int x1), .val (.int x2), .val (.int x3), .val (.int x4), .val (.ref b1), .val (.ref b19), .val (.int v45), .val (.int v46), .val (.int v47), .val (.int p62), .val (.int v63), .val (.ref b64), .val (.int p118), .val (.int p124), .val (.int p130), .val (.int p136), .val (.int p142), .val (.int p148), .val (.int v149), .val (.int v150), .val (.int p161), .val (.int p156), .val (.int v162), .val (.int v163), .val (.int v164), .val (.ref b165), .val (.ref b249), .unset] [])
                                refine own_st (fun t k => XS.aload X249.here hx rfl (hb hby at_442) rfl rfl k) ?_
                                show own_Go _ _ _ _ T249 (mkF m 444 _ [(.ref b249)])
                                refine own_st (fun t k => XS.iconst X249.here hx rfl (hb hby at_444) k) ?_
                                show own_Go _ _ _ _ T249 (mkF m 445 _ [(.int (0 : Int32)), (.ref b249)])
                                refine own_st (fun t k => XS.aload X249.here hx rfl (hb hby at_445) rfl rfl k) ?_
                                show own_Go _ _ _ _ T249 (mkF m 447 _ [(.ref b19), (.int (0 : Int32)), (.ref b249)])
                                refine own_st (fun t k => XS.iconst X249.here hx rfl (hb hby at_447) k) ?_
                                show own_Go _ _ _ _ T249 (mkF m 448 _ [(.int (0 : Int32)), (.ref b19), (.int (0 : Int32)), (.ref b249)])
                                obtain ⟨c260, Ar260, q260, S260, N260, H260⟩ := id f255
                                refine own_st (fun t k => X249.iaload hx (j := (0 : Int32)) (v := (.int (g44v 0))) (by rw [e249]; exact Ar260.1) (State.isArrayOf_alike hZ.alike Ar260.2.1) Ar260.2.2 (inb_of S260 ⟨by decide, by decide⟩) (H260 _ (own_lt (inb_of S260 ⟨by decide, by decide⟩))) (g := (mkF m 448 #[.val (.int x0), .val (.int x1), .val (.int x2), .val (.int x3), .val (.int x4), .val (.ref b1), .val (.ref b19), .val (.int v45), .val (.int v46), .val (.int v47), .val (.int p62), .val (.int v63), .val (.ref b64), .val (.int p118), .val (.int p124), .val (.int p130), .val (.int p136), .val (.int p142), .val (.int p148), .val (.int v149), .val (.int v150), .val (.int p161), .val (.int p156), .val (.int v162), .val (.int v163), .val (.int v164), .val (.ref b165), .val (.ref b249), .unset] [(.int (0 : Int32)), (.ref b19), (.int (0 : Int32)), (.ref b249)])) rfl rfl (hb hby at_448) _ k) ?_
                                show own_Go _ _ _ _ T249 (mkF m 449 _ [(.int (g44v 0)), (.int (0 : Int32)), (.ref b249)])
                                obtain ⟨c261, Ar261, q261, S261, N261, H261⟩ := id V249
                                obtain ⟨T261, h261, X261, e261, W261, st261⟩ := stI X249 hx hZ e249 Ar261 (j := (0 : Int32)) (inb_of S261 ⟨by decide, by decide⟩) (g := (mkF m 449 #[.val (.int x0), .val (.int x1), .val (.int x2), .val (.int x3), .val (.int x4), .val (.ref b1), .val (.ref b19), .val (.int v45), .val (.int v46), .val (.int v47), .val (.int p62), .val (.int v63), .val (.ref b64), .val (.int p118), .val (.int p124), .val (.int p130), .val (.int p136), .val (.int p142), .val (.int p148), .val (.int v149), .val (.int v150), .val (.int p161), .val (.int p156), .val (.int v162), .val (.int v163), .val (.int v164), .val (.ref b165), .val (.ref b249), .unset] [(.int (g44v 0)), (.int (0 : Int32)), (.ref b249)])) rfl rfl (hb hby at_449)
                                refine own_st st261 ?_
                                have f262 : own_AI Z h261 b249 k249 (3 : Int32) (own_updI (fun _ => (0 : Int32)) 0 (g44v 0)) := own_AI.set V249 W261
                                have f263 := f254.other W261 ne250
                                have f264 := f255.other W261 ne251
                                have f265 := f256.other W261 ne252
                                have f266 := f257.other W261 ne253
                                have N267 := Fr.snoc X261 Nj243 gx258
                                have Z268 : n0 ≤ h261.size := Nat.le_trans Z259 (Nat.le_of_eq W261.size.symm)
                                show own_Go _ _ _ _ T261 (mkF m 450 _ [])
                                generalize hgg269v : (own_updI (fun _ => (0 : Int32)) 0 (g44v 0)) = g269v at f262
                                refine own_st (fun t k => XS.aload X261.here hx rfl (hb hby at_450) rfl rfl k) ?_
                                show own_Go _ _ _ _ T261 (mkF m 452 _ [(.ref b249)])
                                refine own_st (fun t k => XS.iconst X261.here hx rfl (hb hby at_452) k) ?_
                                show own_Go _ _ _ _ T261 (mkF m 453 _ [(.int (1 : Int32)), (.ref b249)])
                                refine own_st (fun t k => XS.aload X261.here hx rfl (hb hby at_453) rfl rfl k) ?_
                                show own_Go _ _ _ _ T261 (mkF m 455 _ [(.ref b19), (.int (1 : Int32)), (.ref b249)])
                                refine own_st (fun t k => XS.iconst X261.here hx rfl (hb hby at_455) k) ?_
                                show own_Go _ _ _ _ T261 (mkF m 456 _ [(.int (1 : Int32)), (.ref b19), (.int (1 : Int32)), (.ref b249)])
                                obtain ⟨c270, Ar270, q270, S270, N270, H270⟩ := id f264
                                refine own_st (fun t k => X261.iaload hx (j := (1 : Int32)) (v := (.int (g44v 1))) (by rw [e261]; exact Ar270.1) (State.isArrayOf_alike hZ.alike Ar270.2.1) Ar270.2.2 (inb_of S270 ⟨by decide, by decide⟩) (H270 _ (own_lt (inb_of S270 ⟨by decide, by decide⟩))) (g := (mkF m 456 #[.val (.int x0), .val (.int x1), .val (.int x2), .val (.int x3), .val (.int x4), .val (.ref b1), .val (.ref b19), .val (.int v45), .val (.int v46), .val (.int v47), .val (.int p62), .val (.int v63), .val (.ref b64), .val (.int p118), .val (.int p124), .val (.int p130), .val (.int p136), .val (.int p142), .val (.int p148), .val (.int v149), .val (.int v150), .val (.int p161), .val (.int p156), .val (.int v162), .val (.int v163), .val (.int v164), .val (.ref b165), .val (.ref b249), .unset] [(.int (1 : Int32)), (.ref b19), (.int (1 : Int32)), (.ref b249)])) rfl rfl (hb hby at_456) _ k) ?_
                                show own_Go _ _ _ _ T261 (mkF m 457 _ [(.int (g44v 1)), (.int (1 : Int32)), (.ref b249)])
                                obtain ⟨c271, Ar271, q271, S271, N271, H271⟩ := id f262
                                obtain ⟨T271, h271, X271, e271, W271, st271⟩ := stI X261 hx hZ e261 Ar271 (j := (1 : Int32)) (inb_of S271 ⟨by decide, by decide⟩) (g := (mkF m 457 #[.val (.int x0), .val (.int x1), .val (.int x2), .val (.int x3), .val (.int x4), .val (.ref b1), .val (.ref b19), .val (.int v45), .val (.int v46), .val (.int v47), .val (.int p62), .val (.int v63), .val (.ref b64), .val (.int p118), .val (.int p124), .val (.int p130), .val (.int p136), .val (.int p142), .val (.int p148), .val (.int v149), .val (.int v150), .val (.int p161), .val (.int p156), .val (.int v162), .val (.int v163), .val (.int v164), .val (.ref b165), .val (.ref b249), .unset] [(.int (g44v 1)), (.int (1 : Int32)), (.ref b249)])) rfl rfl (hb hby at_457)
                                refine own_st st271 ?_
                                have f272 : own_AI Z h271 b249 k249 (3 : Int32) (own_updI g269v 1 (g44v 1)) := own_AI.set f262 W271
                                have f273 := f263.other W271 ne250
                                have f274 := f264.other W271 ne251
                                have f275 := f265.other W271 ne252
                                have f276 := f266.other W271 ne253
                                have N277 := Fr.snoc X271 N267 gx258
                                have Z278 : n0 ≤ h271.size := Nat.le_trans Z268 (Nat.le_of_eq W271.size.symm)
                                show own_Go _ _ _ _ T271 (mkF m 458 _ [])
                                generalize hgg279v : (own_updI g269v 1 (g44v 1)) = g279v at f272
                                refine own_st (fun t k => XS.aload X271.here hx rfl (hb hby at_458) rfl rfl k) ?_
                                show own_Go _ _ _ _ T271 (mkF m 460 _ [(.ref b249)])
                                refine own_st (fun t k => XS.iconst X271.here hx rfl (hb hby at_460) k) ?_
                                show own_Go _ _ _ _ T271 (mkF m 461 _ [(.int (2 : Int32)), (.ref b249)])
                                refine own_st (fun t k => XS.aload X271.here hx rfl (hb hby at_461) rfl rfl k) ?_
                                show own_Go _ _ _ _ T271 (mkF m 463 _ [(.ref b19), (.int (2 : Int32)), (.ref b249)])
                                refine own_st (fun t k => XS.iconst X271.here hx rfl (hb hby at_463) k) ?_
                                show own_Go _ _ _ _ T271 (mkF m 464 _ [(.int (2 : Int32)), (.ref b19), (.int (2 : Int32)), (.ref b249)])
                                obtain ⟨c280, Ar280, q280, S280, N280, H280⟩ := id f274
                                refine own_st (fun t k => X271.iaload hx (j := (2 : Int32)) (v := (.int (g44v 2))) (by rw [e271]; exact Ar280.1) (State.isArrayOf_alike hZ.alike Ar280.2.1) Ar280.2.2 (inb_of S280 ⟨by decide, by decide⟩) (H280 _ (own_lt (inb_of S280 ⟨by decide, by decide⟩))) (g := (mkF m 464 #[.val (.int x0), .val (.int x1), .val (.int x2), .val (.int x3), .val (.int x4), .val (.ref b1), .val (.ref b19), .val (.int v45), .val (.int v46), .val (.int v47), .val (.int p62), .val (.int v63), .val (.ref b64), .val (.int p118), .val (.int p124), .val (.int p130), .val (.int p136), .val (.int p142), .val (.int p148), .val (.int v149), .val (.int v150), .val (.int p161), .val (.int p156), .val (.int v162), .val (.int v163), .val (.int v164), .val (.ref b165), .val (.ref b249), .unset] [(.int (2 : Int32)), (.ref b19), (.int (2 : Int32)), (.ref b249)])) rfl rfl (hb hby at_464) _ k) ?_
                                show own_Go _ _ _ _ T271 (mkF m 465 _ [(.int (g44v 2)), (.int (2 : Int32)), (.ref b249)])
                                obtain ⟨c281, Ar281, q281, S281, N281, H281⟩ := id f272
                                obtain ⟨T281, h281, X281, e281, W281, st281⟩ := stI X271 hx hZ e271 Ar281 (j := (2 : Int32)) (inb_of S281 ⟨by decide, by decide⟩) (g := (mkF m 465 #[.val (.int x0), .val (.int x1), .val (.int x2), .val (.int x3), .val (.int x4), .val (.ref b1), .val (.ref b19), .val (.int v45), .val (.int v46), .val (.int v47), .val (.int p62), .val (.int v63), .val (.ref b64), .val (.int p118), .val (.int p124), .val (.int p130), .val (.int p136), .val (.int p142), .val (.int p148), .val (.int v149), .val (.int v150), .val (.int p161), .val (.int p156), .val (.int v162), .val (.int v163), .val (.int v164), .val (.ref b165), .val (.ref b249), .unset] [(.int (g44v 2)), (.int (2 : Int32)), (.ref b249)])) rfl rfl (hb hby at_465)
                                refine own_st st281 ?_
                                have f282 : own_AI Z h281 b249 k249 (3 : Int32) (own_updI g279v 2 (g44v 2)) := own_AI.set f272 W281
                                have f283 := f273.other W281 ne250
                                have f284 := f274.other W281 ne251
                                have f285 := f275.other W281 ne252
                                have f286 := f276.other W281 ne253
                                have N287 := Fr.snoc X281 N277 gx258
                                have Z288 : n0 ≤ h281.size := Nat.le_trans Z278 (Nat.le_of_eq W281.size.symm)
                                show own_Go _ _ _ _ T281 (mkF m 466 _ [])
                                generalize hgg289v : (own_updI g279v 2 (g44v 2)) = g289v at f282
                                refine own_st (fun t k => XS.aload X281.here hx rfl (hb hby at_466) rfl rfl k) ?_
                                show own_Go _ _ _ _ T281 (mkF m 468 _ [(.ref b249)])
                                refine own_st (fun t k => XS.aload X281.here hx rfl (hb hby at_468) rfl rfl k) ?_
                                show own_Go _ _ _ _ T281 (mkF m 470 _ [(.ref b64), (.ref b249)])
                                refine own_st (fun t k => XS.aload X281.here hx rfl (hb hby at_470) rfl rfl k) ?_
                                show own_Go _ _ _ _ T281 (mkF m 472 _ [(.ref b1), (.ref b64), (.ref b249)])
                                obtain ⟨_, _, ⟨T290, L290, k290, n290⟩, -, X290, ⟨Lc290, hQ290, l290, y290, z290⟩, st290⟩ := Jvm.LawKit.callS X281 hx (y := (⟨"com/example/parley/parley/game/Profiles", "advance", "([I[I[I)Z"⟩ : MethodName)) hown (mvT hZ (hw _ (List.mem_of_getElem? (i := 2) rfl))) (mvT hZ (hw _ (List.mem_of_getElem? (i := 3) rfl))) (mvT hZ (hw _ (List.mem_of_getElem? (i := 4) rfl))) (mvT hZ (hw _ (List.mem_of_getElem? (i := 5) rfl))) (by decide) (backOf (W := 0) (rm1 l Z a0 hw [] b249 b64 b1 k249 k64 k1 v45 g289v p111 g18v h281 n0 Z288 f282 f285 f283 ne252 ne250 HQ.2.2.2 (own_hl x0 x1 x2 x3 x4 g8v g13v g18v g30v g37v g44v v45 v46 v47 p62 v63 p83 p97 p111 p118 p124 p130 p136 p142 p148 v149 v150 v151 p156 p161 v162 v163 v164 g182v g191v g200v p215 p231 p247 g269v g279v g289v hgg8v hgg13v hgg18v hgg30v hgg37v hgg44v hv45 hv46 hv47 qp62 hv63 qp83 qp97 qp111 qp118 qp124 qp130 qp136 qp142 qp148 hv149 hv150 hv151 qp156 qp161 hv162 hv163 hv164 hgg182v hgg191v hgg200v qp215 qp231 qp247 hgg269v hgg279v hgg289v) gx258) hZ (hw _ (List.mem_of_getElem? (i := 5) rfl)) (hw _ (List.mem_of_getElem? (i := 4) rfl)) (by decide) (by decide)) (g := (mkF m 472 #[.val (.int x0), .val (.int x1), .val (.int x2), .val (.int x3), .val (.int x4), .val (.ref b1), .val (.ref b19), .val (.int v45), .val (.int v46), .val (.int v47), .val (.int p62), .val (.int v63), .val (.ref b64), .val (.int p118), .val (.int p124), .val (.int p130), .val (.int p136), .val (.int p142), .val (.int p148), .val (.int v149), .val (.int v150), .val (.int p161), .val (.int p156), .val (.int v162), .val (.int v163), .val (.int v164), .val (.ref b165), .val (.ref b249), .unset] [(.ref b1), (.ref b64), (.ref b249)])) rfl (by rw [hml]; rfl) (argsL := [(.ref b249), (.ref b64), (.ref b1)]) (rest := []) (lenOf own_pd___I_I_I_Z rfl) rfl (by show 2 * 0 + _ ≤ _; exact Nat.le_of_eq rfl) (hb hby at_472) (fun _ _ => ⟨rfl, e281, (by decide : 5 + 0 ≤ _), (by decide : 15 + 0 ≤ _)⟩)
                                dsimp only [Pt.U, Pt.locs, Pt.cells, Pt.slots] at X290 l290 y290 z290 st290 hQ290
                                subst l290 y290 z290
                                obtain ⟨r290_r, r290_g2, rfl, NQ290, K290, fq290_0, hq290_0⟩ := hQ290
                                have N291 := Fr.app N287 NQ290
                                refine own_st st290 ?_
                                have f292 := f283.keep K290 (ninS ne250 nin0)
                                have f293 := f284.keep K290 (ninS ne251 nin0)
                                have f294 := f285.keep K290 (ninS ne252 nin0)
                                have f295 := f286.keep K290 (ninS ne253 nin0)
                                have Z296 : n0 ≤ T290.heap.size := Nat.le_trans Z288 K290.1
                                show own_Go _ _ _ _ T290 (mkF m 475 _ [(.int r290_r)])
                                refine own_st (fun t k => XS.istore X290.here hx rfl (hb hby at_475) rfl (l' := #[.val (.int x0), .val (.int x1), .val (.int x2), .val (.int x3), .val (.int x4), .val (.ref b1), .val (.ref b19), .val (.int v45), .val (.int v46), .val (.int v47), .val (.int p62), .val (.int v63), .val (.ref b64), .val (.int p118), .val (.int p124), .val (.int p130), .val (.int p136), .val (.int p142), .val (.int p148), .val (.int v149), .val (.int v150), .val (.int p161), .val (.int p156), .val (.int v162), .val (.int v163), .val (.int v164), .val (.ref b165), .val (.ref b249), .val (.int r290_r)]) rfl k) ?_
                                show own_Go _ _ _ _ T290 (mkF m 477 #[.val (.int x0), .val (.int x1), .val (.int x2), .val (.int x3), .val (.int x4), .val (.ref b1), .val (.ref b19), .val (.int v45), .val (.int v46), .val (.int v47), .val (.int p62), .val (.int v63), .val (.ref b64), .val (.int p118), .val (.int p124), .val (.int p130), .val (.int p136), .val (.int p142), .val (.int p148), .val (.int v149), .val (.int v150), .val (.int p161), .val (.int p156), .val (.int v162), .val (.int v163), .val (.int v164), .val (.ref b165), .val (.ref b249), .val (.int r290_r)] [])
                                refine own_st (fun t k => XS.iload X290.here hx rfl (hb hby at_477) rfl k) ?_
                                show own_Go _ _ _ _ T290 (mkF m 479 _ [(.int r290_r)])
                                refine own_st (fun t k => XS.iload X290.here hx rfl (hb hby at_479) rfl k) ?_
                                show own_Go _ _ _ _ T290 (mkF m 481 _ [(.int p156), (.int r290_r)])
                                have J300 : ∀ (Tj300 : State) (Lj300 : List Loc) (p301 : Int32), Stand p l e room_1 s m #[(.int x0), (.int x1), (.int x2), (.int x3), (.int x4)] below meth c Tj300 Lj300 5 15 → Tj300.heap = T290.heap → Fr n0 Lj300 → p301 = (if p156 = (0 : Int32) then (1 : Int32) else (0 : Int32)) → own_Go p.tables e below Pq Tj300 (mkF m 489 #[.val (.int x0), .val (.int x1), .val (.int x2), .val (.int x3), .val (.int x4), .val (.ref b1), .val (.ref b19), .val (.int v45), .val (.int v46), .val (.int v47), .val (.int p62), .val (.int v63), .val (.ref b64), .val (.int p118), .val (.int p124), .val (.int p130), .val (.int p136), .val (.int p142), .val (.int p148), .val (.int v149), .val (.int v150), .val (.int p161), .val (.int p156), .val (.int v162), .val (.int v163), .val (.int v164), .val (.ref b165), .val (.ref b249), .val (.int r290_r)] [(.int p301), (.int r290_r)]) := by
                                  intro Tj300 Lj300 p301 Xj300 ej300 Nj300 qp301
                                  show own_Go _ _ _ _ Tj300 (mkF m 489 _ [(.int p301), (.int r290_r)])
                                  have J317 : ∀ (Tj317 : State) (Lj317 : List Loc) (p318 : Int32), Stand p l e room_1 s m #[(.int x0), (.int x1), (.int x2), (.int x3), (.int x4)] below meth c Tj317 Lj317 5 15 → Tj317.heap = T290.heap → Fr n0 Lj317 → p318 = (if r290_r = p301 then (if (r290_g2 0) = (p247 0) then (if (r290_g2 1) = (p247 1) then (if (r290_g2 2) = (p247 2) then (1 : Int32) else (0 : Int32)) else (0 : Int32)) else (0 : Int32)) else (0 : Int32)) → own_Go p.tables e below Pq Tj317 (mkF m 530 #[.val (.int x0), .val (.int x1), .val (.int x2), .val (.int x3), .val (.int x4), .val (.ref b1), .val (.ref b19), .val (.int v45), .val (.int v46), .val (.int v47), .val (.int p62), .val (.int v63), .val (.ref b64), .val (.int p118), .val (.int p124), .val (.int p130), .val (.int p136), .val (.int p142), .val (.int p148), .val (.int v149), .val (.int v150), .val (.int p161), .val (.int p156), .val (.int v162), .val (.int v163), .val (.int v164), .val (.ref b165), .val (.ref b249), .val (.int r290_r)] [(.int p318)]) := by
                                    intro Tj317 Lj317 p318 Xj317 ej317 Nj317 qp318
                                    show own_Go _ _ _ _ Tj317 (mkF m 530 _ [(.int p318)])
                                    subst hPq
                                    refine own_out Xj317 (v := some (.int (nar .boolean p318))) (fun h => by rw [Bd.returns] at h; cases h) Bd.notSynchronized (fun fs hr => retN Xj317 hx (t := .boolean) Bd.returns (by simp) (hb hby at_530) hr) (by decide) (by decide) ?_
                                    show Q0 Z x0 x1 x2 x3 x4 h0 n0 _ Tj317.heap _
                                    rw [ej317]
                                    exact ⟨congrArg (fun z => some (Value.int (nar .boolean z))) (own_law x0 x1 x2 x3 x4 g8v g13v g18v g30v g37v g44v v45 v46 v47 p62 v63 p83 p97 p111 p118 p124 p130 p136 p142 p148 v149 v150 v151 p156 p161 v162 v163 v164 g182v g191v g200v p215 p231 p247 g269v g279v g289v r290_r r290_g2 p301 p318 hgg8v hgg13v hgg18v hgg30v hgg37v hgg44v hv45 hv46 hv47 qp62 hv63 qp83 qp97 qp111 qp118 qp124 qp130 qp136 qp142 qp148 hv149 hv150 hv151 qp156 qp161 hv162 hv163 hv164 hgg182v hgg191v hgg200v qp215 qp231 qp247 hgg269v hgg279v hgg289v hq290_0 qp301 qp318), Nj317⟩
                                  by_cases c302 : r290_r = p301
                                  · skip
                                    refine own_st (fun t k => XS.icmpNo Xj300.here hx rfl (hb hby at_489) rfl (teq c302).2 k) ?_
                                    show own_Go _ _ _ _ Tj300 (mkF m 492 _ [])
                                    refine own_st (fun t k => XS.aload Xj300.here hx rfl (hb hby at_492) rfl rfl k) ?_
                                    show own_Go _ _ _ _ Tj300 (mkF m 494 _ [(.ref b249)])
                                    refine own_st (fun t k => XS.iconst Xj300.here hx rfl (hb hby at_494) k) ?_
                                    show own_Go _ _ _ _ Tj300 (mkF m 495 _ [(.int (0 : Int32)), (.ref b249)])
                                    obtain ⟨c303, Ar303, q303, S303, N303, H303⟩ := id fq290_0
                                    refine own_st (fun t k => Xj300.iaload hx (j := (0 : Int32)) (v := (.int (r290_g2 0))) (by rw [ej300]; exact Ar303.1) (State.isArrayOf_alike hZ.alike Ar303.2.1) Ar303.2.2 (inb_of S303 ⟨by decide, by decide⟩) (H303 _ (own_lt (inb_of S303 ⟨by decide, by decide⟩))) (g := (mkF m 495 #[.val (.int x0), .val (.int x1), .val (.int x2), .val (.int x3), .val (.int x4), .val (.ref b1), .val (.ref b19), .val (.int v45), .val (.int v46), .val (.int v47), .val (.int p62), .val (.int v63), .val (.ref b64), .val (.int p118), .val (.int p124), .val (.int p130), .val (.int p136), .val (.int p142), .val (.int p148), .val (.int v149), .val (.int v150), .val (.int p161), .val (.int p156), .val (.int v162), .val (.int v163), .val (.int v164), .val (.ref b165), .val (.ref b249), .val (.int r290_r)] [(.int (0 : Int32)), (.ref b249)])) rfl rfl (hb hby at_495) _ k) ?_
                                    show own_Go _ _ _ _ Tj300 (mkF m 496 _ [(.int (r290_g2 0))])
                                    refine own_st (fun t k => XS.aload Xj300.here hx rfl (hb hby at_496) rfl rfl k) ?_
                                    show own_Go _ _ _ _ Tj300 (mkF m 498 _ [(.ref b165), (.int (r290_g2 0))])
                                    refine own_st (fun t k => XS.iconst Xj300.here hx rfl (hb hby at_498) k) ?_
                                    show own_Go _ _ _ _ Tj300 (mkF m 499 _ [(.int (0 : Int32)), (.ref b165), (.int (r290_g2 0))])
                                    obtain ⟨c304, Ar304, q304, S304, N304, H304⟩ := id f295
                                    refine own_st (fun t k => Xj300.iaload hx (j := (0 : Int32)) (v := (.int (p247 0))) (by rw [ej300]; exact Ar304.1) (State.isArrayOf_alike hZ.alike Ar304.2.1) Ar304.2.2 (inb_of S304 ⟨by decide, by decide⟩) (H304 _ (own_lt (inb_of S304 ⟨by decide, by decide⟩))) (g := (mkF m 499 #[.val (.int x0), .val (.int x1), .val (.int x2), .val (.int x3), .val (.int x4), .val (.ref b1), .val (.ref b19), .val (.int v45), .val (.int v46), .val (.int v47), .val (.int p62), .val (.int v63), .val (.ref b64), .val (.int p118), .val (.int p124), .val (.int p130), .val (.int p136), .val (.int p142), .val (.int p148), .val (.int v149), .val (.int v150), .val (.int p161), .val (.int p156), .val (.int v162), .val (.int v163), .val (.int v164), .val (.ref b165), .val (.ref b249), .val (.int r290_r)] [(.int (0 : Int32)), (.ref b165), (.int (r290_g2 0))])) rfl rfl (hb hby at_499) _ k) ?_
                                    show own_Go _ _ _ _ Tj300 (mkF m 500 _ [(.int (p247 0)), (.int (r290_g2 0))])
                                    by_cases c305 : (r290_g2 0) = (p247 0)
                                    · skip
                                      refine own_st (fun t k => XS.icmpNo Xj300.here hx rfl (hb hby at_500) rfl (teq c305).2 k) ?_
                                      show own_Go _ _ _ _ Tj300 (mkF m 503 _ [])
                                      refine own_st (fun t k => XS.aload Xj300.here hx rfl (hb hby at_503) rfl rfl k) ?_
                                      show own_Go _ _ _ _ Tj300 (mkF m 505 _ [(.ref b249)])
                                      refine own_st (fun t k => XS.iconst Xj300.here hx rfl (hb hby at_505) k) ?_
                                      show own_Go _ _ _ _ Tj300 (mkF m 506 _ [(.int (1 : Int32)), (.ref b249)])
                                      obtain ⟨c306, Ar306, q306, S306, N306, H306⟩ := id fq290_0
                                      refine own_st (fun t k => Xj300.iaload hx (j := (1 : Int32)) (v := (.int (r290_g2 1))) (by rw [ej300]; exact Ar306.1) (State.isArrayOf_alike hZ.alike Ar306.2.1) Ar306.2.2 (inb_of S306 ⟨by decide, by decide⟩) (H306 _ (own_lt (inb_of S306 ⟨by decide, by decide⟩))) (g := (mkF m 506 #[.val (.int x0), .val (.int x1), .val (.int x2), .val (.int x3), .val (.int x4), .val (.ref b1), .val (.ref b19), .val (.int v45), .val (.int v46), .val (.int v47), .val (.int p62), .val (.int v63), .val (.ref b64), .val (.int p118), .val (.int p124), .val (.int p130), .val (.int p136), .val (.int p142), .val (.int p148), .val (.int v149), .val (.int v150), .val (.int p161), .val (.int p156), .val (.int v162), .val (.int v163), .val (.int v164), .val (.ref b165), .val (.ref b249), .val (.int r290_r)] [(.int (1 : Int32)), (.ref b249)])) rfl rfl (hb hby at_506) _ k) ?_
                                      show own_Go _ _ _ _ Tj300 (mkF m 507 _ [(.int (r290_g2 1))])
                                      refine own_st (fun t k => XS.aload Xj300.here hx rfl (hb hby at_507) rfl rfl k) ?_
                                      show own_Go _ _ _ _ Tj300 (mkF m 509 _ [(.ref b165), (.int (r290_g2 1))])
                                      refine own_st (fun t k => XS.iconst Xj300.here hx rfl (hb hby at_509) k) ?_
                                      show own_Go _ _ _ _ Tj300 (mkF m 510 _ [(.int (1 : Int32)), (.ref b165), (.int (r290_g2 1))])
                                      obtain ⟨c307, Ar307, q307, S307, N307, H307⟩ := id f295
                                      refine own_st (fun t k => Xj300.iaload hx (j := (1 : Int32)) (v := (.int (p247 1))) (by rw [ej300]; exact Ar307.1) (State.isArrayOf_alike hZ.alike Ar307.2.1) Ar307.2.2 (inb_of S307 ⟨by decide, by decide⟩) (H307 _ (own_lt (inb_of S307 ⟨by decide, by decide⟩))) (g := (mkF m 510 #[.val (.int x0), .val (.int x1), .val (.int x2), .val (.int x3), .val (.int x4), .val (.ref b1), .val (.ref b19), .val (.int v45), .val (.int v46), .val (.int v47), .val (.int p62), .val (.int v63), .val (.ref b64), .val (.int p118), .val (.int p124), .val (.int p130), .val (.int p136), .val (.int p142), .val (.int p148), .val (.int v149), .val (.int v150), .val (.int p161), .val (.int p156), .val (.int v162), .val (.int v163), .val (.int v164), .val (.ref b165), .val (.ref b249), .val (.int r290_r)] [(.int (1 : Int32)), (.ref b165), (.int (r290_g2 1))])) rfl rfl (hb hby at_510) _ k) ?_
                                      show own_Go _ _ _ _ Tj300 (mkF m 511 _ [(.int (p247 1)), (.int (r290_g2 1))])
                                      by_cases c308 : (r290_g2 1) = (p247 1)
                                      · skip
                                        refine own_st (fun t k => XS.icmpNo Xj300.here hx rfl (hb hby at_511) rfl (teq c308).2 k) ?_
                                        show own_Go _ _ _ _ Tj300 (mkF m 514 _ [])
                                        refine own_st (fun t k => XS.aload Xj300.here hx rfl (hb hby at_514) rfl rfl k) ?_
                                        show own_Go _ _ _ _ Tj300 (mkF m 516 _ [(.ref b249)])
                                        refine own_st (fun t k => XS.iconst Xj300.here hx rfl (hb hby at_516) k) ?_
                                        show own_Go _ _ _ _ Tj300 (mkF m 517 _ [(.int (2 : Int32)), (.ref b249)])
                                        obtain ⟨c309, Ar309, q309, S309, N309, H309⟩ := id fq290_0
                                        refine own_st (fun t k => Xj300.iaload hx (j := (2 : Int32)) (v := (.int (r290_g2 2))) (by rw [ej300]; exact Ar309.1) (State.isArrayOf_alike hZ.alike Ar309.2.1) Ar309.2.2 (inb_of S309 ⟨by decide, by decide⟩) (H309 _ (own_lt (inb_of S309 ⟨by decide, by decide⟩))) (g := (mkF m 517 #[.val (.int x0), .val (.int x1), .val (.int x2), .val (.int x3), .val (.int x4), .val (.ref b1), .val (.ref b19), .val (.int v45), .val (.int v46), .val (.int v47), .val (.int p62), .val (.int v63), .val (.ref b64), .val (.int p118), .val (.int p124), .val (.int p130), .val (.int p136), .val (.int p142), .val (.int p148), .val (.int v149), .val (.int v150), .val (.int p161), .val (.int p156), .val (.int v162), .val (.int v163), .val (.int v164), .val (.ref b165), .val (.ref b249), .val (.int r290_r)] [(.int (2 : Int32)), (.ref b249)])) rfl rfl (hb hby at_517) _ k) ?_
                                        show own_Go _ _ _ _ Tj300 (mkF m 518 _ [(.int (r290_g2 2))])
                                        refine own_st (fun t k => XS.aload Xj300.here hx rfl (hb hby at_518) rfl rfl k) ?_
                                        show own_Go _ _ _ _ Tj300 (mkF m 520 _ [(.ref b165), (.int (r290_g2 2))])
                                        refine own_st (fun t k => XS.iconst Xj300.here hx rfl (hb hby at_520) k) ?_
                                        show own_Go _ _ _ _ Tj300 (mkF m 521 _ [(.int (2 : Int32)), (.ref b165), (.int (r290_g2 2))])
                                        obtain ⟨c310, Ar310, q310, S310, N310, H310⟩ := id f295
                                        refine own_st (fun t k => Xj300.iaload hx (j := (2 : Int32)) (v := (.int (p247 2))) (by rw [ej300]; exact Ar310.1) (State.isArrayOf_alike hZ.alike Ar310.2.1) Ar310.2.2 (inb_of S310 ⟨by decide, by decide⟩) (H310 _ (own_lt (inb_of S310 ⟨by decide, by decide⟩))) (g := (mkF m 521 #[.val (.int x0), .val (.int x1), .val (.int x2), .val (.int x3), .val (.int x4), .val (.ref b1), .val (.ref b19), .val (.int v45), .val (.int v46), .val (.int v47), .val (.int p62), .val (.int v63), .val (.ref b64), .val (.int p118), .val (.int p124), .val (.int p130), .val (.int p136), .val (.int p142), .val (.int p148), .val (.int v149), .val (.int v150), .val (.int p161), .val (.int p156), .val (.int v162), .val (.int v163), .val (.int v164), .val (.ref b165), .val (.ref b249), .val (.int r290_r)] [(.int (2 : Int32)), (.ref b165), (.int (r290_g2 2))])) rfl rfl (hb hby at_521) _ k) ?_
                                        show own_Go _ _ _ _ Tj300 (mkF m 522 _ [(.int (p247 2)), (.int (r290_g2 2))])
                                        by_cases c311 : (r290_g2 2) = (p247 2)
                                        · skip
                                          refine own_st (fun t k => XS.icmpNo Xj300.here hx rfl (hb hby at_522) rfl (teq c311).2 k) ?_
                                          show own_Go _ _ _ _ Tj300 (mkF m 525 _ [])
                                          refine own_st (fun t k => XS.iconst Xj300.here hx rfl (hb hby at_525) k) ?_
                                          show own_Go _ _ _ _ Tj300 (mkF m 526 _ [(.int (1 : Int32))])
                                          refine own_st (fun t k => XS.goto Xj300.here hx rfl (pc0 := 526) (pc' := 530) rfl (hb hby at_526) (by decide) (by decide) k) ?_
                                          show own_Go _ _ _ _ Tj300 (mkF m 530 _ [(.int (1 : Int32))])
                                          exact J317 Tj300 _ _ Xj300 ej300 Nj300 (by simp only [if_pos c302, if_pos c305, if_pos c308, if_pos c311])
                                        · skip
                                          refine own_st (fun t k => XS.icmpYes Xj300.here hx rfl (pc0 := 522) (pc' := 529) rfl (hb hby at_522) rfl (feq c311).2 (by decide) (by decide) k) ?_
                                          show own_Go _ _ _ _ Tj300 (mkF m 529 _ [])
                                          refine own_st (fun t k => XS.iconst Xj300.here hx rfl (hb hby at_529) k) ?_
                                          show own_Go _ _ _ _ Tj300 (mkF m 530 _ [(.int (0 : Int32))])
                                          exact J317 Tj300 _ _ Xj300 ej300 Nj300 (by simp only [if_pos c302, if_pos c305, if_pos c308, if_neg c311])
                                      · skip
                                        refine own_st (fun t k => XS.icmpYes Xj300.here hx rfl (pc0 := 511) (pc' := 529) rfl (hb hby at_511) rfl (feq c308).2 (by decide) (by decide) k) ?_
                                        show own_Go _ _ _ _ Tj300 (mkF m 529 _ [])
                                        refine own_st (fun t k => XS.iconst Xj300.here hx rfl (hb hby at_529) k) ?_
                                        show own_Go _ _ _ _ Tj300 (mkF m 530 _ [(.int (0 : Int32))])
                                        exact J317 Tj300 _ _ Xj300 ej300 Nj300 (by simp only [if_pos c302, if_pos c305, if_neg c308])
                                    · skip
                                      refine own_st (fun t k => XS.icmpYes Xj300.here hx rfl (pc0 := 500) (pc' := 529) rfl (hb hby at_500) rfl (feq c305).2 (by decide) (by decide) k) ?_
                                      show own_Go _ _ _ _ Tj300 (mkF m 529 _ [])
                                      refine own_st (fun t k => XS.iconst Xj300.here hx rfl (hb hby at_529) k) ?_
                                      show own_Go _ _ _ _ Tj300 (mkF m 530 _ [(.int (0 : Int32))])
                                      exact J317 Tj300 _ _ Xj300 ej300 Nj300 (by simp only [if_pos c302, if_neg c305])
                                  · skip
                                    refine own_st (fun t k => XS.icmpYes Xj300.here hx rfl (pc0 := 489) (pc' := 529) rfl (hb hby at_489) rfl (feq c302).2 (by decide) (by decide) k) ?_
                                    show own_Go _ _ _ _ Tj300 (mkF m 529 _ [])
                                    refine own_st (fun t k => XS.iconst Xj300.here hx rfl (hb hby at_529) k) ?_
                                    show own_Go _ _ _ _ Tj300 (mkF m 530 _ [(.int (0 : Int32))])
                                    exact J317 Tj300 _ _ Xj300 ej300 Nj300 (by simp only [if_neg c302])
                                by_cases c297 : p156 = (0 : Int32)
                                · skip
                                  refine own_st (fun t k => XS.ifNo X290.here hx rfl (hb hby at_481) rfl ((if0 _ _).trans (teq c297).2) k) ?_
                                  show own_Go _ _ _ _ T290 (mkF m 484 _ [(.int r290_r)])
                                  refine own_st (fun t k => XS.iconst X290.here hx rfl (hb hby at_484) k) ?_
                                  show own_Go _ _ _ _ T290 (mkF m 485 _ [(.int (1 : Int32)), (.int r290_r)])
                                  refine own_st (fun t k => XS.goto X290.here hx rfl (pc0 := 485) (pc' := 489) rfl (hb hby at_485) (by decide) (by decide) k) ?_
                                  show own_Go _ _ _ _ T290 (mkF m 489 _ [(.int (1 : Int32)), (.int r290_r)])
                                  exact J300 T290 _ _ X290 rfl N291 (by simp only [if_pos c297])
                                · skip
                                  refine own_st (fun t k => XS.ifYes X290.here hx rfl (pc0 := 481) (pc' := 488) rfl (hb hby at_481) rfl ((if0 _ _).trans (feq c297).2) (by decide) (by decide) k) ?_
                                  show own_Go _ _ _ _ T290 (mkF m 488 _ [(.int r290_r)])
                                  refine own_st (fun t k => XS.iconst X290.here hx rfl (hb hby at_488) k) ?_
                                  show own_Go _ _ _ _ T290 (mkF m 489 _ [(.int (0 : Int32)), (.int r290_r)])
                                  exact J300 T290 _ _ X290 rfl N291 (by simp only [if_neg c297])
                              by_cases c233 : (2 : Int32) < v45
                              · skip
                                refine own_st (fun t k => XS.icmpNo Xj227.here hx rfl (hb hby at_427) rfl (tlt c233).2.2.2 k) ?_
                                show own_Go _ _ _ _ Tj227 (mkF m 430 _ [])
                                refine own_st (fun t k => XS.aload Xj227.here hx rfl (hb hby at_430) rfl rfl k) ?_
                                show own_Go _ _ _ _ Tj227 (mkF m 432 _ [(.ref b165)])
                                refine own_st (fun t k => XS.iload Xj227.here hx rfl (hb hby at_432) rfl k) ?_
                                show own_Go _ _ _ _ Tj227 (mkF m 434 _ [(.int v63), (.ref b165)])
                                refine own_st (fun t k => XS.iload Xj227.here hx rfl (hb hby at_434) rfl k) ?_
                                show own_Go _ _ _ _ Tj227 (mkF m 436 _ [(.int v164), (.int v63), (.ref b165)])
                                obtain ⟨c234, Ar234, q234, S234, N234, H234⟩ := id fj232
                                obtain ⟨T234, h234, X234, e234, W234, st234⟩ := stI Xj227 hx hZ ej227 Ar234 (j := v63) (inb_of S234 HQ.2.2.1) (g := (mkF m 436 #[.val (.int x0), .val (.int x1), .val (.int x2), .val (.int x3), .val (.int x4), .val (.ref b1), .val (.ref b19), .val (.int v45), .val (.int v46), .val (.int v47), .val (.int p62), .val (.int v63), .val (.ref b64), .val (.int p118), .val (.int p124), .val (.int p130), .val (.int p136), .val (.int p142), .val (.int p148), .val (.int v149), .val (.int v150), .val (.int p161), .val (.int p156), .val (.int v162), .val (.int v163), .val (.int v164), .val (.ref b165), .unset, .unset] [(.int v164), (.int v63), (.ref b165)])) rfl rfl (hb hby at_436)
                                refine own_st st234 ?_
                                have f235 : own_AI Z h234 b165 k165 (3 : Int32) (own_updI p231 v63.toNatClampNeg v164) := own_AI.set fj232 W234
                                have f236 := fj228.other W234 ne166
                                have f237 := fj229.other W234 ne167
                                have f238 := fj230.other W234 ne168
                                have N239 := Fr.snoc X234 Nj227 gx172
                                have Z240 : n0 ≤ h234.size := Nat.le_trans Zj227 (Nat.le_of_eq W234.size.symm)
                                show own_Go _ _ _ _ T234 (mkF m 437 _ [])
                                exact J243 T234 _ h234 _ (X234.mono (by decide) (by decide)) e234 N239 Z240 f236 f237 f238 f235 (by simp only [if_pos c233])
                              · skip
                                refine own_st (fun t k => XS.icmpYes Xj227.here hx rfl (pc0 := 427) (pc' := 437) rfl (hb hby at_427) rfl (flt c233).2.2.2 (by decide) (by decide) k) ?_
                                show own_Go _ _ _ _ Tj227 (mkF m 437 _ [])
                                exact J243 Tj227 _ hj227 _ (Xj227.mono (by decide) (by decide)) ej227 Nj227 Zj227 fj228 fj229 fj230 fj232 (by simp only [if_neg c233])
                            by_cases c217 : (1 : Int32) < v45
                            · skip
                              refine own_st (fun t k => XS.icmpNo Xj211.here hx rfl (hb hby at_414) rfl (tlt c217).2.2.2 k) ?_
                              show own_Go _ _ _ _ Tj211 (mkF m 417 _ [])
                              refine own_st (fun t k => XS.aload Xj211.here hx rfl (hb hby at_417) rfl rfl k) ?_
                              show own_Go _ _ _ _ Tj211 (mkF m 419 _ [(.ref b165)])
                              refine own_st (fun t k => XS.iload Xj211.here hx rfl (hb hby at_419) rfl k) ?_
                              show own_Go _ _ _ _ Tj211 (mkF m 421 _ [(.int p62), (.ref b165)])
                              refine own_st (fun t k => XS.iload Xj211.here hx rfl (hb hby at_421) rfl k) ?_
                              show own_Go _ _ _ _ Tj211 (mkF m 423 _ [(.int v163), (.int p62), (.ref b165)])
                              obtain ⟨c218, Ar218, q218, S218, N218, H218⟩ := id fj216
                              obtain ⟨T218, h218, X218, e218, W218, st218⟩ := stI Xj211 hx hZ ej211 Ar218 (j := p62) (inb_of S218 HQ.2.1) (g := (mkF m 423 #[.val (.int x0), .val (.int x1), .val (.int x2), .val (.int x3), .val (.int x4), .val (.ref b1), .val (.ref b19), .val (.int v45), .val (.int v46), .val (.int v47), .val (.int p62), .val (.int v63), .val (.ref b64), .val (.int p118), .val (.int p124), .val (.int p130), .val (.int p136), .val (.int p142), .val (.int p148), .val (.int v149), .val (.int v150), .val (.int p161), .val (.int p156), .val (.int v162), .val (.int v163), .val (.int v164), .val (.ref b165), .unset, .unset] [(.int v163), (.int p62), (.ref b165)])) rfl rfl (hb hby at_423)
                              refine own_st st218 ?_
                              have f219 : own_AI Z h218 b165 k165 (3 : Int32) (own_updI p215 p62.toNatClampNeg v163) := own_AI.set fj216 W218
                              have f220 := fj212.other W218 ne166
                              have f221 := fj213.other W218 ne167
                              have f222 := fj214.other W218 ne168
                              have N223 := Fr.snoc X218 Nj211 gx172
                              have Z224 : n0 ≤ h218.size := Nat.le_trans Zj211 (Nat.le_of_eq W218.size.symm)
                              show own_Go _ _ _ _ T218 (mkF m 424 _ [])
                              exact J227 T218 _ h218 _ X218 e218 N223 Z224 f220 f221 f222 f219 (by simp only [if_pos c217])
                            · skip
                              refine own_st (fun t k => XS.icmpYes Xj211.here hx rfl (pc0 := 414) (pc' := 424) rfl (hb hby at_414) rfl (flt c217).2.2.2 (by decide) (by decide) k) ?_
                              show own_Go _ _ _ _ Tj211 (mkF m 424 _ [])
                              exact J227 Tj211 _ hj211 _ Xj211 ej211 Nj211 Zj211 fj212 fj213 fj214 fj216 (by simp only [if_neg c217])
                          by_cases c201 : (0 : Int32) < v45
                          · skip
                            refine own_st (fun t k => XS.ifNo X193.here hx rfl (hb hby at_401) rfl ((if0 _ _).trans (tlt c201).2.2.2) k) ?_
                            show own_Go _ _ _ _ T193 (mkF m 404 _ [])
                            refine own_st (fun t k => XS.aload X193.here hx rfl (hb hby at_404) rfl rfl k) ?_
                            show own_Go _ _ _ _ T193 (mkF m 406 _ [(.ref b165)])
                            refine own_st (fun t k => XS.iload X193.here hx rfl (hb hby at_406) rfl k) ?_
                            show own_Go _ _ _ _ T193 (mkF m 408 _ [(.int v47), (.ref b165)])
                            refine own_st (fun t k => XS.iload X193.here hx rfl (hb hby at_408) rfl k) ?_
                            show own_Go _ _ _ _ T193 (mkF m 410 _ [(.int v162), (.int v47), (.ref b165)])
                            obtain ⟨c202, Ar202, q202, S202, N202, H202⟩ := id f194
                            obtain ⟨T202, h202, X202, e202, W202, st202⟩ := stI X193 hx hZ e193 Ar202 (j := v47) (inb_of S202 HQ.1) (g := (mkF m 410 #[.val (.int x0), .val (.int x1), .val (.int x2), .val (.int x3), .val (.int x4), .val (.ref b1), .val (.ref b19), .val (.int v45), .val (.int v46), .val (.int v47), .val (.int p62), .val (.int v63), .val (.ref b64), .val (.int p118), .val (.int p124), .val (.int p130), .val (.int p136), .val (.int p142), .val (.int p148), .val (.int v149), .val (.int v150), .val (.int p161), .val (.int p156), .val (.int v162), .val (.int v163), .val (.int v164), .val (.ref b165), .unset, .unset] [(.int v162), (.int v47), (.ref b165)])) rfl rfl (hb hby at_410)
                            refine own_st st202 ?_
                            have f203 : own_AI Z h202 b165 k165 (3 : Int32) (own_updI g200v v47.toNatClampNeg v162) := own_AI.set f194 W202
                            have f204 := f195.other W202 ne166
                            have f205 := f196.other W202 ne167
                            have f206 := f197.other W202 ne168
                            have N207 := Fr.snoc X202 N198 gx172
                            have Z208 : n0 ≤ h202.size := Nat.le_trans Z199 (Nat.le_of_eq W202.size.symm)
                            show own_Go _ _ _ _ T202 (mkF m 411 _ [])
                            exact J211 T202 _ h202 _ X202 e202 N207 Z208 f204 f205 f206 f203 (by simp only [if_pos c201])
                          · skip
                            refine own_st (fun t k => XS.ifYes X193.here hx rfl (pc0 := 401) (pc' := 411) rfl (hb hby at_401) rfl ((if0 _ _).trans (flt c201).2.2.2) (by decide) (by decide) k) ?_
                            show own_Go _ _ _ _ T193 (mkF m 411 _ [])
                            exact J211 T193 _ h193 _ X193 e193 N198 Z199 f195 f196 f197 f194 (by simp only [if_neg c201])
                        by_cases c157 : p156 = (0 : Int32)
                        · skip
                          refine own_st (fun t k => XS.ifYes Xj155.here hx rfl (pc0 := 334) (pc' := 340) rfl (hb hby at_334) rfl ((if0 _ _).trans (teq c157).1) (by decide) (by decide) k) ?_
                          show own_Go _ _ _ _ Tj155 (mkF m 340 _ [])
                          exact J160 Tj155 _ _ (Xj155.mono (by decide) (by decide)) ej155 Nj155 (by simp only [if_pos c157])
                        · skip
                          refine own_st (fun t k => XS.ifNo Xj155.here hx rfl (hb hby at_334) rfl ((if0 _ _).trans (feq c157).1) k) ?_
                          show own_Go _ _ _ _ Tj155 (mkF m 337 _ [])
                          refine own_st (fun t k => XS.iconst Xj155.here hx rfl (hb hby at_337) k) ?_
                          show own_Go _ _ _ _ Tj155 (mkF m 338 _ [(.int (0 : Int32))])
                          refine own_st (fun t k => XS.istore Xj155.here hx rfl (hb hby at_338) rfl (l' := #[.val (.int x0), .val (.int x1), .val (.int x2), .val (.int x3), .val (.int x4), .val (.ref b1), .val (.ref b19), .val (.int v45), .val (.int v46), .val (.int v47), .val (.int p62), .val (.int v63), .val (.ref b64), .val (.int p118), .val (.int p124), .val (.int p130), .val (.int p136), .val (.int p142), .val (.int p148), .val (.int v149), .val (.int v150), .val (.int (0 : Int32)), .val (.int p156), .unset, .unset, .unset, .unset, .unset, .unset]) rfl k) ?_
                          show own_Go _ _ _ _ Tj155 (mkF m 340 #[.val (.int x0), .val (.int x1), .val (.int x2), .val (.int x3), .val (.int x4), .val (.ref b1), .val (.ref b19), .val (.int v45), .val (.int v46), .val (.int v47), .val (.int p62), .val (.int v63), .val (.ref b64), .val (.int p118), .val (.int p124), .val (.int p130), .val (.int p136), .val (.int p142), .val (.int p148), .val (.int v149), .val (.int v150), .val (.int (0 : Int32)), .val (.int p156), .unset, .unset, .unset, .unset, .unset, .unset] [])
                          exact J160 Tj155 _ _ (Xj155.mono (by decide) (by decide)) ej155 Nj155 (by simp only [if_neg c157])
                      by_cases c152 : v151 = v150
                      · skip
                        refine own_st (fun t k => XS.icmpNo Xj147.here hx rfl (hb hby at_322) rfl (teq c152).2 k) ?_
                        show own_Go _ _ _ _ Tj147 (mkF m 325 _ [])
                        refine own_st (fun t k => XS.iconst Xj147.here hx rfl (hb hby at_325) k) ?_
                        show own_Go _ _ _ _ Tj147 (mkF m 326 _ [(.int (1 : Int32))])
                        refine own_st (fun t k => XS.goto Xj147.here hx rfl (pc0 := 326) (pc' := 330) rfl (hb hby at_326) (by decide) (by decide) k) ?_
                        show own_Go _ _ _ _ Tj147 (mkF m 330 _ [(.int (1 : Int32))])
                        exact J155 Tj147 _ _ Xj147 ej147 Nj147 (by simp only [if_pos c152])
                      · skip
                        refine own_st (fun t k => XS.icmpYes Xj147.here hx rfl (pc0 := 322) (pc' := 329) rfl (hb hby at_322) rfl (feq c152).2 (by decide) (by decide) k) ?_
                        show own_Go _ _ _ _ Tj147 (mkF m 329 _ [])
                        refine own_st (fun t k => XS.iconst Xj147.here hx rfl (hb hby at_329) k) ?_
                        show own_Go _ _ _ _ Tj147 (mkF m 330 _ [(.int (0 : Int32))])
                        exact J155 Tj147 _ _ Xj147 ej147 Nj147 (by simp only [if_neg c152])
                    by_cases c143 : (2 : Int32) < v45
                    · skip
                      refine own_st (fun t k => XS.icmpNo Xj141.here hx rfl (hb hby at_272) rfl (tlt c143).2.2.2 k) ?_
                      show own_Go _ _ _ _ Tj141 (mkF m 275 _ [])
                      refine own_st (fun t k => XS.aload Xj141.here hx rfl (hb hby at_275) rfl rfl k) ?_
                      show own_Go _ _ _ _ Tj141 (mkF m 277 _ [(.ref b19)])
                      refine own_st (fun t k => XS.iload Xj141.here hx rfl (hb hby at_277) rfl k) ?_
                      show own_Go _ _ _ _ Tj141 (mkF m 279 _ [(.int v63), (.ref b19)])
                      obtain ⟨c144, Ar144, q144, S144, N144, H144⟩ := id fj110
                      refine own_st (fun t k => Xj141.iaload hx (j := v63) (v := (.int (g44v v63.toNatClampNeg))) (by rw [ej141]; exact Ar144.1) (State.isArrayOf_alike hZ.alike Ar144.2.1) Ar144.2.2 (inb_of S144 HQ.2.2.1) (H144 _ (own_lt (inb_of S144 HQ.2.2.1))) (g := (mkF m 279 #[.val (.int x0), .val (.int x1), .val (.int x2), .val (.int x3), .val (.int x4), .val (.ref b1), .val (.ref b19), .val (.int v45), .val (.int v46), .val (.int v47), .val (.int p62), .val (.int v63), .val (.ref b64), .val (.int p118), .val (.int p124), .val (.int p130), .val (.int p136), .val (.int p142), .unset, .unset, .unset, .unset, .unset, .unset, .unset, .unset, .unset, .unset, .unset] [(.int v63), (.ref b19)])) rfl rfl (hb hby at_279) _ k) ?_
                      show own_Go _ _ _ _ Tj141 (mkF m 280 _ [(.int (g44v v63.toNatClampNeg))])
                      refine own_st (fun t k => XS.goto Xj141.here hx rfl (pc0 := 280) (pc' := 284) rfl (hb hby at_280) (by decide) (by decide) k) ?_
                      show own_Go _ _ _ _ Tj141 (mkF m 284 _ [(.int (g44v v63.toNatClampNeg))])
                      exact J147 Tj141 _ _ Xj141 ej141 Nj141 (by simp only [if_pos c143])
                    · skip
                      refine own_st (fun t k => XS.icmpYes Xj141.here hx rfl (pc0 := 272) (pc' := 283) rfl (hb hby at_272) rfl (flt c143).2.2.2 (by decide) (by decide) k) ?_
                      show own_Go _ _ _ _ Tj141 (mkF m 283 _ [])
                      refine own_st (fun t k => XS.iconst Xj141.here hx rfl (hb hby at_283) k) ?_
                      show own_Go _ _ _ _ Tj141 (mkF m 284 _ [(.int (0 : Int32))])
                      exact J147 Tj141 _ _ Xj141 ej141 Nj141 (by simp only [if_neg c143])
                  by_cases c137 : (1 : Int32) < v45
                  · skip
                    refine own_st (fun t k => XS.icmpNo Xj135.here hx rfl (hb hby at_255) rfl (tlt c137).2.2.2 k) ?_
                    show own_Go _ _ _ _ Tj135 (mkF m 258 _ [])
                    refine own_st (fun t k => XS.aload Xj135.here hx rfl (hb hby at_258) rfl rfl k) ?_
                    show own_Go _ _ _ _ Tj135 (mkF m 260 _ [(.ref b19)])
                    refine own_st (fun t k => XS.iload Xj135.here hx rfl (hb hby at_260) rfl k) ?_
                    show own_Go _ _ _ _ Tj135 (mkF m 262 _ [(.int p62), (.ref b19)])
                    obtain ⟨c138, Ar138, q138, S138, N138, H138⟩ := id fj110
                    refine own_st (fun t k => Xj135.iaload hx (j := p62) (v := (.int (g44v p62.toNatClampNeg))) (by rw [ej135]; exact Ar138.1) (State.isArrayOf_alike hZ.alike Ar138.2.1) Ar138.2.2 (inb_of S138 HQ.2.1) (H138 _ (own_lt (inb_of S138 HQ.2.1))) (g := (mkF m 262 #[.val (.int x0), .val (.int x1), .val (.int x2), .val (.int x3), .val (.int x4), .val (.ref b1), .val (.ref b19), .val (.int v45), .val (.int v46), .val (.int v47), .val (.int p62), .val (.int v63), .val (.ref b64), .val (.int p118), .val (.int p124), .val (.int p130), .val (.int p136), .unset, .unset, .unset, .unset, .unset, .unset, .unset, .unset, .unset, .unset, .unset, .unset] [(.int p62), (.ref b19)])) rfl rfl (hb hby at_262) _ k) ?_
                    show own_Go _ _ _ _ Tj135 (mkF m 263 _ [(.int (g44v p62.toNatClampNeg))])
                    refine own_st (fun t k => XS.goto Xj135.here hx rfl (pc0 := 263) (pc' := 267) rfl (hb hby at_263) (by decide) (by decide) k) ?_
                    show own_Go _ _ _ _ Tj135 (mkF m 267 _ [(.int (g44v p62.toNatClampNeg))])
                    exact J141 Tj135 _ _ Xj135 ej135 Nj135 (by simp only [if_pos c137])
                  · skip
                    refine own_st (fun t k => XS.icmpYes Xj135.here hx rfl (pc0 := 255) (pc' := 266) rfl (hb hby at_255) rfl (flt c137).2.2.2 (by decide) (by decide) k) ?_
                    show own_Go _ _ _ _ Tj135 (mkF m 266 _ [])
                    refine own_st (fun t k => XS.iconst Xj135.here hx rfl (hb hby at_266) k) ?_
                    show own_Go _ _ _ _ Tj135 (mkF m 267 _ [(.int (0 : Int32))])
                    exact J141 Tj135 _ _ Xj135 ej135 Nj135 (by simp only [if_neg c137])
                by_cases c131 : (0 : Int32) < v45
                · skip
                  refine own_st (fun t k => XS.ifNo Xj129.here hx rfl (hb hby at_238) rfl ((if0 _ _).trans (tlt c131).2.2.2) k) ?_
                  show own_Go _ _ _ _ Tj129 (mkF m 241 _ [])
                  refine own_st (fun t k => XS.aload Xj129.here hx rfl (hb hby at_241) rfl rfl k) ?_
                  show own_Go _ _ _ _ Tj129 (mkF m 243 _ [(.ref b19)])
                  refine own_st (fun t k => XS.iload Xj129.here hx rfl (hb hby at_243) rfl k) ?_
                  show own_Go _ _ _ _ Tj129 (mkF m 245 _ [(.int v47), (.ref b19)])
                  obtain ⟨c132, Ar132, q132, S132, N132, H132⟩ := id fj110
                  refine own_st (fun t k => Xj129.iaload hx (j := v47) (v := (.int (g44v v47.toNatClampNeg))) (by rw [ej129]; exact Ar132.1) (State.isArrayOf_alike hZ.alike Ar132.2.1) Ar132.2.2 (inb_of S132 HQ.1) (H132 _ (own_lt (inb_of S132 HQ.1))) (g := (mkF m 245 #[.val (.int x0), .val (.int x1), .val (.int x2), .val (.int x3), .val (.int x4), .val (.ref b1), .val (.ref b19), .val (.int v45), .val (.int v46), .val (.int v47), .val (.int p62), .val (.int v63), .val (.ref b64), .val (.int p118), .val (.int p124), .val (.int p130), .unset, .unset, .unset, .unset, .unset, .unset, .unset, .unset, .unset, .unset, .unset, .unset, .unset] [(.int v47), (.ref b19)])) rfl rfl (hb hby at_245) _ k) ?_
                  show own_Go _ _ _ _ Tj129 (mkF m 246 _ [(.int (g44v v47.toNatClampNeg))])
                  refine own_st (fun t k => XS.goto Xj129.here hx rfl (pc0 := 246) (pc' := 250) rfl (hb hby at_246) (by decide) (by decide) k) ?_
                  show own_Go _ _ _ _ Tj129 (mkF m 250 _ [(.int (g44v v47.toNatClampNeg))])
                  exact J135 Tj129 _ _ Xj129 ej129 Nj129 (by simp only [if_pos c131])
                · skip
                  refine own_st (fun t k => XS.ifYes Xj129.here hx rfl (pc0 := 238) (pc' := 249) rfl (hb hby at_238) rfl ((if0 _ _).trans (flt c131).2.2.2) (by decide) (by decide) k) ?_
                  show own_Go _ _ _ _ Tj129 (mkF m 249 _ [])
                  refine own_st (fun t k => XS.iconst Xj129.here hx rfl (hb hby at_249) k) ?_
                  show own_Go _ _ _ _ Tj129 (mkF m 250 _ [(.int (0 : Int32))])
                  exact J135 Tj129 _ _ Xj129 ej129 Nj129 (by simp only [if_neg c131])
              by_cases c125 : (2 : Int32) < v45
              · skip
                refine own_st (fun t k => XS.icmpNo Xj123.here hx rfl (hb hby at_222) rfl (tlt c125).2.2.2 k) ?_
                show own_Go _ _ _ _ Tj123 (mkF m 225 _ [])
                refine own_st (fun t k => XS.aload Xj123.here hx rfl (hb hby at_225) rfl rfl k) ?_
                show own_Go _ _ _ _ Tj123 (mkF m 227 _ [(.ref b1)])
                refine own_st (fun t k => XS.iload Xj123.here hx rfl (hb hby at_227) rfl k) ?_
                show own_Go _ _ _ _ Tj123 (mkF m 229 _ [(.int v63), (.ref b1)])
                obtain ⟨c126, Ar126, q126, S126, N126, H126⟩ := id fj109
                refine own_st (fun t k => Xj123.iaload hx (j := v63) (v := (.int (g18v v63.toNatClampNeg))) (by rw [ej123]; exact Ar126.1) (State.isArrayOf_alike hZ.alike Ar126.2.1) Ar126.2.2 (inb_of S126 HQ.2.2.1) (H126 _ (own_lt (inb_of S126 HQ.2.2.1))) (g := (mkF m 229 #[.val (.int x0), .val (.int x1), .val (.int x2), .val (.int x3), .val (.int x4), .val (.ref b1), .val (.ref b19), .val (.int v45), .val (.int v46), .val (.int v47), .val (.int p62), .val (.int v63), .val (.ref b64), .val (.int p118), .val (.int p124), .unset, .unset, .unset, .unset, .unset, .unset, .unset, .unset, .unset, .unset, .unset, .unset, .unset, .unset] [(.int v63), (.ref b1)])) rfl rfl (hb hby at_229) _ k) ?_
                show own_Go _ _ _ _ Tj123 (mkF m 230 _ [(.int (g18v v63.toNatClampNeg))])
                refine own_st (fun t k => XS.goto Xj123.here hx rfl (pc0 := 230) (pc' := 234) rfl (hb hby at_230) (by decide) (by decide) k) ?_
                show own_Go _ _ _ _ Tj123 (mkF m 234 _ [(.int (g18v v63.toNatClampNeg))])
                exact J129 Tj123 _ _ Xj123 ej123 Nj123 (by simp only [if_pos c125])
              · skip
                refine own_st (fun t k => XS.icmpYes Xj123.here hx rfl (pc0 := 222) (pc' := 233) rfl (hb hby at_222) rfl (flt c125).2.2.2 (by decide) (by decide) k) ?_
                show own_Go _ _ _ _ Tj123 (mkF m 233 _ [])
                refine own_st (fun t k => XS.iconst Xj123.here hx rfl (hb hby at_233) k) ?_
                show own_Go _ _ _ _ Tj123 (mkF m 234 _ [(.int (1 : Int32))])
                exact J129 Tj123 _ _ Xj123 ej123 Nj123 (by simp only [if_neg c125])
            by_cases c119 : (1 : Int32) < v45
            · skip
              refine own_st (fun t k => XS.icmpNo Xj117.here hx rfl (hb hby at_205) rfl (tlt c119).2.2.2 k) ?_
              show own_Go _ _ _ _ Tj117 (mkF m 208 _ [])
              refine own_st (fun t k => XS.aload Xj117.here hx rfl (hb hby at_208) rfl rfl k) ?_
              show own_Go _ _ _ _ Tj117 (mkF m 210 _ [(.ref b1)])
              refine own_st (fun t k => XS.iload Xj117.here hx rfl (hb hby at_210) rfl k) ?_
              show own_Go _ _ _ _ Tj117 (mkF m 212 _ [(.int p62), (.ref b1)])
              obtain ⟨c120, Ar120, q120, S120, N120, H120⟩ := id fj109
              refine own_st (fun t k => Xj117.iaload hx (j := p62) (v := (.int (g18v p62.toNatClampNeg))) (by rw [ej117]; exact Ar120.1) (State.isArrayOf_alike hZ.alike Ar120.2.1) Ar120.2.2 (inb_of S120 HQ.2.1) (H120 _ (own_lt (inb_of S120 HQ.2.1))) (g := (mkF m 212 #[.val (.int x0), .val (.int x1), .val (.int x2), .val (.int x3), .val (.int x4), .val (.ref b1), .val (.ref b19), .val (.int v45), .val (.int v46), .val (.int v47), .val (.int p62), .val (.int v63), .val (.ref b64), .val (.int p118), .unset, .unset, .unset, .unset, .unset, .unset, .unset, .unset, .unset, .unset, .unset, .unset, .unset, .unset, .unset] [(.int p62), (.ref b1)])) rfl rfl (hb hby at_212) _ k) ?_
              show own_Go _ _ _ _ Tj117 (mkF m 213 _ [(.int (g18v p62.toNatClampNeg))])
              refine own_st (fun t k => XS.goto Xj117.here hx rfl (pc0 := 213) (pc' := 217) rfl (hb hby at_213) (by decide) (by decide) k) ?_
              show own_Go _ _ _ _ Tj117 (mkF m 217 _ [(.int (g18v p62.toNatClampNeg))])
              exact J123 Tj117 _ _ Xj117 ej117 Nj117 (by simp only [if_pos c119])
            · skip
              refine own_st (fun t k => XS.icmpYes Xj117.here hx rfl (pc0 := 205) (pc' := 216) rfl (hb hby at_205) rfl (flt c119).2.2.2 (by decide) (by decide) k) ?_
              show own_Go _ _ _ _ Tj117 (mkF m 216 _ [])
              refine own_st (fun t k => XS.iconst Xj117.here hx rfl (hb hby at_216) k) ?_
              show own_Go _ _ _ _ Tj117 (mkF m 217 _ [(.int (1 : Int32))])
              exact J123 Tj117 _ _ Xj117 ej117 Nj117 (by simp only [if_neg c119])
          by_cases c113 : (0 : Int32) < v45
          · skip
            refine own_st (fun t k => XS.ifNo Xj108.here hx rfl (hb hby at_188) rfl ((if0 _ _).trans (tlt c113).2.2.2) k) ?_
            show own_Go _ _ _ _ Tj108 (mkF m 191 _ [])
            refine own_st (fun t k => XS.aload Xj108.here hx rfl (hb hby at_191) rfl rfl k) ?_
            show own_Go _ _ _ _ Tj108 (mkF m 193 _ [(.ref b1)])
            refine own_st (fun t k => XS.iload Xj108.here hx rfl (hb hby at_193) rfl k) ?_
            show own_Go _ _ _ _ Tj108 (mkF m 195 _ [(.int v47), (.ref b1)])
            obtain ⟨c114, Ar114, q114, S114, N114, H114⟩ := id fj109
            refine own_st (fun t k => Xj108.iaload hx (j := v47) (v := (.int (g18v v47.toNatClampNeg))) (by rw [ej108]; exact Ar114.1) (State.isArrayOf_alike hZ.alike Ar114.2.1) Ar114.2.2 (inb_of S114 HQ.1) (H114 _ (own_lt (inb_of S114 HQ.1))) (g := (mkF m 195 #[.val (.int x0), .val (.int x1), .val (.int x2), .val (.int x3), .val (.int x4), .val (.ref b1), .val (.ref b19), .val (.int v45), .val (.int v46), .val (.int v47), .val (.int p62), .val (.int v63), .val (.ref b64), .unset, .unset, .unset, .unset, .unset, .unset, .unset, .unset, .unset, .unset, .unset, .unset, .unset, .unset, .unset, .unset] [(.int v47), (.ref b1)])) rfl rfl (hb hby at_195) _ k) ?_
            show own_Go _ _ _ _ Tj108 (mkF m 196 _ [(.int (g18v v47.toNatClampNeg))])
            refine own_st (fun t k => XS.goto Xj108.here hx rfl (pc0 := 196) (pc' := 200) rfl (hb hby at_196) (by decide) (by decide) k) ?_
            show own_Go _ _ _ _ Tj108 (mkF m 200 _ [(.int (g18v v47.toNatClampNeg))])
            exact J117 Tj108 _ _ Xj108 ej108 Nj108 (by simp only [if_pos c113])
          · skip
            refine own_st (fun t k => XS.ifYes Xj108.here hx rfl (pc0 := 188) (pc' := 199) rfl (hb hby at_188) rfl ((if0 _ _).trans (flt c113).2.2.2) (by decide) (by decide) k) ?_
            show own_Go _ _ _ _ Tj108 (mkF m 199 _ [])
            refine own_st (fun t k => XS.iconst Xj108.here hx rfl (hb hby at_199) k) ?_
            show own_Go _ _ _ _ Tj108 (mkF m 200 _ [(.int (1 : Int32))])
            exact J117 Tj108 _ _ Xj108 ej108 Nj108 (by simp only [if_neg c113])
        by_cases c99 : (2 : Int32) < v45
        · skip
          refine own_st (fun t k => XS.icmpNo Xj94.here hx rfl (hb hby at_177) rfl (tlt c99).2.2.2 k) ?_
          show own_Go _ _ _ _ Tj94 (mkF m 180 _ [])
          refine own_st (fun t k => XS.aload Xj94.here hx rfl (hb hby at_180) rfl rfl k) ?_
          show own_Go _ _ _ _ Tj94 (mkF m 182 _ [(.ref b64)])
          refine own_st (fun t k => XS.iconst Xj94.here hx rfl (hb hby at_182) k) ?_
          show own_Go _ _ _ _ Tj94 (mkF m 183 _ [(.int (2 : Int32)), (.ref b64)])
          refine own_st (fun t k => XS.iload Xj94.here hx rfl (hb hby at_183) rfl k) ?_
          show own_Go _ _ _ _ Tj94 (mkF m 185 _ [(.int v63), (.int (2 : Int32)), (.ref b64)])
          obtain ⟨c100, Ar100, q100, S100, N100, H100⟩ := id fj98
          obtain ⟨T100, h100, X100, e100, W100, st100⟩ := stI Xj94 hx hZ ej94 Ar100 (j := (2 : Int32)) (inb_of S100 ⟨by decide, c99⟩) (g := (mkF m 185 #[.val (.int x0), .val (.int x1), .val (.int x2), .val (.int x3), .val (.int x4), .val (.ref b1), .val (.ref b19), .val (.int v45), .val (.int v46), .val (.int v47), .val (.int p62), .val (.int v63), .val (.ref b64), .unset, .unset, .unset, .unset, .unset, .unset, .unset, .unset, .unset, .unset, .unset, .unset, .unset, .unset, .unset, .unset] [(.int v63), (.int (2 : Int32)), (.ref b64)])) rfl rfl (hb hby at_185)
          refine own_st st100 ?_
          have f101 : own_AI Z h100 b64 k64 v45 (own_updI p97 2 v63) := own_AI.set fj98 W100
          have f102 := fj95.other W100 ne65
          have f103 := fj96.other W100 ne66
          have N104 := Fr.snoc X100 Nj94 gx69
          have Z105 : n0 ≤ h100.size := Nat.le_trans Zj94 (Nat.le_of_eq W100.size.symm)
          show own_Go _ _ _ _ T100 (mkF m 186 _ [])
          exact J108 T100 _ h100 _ X100 e100 N104 Z105 f102 f103 f101 (by simp only [if_pos c99])
        · skip
          refine own_st (fun t k => XS.icmpYes Xj94.here hx rfl (pc0 := 177) (pc' := 186) rfl (hb hby at_177) rfl (flt c99).2.2.2 (by decide) (by decide) k) ?_
          show own_Go _ _ _ _ Tj94 (mkF m 186 _ [])
          exact J108 Tj94 _ hj94 _ Xj94 ej94 Nj94 Zj94 fj95 fj96 fj98 (by simp only [if_neg c99])
      by_cases c85 : (1 : Int32) < v45
      · skip
        refine own_st (fun t k => XS.icmpNo Xj80.here hx rfl (hb hby at_165) rfl (tlt c85).2.2.2 k) ?_
        show own_Go _ _ _ _ Tj80 (mkF m 168 _ [])
        refine own_st (fun t k => XS.aload Xj80.here hx rfl (hb hby at_168) rfl rfl k) ?_
        show own_Go _ _ _ _ Tj80 (mkF m 170 _ [(.ref b64)])
        refine own_st (fun t k => XS.iconst Xj80.here hx rfl (hb hby at_170) k) ?_
        show own_Go _ _ _ _ Tj80 (mkF m 171 _ [(.int (1 : Int32)), (.ref b64)])
        refine own_st (fun t k => XS.iload Xj80.here hx rfl (hb hby at_171) rfl k) ?_
        show own_Go _ _ _ _ Tj80 (mkF m 173 _ [(.int p62), (.int (1 : Int32)), (.ref b64)])
        obtain ⟨c86, Ar86, q86, S86, N86, H86⟩ := id fj84
        obtain ⟨T86, h86, X86, e86, W86, st86⟩ := stI Xj80 hx hZ ej80 Ar86 (j := (1 : Int32)) (inb_of S86 ⟨by decide, c85⟩) (g := (mkF m 173 #[.val (.int x0), .val (.int x1), .val (.int x2), .val (.int x3), .val (.int x4), .val (.ref b1), .val (.ref b19), .val (.int v45), .val (.int v46), .val (.int v47), .val (.int p62), .val (.int v63), .val (.ref b64), .unset, .unset, .unset, .unset, .unset, .unset, .unset, .unset, .unset, .unset, .unset, .unset, .unset, .unset, .unset, .unset] [(.int p62), (.int (1 : Int32)), (.ref b64)])) rfl rfl (hb hby at_173)
        refine own_st st86 ?_
        have f87 : own_AI Z h86 b64 k64 v45 (own_updI p83 1 p62) := own_AI.set fj84 W86
        have f88 := fj81.other W86 ne65
        have f89 := fj82.other W86 ne66
        have N90 := Fr.snoc X86 Nj80 gx69
        have Z91 : n0 ≤ h86.size := Nat.le_trans Zj80 (Nat.le_of_eq W86.size.symm)
        show own_Go _ _ _ _ T86 (mkF m 174 _ [])
        exact J94 T86 _ h86 _ X86 e86 N90 Z91 f88 f89 f87 (by simp only [if_pos c85])
      · skip
        refine own_st (fun t k => XS.icmpYes Xj80.here hx rfl (pc0 := 165) (pc' := 174) rfl (hb hby at_165) rfl (flt c85).2.2.2 (by decide) (by decide) k) ?_
        show own_Go _ _ _ _ Tj80 (mkF m 174 _ [])
        exact J94 Tj80 _ hj80 _ Xj80 ej80 Nj80 Zj80 fj81 fj82 fj84 (by simp only [if_neg c85])
    by_cases c71 : (0 : Int32) < v45
    · skip
      refine own_st (fun t k => XS.ifNo X64.here hx rfl (hb hby at_153) rfl ((if0 _ _).trans (tlt c71).2.2.2) k) ?_
      show own_Go _ _ _ _ T64 (mkF m 156 _ [])
      refine own_st (fun t k => XS.aload X64.here hx rfl (hb hby at_156) rfl rfl k) ?_
      show own_Go _ _ _ _ T64 (mkF m 158 _ [(.ref b64)])
      refine own_st (fun t k => XS.iconst X64.here hx rfl (hb hby at_158) k) ?_
      show own_Go _ _ _ _ T64 (mkF m 159 _ [(.int (0 : Int32)), (.ref b64)])
      refine own_st (fun t k => XS.iload X64.here hx rfl (hb hby at_159) rfl k) ?_
      show own_Go _ _ _ _ T64 (mkF m 161 _ [(.int v47), (.int (0 : Int32)), (.ref b64)])
      obtain ⟨c72, Ar72, q72, S72, N72, H72⟩ := id V64
      obtain ⟨T72, h72, X72, e72, W72, st72⟩ := stI X64 hx hZ e64 Ar72 (j := (0 : Int32)) (inb_of S72 ⟨by decide, c71⟩) (g := (mkF m 161 #[.val (.int x0), .val (.int x1), .val (.int x2), .val (.int x3), .val (.int x4), .val (.ref b1), .val (.ref b19), .val (.int v45), .val (.int v46), .val (.int v47), .val (.int p62), .val (.int v63), .val (.ref b64), .unset, .unset, .unset, .unset, .unset, .unset, .unset, .unset, .unset, .unset, .unset, .unset, .unset, .unset, .unset, .unset] [(.int v47), (.int (0 : Int32)), (.ref b64)])) rfl rfl (hb hby at_161)
      refine own_st st72 ?_
      have f73 : own_AI Z h72 b64 k64 v45 (own_updI (fun _ => (0 : Int32)) 0 v47) := own_AI.set V64 W72
      have f74 := f67.other W72 ne65
      have f75 := f68.other W72 ne66
      have N76 := Fr.snoc X72 Nj61 gx69
      have Z77 : n0 ≤ h72.size := Nat.le_trans Z70 (Nat.le_of_eq W72.size.symm)
      show own_Go _ _ _ _ T72 (mkF m 162 _ [])
      exact J80 T72 _ h72 _ X72 e72 N76 Z77 f74 f75 f73 (by simp only [if_pos c71])
    · skip
      refine own_st (fun t k => XS.ifYes X64.here hx rfl (pc0 := 153) (pc' := 162) rfl (hb hby at_153) rfl ((if0 _ _).trans (flt c71).2.2.2) (by decide) (by decide) k) ?_
      show own_Go _ _ _ _ T64 (mkF m 162 _ [])
      exact J80 T64 _ h64 _ X64 e64 Nj61 Z70 f67 f68 V64 (by simp only [if_neg c71])
  by_cases c48 : (v46 % (2 : Int32)) = (0 : Int32)
  · skip
    refine own_st (fun t k => XS.ifNo X39.here hx rfl (hb hby at_105) rfl ((if0 _ _).trans (teq c48).2) k) ?_
    show own_Go _ _ _ _ T39 (mkF m 108 _ [])
    refine own_st (fun t k => XS.iload X39.here hx rfl (hb hby at_108) rfl k) ?_
    show own_Go _ _ _ _ T39 (mkF m 110 _ [(.int v47)])
    have J52 : ∀ (Tj52 : State) (Lj52 : List Loc) (p53 : Int32), Stand p l e room_1 s m #[(.int x0), (.int x1), (.int x2), (.int x3), (.int x4)] below meth c Tj52 Lj52 2 6 → Tj52.heap = h39 → Fr n0 Lj52 → p53 = (if v47 = (0 : Int32) then (1 : Int32) else (0 : Int32)) → own_Go p.tables e below Pq Tj52 (mkF m 118 #[.val (.int x0), .val (.int x1), .val (.int x2), .val (.int x3), .val (.int x4), .val (.ref b1), .val (.ref b19), .val (.int v45), .val (.int v46), .val (.int v47), .unset, .unset, .unset, .unset, .unset, .unset, .unset, .unset, .unset, .unset, .unset, .unset, .unset, .unset, .unset, .unset, .unset, .unset, .unset] [(.int p53)]) := by
      intro Tj52 Lj52 p53 Xj52 ej52 Nj52 qp53
      show own_Go _ _ _ _ Tj52 (mkF m 118 _ [(.int p53)])
      refine own_st (fun t k => XS.istore Xj52.here hx rfl (hb hby at_118) rfl (l' := #[.val (.int x0), .val (.int x1), .val (.int x2), .val (.int x3), .val (.int x4), .val (.ref b1), .val (.ref b19), .val (.int v45), .val (.int v46), .val (.int v47), .val (.int p53), .unset, .unset, .unset, .unset, .unset, .unset, .unset, .unset, .unset, .unset, .unset, .unset, .unset, .unset, .unset, .unset, .unset, .unset]) rfl k) ?_
      show own_Go _ _ _ _ Tj52 (mkF m 120 #[.val (.int x0), .val (.int x1), .val (.int x2), .val (.int x3), .val (.int x4), .val (.ref b1), .val (.ref b19), .val (.int v45), .val (.int v46), .val (.int v47), .val (.int p53), .unset, .unset, .unset, .unset, .unset, .unset, .unset, .unset, .unset, .unset, .unset, .unset, .unset, .unset, .unset, .unset, .unset, .unset] [])
      refine own_st (fun t k => XS.goto Xj52.here hx rfl (pc0 := 120) (pc' := 136) rfl (hb hby at_120) (by decide) (by decide) k) ?_
      show own_Go _ _ _ _ Tj52 (mkF m 136 _ [])
      exact J61 Tj52 _ _ (Xj52.mono (by decide) (by decide)) ej52 Nj52 (by simp only [if_pos c48, qp53])
    by_cases c49 : v47 = (0 : Int32)
    · skip
      refine own_st (fun t k => XS.ifNo X39.here hx rfl (hb hby at_110) rfl ((if0 _ _).trans (teq c49).2) k) ?_
      show own_Go _ _ _ _ T39 (mkF m 113 _ [])
      refine own_st (fun t k => XS.iconst X39.here hx rfl (hb hby at_113) k) ?_
      show own_Go _ _ _ _ T39 (mkF m 114 _ [(.int (1 : Int32))])
      refine own_st (fun t k => XS.goto X39.here hx rfl (pc0 := 114) (pc' := 118) rfl (hb hby at_114) (by decide) (by decide) k) ?_
      show own_Go _ _ _ _ T39 (mkF m 118 _ [(.int (1 : Int32))])
      exact J52 T39 _ _ X39 e39 N42 (by simp only [if_pos c49])
    · skip
      refine own_st (fun t k => XS.ifYes X39.here hx rfl (pc0 := 110) (pc' := 117) rfl (hb hby at_110) rfl ((if0 _ _).trans (feq c49).2) (by decide) (by decide) k) ?_
      show own_Go _ _ _ _ T39 (mkF m 117 _ [])
      refine own_st (fun t k => XS.iconst X39.here hx rfl (hb hby at_117) k) ?_
      show own_Go _ _ _ _ T39 (mkF m 118 _ [(.int (0 : Int32))])
      exact J52 T39 _ _ X39 e39 N42 (by simp only [if_neg c49])
  · skip
    refine own_st (fun t k => XS.ifYes X39.here hx rfl (pc0 := 105) (pc' := 123) rfl (hb hby at_105) rfl ((if0 _ _).trans (feq c48).2) (by decide) (by decide) k) ?_
    show own_Go _ _ _ _ T39 (mkF m 123 _ [])
    refine own_st (fun t k => XS.iload X39.here hx rfl (hb hby at_123) rfl k) ?_
    show own_Go _ _ _ _ T39 (mkF m 125 _ [(.int v47)])
    refine own_st (fun t k => XS.iconst X39.here hx rfl (hb hby at_125) k) ?_
    show own_Go _ _ _ _ T39 (mkF m 126 _ [(.int (2 : Int32)), (.int v47)])
    have J58 : ∀ (Tj58 : State) (Lj58 : List Loc) (p59 : Int32), Stand p l e room_1 s m #[(.int x0), (.int x1), (.int x2), (.int x3), (.int x4)] below meth c Tj58 Lj58 2 6 → Tj58.heap = h39 → Fr n0 Lj58 → p59 = (if v47 = (2 : Int32) then (1 : Int32) else (2 : Int32)) → own_Go p.tables e below Pq Tj58 (mkF m 134 #[.val (.int x0), .val (.int x1), .val (.int x2), .val (.int x3), .val (.int x4), .val (.ref b1), .val (.ref b19), .val (.int v45), .val (.int v46), .val (.int v47), .unset, .unset, .unset, .unset, .unset, .unset, .unset, .unset, .unset, .unset, .unset, .unset, .unset, .unset, .unset, .unset, .unset, .unset, .unset] [(.int p59)]) := by
      intro Tj58 Lj58 p59 Xj58 ej58 Nj58 qp59
      show own_Go _ _ _ _ Tj58 (mkF m 134 _ [(.int p59)])
      refine own_st (fun t k => XS.istore Xj58.here hx rfl (hb hby at_134) rfl (l' := #[.val (.int x0), .val (.int x1), .val (.int x2), .val (.int x3), .val (.int x4), .val (.ref b1), .val (.ref b19), .val (.int v45), .val (.int v46), .val (.int v47), .val (.int p59), .unset, .unset, .unset, .unset, .unset, .unset, .unset, .unset, .unset, .unset, .unset, .unset, .unset, .unset, .unset, .unset, .unset, .unset]) rfl k) ?_
      show own_Go _ _ _ _ Tj58 (mkF m 136 #[.val (.int x0), .val (.int x1), .val (.int x2), .val (.int x3), .val (.int x4), .val (.ref b1), .val (.ref b19), .val (.int v45), .val (.int v46), .val (.int v47), .val (.int p59), .unset, .unset, .unset, .unset, .unset, .unset, .unset, .unset, .unset, .unset, .unset, .unset, .unset, .unset, .unset, .unset, .unset, .unset] [])
      exact J61 Tj58 _ _ (Xj58.mono (by decide) (by decide)) ej58 Nj58 (by simp only [if_neg c48, qp59])
    by_cases c55 : v47 = (2 : Int32)
    · skip
      refine own_st (fun t k => XS.icmpNo X39.here hx rfl (hb hby at_126) rfl (teq c55).2 k) ?_
      show own_Go _ _ _ _ T39 (mkF m 129 _ [])
      refine own_st (fun t k => XS.iconst X39.here hx rfl (hb hby at_129) k) ?_
      show own_Go _ _ _ _ T39 (mkF m 130 _ [(.int (1 : Int32))])
      refine own_st (fun t k => XS.goto X39.here hx rfl (pc0 := 130) (pc' := 134) rfl (hb hby at_130) (by decide) (by decide) k) ?_
      show own_Go _ _ _ _ T39 (mkF m 134 _ [(.int (1 : Int32))])
      exact J58 T39 _ _ X39 e39 N42 (by simp only [if_pos c55])
    · skip
      refine own_st (fun t k => XS.icmpYes X39.here hx rfl (pc0 := 126) (pc' := 133) rfl (hb hby at_126) rfl (feq c55).2 (by decide) (by decide) k) ?_
      show own_Go _ _ _ _ T39 (mkF m 133 _ [])
      refine own_st (fun t k => XS.iconst X39.here hx rfl (hb hby at_133) k) ?_
      show own_Go _ _ _ _ T39 (mkF m 134 _ [(.int (2 : Int32))])
      exact J58 T39 _ _ X39 e39 N42 (by simp only [if_neg c55])
set_option maxRecDepth 65536 in
set_option maxHeartbeats 4000000 in
theorem own_comes {Post : Tables → Env → Array Value → State → Outcome → State → Prop} (hpost : ∀ tb e args s v u, (limb_1_1.after args s (.returned v) u = true ∧ limb_1_2.after args s (.returned v) u = true ∧ True) → FrameEnd s (.returned v) u (Jvm.fieldLocs frame_1_writes args s ++ Jvm.arrayLocs frame_1_arrays args s ++ Jvm.staticLocs frame_1_statics s) 24 128 → Post tb e args s (.returned v) u) :
    ArmFor flags0 classFile x code maxLocals ret World_1 tables_1 room_1 Calls_1 rest_1 Pre_1 Post := by
  intro l hfl _ _ p e ha hc hk s m args below hf hA hF happ hP
  obtain ⟨hcalls, hrest, hpre⟩ := hP
  obtain ⟨-, -, -, hnamed, -, -, -, hat⟩ := (Spec.applies_iff hf).mp happ
  obtain ⟨hg, hn⟩ := and_e (Cond.before_iff.mp (show (Jvm.Cond.and given_1 narrow_1).before args s = true from hpre))
  obtain ⟨g0, r0⟩ := and_e hg
  obtain ⟨g1, r1⟩ := and_e r0
  obtain ⟨g2, r2⟩ := and_e r1
  obtain ⟨g3, r3⟩ := and_e r2
  obtain ⟨g4, r4⟩ := and_e r3
  obtain ⟨w0, w1, w2, w3, w4, rfl⟩ : ∃ w0 w1 w2 w3 w4 : Value, args = #[w0, w1, w2, w3, w4] := by
    have hs : args.size = 5 := by simpa [Cond.value, given_1] using g0
    obtain ⟨L⟩ := args
    match L, hs with
    | [w0, w1, w2, w3, w4], _ => exact ⟨w0, w1, w2, w3, w4, rfl⟩
  have hw := fun d (hd : d ∈ tables_1) => atoms_spec (ws := Jvm.Cond.code x code maxLocals ret :: tables_1) hat d (List.mem_cons_of_mem _ hd)
  obtain ⟨i0, ei0⟩ := is_v g1
  obtain rfl : w0 = (.int i0) := Option.some.inj ei0
  obtain ⟨i1, ei1⟩ := is_v g2
  obtain rfl : w1 = (.int i1) := Option.some.inj ei1
  obtain ⟨i2, ei2⟩ := is_v g3
  obtain rfl : w2 = (.int i2) := Option.some.inj ei2
  obtain ⟨i3, ei3⟩ := is_v g4
  obtain rfl : w3 = (.int i3) := Option.some.inj ei3
  obtain ⟨i4, ei4⟩ := is_v r4
  obtain rfl : w4 = (.int i4) := Option.some.inj ei4
  obtain ⟨n, o, h1, h2, h3, _, L, rfl, ⟨rfl, N⟩, hq⟩ := rm0 l s _ hw tables_1 i0 i1 i2 i3 i4 s.heap s.heap.size (Nat.le_refl _) p e ha hc hk s m _ below hf ((Spec.applies_iff_loose hf).mp happ).1 ⟨rfl, State.Warmed39.refl s, rfl⟩ trivial
  refine ⟨n, _, h1, h2, h3, hpost _ _ _ _ _ _ ⟨Cond.after_iff.mpr rfl, Cond.after_iff.mpr (eq_i res_at (Term.int_eval (1)) rfl), trivial⟩ ⟨hq.1, hq.2.1, (hq.2.2.sift fun y hy => Or.inr (N y hy)).mono (by decide) (by decide)⟩⟩
theorem main_1_1 : Claimed_1_1 := own_comes fun _ _ _ _ _ _ h hF => ⟨h.1, hF⟩
theorem main_1_2 : Claimed_1_2 := own_comes fun _ _ _ _ _ _ h hF => ⟨h.2.1, hF⟩
end Jvm.Pilot.@@N@@
namespace Jvm.Pilot.@@N@@
open Jvm Jvm.ClassFile Sem Op Lib Jvm.Free Jvm.Stand Jvm.Pilot.@@N@@.Jvm.D
/-! MADE BY PROGRAM (witnessworld.py) out of the Statement's table words and the real class files: 9 classes; the members and pool entries that the words name. The judged class is class 1, her method 1. -/
namespace start1
open Jvm.ClassFile
def u (s : String) : CpInfo := .utf8 (stringToUtf16 s)
/-- a pool by its gaps: so many unusable entries, then the entry; so many at the end -/
def gap : Nat → List CpInfo → List CpInfo
  | 0, r => r
  | n + 1, r => .unusable :: gap n r
def poolList (es : List (Nat × CpInfo)) (last : Nat) : List CpInfo := es.foldr (fun e r => gap e.1 (e.2 :: r)) (gap last [])
def pool (es : List (Nat × CpInfo)) (last : Nat) : Array CpInfo := ⟨poolList es last⟩
def fileOf (pool : Array CpInfo) (this : Nat) (attrs : Array Attribute := #[]) (ms : Array MethodInfo := #[]) (fl : Nat := 33) (sup : Nat := 0) (ifs : Array Nat := #[]) (fds : Array FieldInfo := #[]) : ClassFile where
  minorVersion := 0
  majorVersion := 65
  constantPool := pool
  accessFlags := fl
  thisClass := this
  superClass := sup
  interfaces := ifs
  fields := fds
  methods := ms
  attributes := attrs
def plain (name : String) (sup : Option ClassId) : Class where
  name := name
  kind := .ordinary
  loader := none
  accessFlags := 33
  super := sup
  interfaces := #[]
  cf := none
  fields := #[]
  methods := #[]
  instanceTypes := #[]
  staticTypes := #[]
  resolved := #[]
  callSites := []
  init := .initialized
  statics := none
  mirror := none

def pool0 : Array CpInfo := pool [(5, u "<init>"), (0, u "()V"), (1, .class_ 10), (1, u "java/lang/Object")] 113

def k0m0 : Method := { name := "<init>", desc := "()V", sig := { parameters := [], returnType := none }, accessFlags := 1, code := none }
/-- java/lang/Object -/
def k0 : Class := { plain "java/lang/Object" none with
  accessFlags := 33
  interfaces := #[]
  cf := some (fileOf pool0 8 #[] #[{ accessFlags := 1, nameIndex := 5, descriptorIndex := 6, attributes := #[] }] 33 0 #[] #[])
  fields := #[]
  methods := #[k0m0]
  instanceTypes := #[]
  staticTypes := #[]
  resolved := Array.replicate 124 none
  statics := none }

def pool1 : Array CpInfo := pool [(2, .class_ 4), (1, u "java/lang/Object"), (0, u "<init>"), (0, u "()V"), (0, .integer 2147483647), (0, .methodref 9 10), (0, .class_ 11), (0, .nameAndType 12 13), (0, u "com/example/parley/parley/game/Profiles"), (0, u "advance"), (0, u "([I[I[I)Z"), (0, .class_ 15), (0, u "com/example/parley/parley/game/ProfilesAdvancePinLaw"), (2, u "law"), (0, u "(IIIII)Z")] 5

def k1m0 : Method := { name := "<init>", desc := "()V", sig := { parameters := [], returnType := none }, accessFlags := 2, code := none }
def k1c1 : Code := { maxStack := 5, maxLocals := 29, code := code, exceptionTable := #[], attributes := #[] }
def k1m1 : Method := { name := "law", desc := "(IIIII)Z", sig := { parameters := [.int, .int, .int, .int, .int], returnType := some .boolean }, accessFlags := 9, code := some k1c1 }
/-- com/example/parley/parley/game/ProfilesAdvancePinLaw -/
def k1 : Class := { plain "com/example/parley/parley/game/ProfilesAdvancePinLaw" (some 0) with
  accessFlags := 49
  interfaces := #[]
  cf := some (fileOf pool1 14 #[] #[{ accessFlags := 2, nameIndex := 5, descriptorIndex := 6, attributes := #[] }, { accessFlags := 9, nameIndex := 18, descriptorIndex := 19, attributes := #[] }] 49 2 #[] #[])
  fields := #[]
  methods := #[k1m0, k1m1]
  instanceTypes := #[]
  staticTypes := #[]
  resolved := Array.replicate 25 none
  statics := none }

def pool2 : Array CpInfo := pool [(2, .class_ 4), (1, u "java/lang/Object"), (0, u "<init>"), (0, u "()V"), (21, .class_ 29), (0, u "com/example/parley/parley/game/Profiles"), (9, u "advance"), (0, u "([I[I[I)Z")] 19

def k2m0 : Method := { name := "<init>", desc := "()V", sig := { parameters := [], returnType := none }, accessFlags := 2, code := none }
def k2c1 : Code := { maxStack := 4, maxLocals := 7, code := prog_50_method_4_code, exceptionTable := #[], attributes := #[] }
def k2m1 : Method := { name := "advance", desc := "([I[I[I)Z", sig := { parameters := [(.array .int), (.array .int), (.array .int)], returnType := some .boolean }, accessFlags := 8, code := some k2c1 }
/-- com/example/parley/parley/game/Profiles -/
def k2 : Class := { plain "com/example/parley/parley/game/Profiles" (some 0) with
  accessFlags := 48
  interfaces := #[]
  cf := some (fileOf pool2 28 #[] #[{ accessFlags := 2, nameIndex := 5, descriptorIndex := 6, attributes := #[] }, { accessFlags := 8, nameIndex := 39, descriptorIndex := 40, attributes := #[] }] 48 2 #[] #[])
  fields := #[]
  methods := #[k2m0, k2m1]
  instanceTypes := #[]
  staticTypes := #[]
  resolved := Array.replicate 60 none
  statics := none }

def pool3 : Array CpInfo := pool [(1, u "java/lang/Cloneable"), (0, .class_ 1), (0, u "java/lang/Object"), (0, .class_ 3)] 3

/-- java/lang/Cloneable -/
def k3 : Class := { plain "java/lang/Cloneable" (some 0) with
  accessFlags := 1537
  interfaces := #[]
  cf := some (fileOf pool3 2 #[] #[] 1537 4 #[] #[])
  fields := #[]
  methods := #[]
  instanceTypes := #[]
  staticTypes := #[]
  resolved := Array.replicate 8 none
  statics := none }

def pool4 : Array CpInfo := pool [(1, u "java/io/Serializable"), (0, .class_ 1), (0, u "java/lang/Object"), (0, .class_ 3)] 3

/-- java/io/Serializable -/
def k4 : Class := { plain "java/io/Serializable" (some 0) with
  accessFlags := 1537
  interfaces := #[]
  cf := some (fileOf pool4 2 #[] #[] 1537 4 #[] #[])
  fields := #[]
  methods := #[]
  instanceTypes := #[]
  staticTypes := #[]
  resolved := Array.replicate 8 none
  statics := none }

/-- the primitive byte -/
def k5 : Class := { plain "byte" none with kind := .primitive 'B', accessFlags := 0x411 }
/-- [B -/
def k6 : Class := { plain "[B" (some 0) with kind := .array 5 .byte, interfaces := #[3, 4], accessFlags := 1041 }

/-- the primitive int -/
def k7 : Class := { plain "int" none with kind := .primitive 'I', accessFlags := 0x411 }
/-- [I -/
def k8 : Class := { plain "[I" (some 0) with kind := .array 7 .int, interfaces := #[3, 4], accessFlags := 1041 }

def heap : Heap := #[]
def classes : Array Class := #[k0, k1, k2, k3, k4, k5, k6, k7, k8]
def interned : List (Array UInt16 × Addr) := []
def slotsUsed : Nat := 0
def theMethod : MethodId := ⟨1, 1⟩
def args0 : Array Value := #[.int 5, .int 5, .int 5, .int 5, .int 5]
def aboutOver (below : List Frame) : State where
  vm := { classes := classes, interned := interned.toArray }
  heap := heap
  slotsUsed := slotsUsed
  threads := #[{ frames := .invoking theMethod args0 :: below }]
def below0 : List Frame := [.native { method := ⟨0, 0⟩, args := #[] }]
def about1 : State := aboutOver below0
def p0 : Program := .bare "" "" ""
def e0 : Env := launch0.env 0 0 0
theorem w_frames : about1.frames = Frame.invoking theMethod args0 :: below0 := rfl
set_option maxRecDepth 65536 in
theorem w_args : argsFit about1.vm theMethod args0 = true := by decide +kernel
set_option maxRecDepth 65536 in
theorem w_heap : heapFits about1 = true := by decide +kernel
set_option maxRecDepth 65536 in
theorem w_runnable : about1.curStatus? = some .runnable := by decide +kernel
set_option maxRecDepth 65536 in
theorem w_alone : about1.alone = true := by decide +kernel
set_option maxRecDepth 65536 in
theorem w_named : about1.methodNamed? x = some theMethod := by decide +kernel
set_option maxRecDepth 65536 in
theorem w_hears : about1.hears theMethod below0 = true := by decide +kernel
set_option maxRecDepth 65536 in
theorem w_ripe : about1.ripe theMethod args0 below0 = true := by decide +kernel
theorem w_running : about1.status = .running := rfl
set_option maxRecDepth 65536 in
theorem w_room : about1.hasRoom e0.platform room_1 = true :=
  launch0.hasRoom_least _ room_1 (by decide +kernel) (by decide +kernel) (by decide +kernel) (by decide +kernel) (by decide +kernel) (by decide +kernel)
theorem allAtoms_all (ts : List Jvm.Cond) (a : Array Jvm.Value) (st : Jvm.State) : (allAtoms ts).before a st = ts.all (fun c => c.before a st) := by
  induction ts with
  | nil => rfl
  | cons c t ih =>
    show (Jvm.Cond.and c (allAtoms t)).before a st = _
    rw [Jvm.Cond.before_and, ih, List.all_cons]
def words1 : List Jvm.Cond := Jvm.Cond.code x code maxLocals ret :: tables_1
/-- a 'code' word, met by the world's own term for the bytes: nothing is compared byte by byte -/
theorem code_word {y : MethodName} {bytes : ByteArray} {mx : Nat} {rt : Option FieldType} {a : Array Value} {s : State} {m : MethodId} {meth : Method} {c : Code} (h1 : s.methodNamed? y = some m) (h2 : s.vm.method? m = some meth) (h3 : meth.code = some c) (h4 : c.code = bytes)
    (h5 : (c.maxLocals == mx && c.exceptionTable.isEmpty && decide (c.maxStack ≤ mostOperands) && decide (meth.sig.returnType = rt) && !meth.locks && decide (parseMethodDescriptor y.desc = some meth.sig)) = true) : (Jvm.Cond.code y bytes mx rt).before a s = true := by
  simp only [Bool.and_eq_true, beq_iff_eq, Bool.not_eq_true', decide_eq_true_eq] at h5
  obtain ⟨⟨⟨⟨⟨g1, g2⟩, g3⟩, g4⟩, g5⟩, g6⟩ := h5
  simp [Cond.before, Cond.holds, Cond.value, h1, h2, h3, h4, g1, g2, g3, g4, g5, g6]
def isCode : Jvm.Cond → Bool
  | .code _ _ _ _ => true
  | _ => false
theorem all_split {L : List Jvm.Cond} {P : Jvm.Cond → Bool} (h1 : L.all (fun c => isCode c || P c) = true) (h2 : ∀ c ∈ L.filter isCode, P c = true) : L.all P = true := by
  refine List.all_eq_true.mpr fun c hc => ?_
  have h := List.all_eq_true.mp h1 c hc
  rcases Bool.eq_false_or_eq_true (isCode c) with hi | hi
  · exact h2 c (List.mem_filter.mpr ⟨hc, hi⟩)
  · simpa [hi] using h
set_option maxRecDepth 65536 in
theorem w_c0 : (Jvm.Cond.code x code maxLocals ret).before args0 about1 = true := code_word (m := ⟨1, 1⟩) (meth := k1m1) (c := k1c1) (by decide +kernel) rfl rfl rfl (by decide +kernel)
set_option maxRecDepth 65536 in
theorem w_c1 : (Jvm.Cond.code ({ cls := "com/example/parley/parley/game/Profiles", name := "advance", desc := "([I[I[I)Z" } : Jvm.MethodName) prog_50_method_4_code (7 : Nat) (Option.some Jvm.ClassFile.FieldType.boolean)).before args0 about1 = true := code_word (m := ⟨2, 1⟩) (meth := k2m1) (c := k2c1) (by decide +kernel) rfl rfl rfl (by decide +kernel)
def codes1 : List Jvm.Cond := [Jvm.Cond.code x code maxLocals ret, Jvm.Cond.code ({ cls := "com/example/parley/parley/game/Profiles", name := "advance", desc := "([I[I[I)Z" } : Jvm.MethodName) prog_50_method_4_code (7 : Nat) (Option.some Jvm.ClassFile.FieldType.boolean)]
set_option maxRecDepth 65536 in
theorem codes_eq : words1.filter isCode = codes1 := rfl
theorem w_codes : ∀ c ∈ words1.filter isCode, c.before args0 about1 = true := by
  rw [codes_eq]
  intro c hc
  simp only [codes1, List.mem_cons, List.not_mem_nil, or_false] at hc
  rcases hc with rfl | rfl
  · exact w_c0
  · exact w_c1
set_option maxRecDepth 65536 in
theorem w_t1 : words1.all (fun c => isCode c || c.before args0 about1) = true := by decide +kernel
theorem w_tables : (allAtoms (Jvm.Cond.code x code maxLocals ret :: tables_1)).before args0 about1 = true := by
  rw [allAtoms_all]
  show words1.all (fun c => c.before args0 about1) = true
  refine all_split ?_ w_codes
  rw [w_t1]
set_option maxRecDepth 65536 in
theorem w_case : (Jvm.Cond.and given_1 narrow_1).before args0 about1 = true := by decide +kernel
theorem w_applies : (headSpec (Jvm.Cond.code x code maxLocals ret :: tables_1) room_1).applies x e0.platform about1 = true :=
  (Spec.applies_iff w_frames).mpr ⟨w_running, w_runnable, w_alone, w_named, w_hears, w_ripe, w_room, w_tables⟩
theorem atStart : AtStart classFile x code maxLocals ret World_1 tables_1 room_1 Calls_1 rest_1 Pre_1 launch0 p0 e0 about1 theMethod args0 below0 :=
  ⟨lists_1, trivial, launch0.admits_env _ _ _, launch0.least_env, fairChoices_fair.cas, fairChoices_fair.clock, w_frames, w_args, w_heap, w_applies, trivial, trivial, w_case⟩
end start1
theorem witness_1 : WitnessClaimed_1 := ⟨start1.p0, start1.e0, start1.about1, start1.theMethod, start1.args0, start1.below0, start1.atStart⟩
end Jvm.Pilot.@@N@@
