import JvmDerived
import JvmDerived.Pilot.@@N@@Statement
import JvmDerived.Pilot.@@N@@Code
set_option linter.unusedVariables false
set_option linter.unusedSimpArgs false
@@BLOCK:NumsL.lean.txt@@
namespace Jvm.Pilot.@@N@@
open Jvm Jvm.ClassFile Sem Op Lib Jvm.Free Jvm.Stand Jvm.LawKit Jvm.RoadKit Bundle Jvm.Pilot.@@N@@.Jvm.D
/-- from here the run comes to a state of which P holds -/
def own_Go (tb : Tables) (e : Env) (below : List Frame) (P : State → Prop) (T : State) (g : JFrame) : Prop := ∃ t, Steps tb e below (T.setTop g) t ∧ P t
theorem own_st {tb : Tables} {e : Env} {below : List Frame} {P : State → Prop} {T T' : State} {g g' : JFrame} (h : ∀ t, Steps tb e below (T'.setTop g') t → Steps tb e below (T.setTop g) t) (k : own_Go tb e below P T' g') : own_Go tb e below P T g := by
  obtain ⟨t, a, b⟩ := k; exact ⟨t, h t a, b⟩
/-- what the end of a body must be -/
def own_P (s : State) (below : List Frame) (Q : Option Value → Heap → List Loc → Prop) (C S : Nat) (t : State) : Prop := t.status = .running ∧ ∃ o, Ended t below o ∧ ∃ v L, o = .returned v ∧ Q v t.heap L ∧ FrameEnd s o t L C S
/-- .. of a body that may have interned -/
def own_PW (s : State) (below : List Frame) (Q : Option Value → Heap → List Loc → Prop) (C S : Nat) (t : State) : Prop := t.status = .running ∧ ∃ o, Ended t below o ∧ ∃ v L, o = .returned v ∧ Q v t.heap L ∧ ReturnedEndW s o t L C S
section own
variable {p : Program} {l : Launch} {e : Env} {R : Room} {s : State} {m : MethodId} {args : Array Value} {below : List Frame} {meth : Method} {c : Code} {T : State} {locs : List Loc} {cells slots : Nat} {Qo : Option Value → Heap → List Loc → Prop} {C' S' : Nat}
theorem own_out (X : Stand p l e R s m args below meth c T locs cells slots) {v : Option Value} {g : JFrame} (hv : meth.sig.returnType = none → v = none) (hlocks : meth.locks = false)
    (hst : ∀ fs, (∀ (f : JFrame) (acts : List Action), f.method = m → f.locked = none → f.entered = [] → (doReturn e (T.setTop f) acts v).1 = T.setFrames fs) → Steps p.tables e below (T.setTop g) (T.setFrames fs))
    (hc : cells ≤ C') (hs : slots ≤ S') (hq : Qo v T.heap locs) : own_Go p.tables e below (own_P s below Qo C' S') T g := by
  obtain ⟨fs, hr, hrun, hended, hW, hsame⟩ := X.leave (v := v) hv hlocks
  exact ⟨_, hst fs hr, hrun, _, hended, _, _, rfl, hq, ⟨_, rfl⟩, hW, hsame.mono hc hs⟩
theorem own_outW {vm0 : Vm} (X : Stand p l e R (s.setVm vm0) m args below meth c T locs cells slots) {k0 : Nat} (hS : s.Since vm0 k0) (hk : k0 ≤ T.heap.size) {v : Option Value} {g : JFrame} (hv : meth.sig.returnType = none → v = none) (hlocks : meth.locks = false)
    (hst : ∀ fs, (∀ (f : JFrame) (acts : List Action), f.method = m → f.locked = none → f.entered = [] → (doReturn e (T.setTop f) acts v).1 = T.setFrames fs) → Steps p.tables e below (T.setTop g) (T.setFrames fs))
    (hc : cells ≤ C') (hs : slots ≤ S') (hq : Qo v T.heap locs) : own_Go p.tables e below (own_PW s below Qo C' S') T g := by
  obtain ⟨fs, hr, hrun, hended, hW⟩ := X.leaveW hS hk (v := v) hv hlocks
  exact ⟨_, hst fs hr, hrun, _, hended, _, _, rfl, hq, hW.1, hW.2.1, hW.2.2.1, hW.2.2.2.mono hc hs⟩
theorem own_retI (X : Stand p l e R s m args below meth c T locs cells slots) (hx : p.tables.exec = Jvm.exec) {pc : Nat} {Ls : Array Slot} {z : Int32} {rest : List Value} (hret : meth.sig.returnType = some .int) (hd : decode c.code pc = .ok (.ireturn, 1)) (fs : List Frame)
    (hl : ∀ (f : JFrame) (acts : List Action), f.method = m → f.locked = none → f.entered = [] → (doReturn e (T.setTop f) acts (some (.int z))).1 = T.setFrames fs) : Steps p.tables e below (T.setTop (mkF m pc Ls (.int z :: rest))) (T.setFrames fs) :=
  retOut X hx hret rfl (Or.inl ⟨rfl, Or.inl rfl, _, rfl⟩) hd hl
theorem own_retZ (X : Stand p l e R s m args below meth c T locs cells slots) (hx : p.tables.exec = Jvm.exec) {pc : Nat} {Ls : Array Slot} {z : Int32} {rest : List Value} (hret : meth.sig.returnType = some .boolean) (hd : decode c.code pc = .ok (.ireturn, 1)) (hb : z = 0 ∨ z = 1) (fs : List Frame)
    (hl : ∀ (f : JFrame) (acts : List Action), f.method = m → f.locked = none → f.entered = [] → (doReturn e (T.setTop f) acts (some (.int z))).1 = T.setFrames fs) : Steps p.tables e below (T.setTop (mkF m pc Ls (.int z :: rest))) (T.setFrames fs) := by
  have e1 : nar .boolean z = z := by rcases hb with rfl | rfl <;> decide
  exact retN X hx hret (Or.inl rfl) hd (by rw [e1]; exact hl)
theorem own_retJ (X : Stand p l e R s m args below meth c T locs cells slots) (hx : p.tables.exec = Jvm.exec) {pc : Nat} {Ls : Array Slot} {z : Int64} {rest : List Value} (hret : meth.sig.returnType = some .long) (hd : decode c.code pc = .ok (.lreturn, 1)) (fs : List Frame)
    (hl : ∀ (f : JFrame) (acts : List Action), f.method = m → f.locked = none → f.entered = [] → (doReturn e (T.setTop f) acts (some (.long z))).1 = T.setFrames fs) : Steps p.tables e below (T.setTop (mkF m pc Ls (.long z :: rest))) (T.setFrames fs) :=
  retOut X hx hret rfl (Or.inr (Or.inl ⟨rfl, rfl, _, rfl⟩)) hd hl
theorem own_retR (X : Stand p l e R s m args below meth c T locs cells slots) (hx : p.tables.exec = Jvm.exec) {pc : Nat} {Ls : Array Slot} {w : Value} {t : FieldType} {rest : List Value} (hret : meth.sig.returnType = some t) (ht : t.isReference = true) (hw : w.isRef = true) (hn : narrow t w = w) (hd : decode c.code pc = .ok (.areturn, 1)) (fs : List Frame)
    (hl : ∀ (f : JFrame) (acts : List Action), f.method = m → f.locked = none → f.entered = [] → (doReturn e (T.setTop f) acts (some w)).1 = T.setFrames fs) : Steps p.tables e below (T.setTop (mkF m pc Ls (w :: rest))) (T.setFrames fs) :=
  retOut X hx hret hn (Or.inr (Or.inr (Or.inr (Or.inr ⟨rfl, ht, hw⟩)))) hd hl
end own
/-- a private method is the one that is picked -/
theorem own_selp {s : State} {args : Array Value} {y : MethodName} {n : Nat} (hi : (Jvm.Cond.instantiable y.cls n).before args s = true) (hp : s.PrivateAt y) (hm : (Jvm.Cond.instanceMethod y).before args s = true) (hy : y.cls ≠ "java/lang/invoke/MethodHandle" ∧ y.cls ≠ "java/lang/invoke/VarHandle") : (Jvm.Cond.selects y.cls y y).before args s = true := by
  obtain ⟨c, k, h1, h2, -, h4, -⟩ := Cond.instantiable_spec hi
  exact selects_self_of_private h1 h2 (Bool.or_eq_false_iff.mp h4).1 hp hm hy
theorem own_staK {Z : State} {h h' : Heap} {C n d : String} {v : Value} {ws : List Addr} (F : Sta Z h C n d v) (K : Keep h h' ws) (q : ∀ x ∈ ws, ∃ D, Exa Z h x D) : Sta Z h' C n d v := by
  obtain ⟨cf, i, k, f, st, cell, h1, h2, h3, h4, h5, h6, h7⟩ := F
  refine ⟨cf, i, k, f, st, cell, h1, h2, h3, h4, K.2.1 st cell h5 (fun hm => ?_), h6, h7⟩
  obtain ⟨D, c', k', e1, -, -, e4, -⟩ := q st hm
  cases h5.symm.trans e1
  rw [h6] at e4; cases e4
/-- a reference or null -/
theorem own_refOf {w : Value} (h : w.isRef = true) (c : ¬ w = Value.null) : ∃ a, w = .ref a := (ref_cases h).resolve_left c
theorem own_nW {t : FieldType} {w : Value} (ht : t.isReference = true) (h : w.isRef = true) : narrow t w = w := by
  rcases ref_cases h with rfl | ⟨a, rfl⟩ <;> cases t <;> first | rfl | simp [FieldType.isReference] at ht
theorem own_fW {t : FieldType} {w : Value} (ht : t.isReference = true) (h : w.isRef = true) : fits t w = true := by
  rcases ref_cases h with rfl | ⟨a, rfl⟩ <;> cases t <;> first | rfl | simp [FieldType.isReference] at ht
theorem own_nb {z : Int32} (h : z = 0 ∨ z = 1) : narrow .boolean (.int z) = .int z := by rcases h with rfl | rfl <;> rfl
theorem own_fb {z : Int32} (h : z = 0 ∨ z = 1) : fits .boolean (.int z) = true := by rcases h with rfl | rfl <;> rfl
/-- lcmp and a branch, in one -/
def own_lcv : ClassFile.Cond → Int64 → Int64 → Prop
  | .lt, x, y => x < y | .ge, x, y => ¬ x < y | .gt, x, y => y < x | .le, x, y => ¬ y < x | .eq, x, y => x = y | .ne, x, y => ¬ x = y
theorem own_lcT {cd : ClassFile.Cond} {x y : Int64} (h : own_lcv cd x y) : ifCond.holds cd (lcmpW x y) = true := by
  rw [if0]
  cases cd
  · exact (teq ((lw_eq x y).mpr h)).1
  · exact (feq (fun q => h ((lw_eq x y).mp q))).2
  · exact (tlt ((lw_lt x y).mpr h)).1
  · exact (flt (fun q => h ((lw_lt x y).mp q))).2.1
  · exact (tlt ((lw_gt x y).mpr h)).2.2.1
  · exact (flt (fun q => h ((lw_gt x y).mp q))).2.2.2
theorem own_lcF {cd : ClassFile.Cond} {x y : Int64} (h : ¬ own_lcv cd x y) : ifCond.holds cd (lcmpW x y) = false := by
  rw [if0]
  cases cd
  · exact (feq (fun q => h ((lw_eq x y).mp q))).1
  · exact (teq (Classical.byContradiction fun q => h (fun r => q ((lw_eq x y).mpr r)))).2
  · exact (flt (fun q => h ((lw_lt x y).mp q))).1
  · exact (tlt (Classical.byContradiction fun q => h (fun r => q ((lw_lt x y).mpr r)))).2.1
  · exact (flt (fun q => h ((lw_gt x y).mp q))).2.2.1
  · exact (tlt (Classical.byContradiction fun q => h (fun r => q ((lw_gt x y).mpr r)))).2.2.2

theorem own_pd___II_I : parseMethodDescriptor "([II)I" = some ⟨[(.array .int), .int], some .int⟩ := by decide +kernel
theorem own_pd___IIZZ_Z : parseMethodDescriptor "([IIZZ)Z" = some ⟨[(.array .int), .int, .boolean, .boolean], some .boolean⟩ := by decide +kernel
def own_updI (g : Nat → Int32) (j : Nat) (x : Int32) : Nat → Int32 := fun i => if i = j then x else g i
def own_updJ (g : Nat → Int64) (j : Nat) (x : Int64) : Nat → Int64 := fun i => if i = j then x else g i
theorem own_lt {c : Cell} {j : Int32} (q : ¬ (j < 0 ∨ c.slots.size ≤ j.toNatClampNeg)) : j.toNatClampNeg < c.slots.size := Nat.lt_of_not_le fun y => q (Or.inr y)
/-- an array of her own kind, its content as a function -/
def own_AI (Z : State) (h : Heap) (a : Addr) (k : ClassId) (z : Int32) (g : Nat → Int32) : Prop := ∃ c : Cell, Arr Z h a c .int ∧ c.cls = k ∧ c.slots.size = z.toNatClampNeg ∧ ¬ z < 0 ∧ ∀ i, i < c.slots.size → c.slots[i]? = some (.int (g i))
section own_AI
variable {Z : State} {h h' : Heap} {a b : Addr} {k : ClassId} {z j : Int32} {g : Nat → Int32} {sl : Nat} {v : Value} {ws : List Addr}
theorem own_AI.lt (F : own_AI Z h a k z g) : a < h.size := by obtain ⟨c, A, -⟩ := F; exact A.lt
theorem own_AI.ext (F : own_AI Z h a k z g) (E : Ext h h') : own_AI Z h' a k z g := by obtain ⟨c, A, r⟩ := F; exact ⟨c, A.ext E, r⟩
theorem own_AI.other (F : own_AI Z h b k z g) (W : Wr h h' a sl v) (q : b ≠ a) : own_AI Z h' b k z g := by obtain ⟨c, A, r⟩ := F; exact ⟨c, A.other W q, r⟩
theorem own_AI.keep (F : own_AI Z h a k z g) (K : Keep h h' ws) (q : a ∉ ws) : own_AI Z h' a k z g := by obtain ⟨c, A, r⟩ := F; exact ⟨c, ⟨K.2.1 a c A.1 q, A.2⟩, r⟩
theorem own_AI.new (A : Arr Z h a (newA k .int z) .int) (q : ¬ z < 0) : own_AI Z h a k z (fun _ => 0) := by
  obtain ⟨c, r1, r2, r3, r4, r5, -⟩ := Arv.new A q
  exact ⟨c, r1, r2, r3, r4, fun i hi => by rw [r5 i hi]; rfl⟩
theorem own_AI.set {x : Int32} (F : own_AI Z h a k z g) (W : Wr h h' a j.toNatClampNeg (.int x)) : own_AI Z h' a k z (own_updI g j.toNatClampNeg x) := by
  obtain ⟨c, r1, r2, r3, r4, r5⟩ := F
  refine ⟨_, r1.same W, r2, by rw [sz_set]; exact r3, r4, fun i hi => ?_⟩
  rw [sz_set] at hi
  unfold own_updI
  by_cases u : i = j.toNatClampNeg
  · subst u; simp [Cell.setSlot, hi]
  · rw [if_neg u]; have := r5 i hi; simp only [Cell.setSlot] at this ⊢; rw [Array.getElem?_setIfInBounds_ne (Ne.symm u)]; exact this
theorem own_fitI {c : Cell} (A : Arr Z h a c .int) (H : ∀ i, i < c.slots.size → c.slots[i]? = some (.int (g i))) : FitC Z c := fitC_of A fun i hi v hv => by rw [H i hi] at hv; cases hv; rfl
theorem own_AI.clone {c : Cell} (H : ∀ i, i < c.slots.size → c.slots[i]? = some (.int (g i))) (q : c.cls = k) (S : c.slots.size = z.toNatClampNeg) (N : ¬ z < 0) (A : Arr Z h' b (cloneOf c) .int) : own_AI Z h' b k z g := ⟨_, A, q, S, N, H⟩
end own_AI

/-- an array of her own kind, its content as a function -/
def own_AJ (Z : State) (h : Heap) (a : Addr) (k : ClassId) (z : Int32) (g : Nat → Int64) : Prop := ∃ c : Cell, Arr Z h a c .long ∧ c.cls = k ∧ c.slots.size = z.toNatClampNeg ∧ ¬ z < 0 ∧ ∀ i, i < c.slots.size → c.slots[i]? = some (.long (g i))
section own_AJ
variable {Z : State} {h h' : Heap} {a b : Addr} {k : ClassId} {z j : Int32} {g : Nat → Int64} {sl : Nat} {v : Value} {ws : List Addr}
theorem own_AJ.lt (F : own_AJ Z h a k z g) : a < h.size := by obtain ⟨c, A, -⟩ := F; exact A.lt
theorem own_AJ.ext (F : own_AJ Z h a k z g) (E : Ext h h') : own_AJ Z h' a k z g := by obtain ⟨c, A, r⟩ := F; exact ⟨c, A.ext E, r⟩
theorem own_AJ.other (F : own_AJ Z h b k z g) (W : Wr h h' a sl v) (q : b ≠ a) : own_AJ Z h' b k z g := by obtain ⟨c, A, r⟩ := F; exact ⟨c, A.other W q, r⟩
theorem own_AJ.keep (F : own_AJ Z h a k z g) (K : Keep h h' ws) (q : a ∉ ws) : own_AJ Z h' a k z g := by obtain ⟨c, A, r⟩ := F; exact ⟨c, ⟨K.2.1 a c A.1 q, A.2⟩, r⟩
theorem own_AJ.new (A : Arr Z h a (newA k .long z) .long) (q : ¬ z < 0) : own_AJ Z h a k z (fun _ => 0) := by
  obtain ⟨c, r1, r2, r3, r4, r5, -⟩ := Arv.new A q
  exact ⟨c, r1, r2, r3, r4, fun i hi => by rw [r5 i hi]; rfl⟩
theorem own_AJ.set {x : Int64} (F : own_AJ Z h a k z g) (W : Wr h h' a j.toNatClampNeg (.long x)) : own_AJ Z h' a k z (own_updJ g j.toNatClampNeg x) := by
  obtain ⟨c, r1, r2, r3, r4, r5⟩ := F
  refine ⟨_, r1.same W, r2, by rw [sz_set]; exact r3, r4, fun i hi => ?_⟩
  rw [sz_set] at hi
  unfold own_updJ
  by_cases u : i = j.toNatClampNeg
  · subst u; simp [Cell.setSlot, hi]
  · rw [if_neg u]; have := r5 i hi; simp only [Cell.setSlot] at this ⊢; rw [Array.getElem?_setIfInBounds_ne (Ne.symm u)]; exact this
theorem own_fitJ {c : Cell} (A : Arr Z h a c .long) (H : ∀ i, i < c.slots.size → c.slots[i]? = some (.long (g i))) : FitC Z c := fitC_of A fun i hi v hv => by rw [H i hi] at hv; cases hv; rfl
theorem own_AJ.clone {c : Cell} (H : ∀ i, i < c.slots.size → c.slots[i]? = some (.long (g i))) (q : c.cls = k) (S : c.slots.size = z.toNatClampNeg) (N : ¬ z < 0) (A : Arr Z h' b (cloneOf c) .long) : own_AJ Z h' b k z g := ⟨_, A, q, S, N, H⟩
end own_AJ

/-- where the search begins, and whom it meets in its n-th turn -/
def own_h (z x : Int32) : Int32 := ((x * (-1640531527 : Int32)) ^^^ (((x * (-1640531527 : Int32)).toUInt32 >>> ((16 : Int32) &&& 31).toUInt32).toInt32)) &&& (z - (1 : Int32))
def own_ix (z x : Int32) (n : Nat) : Nat := ((own_h z x).toNatClampNeg + n) % z.toNatClampNeg
def own_size (z : Int32) : Prop := z = 4 ∨ z = 8 ∨ z = 16
def own_probe (g : Nat → Int32) (z x r : Int32) : Prop := ¬ r < 0 ∧ r < z ∧ ∃ n, r.toNatClampNeg = own_ix z x n ∧ (g r.toNatClampNeg = 0 ∨ g r.toNatClampNeg = x + 1) ∧ ∀ m, m < n → g (own_ix z x m) ≠ 0 ∧ g (own_ix z x m) ≠ x + 1
/-- what holds at the head of the search's loop: n turns are made, at most k are left -/
def own_look (g : Nat → Int32) (z x : Int32) (k : Nat) (i : Int32) : Prop := ¬ i < 0 ∧ i < z ∧ ∃ n, i.toNatClampNeg = own_ix z x n ∧ (∀ m, m < n → g (own_ix z x m) ≠ 0 ∧ g (own_ix z x m) ≠ x + 1) ∧ ∃ d, n ≤ d ∧ d ≤ n + k ∧ g (own_ix z x d) = 0
theorem own_mask {z : Int32} (hz : own_size z) (y : Int32) : ¬ (y &&& (z - 1)) < 0 ∧ (y &&& (z - 1)) < z ∧ (y &&& (z - 1)).toInt = y.toInt % z.toInt := by
  rcases hz with rfl | rfl | rfl
  · have e := c_mask y ((4 : Int32) - 1) 2 (by decide) (by decide)
    rw [Int32.lt_iff_toInt_lt, Int32.lt_iff_toInt_lt, e, show (0 : Int32).toInt = 0 from rfl, show (4 : Int32).toInt = 4 from rfl]; omega
  · have e := c_mask y ((8 : Int32) - 1) 3 (by decide) (by decide)
    rw [Int32.lt_iff_toInt_lt, Int32.lt_iff_toInt_lt, e, show (0 : Int32).toInt = 0 from rfl, show (8 : Int32).toInt = 8 from rfl]; omega
  · have e := c_mask y ((16 : Int32) - 1) 4 (by decide) (by decide)
    rw [Int32.lt_iff_toInt_lt, Int32.lt_iff_toInt_lt, e, show (0 : Int32).toInt = 0 from rfl, show (16 : Int32).toInt = 16 from rfl]; omega
theorem own_zn {z : Int32} (hz : own_size z) : 4 ≤ z.toNatClampNeg ∧ z.toNatClampNeg ≤ 16 ∧ z.toInt = z.toNatClampNeg := by
  rcases hz with rfl | rfl | rfl <;> decide
theorem own_look0 {g : Nat → Int32} {z x : Int32} (hz : own_size z) (hs : ∃ j, j < z.toNatClampNeg ∧ g j = 0) : own_look g z x 16 (own_h z x) := by
  obtain ⟨a, b, c⟩ := own_mask hz ((x * (-1640531527 : Int32)) ^^^ (((x * (-1640531527 : Int32)).toUInt32 >>> ((16 : Int32) &&& 31).toUInt32).toInt32))
  refine ⟨a, b, 0, ?_, fun m hm => absurd hm (Nat.not_lt_zero _), ?_⟩
  · have q : (own_h z x).toNatClampNeg < z.toNatClampNeg := by
      have a' : ¬ (own_h z x) < 0 := a
      have b' : (own_h z x) < z := b
      rw [Int32.lt_iff_toInt_lt, show (0 : Int32).toInt = 0 from rfl] at a'
      rw [Int32.lt_iff_toInt_lt] at b'
      simp only [Int32.toNatClampNeg]; omega
    unfold own_ix; rw [Nat.add_zero, Nat.mod_eq_of_lt q]
  · obtain ⟨j, hj, hg⟩ := hs
    obtain ⟨z1, z2, -⟩ := own_zn hz
    have q : (own_h z x).toNatClampNeg < z.toNatClampNeg := by
      have a' : ¬ (own_h z x) < 0 := a
      have b' : (own_h z x) < z := b
      rw [Int32.lt_iff_toInt_lt, show (0 : Int32).toInt = 0 from rfl] at a'
      rw [Int32.lt_iff_toInt_lt] at b'
      simp only [Int32.toNatClampNeg]; omega
    by_cases u : (own_h z x).toNatClampNeg ≤ j
    · refine ⟨j - (own_h z x).toNatClampNeg, Nat.zero_le _, by omega, ?_⟩
      unfold own_ix
      rw [show (own_h z x).toNatClampNeg + (j - (own_h z x).toNatClampNeg) = j by omega, Nat.mod_eq_of_lt hj]; exact hg
    · refine ⟨j + z.toNatClampNeg - (own_h z x).toNatClampNeg, Nat.zero_le _, by omega, ?_⟩
      unfold own_ix
      rw [show (own_h z x).toNatClampNeg + (j + z.toNatClampNeg - (own_h z x).toNatClampNeg) = j + z.toNatClampNeg by omega, Nat.add_mod_right, Nat.mod_eq_of_lt hj]; exact hg
theorem own_look1 {g : Nat → Int32} {z x : Int32} {k : Nat} {i : Int32} (hz : own_size z) (h : own_look g z x k i) (c1 : ¬ g i.toNatClampNeg = 0) (c2 : ¬ g i.toNatClampNeg = x + 1) : k - 1 < k ∧ own_look g z x (k - 1) ((i + 1) &&& (z - 1)) := by
  obtain ⟨a, b, n, e, hm, d, d1, d2, d3⟩ := h
  obtain ⟨z1, z2, z3⟩ := own_zn hz
  have hd : d ≠ n := fun q => c1 (by rw [e, ← q]; exact d3)
  refine ⟨by omega, (own_mask hz _).1, (own_mask hz _).2.1, n + 1, ?_, ?_, d, by omega, by omega, d3⟩
  · have m := (own_mask hz (i + 1)).2.2
    have s := c_iadd i 1
    have r1 := rng32 i; have r2 := rng32 (i + 1)
    rw [Int32.lt_iff_toInt_lt, show (0 : Int32).toInt = 0 from rfl] at a
    rw [Int32.lt_iff_toInt_lt] at b
    rw [show (1 : Int32).toInt = 1 from rfl] at s
    have s' : (i + 1).toInt = i.toInt + 1 := by omega
    rw [s', z3] at m
    have e' : (i.toInt : Int) = (own_ix z x n : Nat) := by rw [← e]; simp only [Int32.toNatClampNeg]; omega
    rw [e'] at m
    have f : own_ix z x (n + 1) = (own_ix z x n + 1) % z.toNatClampNeg := by unfold own_ix; rw [Nat.mod_add_mod]; rfl
    rw [f]
    rw [show (((own_ix z x n : Nat) : Int) + 1) % (z.toNatClampNeg : Int) = (((own_ix z x n + 1) % z.toNatClampNeg : Nat) : Int) by rw [Int.natCast_emod]; rfl] at m
    show ((i + 1) &&& (z - 1)).toInt.toNat = _
    rw [m]; exact Int.toNat_natCast _
  · intro m hm'
    by_cases u : m = n
    · subst u; rw [← e]; exact ⟨c1, c2⟩
    · exact hm m (by omega)
theorem own_found {g : Nat → Int32} {z x : Int32} {k : Nat} {i : Int32} (h : own_look g z x k i) (c : g i.toNatClampNeg = 0 ∨ g i.toNatClampNeg = x + 1) : own_probe g z x i := by
  obtain ⟨a, b, n, e, hm, -⟩ := h
  exact ⟨a, b, n, e, c, hm⟩
/-- the numbers of S lie in the table, each where its search ends; nothing else does -/
def own_inv (g : Nat → Int32) (z : Int32) (S : List Int32) : Prop :=
  (∀ y, y ∈ S → y + 1 ≠ 0 ∧ ∃ n, g (own_ix z y n) = y + 1 ∧ ∀ m, m < n → g (own_ix z y m) ≠ 0 ∧ g (own_ix z y m) ≠ y + 1) ∧ (∀ j, g j ≠ 0 → ∃ y, y ∈ S ∧ g j = y + 1) ∧ ∃ l : List Nat, l.length = S.length ∧ ∀ j, g j ≠ 0 → j ∈ l
theorem own_pig : ∀ (n : Nat) (l : List Nat), l.length < n → ∃ j, j < n ∧ j ∉ l
  | 0, l, h => absurd h (Nat.not_lt_zero _)
  | n + 1, l, h => by
    by_cases u : n ∈ l
    · obtain ⟨j, hj, hn⟩ := own_pig n (l.erase n) (by rw [List.length_erase_of_mem u]; have := List.length_pos_of_mem u; omega)
      exact ⟨j, by omega, fun q => hn ((List.mem_erase_of_ne (by omega)).mpr q)⟩
    · exact ⟨n, Nat.lt_succ_self _, u⟩
theorem own_room {g : Nat → Int32} {z : Int32} {S : List Int32} (hz : own_size z) (h : own_inv g z S) (hl : S.length ≤ 3) : ∃ j, j < z.toNatClampNeg ∧ g j = 0 := by
  obtain ⟨-, -, l, e, hj⟩ := h
  obtain ⟨z1, -, -⟩ := own_zn hz
  obtain ⟨j, h1, h2⟩ := own_pig z.toNatClampNeg l (by omega)
  exact ⟨j, h1, Classical.byContradiction fun q => h2 (hj j q)⟩
theorem own_inv0 (z : Int32) : own_inv (fun _ => 0) z [] := ⟨fun y h => by simp at h, fun j h => absurd rfl h, [], rfl, fun j h => absurd rfl h⟩
theorem own_p1 {x y : Int32} (h : x + 1 = y + 1) : x = y := by
  have a := c_iadd x 1; have b := c_iadd y 1
  rw [h] at a
  have r1 := rng32 x; have r2 := rng32 y
  exact Int32.toInt_inj.mp (by omega)
theorem own_in {g : Nat → Int32} {z x s : Int32} {S : List Int32} (h : own_inv g z S) (hp : own_probe g z x s) (hx : x ∈ S) : g s.toNatClampNeg = x + 1 := by
  obtain ⟨-, n, h1, h2⟩ := h.1 x hx
  obtain ⟨-, -, k, e, h3, h4⟩ := hp
  have : n = k := by
    rcases Nat.lt_trichotomy n k with q | q | q
    · exact absurd h1 (h4 n q).2
    · exact q
    · rw [e] at h3; rcases h3 with h3 | h3
      · exact absurd h3 (h2 k q).1
      · exact absurd h3 (h2 k q).2
  rw [e, ← this]; exact h1
theorem own_out0 {g : Nat → Int32} {z x s : Int32} {S : List Int32} (h : own_inv g z S) (hp : own_probe g z x s) (hx : x ∉ S) : g s.toNatClampNeg = 0 := by
  obtain ⟨-, -, k, e, h3, h4⟩ := hp
  rcases h3 with h3 | h3
  · exact h3
  · by_cases u : g s.toNatClampNeg = 0
    · exact u
    · obtain ⟨y, hy, q⟩ := h.2.1 _ u
      rw [h3] at q
      exact absurd (own_p1 q ▸ hy) hx
theorem own_add {g : Nat → Int32} {z x s : Int32} {S : List Int32} (h : own_inv g z S) (hp : own_probe g z x s) (hx : x ∉ S) (hx0 : x + 1 ≠ 0) : own_inv (own_updI g s.toNatClampNeg (x + 1)) z (x :: S) := by
  have h0 := own_out0 h hp hx
  obtain ⟨a, b, k, e, h3, h4⟩ := hp
  have keep : ∀ j, g j ≠ 0 → own_updI g s.toNatClampNeg (x + 1) j = g j := fun j hj => if_neg fun (q : j = s.toNatClampNeg) => hj (by rw [q]; exact h0)
  have hit : own_updI g s.toNatClampNeg (x + 1) s.toNatClampNeg = x + 1 := if_pos rfl
  refine ⟨fun y hy => ?_, fun j hj => ?_, ?_⟩
  · rcases List.mem_cons.mp hy with rfl | hy
    · refine ⟨hx0, k, by rw [← e]; exact hit, fun m hm => ?_⟩
      rw [keep _ (h4 m hm).1]; exact h4 m hm
    · obtain ⟨y0, n, h1, h2⟩ := h.1 y hy
      exact ⟨y0, n, by rw [keep _ (by rw [h1]; exact y0)]; exact h1, fun m hm => by rw [keep _ (h2 m hm).1]; exact h2 m hm⟩
  · by_cases u : j = s.toNatClampNeg
    · subst u; exact ⟨x, List.mem_cons_self .., hit⟩
    · rw [show own_updI g s.toNatClampNeg (x + 1) j = g j from if_neg u] at hj ⊢
      obtain ⟨y, h1, h2⟩ := h.2.1 j hj
      exact ⟨y, List.mem_cons_of_mem _ h1, h2⟩
  · obtain ⟨l, h1, h2⟩ := h.2.2
    refine ⟨s.toNatClampNeg :: l, by simp [h1], fun j hj => ?_⟩
    by_cases u : j = s.toNatClampNeg
    · subst u; exact List.mem_cons_self ..
    · rw [show own_updI g s.toNatClampNeg (x + 1) j = g j from if_neg u] at hj
      exact List.mem_cons_of_mem _ (h2 j hj)
theorem own_nz {x : Int32} (h : 0 ≤ x.toInt) : x + 1 ≠ 0 := fun q => by
  have a := c_iadd x 1
  have r := rng32 x
  rw [q, show (0 : Int32).toInt = 0 from rfl, show (1 : Int32).toInt = 1 from rfl] at a
  omega
/-- one step of the law: r its answer, s the place, g' the table behind it -/
def own_stepR (g : Nat → Int32) (z x pr wr r s : Int32) (g' : Nat → Int32) : Prop :=
  own_probe g z x s ∧ r = (if pr = 0 then (if g s.toNatClampNeg = 0 then (1 : Int32) else 0) else (if g s.toNatClampNeg = x + 1 then (1 : Int32) else 0)) ∧ g' = (if pr = 0 ∧ g s.toNatClampNeg = 0 ∧ ¬ wr = 0 then own_updI g s.toNatClampNeg (x + 1) else g)
theorem own_callW {g g' : Nat → Int32} {z x pr r s : Int32} {S : List Int32} (hi : own_inv g z S) (h : own_stepR g z x pr 1 r s g') (hx0 : x + 1 ≠ 0) (hpr : (x ∈ S → pr ≠ 0) ∧ (x ∉ S → pr = 0)) : r = 1 ∧ ∃ S', own_inv g' z S' ∧ S'.length ≤ S.length + 1 ∧ ∀ y, y ∈ S' ↔ y = x ∨ y ∈ S := by
  obtain ⟨hp, hr, hg⟩ := h
  by_cases u : x ∈ S
  · have e := own_in hi hp u
    rw [if_neg (hpr.1 u), if_pos e] at hr
    rw [if_neg (fun q => hpr.1 u q.1)] at hg
    subst hg
    exact ⟨hr, S, hi, Nat.le_succ _, fun y => ⟨Or.inr, fun q => q.elim (fun w => w ▸ u) id⟩⟩
  · have e := own_out0 hi hp u
    rw [if_pos (hpr.2 u), if_pos e] at hr
    rw [if_pos ⟨hpr.2 u, e, by decide⟩] at hg
    subst hg
    exact ⟨hr, x :: S, own_add hi hp u hx0, by simp, fun y => List.mem_cons⟩
theorem own_callR {g g' : Nat → Int32} {z x pr r s : Int32} {S : List Int32} (hi : own_inv g z S) (h : own_stepR g z x pr 0 r s g') (hpr : (x ∈ S → pr ≠ 0) ∧ (x ∉ S → pr = 0)) : r = 1 ∧ own_inv g' z S := by
  obtain ⟨hp, hr, hg⟩ := h
  rw [if_neg (fun q => q.2.2 rfl)] at hg
  subst hg
  refine ⟨?_, hi⟩
  by_cases u : x ∈ S
  · rw [if_neg (hpr.1 u), if_pos (own_in hi hp u)] at hr; exact hr
  · rw [if_pos (hpr.2 u), if_pos (own_out0 hi hp u)] at hr; exact hr
theorem own_pr1 {A : Prop} [Decidable A] {p x : Int32} {S : List Int32} (hp : p = (if A then (1 : Int32) else (0 : Int32))) (hm : x ∈ S ↔ A) : (x ∈ S → p ≠ 0) ∧ (x ∉ S → p = 0) :=
  ⟨fun q => by rw [hp, if_pos (hm.mp q)]; decide, fun q => by rw [hp, if_neg (fun r => q (hm.mpr r))]⟩
theorem own_pr2 {A B : Prop} [Decidable A] [Decidable B] {p x : Int32} {S : List Int32} (hp : p = (if A then (1 : Int32) else (if B then (1 : Int32) else (0 : Int32)))) (hm : x ∈ S ↔ A ∨ B) : (x ∈ S → p ≠ 0) ∧ (x ∉ S → p = 0) := by
  refine own_pr1 (A := A ∨ B) (hp.trans ?_) hm
  by_cases a : A <;> by_cases b : B <;> simp [a, b]
theorem own_pr3 {A B C : Prop} [Decidable A] [Decidable B] [Decidable C] {p x : Int32} {S : List Int32} (hp : p = (if A then (1 : Int32) else (if B then (1 : Int32) else (if C then (1 : Int32) else (0 : Int32))))) (hm : x ∈ S ↔ A ∨ B ∨ C) : (x ∈ S → p ≠ 0) ∧ (x ∉ S → p = 0) := by
  refine own_pr1 (A := A ∨ B ∨ C) (hp.trans ?_) hm
  by_cases a : A <;> by_cases b : B <;> by_cases c : C <;> simp [a, b, c]
theorem own_nzm {x v : Int32} (h : (x &&& (2147483647 : Int32)) = v) : v + 1 ≠ 0 := by
  have e := c_mask x 2147483647 31 (by decide) (by decide)
  rw [h] at e
  exact own_nz (by omega)
theorem own_len {x v : Int32} (h : ((4 : Int32) <<< ((x &&& (1 : Int32)) &&& 31)) = v) : v = 4 ∨ v = 8 := by
  have e := c_mask x 1 1 (by decide) (by decide)
  have q : (x &&& 1) = 0 ∨ (x &&& 1) = 1 := by
    rw [← Int32.toInt_inj, ← Int32.toInt_inj, e, show (0 : Int32).toInt = 0 from rfl, show (1 : Int32).toInt = 1 from rfl]; omega
  rw [← h]
  rcases q with q | q <;> rw [q]
  · exact Or.inl (by decide)
  · exact Or.inr (by decide)
theorem d1_0 : decode prog_43_method_2_code 0 = .ok (.aload_n 0, 1) := by decide +kernel
theorem d1_1 : decode prog_43_method_2_code 1 = .ok (.arraylength, 1) := by decide +kernel
theorem d1_2 : decode prog_43_method_2_code 2 = .ok (.iconst 1, 1) := by decide +kernel
theorem d1_3 : decode prog_43_method_2_code 3 = .ok (.isub, 1) := by decide +kernel
theorem d1_4 : decode prog_43_method_2_code 4 = .ok (.istore_n 2, 1) := by decide +kernel
theorem d1_5 : decode prog_43_method_2_code 5 = .ok (.iload_n 1, 1) := by decide +kernel
theorem d1_6 : decode prog_43_method_2_code 6 = .ok (.ldc 7, 2) := by decide +kernel
theorem d1_8 : decode prog_43_method_2_code 8 = .ok (.imul, 1) := by decide +kernel
theorem d1_9 : decode prog_43_method_2_code 9 = .ok (.istore_n 3, 1) := by decide +kernel
theorem d1_10 : decode prog_43_method_2_code 10 = .ok (.iload_n 3, 1) := by decide +kernel
theorem d1_11 : decode prog_43_method_2_code 11 = .ok (.iload_n 3, 1) := by decide +kernel
theorem d1_12 : decode prog_43_method_2_code 12 = .ok (.bipush 16, 2) := by decide +kernel
theorem d1_14 : decode prog_43_method_2_code 14 = .ok (.iushr, 1) := by decide +kernel
theorem d1_15 : decode prog_43_method_2_code 15 = .ok (.ixor, 1) := by decide +kernel
theorem d1_16 : decode prog_43_method_2_code 16 = .ok (.iload_n 2, 1) := by decide +kernel
theorem d1_17 : decode prog_43_method_2_code 17 = .ok (.iand, 1) := by decide +kernel
theorem d1_18 : decode prog_43_method_2_code 18 = .ok (.istore 4, 2) := by decide +kernel
theorem d1_20 : decode prog_43_method_2_code 20 = .ok (.aload_n 0, 1) := by decide +kernel
theorem d1_21 : decode prog_43_method_2_code 21 = .ok (.iload 4, 2) := by decide +kernel
theorem d1_23 : decode prog_43_method_2_code 23 = .ok (.iaload, 1) := by decide +kernel
theorem d1_24 : decode prog_43_method_2_code 24 = .ok (.ifCond .eq 24, 3) := by decide +kernel
theorem d1_27 : decode prog_43_method_2_code 27 = .ok (.aload_n 0, 1) := by decide +kernel
theorem d1_28 : decode prog_43_method_2_code 28 = .ok (.iload 4, 2) := by decide +kernel
theorem d1_30 : decode prog_43_method_2_code 30 = .ok (.iaload, 1) := by decide +kernel
theorem d1_31 : decode prog_43_method_2_code 31 = .ok (.iload_n 1, 1) := by decide +kernel
theorem d1_32 : decode prog_43_method_2_code 32 = .ok (.iconst 1, 1) := by decide +kernel
theorem d1_33 : decode prog_43_method_2_code 33 = .ok (.iadd, 1) := by decide +kernel
theorem d1_34 : decode prog_43_method_2_code 34 = .ok (.if_icmp .eq 14, 3) := by decide +kernel
theorem d1_37 : decode prog_43_method_2_code 37 = .ok (.iload 4, 2) := by decide +kernel
theorem d1_39 : decode prog_43_method_2_code 39 = .ok (.iconst 1, 1) := by decide +kernel
theorem d1_40 : decode prog_43_method_2_code 40 = .ok (.iadd, 1) := by decide +kernel
theorem d1_41 : decode prog_43_method_2_code 41 = .ok (.iload_n 2, 1) := by decide +kernel
theorem d1_42 : decode prog_43_method_2_code 42 = .ok (.iand, 1) := by decide +kernel
theorem d1_43 : decode prog_43_method_2_code 43 = .ok (.istore 4, 2) := by decide +kernel
theorem d1_45 : decode prog_43_method_2_code 45 = .ok (.goto (-25), 3) := by decide +kernel
theorem d1_48 : decode prog_43_method_2_code 48 = .ok (.iload 4, 2) := by decide +kernel
theorem d1_50 : decode prog_43_method_2_code 50 = .ok (.ireturn, 1) := by decide +kernel
theorem own_pn1 : plainName "com/example/premise/premise/store/NumberSlots" = true := by first | (simp [plainName, overriddenIn]; done) | decide +kernel
theorem own_ef1 (m : MethodId) (ar : Addr) (nn : Int32) : entryFrame m #[(.ref ar), (.int nn)] 5 = mkF m 0 #[.val (.ref ar), .val (.int nn), .unset, .unset, .unset] [] := by first | (simp [entryFrame, mkF, argsToLocals, Value.category]; done) | rfl
def Q1 (Z : State) (ar : Addr) (nn : Int32) (kc : ClassId) (z : Int32) (gf : Nat → Int32) (h0 : Heap) (n0 : Nat) (v : Option Value) (h : Heap) (L : List Loc) : Prop := ∃ (r : Int32), v = some (.int r) ∧ Fr n0 L ∧ h = h0 ∧ own_probe gf z nn r
set_option maxRecDepth 65536 in
set_option maxHeartbeats 4000000 in
theorem rm1 (l : Launch) (Z : State) (a0 : Array Value) (hw : ∀ d ∈ tables_1, d.before a0 Z = true) (ws : List Jvm.Cond) (ar : Addr) (nn : Int32) (kc : ClassId) (z : Int32) (gf : Nat → Int32) (h0 : Heap) (n0 : Nat) (Z0 : n0 ≤ h0.size) (F0 : own_AI Z h0 ar kc z gf) (hz : own_size z) (hs : ∃ j, j < z.toNatClampNeg ∧ gf j = 0) :
    MetFree l (⟨"com/example/premise/premise/store/NumberSlots", "slot", "([II)I"⟩ : MethodName) (head1 (Jvm.Cond.code (⟨"com/example/premise/premise/store/NumberSlots", "slot", "([II)I"⟩ : MethodName) prog_43_method_2_code 5 (some .int) :: ws) ({ frames := 0, cells := 0, slots := 0, locals := 0 } : Room)) (fun aW U => aW = #[(.ref ar), (.int nn)] ∧ Z.Warmed39 U.vm ∧ U.heap = h0) (fun _ _ _ _ _ => True) (fun _ U o U' => ∃ v L, o = .returned v ∧ Q1 Z ar nn kc z gf h0 n0 v U'.heap L ∧ FrameEnd U o U' L ({ frames := 0, cells := 0, slots := 0, locals := 0 } : Room).cells ({ frames := 0, cells := 0, slots := 0, locals := 0 } : Room).slots) := by
  refine MetFree.of_bodySF (plainFor_of_name own_pn1) hisR ?_
  intro p e s m args below meth c s₁ Bd hml0 hP hK
  obtain ⟨rfl, hZ, hh⟩ := hP
  have hx := Bd.exec
  have hby := Bd.bytes
  have hml : c.maxLocals = 5 := hml0
  have hown : s.vm.findClass "com/example/premise/premise/store/NumberSlots" = some m.cls := findClass_of_methodNamed Bd.named
  have hnm := (name_of_methodNamed Bd.named Bd.method).1
  have X0 : Stand p l e ({ frames := 0, cells := 0, slots := 0, locals := 0 } : Room) s m #[(.ref ar), (.int nn)] below meth c s₁ [] 0 0 := Stand.of_body Bd
  have e0 : s₁.heap = h0 := by rw [← hh, Bd.state]; rfl
  have N0 := Fr.nil n0
  obtain ⟨Pq, hPq⟩ : ∃ P, P = own_P s below (fun v h L => Q1 Z ar nn kc z gf h0 n0 v h L) ({ frames := 0, cells := 0, slots := 0, locals := 0 } : Room).cells ({ frames := 0, cells := 0, slots := 0, locals := 0 } : Room).slots := ⟨_, rfl⟩
  suffices hgo : own_Go p.tables e below Pq s₁ (mkF m 0 #[.val (.ref ar), .val (.int nn), .unset, .unset, .unset] []) by
    subst hPq
    obtain ⟨t, k1, k2, o, k3, k4⟩ := hgo
    exact ⟨t, o, castTop (own_ef1 m ar nn) k1, k2, k3, k4⟩
  show own_Go _ _ _ _ s₁ (mkF m 0 #[.val (.ref ar), .val (.int nn), .unset, .unset, .unset] [])
  refine own_st (fun t k => XS.aloadN X0.here hx rfl (hb hby d1_0) rfl rfl k) ?_
  show own_Go _ _ _ _ s₁ (mkF m 1 _ [(.ref ar)])
  obtain ⟨c1, Ar1, q1, S1, N1, H1⟩ := id F0
  refine own_st (fun t k => X0.arraylength hx (by rw [e0]; exact Ar1.1) (State.isArrayOf_alike hZ.alike Ar1.2.1) (g := (mkF m 1 #[.val (.ref ar), .val (.int nn), .unset, .unset, .unset] [(.ref ar)])) rfl rfl (hb hby d1_1) _ k) ?_
  rw [len_of S1 N1]
  show own_Go _ _ _ _ s₁ (mkF m 2 _ [(.int z)])
  refine own_st (fun t k => XS.iconst X0.here hx rfl (hb hby d1_2) k) ?_
  show own_Go _ _ _ _ s₁ (mkF m 3 _ [(.int (1 : Int32)), (.int z)])
  refine own_st (fun t k => XS.isub X0.here hx rfl (hb hby d1_3) rfl k) ?_
  show own_Go _ _ _ _ s₁ (mkF m 4 _ [(.int (z - (1 : Int32)))])
  refine own_st (fun t k => XS.istoreN X0.here hx rfl (hb hby d1_4) rfl (l' := #[.val (.ref ar), .val (.int nn), .val (.int (z - (1 : Int32))), .unset, .unset]) rfl k) ?_
  show own_Go _ _ _ _ s₁ (mkF m 5 #[.val (.ref ar), .val (.int nn), .val (.int (z - (1 : Int32))), .unset, .unset] [])
  refine own_st (fun t k => XS.iloadN X0.here hx rfl (hb hby d1_5) rfl k) ?_
  show own_Go _ _ _ _ s₁ (mkF m 6 _ [(.int nn)])
  refine own_st (fun t k => X0.ldcInt hx hown (mvT hZ (hw _ (List.mem_of_getElem? (i := 10) rfl))) (g := (mkF m 6 #[.val (.ref ar), .val (.int nn), .val (.int (z - (1 : Int32))), .unset, .unset] [(.int nn)])) rfl (hb hby d1_6) _ k) ?_
  show own_Go _ _ _ _ s₁ (mkF m 8 _ [(.int (-1640531527 : Int32)), (.int nn)])
  refine own_st (fun t k => XS.imul X0.here hx rfl (hb hby d1_8) rfl k) ?_
  show own_Go _ _ _ _ s₁ (mkF m 9 _ [(.int (nn * (-1640531527 : Int32)))])
  refine own_st (fun t k => XS.istoreN X0.here hx rfl (hb hby d1_9) rfl (l' := #[.val (.ref ar), .val (.int nn), .val (.int (z - (1 : Int32))), .val (.int (nn * (-1640531527 : Int32))), .unset]) rfl k) ?_
  show own_Go _ _ _ _ s₁ (mkF m 10 #[.val (.ref ar), .val (.int nn), .val (.int (z - (1 : Int32))), .val (.int (nn * (-1640531527 : Int32))), .unset] [])
  refine own_st (fun t k => XS.iloadN X0.here hx rfl (hb hby d1_10) rfl k) ?_
  show own_Go _ _ _ _ s₁ (mkF m 11 _ [(.int (nn * (-1640531527 : Int32)))])
  refine own_st (fun t k => XS.iloadN X0.here hx rfl (hb hby d1_11) rfl k) ?_
  show own_Go _ _ _ _ s₁ (mkF m 12 _ [(.int (nn * (-1640531527 : Int32))), (.int (nn * (-1640531527 : Int32)))])
  refine own_st (fun t k => XS.bipush X0.here hx rfl (hb hby d1_12) k) ?_
  show own_Go _ _ _ _ s₁ (mkF m 14 _ [(.int (16 : Int32)), (.int (nn * (-1640531527 : Int32))), (.int (nn * (-1640531527 : Int32)))])
  refine own_st (fun t k => XS.iushr X0.here hx rfl (hb hby d1_14) rfl k) ?_
  show own_Go _ _ _ _ s₁ (mkF m 15 _ [(.int (((nn * (-1640531527 : Int32)).toUInt32 >>> ((16 : Int32) &&& 31).toUInt32).toInt32)), (.int (nn * (-1640531527 : Int32)))])
  refine own_st (fun t k => XS.ixor X0.here hx rfl (hb hby d1_15) rfl k) ?_
  show own_Go _ _ _ _ s₁ (mkF m 16 _ [(.int ((nn * (-1640531527 : Int32)) ^^^ (((nn * (-1640531527 : Int32)).toUInt32 >>> ((16 : Int32) &&& 31).toUInt32).toInt32)))])
  refine own_st (fun t k => XS.iloadN X0.here hx rfl (hb hby d1_16) rfl k) ?_
  show own_Go _ _ _ _ s₁ (mkF m 17 _ [(.int (z - (1 : Int32))), (.int ((nn * (-1640531527 : Int32)) ^^^ (((nn * (-1640531527 : Int32)).toUInt32 >>> ((16 : Int32) &&& 31).toUInt32).toInt32)))])
  refine own_st (fun t k => XS.iand X0.here hx rfl (hb hby d1_17) rfl k) ?_
  show own_Go _ _ _ _ s₁ (mkF m 18 _ [(.int (((nn * (-1640531527 : Int32)) ^^^ (((nn * (-1640531527 : Int32)).toUInt32 >>> ((16 : Int32) &&& 31).toUInt32).toInt32)) &&& (z - (1 : Int32))))])
  refine own_st (fun t k => XS.istore X0.here hx rfl (hb hby d1_18) rfl (l' := #[.val (.ref ar), .val (.int nn), .val (.int (z - (1 : Int32))), .val (.int (nn * (-1640531527 : Int32))), .val (.int (((nn * (-1640531527 : Int32)) ^^^ (((nn * (-1640531527 : Int32)).toUInt32 >>> ((16 : Int32) &&& 31).toUInt32).toInt32)) &&& (z - (1 : Int32))))]) rfl k) ?_
  show own_Go _ _ _ _ s₁ (mkF m 20 #[.val (.ref ar), .val (.int nn), .val (.int (z - (1 : Int32))), .val (.int (nn * (-1640531527 : Int32))), .val (.int (((nn * (-1640531527 : Int32)) ^^^ (((nn * (-1640531527 : Int32)).toUInt32 >>> ((16 : Int32) &&& 31).toUInt32).toInt32)) &&& (z - (1 : Int32))))] [])
  have Lp : ∀ (kk : Nat) (Tl : State) (Ll : List Loc) (i : Int32), Stand p l e ({ frames := 0, cells := 0, slots := 0, locals := 0 } : Room) s m #[(.ref ar), (.int nn)] below meth c Tl Ll 0 0 → Tl.heap = h0 → Fr n0 Ll → own_look gf z nn kk i → own_Go p.tables e below Pq Tl (mkF m 20 #[.val (.ref ar), .val (.int nn), .val (.int (z - (1 : Int32))), .val (.int (nn * (-1640531527 : Int32))), .val (.int i)] []) := by
    intro kk
    induction kk using Nat.strongRecOn with
    | _ kk ih =>
      intro Tl Ll i Xl el Nl Iv
      show own_Go _ _ _ _ Tl (mkF m 20 #[.val (.ref ar), .val (.int nn), .val (.int (z - (1 : Int32))), .val (.int (nn * (-1640531527 : Int32))), .val (.int i)] [])
      refine own_st (fun t k => XS.aloadN Xl.here hx rfl (hb hby d1_20) rfl rfl k) ?_
      show own_Go _ _ _ _ Tl (mkF m 21 _ [(.ref ar)])
      refine own_st (fun t k => XS.iload Xl.here hx rfl (hb hby d1_21) rfl k) ?_
      show own_Go _ _ _ _ Tl (mkF m 23 _ [(.int i), (.ref ar)])
      obtain ⟨c2, Ar2, q2, S2, N2, H2⟩ := id F0
      refine own_st (fun t k => Xl.iaload hx (j := i) (v := (.int (gf i.toNatClampNeg))) (by rw [el]; exact Ar2.1) (State.isArrayOf_alike hZ.alike Ar2.2.1) Ar2.2.2 (inb_of S2 ⟨Iv.1, Iv.2.1⟩) (H2 _ (own_lt (inb_of S2 ⟨Iv.1, Iv.2.1⟩))) (g := (mkF m 23 #[.val (.ref ar), .val (.int nn), .val (.int (z - (1 : Int32))), .val (.int (nn * (-1640531527 : Int32))), .val (.int i)] [(.int i), (.ref ar)])) rfl rfl (hb hby d1_23) _ k) ?_
      show own_Go _ _ _ _ Tl (mkF m 24 _ [(.int (gf i.toNatClampNeg))])
      by_cases c3 : (gf i.toNatClampNeg) = (0 : Int32)
      · skip
        refine own_st (fun t k => XS.ifYes Xl.here hx rfl (pc0 := 24) (pc' := 48) rfl (hb hby d1_24) rfl ((if0 _ _).trans (teq c3).1) (by decide) (by decide) k) ?_
        show own_Go _ _ _ _ Tl (mkF m 48 _ [])
        refine own_st (fun t k => XS.iload Xl.here hx rfl (hb hby d1_48) rfl k) ?_
        show own_Go _ _ _ _ Tl (mkF m 50 _ [(.int i)])
        subst hPq
        refine own_out Xl (v := some (.int i)) (fun h => by rw [Bd.returns] at h; cases h) Bd.notSynchronized (own_retI Xl hx Bd.returns (hb hby d1_50)) (by decide) (by decide) ?_
        show Q1 Z ar nn kc z gf h0 n0 _ Tl.heap _
        rw [el]
        exact ⟨i, rfl, Nl, rfl, own_found Iv (Or.inl c3)⟩
      · skip
        refine own_st (fun t k => XS.ifNo Xl.here hx rfl (hb hby d1_24) rfl ((if0 _ _).trans (feq c3).1) k) ?_
        show own_Go _ _ _ _ Tl (mkF m 27 _ [])
        refine own_st (fun t k => XS.aloadN Xl.here hx rfl (hb hby d1_27) rfl rfl k) ?_
        show own_Go _ _ _ _ Tl (mkF m 28 _ [(.ref ar)])
        refine own_st (fun t k => XS.iload Xl.here hx rfl (hb hby d1_28) rfl k) ?_
        show own_Go _ _ _ _ Tl (mkF m 30 _ [(.int i), (.ref ar)])
        obtain ⟨c4, Ar4, q4, S4, N4, H4⟩ := id F0
        refine own_st (fun t k => Xl.iaload hx (j := i) (v := (.int (gf i.toNatClampNeg))) (by rw [el]; exact Ar4.1) (State.isArrayOf_alike hZ.alike Ar4.2.1) Ar4.2.2 (inb_of S4 ⟨Iv.1, Iv.2.1⟩) (H4 _ (own_lt (inb_of S4 ⟨Iv.1, Iv.2.1⟩))) (g := (mkF m 30 #[.val (.ref ar), .val (.int nn), .val (.int (z - (1 : Int32))), .val (.int (nn * (-1640531527 : Int32))), .val (.int i)] [(.int i), (.ref ar)])) rfl rfl (hb hby d1_30) _ k) ?_
        show own_Go _ _ _ _ Tl (mkF m 31 _ [(.int (gf i.toNatClampNeg))])
        refine own_st (fun t k => XS.iloadN Xl.here hx rfl (hb hby d1_31) rfl k) ?_
        show own_Go _ _ _ _ Tl (mkF m 32 _ [(.int nn), (.int (gf i.toNatClampNeg))])
        refine own_st (fun t k => XS.iconst Xl.here hx rfl (hb hby d1_32) k) ?_
        show own_Go _ _ _ _ Tl (mkF m 33 _ [(.int (1 : Int32)), (.int nn), (.int (gf i.toNatClampNeg))])
        refine own_st (fun t k => XS.iadd Xl.here hx rfl (hb hby d1_33) rfl k) ?_
        show own_Go _ _ _ _ Tl (mkF m 34 _ [(.int (nn + (1 : Int32))), (.int (gf i.toNatClampNeg))])
        by_cases c5 : (gf i.toNatClampNeg) = (nn + (1 : Int32))
        · skip
          refine own_st (fun t k => XS.icmpYes Xl.here hx rfl (pc0 := 34) (pc' := 48) rfl (hb hby d1_34) rfl (teq c5).1 (by decide) (by decide) k) ?_
          show own_Go _ _ _ _ Tl (mkF m 48 _ [])
          refine own_st (fun t k => XS.iload Xl.here hx rfl (hb hby d1_48) rfl k) ?_
          show own_Go _ _ _ _ Tl (mkF m 50 _ [(.int i)])
          subst hPq
          refine own_out Xl (v := some (.int i)) (fun h => by rw [Bd.returns] at h; cases h) Bd.notSynchronized (own_retI Xl hx Bd.returns (hb hby d1_50)) (by decide) (by decide) ?_
          show Q1 Z ar nn kc z gf h0 n0 _ Tl.heap _
          rw [el]
          exact ⟨i, rfl, Nl, rfl, own_found Iv (Or.inr c5)⟩
        · skip
          refine own_st (fun t k => XS.icmpNo Xl.here hx rfl (hb hby d1_34) rfl (feq c5).1 k) ?_
          show own_Go _ _ _ _ Tl (mkF m 37 _ [])
          refine own_st (fun t k => XS.iload Xl.here hx rfl (hb hby d1_37) rfl k) ?_
          show own_Go _ _ _ _ Tl (mkF m 39 _ [(.int i)])
          refine own_st (fun t k => XS.iconst Xl.here hx rfl (hb hby d1_39) k) ?_
          show own_Go _ _ _ _ Tl (mkF m 40 _ [(.int (1 : Int32)), (.int i)])
          refine own_st (fun t k => XS.iadd Xl.here hx rfl (hb hby d1_40) rfl k) ?_
          show own_Go _ _ _ _ Tl (mkF m 41 _ [(.int (i + (1 : Int32)))])
          refine own_st (fun t k => XS.iloadN Xl.here hx rfl (hb hby d1_41) rfl k) ?_
          show own_Go _ _ _ _ Tl (mkF m 42 _ [(.int (z - (1 : Int32))), (.int (i + (1 : Int32)))])
          refine own_st (fun t k => XS.iand Xl.here hx rfl (hb hby d1_42) rfl k) ?_
          show own_Go _ _ _ _ Tl (mkF m 43 _ [(.int ((i + (1 : Int32)) &&& (z - (1 : Int32))))])
          refine own_st (fun t k => XS.istore Xl.here hx rfl (hb hby d1_43) rfl (l' := #[.val (.ref ar), .val (.int nn), .val (.int (z - (1 : Int32))), .val (.int (nn * (-1640531527 : Int32))), .val (.int ((i + (1 : Int32)) &&& (z - (1 : Int32))))]) rfl k) ?_
          show own_Go _ _ _ _ Tl (mkF m 45 #[.val (.ref ar), .val (.int nn), .val (.int (z - (1 : Int32))), .val (.int (nn * (-1640531527 : Int32))), .val (.int ((i + (1 : Int32)) &&& (z - (1 : Int32))))] [])
          refine own_st (fun t k => XS.goto Xl.here hx rfl (pc0 := 45) (pc' := 20) rfl (hb hby d1_45) (by decide) (by decide) k) ?_
          show own_Go _ _ _ _ Tl (mkF m 20 _ [])
          exact ih (kk - 1) (own_look1 hz Iv c3 c5).1 Tl _ _ Xl el Nl (own_look1 hz Iv c3 c5).2
  exact Lp 16 s₁ _ _ X0 e0 N0 (own_look0 hz hs)
theorem d2_0 : decode method_3_code 0 = .ok (.aload_n 0, 1) := by decide +kernel
theorem d2_1 : decode method_3_code 1 = .ok (.iload_n 1, 1) := by decide +kernel
theorem d2_2 : decode method_3_code 2 = .ok (.invokestatic 14, 3) := by decide +kernel
theorem d2_5 : decode method_3_code 5 = .ok (.istore 4, 2) := by decide +kernel
theorem d2_7 : decode method_3_code 7 = .ok (.iload 4, 2) := by decide +kernel
theorem d2_9 : decode method_3_code 9 = .ok (.ifCond .lt 10, 3) := by decide +kernel
theorem d2_12 : decode method_3_code 12 = .ok (.iload 4, 2) := by decide +kernel
theorem d2_14 : decode method_3_code 14 = .ok (.aload_n 0, 1) := by decide +kernel
theorem d2_15 : decode method_3_code 15 = .ok (.arraylength, 1) := by decide +kernel
theorem d2_16 : decode method_3_code 16 = .ok (.if_icmp .lt 5, 3) := by decide +kernel
theorem d2_21 : decode method_3_code 21 = .ok (.iload_n 2, 1) := by decide +kernel
theorem d2_22 : decode method_3_code 22 = .ok (.ifCond .eq 19, 3) := by decide +kernel
theorem d2_25 : decode method_3_code 25 = .ok (.aload_n 0, 1) := by decide +kernel
theorem d2_26 : decode method_3_code 26 = .ok (.iload 4, 2) := by decide +kernel
theorem d2_28 : decode method_3_code 28 = .ok (.iaload, 1) := by decide +kernel
theorem d2_29 : decode method_3_code 29 = .ok (.iload_n 1, 1) := by decide +kernel
theorem d2_30 : decode method_3_code 30 = .ok (.iconst 1, 1) := by decide +kernel
theorem d2_31 : decode method_3_code 31 = .ok (.iadd, 1) := by decide +kernel
theorem d2_32 : decode method_3_code 32 = .ok (.if_icmp .ne 7, 3) := by decide +kernel
theorem d2_35 : decode method_3_code 35 = .ok (.iconst 1, 1) := by decide +kernel
theorem d2_36 : decode method_3_code 36 = .ok (.goto 4, 3) := by decide +kernel
theorem d2_39 : decode method_3_code 39 = .ok (.iconst 0, 1) := by decide +kernel
theorem d2_40 : decode method_3_code 40 = .ok (.ireturn, 1) := by decide +kernel
theorem d2_41 : decode method_3_code 41 = .ok (.aload_n 0, 1) := by decide +kernel
theorem d2_42 : decode method_3_code 42 = .ok (.iload 4, 2) := by decide +kernel
theorem d2_44 : decode method_3_code 44 = .ok (.iaload, 1) := by decide +kernel
theorem d2_45 : decode method_3_code 45 = .ok (.ifCond .eq 5, 3) := by decide +kernel
theorem d2_48 : decode method_3_code 48 = .ok (.iconst 0, 1) := by decide +kernel
theorem d2_49 : decode method_3_code 49 = .ok (.ireturn, 1) := by decide +kernel
theorem d2_50 : decode method_3_code 50 = .ok (.iload_n 3, 1) := by decide +kernel
theorem d2_51 : decode method_3_code 51 = .ok (.ifCond .eq 10, 3) := by decide +kernel
theorem d2_54 : decode method_3_code 54 = .ok (.aload_n 0, 1) := by decide +kernel
theorem d2_55 : decode method_3_code 55 = .ok (.iload 4, 2) := by decide +kernel
theorem d2_57 : decode method_3_code 57 = .ok (.iload_n 1, 1) := by decide +kernel
theorem d2_58 : decode method_3_code 58 = .ok (.iconst 1, 1) := by decide +kernel
theorem d2_59 : decode method_3_code 59 = .ok (.iadd, 1) := by decide +kernel
theorem d2_60 : decode method_3_code 60 = .ok (.iastore, 1) := by decide +kernel
theorem d2_61 : decode method_3_code 61 = .ok (.iconst 1, 1) := by decide +kernel
theorem d2_62 : decode method_3_code 62 = .ok (.ireturn, 1) := by decide +kernel
theorem own_pn2 : plainName "com/example/premise/premise/store/NumberSlotsSlotPinLaw" = true := by first | (simp [plainName, overriddenIn]; done) | decide +kernel
theorem own_ef2 (m : MethodId) (ar : Addr) (nn : Int32) (pr : Int32) (wr : Int32) : entryFrame m #[(.ref ar), (.int nn), (.int pr), (.int wr)] 5 = mkF m 0 #[.val (.ref ar), .val (.int nn), .val (.int pr), .val (.int wr), .unset] [] := by first | (simp [entryFrame, mkF, argsToLocals, Value.category]; done) | rfl
def Q2 (Z : State) (ar : Addr) (nn : Int32) (pr : Int32) (wr : Int32) (kc : ClassId) (z : Int32) (gf : Nat → Int32) (h0 : Heap) (n0 : Nat) (v : Option Value) (h : Heap) (L : List Loc) : Prop := ∃ (r : Int32) (sp : Int32) (g2 : Nat → Int32), v = some (.int r) ∧ Fr n0 L ∧ Keep h0 h [ar] ∧ own_AI Z h ar kc z g2 ∧ own_stepR gf z nn pr wr r sp g2
set_option maxRecDepth 65536 in
set_option maxHeartbeats 4000000 in
theorem rm2 (l : Launch) (Z : State) (a0 : Array Value) (hw : ∀ d ∈ tables_1, d.before a0 Z = true) (ws : List Jvm.Cond) (ar : Addr) (nn : Int32) (pr : Int32) (wr : Int32) (kc : ClassId) (z : Int32) (gf : Nat → Int32) (h0 : Heap) (n0 : Nat) (Z0 : n0 ≤ h0.size) (F0 : own_AI Z h0 ar kc z gf) (hz : own_size z) (hs : ∃ j, j < z.toNatClampNeg ∧ gf j = 0) (g_ar : n0 ≤ ar) :
    MetFree l (⟨"com/example/premise/premise/store/NumberSlotsSlotPinLaw", "step", "([IIZZ)Z"⟩ : MethodName) (head1 (Jvm.Cond.code (⟨"com/example/premise/premise/store/NumberSlotsSlotPinLaw", "step", "([IIZZ)Z"⟩ : MethodName) method_3_code 5 (some .boolean) :: ws) ({ frames := 1, cells := 0, slots := 0, locals := 16 } : Room)) (fun aW U => aW = #[(.ref ar), (.int nn), (.int pr), (.int wr)] ∧ Z.Warmed39 U.vm ∧ U.heap = h0) (fun _ _ _ _ _ => True) (fun _ U o U' => ∃ v L, o = .returned v ∧ Q2 Z ar nn pr wr kc z gf h0 n0 v U'.heap L ∧ FrameEnd U o U' L ({ frames := 1, cells := 0, slots := 0, locals := 16 } : Room).cells ({ frames := 1, cells := 0, slots := 0, locals := 16 } : Room).slots) := by
  refine MetFree.of_bodySF (plainFor_of_name own_pn2) hisR ?_
  intro p e s m args below meth c s₁ Bd hml0 hP hK
  obtain ⟨rfl, hZ, hh⟩ := hP
  have hx := Bd.exec
  have hby := Bd.bytes
  have hml : c.maxLocals = 5 := hml0
  have hown : s.vm.findClass "com/example/premise/premise/store/NumberSlotsSlotPinLaw" = some m.cls := findClass_of_methodNamed Bd.named
  have hnm := (name_of_methodNamed Bd.named Bd.method).1
  have X0 : Stand p l e ({ frames := 1, cells := 0, slots := 0, locals := 16 } : Room) s m #[(.ref ar), (.int nn), (.int pr), (.int wr)] below meth c s₁ [] 0 0 := Stand.of_body Bd
  have e0 : s₁.heap = h0 := by rw [← hh, Bd.state]; rfl
  have N0 := Fr.nil n0
  have K0 : Keep h0 h0 [ar] := Keep.refl _ _
  obtain ⟨Pq, hPq⟩ : ∃ P, P = own_P s below (fun v h L => Q2 Z ar nn pr wr kc z gf h0 n0 v h L) ({ frames := 1, cells := 0, slots := 0, locals := 16 } : Room).cells ({ frames := 1, cells := 0, slots := 0, locals := 16 } : Room).slots := ⟨_, rfl⟩
  suffices hgo : own_Go p.tables e below Pq s₁ (mkF m 0 #[.val (.ref ar), .val (.int nn), .val (.int pr), .val (.int wr), .unset] []) by
    subst hPq
    obtain ⟨t, k1, k2, o, k3, k4⟩ := hgo
    exact ⟨t, o, castTop (own_ef2 m ar nn pr wr) k1, k2, k3, k4⟩
  show own_Go _ _ _ _ s₁ (mkF m 0 #[.val (.ref ar), .val (.int nn), .val (.int pr), .val (.int wr), .unset] [])
  refine own_st (fun t k => XS.aloadN X0.here hx rfl (hb hby d2_0) rfl rfl k) ?_
  show own_Go _ _ _ _ s₁ (mkF m 1 _ [(.ref ar)])
  refine own_st (fun t k => XS.iloadN X0.here hx rfl (hb hby d2_1) rfl k) ?_
  show own_Go _ _ _ _ s₁ (mkF m 2 _ [(.int nn), (.ref ar)])
  obtain ⟨_, _, ⟨T1, L1, k1, n1⟩, -, X1, ⟨Lc1, hQ1, l1, y1, z1⟩, st1⟩ := Jvm.LawKit.callS X0 hx (y := (⟨"com/example/premise/premise/store/NumberSlots", "slot", "([II)I"⟩ : MethodName)) hown (mvT hZ (hw _ (List.mem_of_getElem? (i := 6) rfl))) (mvT hZ (hw _ (List.mem_of_getElem? (i := 7) rfl))) (mvT hZ (hw _ (List.mem_of_getElem? (i := 8) rfl))) (mvT hZ (hw _ (List.mem_of_getElem? (i := 9) rfl))) (by decide) (backOf (W := 0) (rm1 l Z a0 hw [] ar nn kc z gf h0 n0 Z0 F0 hz hs) hZ (hw _ (List.mem_of_getElem? (i := 9) rfl)) (hw _ (List.mem_of_getElem? (i := 8) rfl)) (by decide) (by decide)) (g := (mkF m 2 #[.val (.ref ar), .val (.int nn), .val (.int pr), .val (.int wr), .unset] [(.int nn), (.ref ar)])) rfl (by rw [hml]; rfl) (argsL := [(.ref ar), (.int nn)]) (rest := []) (lenOf own_pd___II_I rfl) rfl (by show 2 * 0 + _ ≤ _; exact Nat.le_of_eq rfl) (hb hby d2_2) (fun _ _ => ⟨rfl, e0, (by decide : 0 + 0 ≤ _), (by decide : 0 + 0 ≤ _)⟩)
  dsimp only [Pt.U, Pt.locs, Pt.cells, Pt.slots] at X1 l1 y1 z1 st1 hQ1
  subst l1 y1 z1
  obtain ⟨r1_r, rfl, NQ1, eq1, hq1_0⟩ := hQ1
  have N2 := Fr.app N0 NQ1
  refine own_st st1 ?_
  show own_Go _ _ _ _ T1 (mkF m 5 _ [(.int r1_r)])
  refine own_st (fun t k => XS.istore X1.here hx rfl (hb hby d2_5) rfl (l' := #[.val (.ref ar), .val (.int nn), .val (.int pr), .val (.int wr), .val (.int r1_r)]) rfl k) ?_
  show own_Go _ _ _ _ T1 (mkF m 7 #[.val (.ref ar), .val (.int nn), .val (.int pr), .val (.int wr), .val (.int r1_r)] [])
  refine own_st (fun t k => XS.iload X1.here hx rfl (hb hby d2_7) rfl k) ?_
  show own_Go _ _ _ _ T1 (mkF m 9 _ [(.int r1_r)])
  refine own_st (fun t k => XS.ifNo X1.here hx rfl (hb hby d2_9) rfl ((if0 _ _).trans (flt hq1_0.1).1) k) ?_
  show own_Go _ _ _ _ T1 (mkF m 12 _ [])
  refine own_st (fun t k => XS.iload X1.here hx rfl (hb hby d2_12) rfl k) ?_
  show own_Go _ _ _ _ T1 (mkF m 14 _ [(.int r1_r)])
  refine own_st (fun t k => XS.aloadN X1.here hx rfl (hb hby d2_14) rfl rfl k) ?_
  show own_Go _ _ _ _ T1 (mkF m 15 _ [(.ref ar), (.int r1_r)])
  obtain ⟨c3, Ar3, q3, S3, N3, H3⟩ := id F0
  refine own_st (fun t k => X1.arraylength hx (by rw [eq1]; exact Ar3.1) (State.isArrayOf_alike hZ.alike Ar3.2.1) (g := (mkF m 15 #[.val (.ref ar), .val (.int nn), .val (.int pr), .val (.int wr), .val (.int r1_r)] [(.ref ar), (.int r1_r)])) rfl rfl (hb hby d2_15) _ k) ?_
  rw [len_of S3 N3]
  show own_Go _ _ _ _ T1 (mkF m 16 _ [(.int z), (.int r1_r)])
  refine own_st (fun t k => XS.icmpYes X1.here hx rfl (pc0 := 16) (pc' := 21) rfl (hb hby d2_16) rfl (tlt hq1_0.2.1).1 (by decide) (by decide) k) ?_
  show own_Go _ _ _ _ T1 (mkF m 21 _ [])
  refine own_st (fun t k => XS.iloadN X1.here hx rfl (hb hby d2_21) rfl k) ?_
  show own_Go _ _ _ _ T1 (mkF m 22 _ [(.int pr)])
  by_cases c4 : pr = (0 : Int32)
  · skip
    refine own_st (fun t k => XS.ifYes X1.here hx rfl (pc0 := 22) (pc' := 41) rfl (hb hby d2_22) rfl ((if0 _ _).trans (teq c4).1) (by decide) (by decide) k) ?_
    show own_Go _ _ _ _ T1 (mkF m 41 _ [])
    refine own_st (fun t k => XS.aloadN X1.here hx rfl (hb hby d2_41) rfl rfl k) ?_
    show own_Go _ _ _ _ T1 (mkF m 42 _ [(.ref ar)])
    refine own_st (fun t k => XS.iload X1.here hx rfl (hb hby d2_42) rfl k) ?_
    show own_Go _ _ _ _ T1 (mkF m 44 _ [(.int r1_r), (.ref ar)])
    obtain ⟨c5, Ar5, q5, S5, N5, H5⟩ := id F0
    refine own_st (fun t k => X1.iaload hx (j := r1_r) (v := (.int (gf r1_r.toNatClampNeg))) (by rw [eq1]; exact Ar5.1) (State.isArrayOf_alike hZ.alike Ar5.2.1) Ar5.2.2 (inb_of S5 ⟨hq1_0.1, hq1_0.2.1⟩) (H5 _ (own_lt (inb_of S5 ⟨hq1_0.1, hq1_0.2.1⟩))) (g := (mkF m 44 #[.val (.ref ar), .val (.int nn), .val (.int pr), .val (.int wr), .val (.int r1_r)] [(.int r1_r), (.ref ar)])) rfl rfl (hb hby d2_44) _ k) ?_
    show own_Go _ _ _ _ T1 (mkF m 45 _ [(.int (gf r1_r.toNatClampNeg))])
    by_cases c6 : (gf r1_r.toNatClampNeg) = (0 : Int32)
    · skip
      refine own_st (fun t k => XS.ifYes X1.here hx rfl (pc0 := 45) (pc' := 50) rfl (hb hby d2_45) rfl ((if0 _ _).trans (teq c6).1) (by decide) (by decide) k) ?_
      show own_Go _ _ _ _ T1 (mkF m 50 _ [])
      refine own_st (fun t k => XS.iloadN X1.here hx rfl (hb hby d2_50) rfl k) ?_
      show own_Go _ _ _ _ T1 (mkF m 51 _ [(.int wr)])
      by_cases c7 : wr = (0 : Int32)
      · skip
        refine own_st (fun t k => XS.ifYes X1.here hx rfl (pc0 := 51) (pc' := 61) rfl (hb hby d2_51) rfl ((if0 _ _).trans (teq c7).1) (by decide) (by decide) k) ?_
        show own_Go _ _ _ _ T1 (mkF m 61 _ [])
        refine own_st (fun t k => XS.iconst X1.here hx rfl (hb hby d2_61) k) ?_
        show own_Go _ _ _ _ T1 (mkF m 62 _ [(.int (1 : Int32))])
        subst hPq
        refine own_out X1 (v := some (.int (1 : Int32))) (fun h => by rw [Bd.returns] at h; cases h) Bd.notSynchronized (own_retZ X1 hx Bd.returns (hb hby d2_62) (by decide)) (by decide) (by decide) ?_
        show Q2 Z ar nn pr wr kc z gf h0 n0 _ T1.heap _
        rw [eq1]
        exact ⟨(1 : Int32), r1_r, gf, rfl, N2, K0, F0, hq1_0, by simp [c4, c6, c7], by simp [c4, c6, c7]⟩
      · skip
        refine own_st (fun t k => XS.ifNo X1.here hx rfl (hb hby d2_51) rfl ((if0 _ _).trans (feq c7).1) k) ?_
        show own_Go _ _ _ _ T1 (mkF m 54 _ [])
        refine own_st (fun t k => XS.aloadN X1.here hx rfl (hb hby d2_54) rfl rfl k) ?_
        show own_Go _ _ _ _ T1 (mkF m 55 _ [(.ref ar)])
        refine own_st (fun t k => XS.iload X1.here hx rfl (hb hby d2_55) rfl k) ?_
        show own_Go _ _ _ _ T1 (mkF m 57 _ [(.int r1_r), (.ref ar)])
        refine own_st (fun t k => XS.iloadN X1.here hx rfl (hb hby d2_57) rfl k) ?_
        show own_Go _ _ _ _ T1 (mkF m 58 _ [(.int nn), (.int r1_r), (.ref ar)])
        refine own_st (fun t k => XS.iconst X1.here hx rfl (hb hby d2_58) k) ?_
        show own_Go _ _ _ _ T1 (mkF m 59 _ [(.int (1 : Int32)), (.int nn), (.int r1_r), (.ref ar)])
        refine own_st (fun t k => XS.iadd X1.here hx rfl (hb hby d2_59) rfl k) ?_
        show own_Go _ _ _ _ T1 (mkF m 60 _ [(.int (nn + (1 : Int32))), (.int r1_r), (.ref ar)])
        obtain ⟨c8, Ar8, q8, S8, N8, H8⟩ := id F0
        obtain ⟨T8, h8, X8, e8, W8, st8⟩ := stI X1 hx hZ eq1 Ar8 (j := r1_r) (inb_of S8 ⟨hq1_0.1, hq1_0.2.1⟩) (g := (mkF m 60 #[.val (.ref ar), .val (.int nn), .val (.int pr), .val (.int wr), .val (.int r1_r)] [(.int (nn + (1 : Int32))), (.int r1_r), (.ref ar)])) rfl rfl (hb hby d2_60)
        refine own_st st8 ?_
        have f9 : own_AI Z h8 ar kc z (own_updI gf r1_r.toNatClampNeg (nn + (1 : Int32))) := own_AI.set F0 W8
        have N10 := Fr.snoc X8 N2 g_ar
        have Z11 : n0 ≤ h8.size := Nat.le_trans Z0 (Nat.le_of_eq W8.size.symm)
        have K12 : Keep h0 h8 [ar] := K0.wr W8 (Or.inl (List.mem_of_getElem? (i := 0) rfl))
        show own_Go _ _ _ _ T8 (mkF m 61 _ [])
        refine own_st (fun t k => XS.iconst X8.here hx rfl (hb hby d2_61) k) ?_
        show own_Go _ _ _ _ T8 (mkF m 62 _ [(.int (1 : Int32))])
        subst hPq
        refine own_out X8 (v := some (.int (1 : Int32))) (fun h => by rw [Bd.returns] at h; cases h) Bd.notSynchronized (own_retZ X8 hx Bd.returns (hb hby d2_62) (by decide)) (by decide) (by decide) ?_
        show Q2 Z ar nn pr wr kc z gf h0 n0 _ T8.heap _
        rw [e8]
        exact ⟨(1 : Int32), r1_r, (own_updI gf r1_r.toNatClampNeg (nn + (1 : Int32))), rfl, N10, K12, f9, hq1_0, by simp [c4, c6, c7], by simp [c4, c6, c7]⟩
    · skip
      refine own_st (fun t k => XS.ifNo X1.here hx rfl (hb hby d2_45) rfl ((if0 _ _).trans (feq c6).1) k) ?_
      show own_Go _ _ _ _ T1 (mkF m 48 _ [])
      refine own_st (fun t k => XS.iconst X1.here hx rfl (hb hby d2_48) k) ?_
      show own_Go _ _ _ _ T1 (mkF m 49 _ [(.int (0 : Int32))])
      subst hPq
      refine own_out X1 (v := some (.int (0 : Int32))) (fun h => by rw [Bd.returns] at h; cases h) Bd.notSynchronized (own_retZ X1 hx Bd.returns (hb hby d2_49) (by decide)) (by decide) (by decide) ?_
      show Q2 Z ar nn pr wr kc z gf h0 n0 _ T1.heap _
      rw [eq1]
      exact ⟨(0 : Int32), r1_r, gf, rfl, N2, K0, F0, hq1_0, by simp [c4, c6], by simp [c4, c6]⟩
  · skip
    refine own_st (fun t k => XS.ifNo X1.here hx rfl (hb hby d2_22) rfl ((if0 _ _).trans (feq c4).1) k) ?_
    show own_Go _ _ _ _ T1 (mkF m 25 _ [])
    refine own_st (fun t k => XS.aloadN X1.here hx rfl (hb hby d2_25) rfl rfl k) ?_
    show own_Go _ _ _ _ T1 (mkF m 26 _ [(.ref ar)])
    refine own_st (fun t k => XS.iload X1.here hx rfl (hb hby d2_26) rfl k) ?_
    show own_Go _ _ _ _ T1 (mkF m 28 _ [(.int r1_r), (.ref ar)])
    obtain ⟨c13, Ar13, q13, S13, N13, H13⟩ := id F0
    refine own_st (fun t k => X1.iaload hx (j := r1_r) (v := (.int (gf r1_r.toNatClampNeg))) (by rw [eq1]; exact Ar13.1) (State.isArrayOf_alike hZ.alike Ar13.2.1) Ar13.2.2 (inb_of S13 ⟨hq1_0.1, hq1_0.2.1⟩) (H13 _ (own_lt (inb_of S13 ⟨hq1_0.1, hq1_0.2.1⟩))) (g := (mkF m 28 #[.val (.ref ar), .val (.int nn), .val (.int pr), .val (.int wr), .val (.int r1_r)] [(.int r1_r), (.ref ar)])) rfl rfl (hb hby d2_28) _ k) ?_
    show own_Go _ _ _ _ T1 (mkF m 29 _ [(.int (gf r1_r.toNatClampNeg))])
    refine own_st (fun t k => XS.iloadN X1.here hx rfl (hb hby d2_29) rfl k) ?_
    show own_Go _ _ _ _ T1 (mkF m 30 _ [(.int nn), (.int (gf r1_r.toNatClampNeg))])
    refine own_st (fun t k => XS.iconst X1.here hx rfl (hb hby d2_30) k) ?_
    show own_Go _ _ _ _ T1 (mkF m 31 _ [(.int (1 : Int32)), (.int nn), (.int (gf r1_r.toNatClampNeg))])
    refine own_st (fun t k => XS.iadd X1.here hx rfl (hb hby d2_31) rfl k) ?_
    show own_Go _ _ _ _ T1 (mkF m 32 _ [(.int (nn + (1 : Int32))), (.int (gf r1_r.toNatClampNeg))])
    have J17 : ∀ (Tj17 : State) (Lj17 : List Loc) (p18 : Int32), Stand p l e ({ frames := 1, cells := 0, slots := 0, locals := 16 } : Room) s m #[(.ref ar), (.int nn), (.int pr), (.int wr)] below meth c Tj17 Lj17 0 0 → Tj17.heap = h0 → Fr n0 Lj17 → p18 = (if (gf r1_r.toNatClampNeg) = (nn + (1 : Int32)) then (1 : Int32) else (0 : Int32)) → own_Go p.tables e below Pq Tj17 (mkF m 40 #[.val (.ref ar), .val (.int nn), .val (.int pr), .val (.int wr), .val (.int r1_r)] [(.int p18)]) := by
      intro Tj17 Lj17 p18 Xj17 ej17 Nj17 qp18
      show own_Go _ _ _ _ Tj17 (mkF m 40 _ [(.int p18)])
      have hb_p18 : p18 = 0 ∨ p18 = 1 := by rw [qp18]; (repeat' split) <;> first | exact Or.inl rfl | exact Or.inr rfl | assumption
      subst hPq
      refine own_out Xj17 (v := some (.int p18)) (fun h => by rw [Bd.returns] at h; cases h) Bd.notSynchronized (own_retZ Xj17 hx Bd.returns (hb hby d2_40) hb_p18) (by decide) (by decide) ?_
      show Q2 Z ar nn pr wr kc z gf h0 n0 _ Tj17.heap _
      rw [ej17]
      exact ⟨p18, r1_r, gf, rfl, Nj17, K0, F0, hq1_0, by simp [c4, qp18], by simp [c4, qp18]⟩
    by_cases c14 : (gf r1_r.toNatClampNeg) = (nn + (1 : Int32))
    · skip
      refine own_st (fun t k => XS.icmpNo X1.here hx rfl (hb hby d2_32) rfl (teq c14).2 k) ?_
      show own_Go _ _ _ _ T1 (mkF m 35 _ [])
      refine own_st (fun t k => XS.iconst X1.here hx rfl (hb hby d2_35) k) ?_
      show own_Go _ _ _ _ T1 (mkF m 36 _ [(.int (1 : Int32))])
      refine own_st (fun t k => XS.goto X1.here hx rfl (pc0 := 36) (pc' := 40) rfl (hb hby d2_36) (by decide) (by decide) k) ?_
      show own_Go _ _ _ _ T1 (mkF m 40 _ [(.int (1 : Int32))])
      exact J17 T1 _ _ X1 eq1 N2 (by simp only [if_pos c14])
    · skip
      refine own_st (fun t k => XS.icmpYes X1.here hx rfl (pc0 := 32) (pc' := 39) rfl (hb hby d2_32) rfl (feq c14).2 (by decide) (by decide) k) ?_
      show own_Go _ _ _ _ T1 (mkF m 39 _ [])
      refine own_st (fun t k => XS.iconst X1.here hx rfl (hb hby d2_39) k) ?_
      show own_Go _ _ _ _ T1 (mkF m 40 _ [(.int (0 : Int32))])
      exact J17 T1 _ _ X1 eq1 N2 (by simp only [if_neg c14])
theorem own_pn0 : plainName "com/example/premise/premise/store/NumberSlotsSlotPinLaw" = true := by first | (simp [plainName, overriddenIn]; done) | decide +kernel
theorem own_ef0 (m : MethodId) (x0 : Int32) (x1 : Int32) (x2 : Int32) (x3 : Int32) (x4 : Int32) : entryFrame m #[(.int x0), (.int x1), (.int x2), (.int x3), (.int x4)] maxLocals = mkF m 0 #[.val (.int x0), .val (.int x1), .val (.int x2), .val (.int x3), .val (.int x4), .unset, .unset, .unset, .unset, .unset, .unset] [] := by first | (simp [entryFrame, mkF, argsToLocals, Value.category, maxLocals]; done) | rfl
def Q0 (Z : State) (x0 : Int32) (x1 : Int32) (x2 : Int32) (x3 : Int32) (x4 : Int32) (h0 : Heap) (n0 : Nat) (v : Option Value) (h : Heap) (L : List Loc) : Prop := v = some (.int 1) ∧ Fr n0 L
theorem own_law (x0 : Int32) (x1 : Int32) (x2 : Int32) (x3 : Int32) (x4 : Int32) (v5 : Int32) (v6 : Int32) (v7 : Int32) (v8 : Int32) (r9_r : Int32) (r9_sp : Int32) (r9_g2 : Nat → Int32) (p16 : Int32) (r17_r : Int32) (r17_sp : Int32) (r17_g2 : Nat → Int32) (p26 : Int32) (r27_r : Int32) (r27_sp : Int32) (r27_g2 : Nat → Int32) (r30_r : Int32) (r30_sp : Int32) (r30_g2 : Nat → Int32) (r33_r : Int32) (r33_sp : Int32) (r33_g2 : Nat → Int32) (r36_r : Int32) (r36_sp : Int32) (r36_g2 : Nat → Int32) (p47 : Int32) (r48_r : Int32) (r48_sp : Int32) (r48_g2 : Nat → Int32) (hv5 : (x1 &&& (2147483647 : Int32)) = v5) (hv6 : (x2 &&& (2147483647 : Int32)) = v6) (hv7 : (x3 &&& (2147483647 : Int32)) = v7) (hv8 : (x4 &&& (2147483647 : Int32)) = v8) (hq9_0 : own_stepR (fun _ => (0 : Int32)) (4 : Int32) v5 (0 : Int32) (1 : Int32) r9_r r9_sp r9_g2) (qp16 : p16 = (if v6 = v5 then (1 : Int32) else (0 : Int32))) (hq17_0 : own_stepR r9_g2 (4 : Int32) v6 p16 (1 : Int32) r17_r r17_sp r17_g2) (qp26 : p26 = (if v7 = v5 then (1 : Int32) else (if v7 = v6 then (1 : Int32) else (0 : Int32)))) (hq27_0 : own_stepR r17_g2 (4 : Int32) v7 p26 (1 : Int32) r27_r r27_sp r27_g2) (hq30_0 : own_stepR r27_g2 (4 : Int32) v5 (1 : Int32) (0 : Int32) r30_r r30_sp r30_g2) (hq33_0 : own_stepR r30_g2 (4 : Int32) v6 (1 : Int32) (0 : Int32) r33_r r33_sp r33_g2) (hq36_0 : own_stepR r33_g2 (4 : Int32) v7 (1 : Int32) (0 : Int32) r36_r r36_sp r36_g2) (qp47 : p47 = (if v8 = v5 then (1 : Int32) else (if v8 = v6 then (1 : Int32) else (if v8 = v7 then (1 : Int32) else (0 : Int32))))) (hq48_0 : own_stepR r36_g2 (4 : Int32) v8 p47 (0 : Int32) r48_r r48_sp r48_g2) : (1 : Int32) = 1 := by
  rfl
theorem own_law2 (x0 : Int32) (x1 : Int32) (x2 : Int32) (x3 : Int32) (x4 : Int32) (v54 : Int32) (v55 : Int32) (v56 : Int32) (v57 : Int32) (r58_r : Int32) (r58_sp : Int32) (r58_g2 : Nat → Int32) (p65 : Int32) (r66_r : Int32) (r66_sp : Int32) (r66_g2 : Nat → Int32) (p75 : Int32) (r76_r : Int32) (r76_sp : Int32) (r76_g2 : Nat → Int32) (r79_r : Int32) (r79_sp : Int32) (r79_g2 : Nat → Int32) (r82_r : Int32) (r82_sp : Int32) (r82_g2 : Nat → Int32) (r85_r : Int32) (r85_sp : Int32) (r85_g2 : Nat → Int32) (p96 : Int32) (r97_r : Int32) (r97_sp : Int32) (r97_g2 : Nat → Int32) (hv54 : (x1 &&& (2147483647 : Int32)) = v54) (hv55 : (x2 &&& (2147483647 : Int32)) = v55) (hv56 : (x3 &&& (2147483647 : Int32)) = v56) (hv57 : (x4 &&& (2147483647 : Int32)) = v57) (hq58_0 : own_stepR (fun _ => (0 : Int32)) (8 : Int32) v54 (0 : Int32) (1 : Int32) r58_r r58_sp r58_g2) (qp65 : p65 = (if v55 = v54 then (1 : Int32) else (0 : Int32))) (hq66_0 : own_stepR r58_g2 (8 : Int32) v55 p65 (1 : Int32) r66_r r66_sp r66_g2) (qp75 : p75 = (if v56 = v54 then (1 : Int32) else (if v56 = v55 then (1 : Int32) else (0 : Int32)))) (hq76_0 : own_stepR r66_g2 (8 : Int32) v56 p75 (1 : Int32) r76_r r76_sp r76_g2) (hq79_0 : own_stepR r76_g2 (8 : Int32) v54 (1 : Int32) (0 : Int32) r79_r r79_sp r79_g2) (hq82_0 : own_stepR r79_g2 (8 : Int32) v55 (1 : Int32) (0 : Int32) r82_r r82_sp r82_g2) (hq85_0 : own_stepR r82_g2 (8 : Int32) v56 (1 : Int32) (0 : Int32) r85_r r85_sp r85_g2) (qp96 : p96 = (if v57 = v54 then (1 : Int32) else (if v57 = v55 then (1 : Int32) else (if v57 = v56 then (1 : Int32) else (0 : Int32))))) (hq97_0 : own_stepR r85_g2 (8 : Int32) v57 p96 (0 : Int32) r97_r r97_sp r97_g2) : (1 : Int32) = 1 := by
  rfl
set_option maxRecDepth 65536 in
set_option maxHeartbeats 4000000 in
theorem rm0 (l : Launch) (Z : State) (a0 : Array Value) (hw : ∀ d ∈ tables_1, d.before a0 Z = true) (ws : List Jvm.Cond) (x0 : Int32) (x1 : Int32) (x2 : Int32) (x3 : Int32) (x4 : Int32) (h0 : Heap) (n0 : Nat) (Z0 : n0 ≤ h0.size) :
    MetFree l x (head1 (Jvm.Cond.code x code maxLocals ret :: ws) room_1) (fun aW U => aW = #[(.int x0), (.int x1), (.int x2), (.int x3), (.int x4)] ∧ Z.Warmed39 U.vm ∧ U.heap = h0) (fun _ _ _ _ _ => True) (fun _ U o U' => ∃ v L, o = .returned v ∧ Q0 Z x0 x1 x2 x3 x4 h0 n0 v U'.heap L ∧ FrameEnd U o U' L 16 128) := by
  refine MetFree.of_bodySF (plainFor_of_name own_pn0) hisR ?_
  intro p e s m args below meth c s₁ Bd hml0 hP hK
  obtain ⟨rfl, hZ, hh⟩ := hP
  have hx := Bd.exec
  have hby := Bd.bytes
  have hml : c.maxLocals = 11 := hml0
  have hown : s.vm.findClass "com/example/premise/premise/store/NumberSlotsSlotPinLaw" = some m.cls := findClass_of_methodNamed Bd.named
  have hnm := (name_of_methodNamed Bd.named Bd.method).1
  have X0 : Stand p l e room_1 s m #[(.int x0), (.int x1), (.int x2), (.int x3), (.int x4)] below meth c s₁ [] 0 0 := Stand.of_body Bd
  have e0 : s₁.heap = h0 := by rw [← hh, Bd.state]; rfl
  have N0 := Fr.nil n0
  obtain ⟨Pq, hPq⟩ : ∃ P, P = own_P s below (fun v h L => Q0 Z x0 x1 x2 x3 x4 h0 n0 v h L) 16 128 := ⟨_, rfl⟩
  suffices hgo : own_Go p.tables e below Pq s₁ (mkF m 0 #[.val (.int x0), .val (.int x1), .val (.int x2), .val (.int x3), .val (.int x4), .unset, .unset, .unset, .unset, .unset, .unset] []) by
    subst hPq
    obtain ⟨t, k1, k2, o, k3, k4⟩ := hgo
    exact ⟨t, o, castTop (own_ef0 m x0 x1 x2 x3 x4) k1, k2, k3, k4⟩
  show own_Go _ _ _ _ s₁ (mkF m 0 #[.val (.int x0), .val (.int x1), .val (.int x2), .val (.int x3), .val (.int x4), .unset, .unset, .unset, .unset, .unset, .unset] [])
  refine own_st (fun t k => XS.iconst X0.here hx rfl (hb hby at_0) k) ?_
  show own_Go _ _ _ _ s₁ (mkF m 1 _ [(.int (4 : Int32))])
  refine own_st (fun t k => XS.iloadN X0.here hx rfl (hb hby at_1) rfl k) ?_
  show own_Go _ _ _ _ s₁ (mkF m 2 _ [(.int x0), (.int (4 : Int32))])
  refine own_st (fun t k => XS.iconst X0.here hx rfl (hb hby at_2) k) ?_
  show own_Go _ _ _ _ s₁ (mkF m 3 _ [(.int (1 : Int32)), (.int x0), (.int (4 : Int32))])
  refine own_st (fun t k => XS.iand X0.here hx rfl (hb hby at_3) rfl k) ?_
  show own_Go _ _ _ _ s₁ (mkF m 4 _ [(.int (x0 &&& (1 : Int32))), (.int (4 : Int32))])
  refine own_st (fun t k => XS.ishl X0.here hx rfl (hb hby at_4) rfl k) ?_
  show own_Go _ _ _ _ s₁ (mkF m 5 _ [(.int ((4 : Int32) <<< ((x0 &&& (1 : Int32)) &&& 31)))])
  generalize hv1 : ((4 : Int32) <<< ((x0 &&& (1 : Int32)) &&& 31)) = v1
  refine own_st (fun t k => XS.istore X0.here hx rfl (hb hby at_5) rfl (l' := #[.val (.int x0), .val (.int x1), .val (.int x2), .val (.int x3), .val (.int x4), .val (.int v1), .unset, .unset, .unset, .unset, .unset]) rfl k) ?_
  show own_Go _ _ _ _ s₁ (mkF m 7 #[.val (.int x0), .val (.int x1), .val (.int x2), .val (.int x3), .val (.int x4), .val (.int v1), .unset, .unset, .unset, .unset, .unset] [])
  rcases own_len hv1 with rfl | rfl
  · skip
    show own_Go _ _ _ _ s₁ (mkF m 7 #[.val (.int x0), .val (.int x1), .val (.int x2), .val (.int x3), .val (.int x4), .val (.int (4 : Int32)), .unset, .unset, .unset, .unset, .unset] [])
    refine own_st (fun t k => XS.iload X0.here hx rfl (hb hby at_7) rfl k) ?_
    show own_Go _ _ _ _ s₁ (mkF m 9 _ [(.int (4 : Int32))])
    obtain ⟨T2, h2, k2, X2, e2, E2, A2, st2⟩ := newP X0 hx hZ (hw _ (List.mem_of_getElem? (i := 0) rfl)) e0 (g := (mkF m 9 #[.val (.int x0), .val (.int x1), .val (.int x2), .val (.int x3), .val (.int x4), .val (.int (4 : Int32)), .unset, .unset, .unset, .unset, .unset] [(.int (4 : Int32))])) rfl (hb hby at_9) rfl (by decide) (cap := 4) (by decide) (by decide) (by decide) (by decide)
    obtain ⟨b2, g2⟩ : ∃ z, z = h0.size := ⟨_, rfl⟩
    rw [← g2] at A2 st2
    refine own_st st2 ?_
    have gx3 : n0 ≤ b2 := Nat.le_trans Z0 (Nat.le_of_eq g2.symm)
    have Z4 : n0 ≤ h2.size := Nat.le_trans Z0 E2.1
    have V2 : own_AI Z h2 b2 k2 (4 : Int32) (fun _ => (0 : Int32)) := own_AI.new A2 (by decide)
    show own_Go _ _ _ _ T2 (mkF m 11 _ [(.ref b2)])
    refine own_st (fun t k => XS.astore X2.here hx rfl (hb hby at_11) rfl rfl (l' := #[.val (.int x0), .val (.int x1), .val (.int x2), .val (.int x3), .val (.int x4), .val (.int (4 : Int32)), .val (.ref b2), .unset, .unset, .unset, .unset]) rfl k) ?_
    show own_Go _ _ _ _ T2 (mkF m 13 #[.val (.int x0), .val (.int x1), .val (.int x2), .val (.int x3), .val (.int x4), .val (.int (4 : Int32)), .val (.ref b2), .unset, .unset, .unset, .unset] [])
    refine own_st (fun t k => XS.iloadN X2.here hx rfl (hb hby at_13) rfl k) ?_
    show own_Go _ _ _ _ T2 (mkF m 14 _ [(.int x1)])
    refine own_st (fun t k => X2.ldcInt hx hown (mvT hZ (hw _ (List.mem_of_getElem? (i := 1) rfl))) (g := (mkF m 14 #[.val (.int x0), .val (.int x1), .val (.int x2), .val (.int x3), .val (.int x4), .val (.int (4 : Int32)), .val (.ref b2), .unset, .unset, .unset, .unset] [(.int x1)])) rfl (hb hby at_14) _ k) ?_
    show own_Go _ _ _ _ T2 (mkF m 16 _ [(.int (2147483647 : Int32)), (.int x1)])
    refine own_st (fun t k => XS.iand X2.here hx rfl (hb hby at_16) rfl k) ?_
    show own_Go _ _ _ _ T2 (mkF m 17 _ [(.int (x1 &&& (2147483647 : Int32)))])
    generalize hv5 : (x1 &&& (2147483647 : Int32)) = v5
    refine own_st (fun t k => XS.istore X2.here hx rfl (hb hby at_17) rfl (l' := #[.val (.int x0), .val (.int x1), .val (.int x2), .val (.int x3), .val (.int x4), .val (.int (4 : Int32)), .val (.ref b2), .val (.int v5), .unset, .unset, .unset]) rfl k) ?_
    show own_Go _ _ _ _ T2 (mkF m 19 #[.val (.int x0), .val (.int x1), .val (.int x2), .val (.int x3), .val (.int x4), .val (.int (4 : Int32)), .val (.ref b2), .val (.int v5), .unset, .unset, .unset] [])
    refine own_st (fun t k => XS.iloadN X2.here hx rfl (hb hby at_19) rfl k) ?_
    show own_Go _ _ _ _ T2 (mkF m 20 _ [(.int x2)])
    refine own_st (fun t k => X2.ldcInt hx hown (mvT hZ (hw _ (List.mem_of_getElem? (i := 1) rfl))) (g := (mkF m 20 #[.val (.int x0), .val (.int x1), .val (.int x2), .val (.int x3), .val (.int x4), .val (.int (4 : Int32)), .val (.ref b2), .val (.int v5), .unset, .unset, .unset] [(.int x2)])) rfl (hb hby at_20) _ k) ?_
    show own_Go _ _ _ _ T2 (mkF m 22 _ [(.int (2147483647 : Int32)), (.int x2)])
    refine own_st (fun t k => XS.iand X2.here hx rfl (hb hby at_22) rfl k) ?_
    show own_Go _ _ _ _ T2 (mkF m 23 _ [(.int (x2 &&& (2147483647 : Int32)))])
    generalize hv6 : (x2 &&& (2147483647 : Int32)) = v6
    refine own_st (fun t k => XS.istore X2.here hx rfl (hb hby at_23) rfl (l' := #[.val (.int x0), .val (.int x1), .val (.int x2), .val (.int x3), .val (.int x4), .val (.int (4 : Int32)), .val (.ref b2), .val (.int v5), .val (.int v6), .unset, .unset]) rfl k) ?_
    show own_Go _ _ _ _ T2 (mkF m 25 #[.val (.int x0), .val (.int x1), .val (.int x2), .val (.int x3), .val (.int x4), .val (.int (4 : Int32)), .val (.ref b2), .val (.int v5), .val (.int v6), .unset, .unset] [])
    refine own_st (fun t k => XS.iloadN X2.here hx rfl (hb hby at_25) rfl k) ?_
    show own_Go _ _ _ _ T2 (mkF m 26 _ [(.int x3)])
    refine own_st (fun t k => X2.ldcInt hx hown (mvT hZ (hw _ (List.mem_of_getElem? (i := 1) rfl))) (g := (mkF m 26 #[.val (.int x0), .val (.int x1), .val (.int x2), .val (.int x3), .val (.int x4), .val (.int (4 : Int32)), .val (.ref b2), .val (.int v5), .val (.int v6), .unset, .unset] [(.int x3)])) rfl (hb hby at_26) _ k) ?_
    show own_Go _ _ _ _ T2 (mkF m 28 _ [(.int (2147483647 : Int32)), (.int x3)])
    refine own_st (fun t k => XS.iand X2.here hx rfl (hb hby at_28) rfl k) ?_
    show own_Go _ _ _ _ T2 (mkF m 29 _ [(.int (x3 &&& (2147483647 : Int32)))])
    generalize hv7 : (x3 &&& (2147483647 : Int32)) = v7
    refine own_st (fun t k => XS.istore X2.here hx rfl (hb hby at_29) rfl (l' := #[.val (.int x0), .val (.int x1), .val (.int x2), .val (.int x3), .val (.int x4), .val (.int (4 : Int32)), .val (.ref b2), .val (.int v5), .val (.int v6), .val (.int v7), .unset]) rfl k) ?_
    show own_Go _ _ _ _ T2 (mkF m 31 #[.val (.int x0), .val (.int x1), .val (.int x2), .val (.int x3), .val (.int x4), .val (.int (4 : Int32)), .val (.ref b2), .val (.int v5), .val (.int v6), .val (.int v7), .unset] [])
    refine own_st (fun t k => XS.iload X2.here hx rfl (hb hby at_31) rfl k) ?_
    show own_Go _ _ _ _ T2 (mkF m 33 _ [(.int x4)])
    refine own_st (fun t k => X2.ldcInt hx hown (mvT hZ (hw _ (List.mem_of_getElem? (i := 1) rfl))) (g := (mkF m 33 #[.val (.int x0), .val (.int x1), .val (.int x2), .val (.int x3), .val (.int x4), .val (.int (4 : Int32)), .val (.ref b2), .val (.int v5), .val (.int v6), .val (.int v7), .unset] [(.int x4)])) rfl (hb hby at_33) _ k) ?_
    show own_Go _ _ _ _ T2 (mkF m 35 _ [(.int (2147483647 : Int32)), (.int x4)])
    refine own_st (fun t k => XS.iand X2.here hx rfl (hb hby at_35) rfl k) ?_
    show own_Go _ _ _ _ T2 (mkF m 36 _ [(.int (x4 &&& (2147483647 : Int32)))])
    generalize hv8 : (x4 &&& (2147483647 : Int32)) = v8
    refine own_st (fun t k => XS.istore X2.here hx rfl (hb hby at_36) rfl (l' := #[.val (.int x0), .val (.int x1), .val (.int x2), .val (.int x3), .val (.int x4), .val (.int (4 : Int32)), .val (.ref b2), .val (.int v5), .val (.int v6), .val (.int v7), .val (.int v8)]) rfl k) ?_
    show own_Go _ _ _ _ T2 (mkF m 38 #[.val (.int x0), .val (.int x1), .val (.int x2), .val (.int x3), .val (.int x4), .val (.int (4 : Int32)), .val (.ref b2), .val (.int v5), .val (.int v6), .val (.int v7), .val (.int v8)] [])
    refine own_st (fun t k => XS.aload X2.here hx rfl (hb hby at_38) rfl rfl k) ?_
    show own_Go _ _ _ _ T2 (mkF m 40 _ [(.ref b2)])
    refine own_st (fun t k => XS.iload X2.here hx rfl (hb hby at_40) rfl k) ?_
    show own_Go _ _ _ _ T2 (mkF m 42 _ [(.int v5), (.ref b2)])
    refine own_st (fun t k => XS.iconst X2.here hx rfl (hb hby at_42) k) ?_
    show own_Go _ _ _ _ T2 (mkF m 43 _ [(.int (0 : Int32)), (.int v5), (.ref b2)])
    refine own_st (fun t k => XS.iconst X2.here hx rfl (hb hby at_43) k) ?_
    show own_Go _ _ _ _ T2 (mkF m 44 _ [(.int (1 : Int32)), (.int (0 : Int32)), (.int v5), (.ref b2)])
    obtain ⟨_, _, ⟨T9, L9, k9, n9⟩, -, X9, ⟨Lc9, hQ9, l9, y9, z9⟩, st9⟩ := Jvm.LawKit.callS X2 hx (y := (⟨"com/example/premise/premise/store/NumberSlotsSlotPinLaw", "step", "([IIZZ)Z"⟩ : MethodName)) hown (mvT hZ (hw _ (List.mem_of_getElem? (i := 2) rfl))) (mvT hZ (hw _ (List.mem_of_getElem? (i := 3) rfl))) (mvT hZ (hw _ (List.mem_of_getElem? (i := 4) rfl))) (mvT hZ (hw _ (List.mem_of_getElem? (i := 5) rfl))) (by decide) (backOf (W := 0) (rm2 l Z a0 hw [] b2 v5 (0 : Int32) (1 : Int32) k2 (4 : Int32) (fun _ => (0 : Int32)) h2 n0 Z4 V2 (Or.inl rfl) (own_room (Or.inl rfl) (own_inv0 (4 : Int32)) (by decide)) gx3) hZ (hw _ (List.mem_of_getElem? (i := 5) rfl)) (hw _ (List.mem_of_getElem? (i := 4) rfl)) (by decide) (by decide)) (g := (mkF m 44 #[.val (.int x0), .val (.int x1), .val (.int x2), .val (.int x3), .val (.int x4), .val (.int (4 : Int32)), .val (.ref b2), .val (.int v5), .val (.int v6), .val (.int v7), .val (.int v8)] [(.int (1 : Int32)), (.int (0 : Int32)), (.int v5), (.ref b2)])) rfl (by rw [hml]; rfl) (argsL := [(.ref b2), (.int v5), (.int (0 : Int32)), (.int (1 : Int32))]) (rest := []) (lenOf own_pd___IIZZ_Z rfl) rfl (by show 2 * 0 + _ ≤ _; exact Nat.le_of_eq rfl) (hb hby at_44) (fun _ _ => ⟨rfl, e2, (by decide : 1 + 0 ≤ _), (by decide : 4 + 0 ≤ _)⟩)
    dsimp only [Pt.U, Pt.locs, Pt.cells, Pt.slots] at X9 l9 y9 z9 st9 hQ9
    subst l9 y9 z9
    obtain ⟨r9_r, r9_sp, r9_g2, rfl, NQ9, K9, fq9_0, hq9_0⟩ := hQ9
    have N10 := Fr.app N0 NQ9
    refine own_st st9 ?_
    have Z11 : n0 ≤ T9.heap.size := Nat.le_trans Z4 K9.1
    obtain ⟨hr9, S9_, inv9, len9, mem9⟩ := own_callW ((own_inv0 (4 : Int32))) hq9_0 (own_nzm hv5) (⟨fun q => by simp at q, fun _ => rfl⟩)
    show own_Go _ _ _ _ T9 (mkF m 47 _ [(.int r9_r)])
    refine own_st (fun t k => XS.ifYes X9.here hx rfl (pc0 := 47) (pc' := 52) rfl (hb hby at_47) rfl ((if0 _ _).trans (feq (by rw [hr9]; decide)).2) (by decide) (by decide) k) ?_
    show own_Go _ _ _ _ T9 (mkF m 52 _ [])
    refine own_st (fun t k => XS.aload X9.here hx rfl (hb hby at_52) rfl rfl k) ?_
    show own_Go _ _ _ _ T9 (mkF m 54 _ [(.ref b2)])
    refine own_st (fun t k => XS.iload X9.here hx rfl (hb hby at_54) rfl k) ?_
    show own_Go _ _ _ _ T9 (mkF m 56 _ [(.int v6), (.ref b2)])
    refine own_st (fun t k => XS.iload X9.here hx rfl (hb hby at_56) rfl k) ?_
    show own_Go _ _ _ _ T9 (mkF m 58 _ [(.int v6), (.int v6), (.ref b2)])
    refine own_st (fun t k => XS.iload X9.here hx rfl (hb hby at_58) rfl k) ?_
    show own_Go _ _ _ _ T9 (mkF m 60 _ [(.int v5), (.int v6), (.int v6), (.ref b2)])
    have J15 : ∀ (Tj15 : State) (Lj15 : List Loc) (p16 : Int32), Stand p l e room_1 s m #[(.int x0), (.int x1), (.int x2), (.int x3), (.int x4)] below meth c Tj15 Lj15 1 4 → Tj15.heap = T9.heap → Fr n0 Lj15 → p16 = (if v6 = v5 then (1 : Int32) else (0 : Int32)) → own_Go p.tables e below Pq Tj15 (mkF m 68 #[.val (.int x0), .val (.int x1), .val (.int x2), .val (.int x3), .val (.int x4), .val (.int (4 : Int32)), .val (.ref b2), .val (.int v5), .val (.int v6), .val (.int v7), .val (.int v8)] [(.int p16), (.int v6), (.ref b2)]) := by
      intro Tj15 Lj15 p16 Xj15 ej15 Nj15 qp16
      show own_Go _ _ _ _ Tj15 (mkF m 68 _ [(.int p16), (.int v6), (.ref b2)])
      refine own_st (fun t k => XS.iconst Xj15.here hx rfl (hb hby at_68) k) ?_
      show own_Go _ _ _ _ Tj15 (mkF m 69 _ [(.int (1 : Int32)), (.int p16), (.int v6), (.ref b2)])
      obtain ⟨_, _, ⟨T17, L17, k17, n17⟩, -, X17, ⟨Lc17, hQ17, l17, y17, z17⟩, st17⟩ := Jvm.LawKit.callS Xj15 hx (y := (⟨"com/example/premise/premise/store/NumberSlotsSlotPinLaw", "step", "([IIZZ)Z"⟩ : MethodName)) hown (mvT hZ (hw _ (List.mem_of_getElem? (i := 2) rfl))) (mvT hZ (hw _ (List.mem_of_getElem? (i := 3) rfl))) (mvT hZ (hw _ (List.mem_of_getElem? (i := 4) rfl))) (mvT hZ (hw _ (List.mem_of_getElem? (i := 5) rfl))) (by decide) (backOf (W := 0) (rm2 l Z a0 hw [] b2 v6 p16 (1 : Int32) k2 (4 : Int32) r9_g2 T9.heap n0 Z11 fq9_0 (Or.inl rfl) (own_room (Or.inl rfl) inv9 (Nat.le_trans len9 (by decide))) gx3) hZ (hw _ (List.mem_of_getElem? (i := 5) rfl)) (hw _ (List.mem_of_getElem? (i := 4) rfl)) (by decide) (by decide)) (g := (mkF m 69 #[.val (.int x0), .val (.int x1), .val (.int x2), .val (.int x3), .val (.int x4), .val (.int (4 : Int32)), .val (.ref b2), .val (.int v5), .val (.int v6), .val (.int v7), .val (.int v8)] [(.int (1 : Int32)), (.int p16), (.int v6), (.ref b2)])) rfl (by rw [hml]; rfl) (argsL := [(.ref b2), (.int v6), (.int p16), (.int (1 : Int32))]) (rest := []) (lenOf own_pd___IIZZ_Z rfl) rfl (by show 2 * 0 + _ ≤ _; exact Nat.le_of_eq rfl) (hb hby at_69) (fun _ _ => ⟨rfl, ej15, (by decide : 1 + 0 ≤ _), (by decide : 4 + 0 ≤ _)⟩)
      dsimp only [Pt.U, Pt.locs, Pt.cells, Pt.slots] at X17 l17 y17 z17 st17 hQ17
      subst l17 y17 z17
      obtain ⟨r17_r, r17_sp, r17_g2, rfl, NQ17, K17, fq17_0, hq17_0⟩ := hQ17
      have N18 := Fr.app Nj15 NQ17
      refine own_st st17 ?_
      have Z19 : n0 ≤ T17.heap.size := Nat.le_trans Z11 K17.1
      obtain ⟨hr17, S17_, inv17, len17, mem17⟩ := own_callW (inv9) hq17_0 (own_nzm hv6) (own_pr1 qp16 (by first | (simp only [mem9, List.not_mem_nil, or_false]; done) | (simp only [mem9, List.not_mem_nil, or_false]; exact ⟨fun h => by rcases h with h <;> simp [h], fun h => by rcases h with h <;> simp [h]⟩)))
      show own_Go _ _ _ _ T17 (mkF m 72 _ [(.int r17_r)])
      refine own_st (fun t k => XS.ifYes X17.here hx rfl (pc0 := 72) (pc' := 77) rfl (hb hby at_72) rfl ((if0 _ _).trans (feq (by rw [hr17]; decide)).2) (by decide) (by decide) k) ?_
      show own_Go _ _ _ _ T17 (mkF m 77 _ [])
      refine own_st (fun t k => XS.aload X17.here hx rfl (hb hby at_77) rfl rfl k) ?_
      show own_Go _ _ _ _ T17 (mkF m 79 _ [(.ref b2)])
      refine own_st (fun t k => XS.iload X17.here hx rfl (hb hby at_79) rfl k) ?_
      show own_Go _ _ _ _ T17 (mkF m 81 _ [(.int v7), (.ref b2)])
      refine own_st (fun t k => XS.iload X17.here hx rfl (hb hby at_81) rfl k) ?_
      show own_Go _ _ _ _ T17 (mkF m 83 _ [(.int v7), (.int v7), (.ref b2)])
      refine own_st (fun t k => XS.iload X17.here hx rfl (hb hby at_83) rfl k) ?_
      show own_Go _ _ _ _ T17 (mkF m 85 _ [(.int v5), (.int v7), (.int v7), (.ref b2)])
      have J25 : ∀ (Tj25 : State) (Lj25 : List Loc) (p26 : Int32), Stand p l e room_1 s m #[(.int x0), (.int x1), (.int x2), (.int x3), (.int x4)] below meth c Tj25 Lj25 1 4 → Tj25.heap = T17.heap → Fr n0 Lj25 → p26 = (if v7 = v5 then (1 : Int32) else (if v7 = v6 then (1 : Int32) else (0 : Int32))) → own_Go p.tables e below Pq Tj25 (mkF m 100 #[.val (.int x0), .val (.int x1), .val (.int x2), .val (.int x3), .val (.int x4), .val (.int (4 : Int32)), .val (.ref b2), .val (.int v5), .val (.int v6), .val (.int v7), .val (.int v8)] [(.int p26), (.int v7), (.ref b2)]) := by
        intro Tj25 Lj25 p26 Xj25 ej25 Nj25 qp26
        show own_Go _ _ _ _ Tj25 (mkF m 100 _ [(.int p26), (.int v7), (.ref b2)])
        refine own_st (fun t k => XS.iconst Xj25.here hx rfl (hb hby at_100) k) ?_
        show own_Go _ _ _ _ Tj25 (mkF m 101 _ [(.int (1 : Int32)), (.int p26), (.int v7), (.ref b2)])
        obtain ⟨_, _, ⟨T27, L27, k27, n27⟩, -, X27, ⟨Lc27, hQ27, l27, y27, z27⟩, st27⟩ := Jvm.LawKit.callS Xj25 hx (y := (⟨"com/example/premise/premise/store/NumberSlotsSlotPinLaw", "step", "([IIZZ)Z"⟩ : MethodName)) hown (mvT hZ (hw _ (List.mem_of_getElem? (i := 2) rfl))) (mvT hZ (hw _ (List.mem_of_getElem? (i := 3) rfl))) (mvT hZ (hw _ (List.mem_of_getElem? (i := 4) rfl))) (mvT hZ (hw _ (List.mem_of_getElem? (i := 5) rfl))) (by decide) (backOf (W := 0) (rm2 l Z a0 hw [] b2 v7 p26 (1 : Int32) k2 (4 : Int32) r17_g2 T17.heap n0 Z19 fq17_0 (Or.inl rfl) (own_room (Or.inl rfl) inv17 (by simp only [List.length_nil] at *; omega)) gx3) hZ (hw _ (List.mem_of_getElem? (i := 5) rfl)) (hw _ (List.mem_of_getElem? (i := 4) rfl)) (by decide) (by decide)) (g := (mkF m 101 #[.val (.int x0), .val (.int x1), .val (.int x2), .val (.int x3), .val (.int x4), .val (.int (4 : Int32)), .val (.ref b2), .val (.int v5), .val (.int v6), .val (.int v7), .val (.int v8)] [(.int (1 : Int32)), (.int p26), (.int v7), (.ref b2)])) rfl (by rw [hml]; rfl) (argsL := [(.ref b2), (.int v7), (.int p26), (.int (1 : Int32))]) (rest := []) (lenOf own_pd___IIZZ_Z rfl) rfl (by show 2 * 0 + _ ≤ _; exact Nat.le_of_eq rfl) (hb hby at_101) (fun _ _ => ⟨rfl, ej25, (by decide : 1 + 0 ≤ _), (by decide : 4 + 0 ≤ _)⟩)
        dsimp only [Pt.U, Pt.locs, Pt.cells, Pt.slots] at X27 l27 y27 z27 st27 hQ27
        subst l27 y27 z27
        obtain ⟨r27_r, r27_sp, r27_g2, rfl, NQ27, K27, fq27_0, hq27_0⟩ := hQ27
        have N28 := Fr.app Nj25 NQ27
        refine own_st st27 ?_
        have Z29 : n0 ≤ T27.heap.size := Nat.le_trans Z19 K27.1
        obtain ⟨hr27, S27_, inv27, len27, mem27⟩ := own_callW (inv17) hq27_0 (own_nzm hv7) (own_pr2 qp26 (by first | (simp only [mem17, mem9, List.not_mem_nil, or_false]; done) | (simp only [mem17, mem9, List.not_mem_nil, or_false]; exact ⟨fun h => by rcases h with h | h <;> simp [h], fun h => by rcases h with h | h <;> simp [h]⟩)))
        show own_Go _ _ _ _ T27 (mkF m 104 _ [(.int r27_r)])
        refine own_st (fun t k => XS.ifYes X27.here hx rfl (pc0 := 104) (pc' := 109) rfl (hb hby at_104) rfl ((if0 _ _).trans (feq (by rw [hr27]; decide)).2) (by decide) (by decide) k) ?_
        show own_Go _ _ _ _ T27 (mkF m 109 _ [])
        refine own_st (fun t k => XS.aload X27.here hx rfl (hb hby at_109) rfl rfl k) ?_
        show own_Go _ _ _ _ T27 (mkF m 111 _ [(.ref b2)])
        refine own_st (fun t k => XS.iload X27.here hx rfl (hb hby at_111) rfl k) ?_
        show own_Go _ _ _ _ T27 (mkF m 113 _ [(.int v5), (.ref b2)])
        refine own_st (fun t k => XS.iconst X27.here hx rfl (hb hby at_113) k) ?_
        show own_Go _ _ _ _ T27 (mkF m 114 _ [(.int (1 : Int32)), (.int v5), (.ref b2)])
        refine own_st (fun t k => XS.iconst X27.here hx rfl (hb hby at_114) k) ?_
        show own_Go _ _ _ _ T27 (mkF m 115 _ [(.int (0 : Int32)), (.int (1 : Int32)), (.int v5), (.ref b2)])
        obtain ⟨_, _, ⟨T30, L30, k30, n30⟩, -, X30, ⟨Lc30, hQ30, l30, y30, z30⟩, st30⟩ := Jvm.LawKit.callS X27 hx (y := (⟨"com/example/premise/premise/store/NumberSlotsSlotPinLaw", "step", "([IIZZ)Z"⟩ : MethodName)) hown (mvT hZ (hw _ (List.mem_of_getElem? (i := 2) rfl))) (mvT hZ (hw _ (List.mem_of_getElem? (i := 3) rfl))) (mvT hZ (hw _ (List.mem_of_getElem? (i := 4) rfl))) (mvT hZ (hw _ (List.mem_of_getElem? (i := 5) rfl))) (by decide) (backOf (W := 0) (rm2 l Z a0 hw [] b2 v5 (1 : Int32) (0 : Int32) k2 (4 : Int32) r27_g2 T27.heap n0 Z29 fq27_0 (Or.inl rfl) (own_room (Or.inl rfl) inv27 (by simp only [List.length_nil] at *; omega)) gx3) hZ (hw _ (List.mem_of_getElem? (i := 5) rfl)) (hw _ (List.mem_of_getElem? (i := 4) rfl)) (by decide) (by decide)) (g := (mkF m 115 #[.val (.int x0), .val (.int x1), .val (.int x2), .val (.int x3), .val (.int x4), .val (.int (4 : Int32)), .val (.ref b2), .val (.int v5), .val (.int v6), .val (.int v7), .val (.int v8)] [(.int (0 : Int32)), (.int (1 : Int32)), (.int v5), (.ref b2)])) rfl (by rw [hml]; rfl) (argsL := [(.ref b2), (.int v5), (.int (1 : Int32)), (.int (0 : Int32))]) (rest := []) (lenOf own_pd___IIZZ_Z rfl) rfl (by show 2 * 0 + _ ≤ _; exact Nat.le_of_eq rfl) (hb hby at_115) (fun _ _ => ⟨rfl, rfl, (by decide : 1 + 0 ≤ _), (by decide : 4 + 0 ≤ _)⟩)
        dsimp only [Pt.U, Pt.locs, Pt.cells, Pt.slots] at X30 l30 y30 z30 st30 hQ30
        subst l30 y30 z30
        obtain ⟨r30_r, r30_sp, r30_g2, rfl, NQ30, K30, fq30_0, hq30_0⟩ := hQ30
        have N31 := Fr.app N28 NQ30
        refine own_st st30 ?_
        have Z32 : n0 ≤ T30.heap.size := Nat.le_trans Z29 K30.1
        obtain ⟨hr30, inv30⟩ := own_callR (inv27) hq30_0 (⟨fun _ => by decide, fun q => absurd (by simp only [mem27, mem17, mem9, List.not_mem_nil, or_false]; simp) q⟩)
        show own_Go _ _ _ _ T30 (mkF m 118 _ [(.int r30_r)])
        refine own_st (fun t k => XS.ifNo X30.here hx rfl (hb hby at_118) rfl ((if0 _ _).trans (feq (by rw [hr30]; decide)).1) k) ?_
        show own_Go _ _ _ _ T30 (mkF m 121 _ [])
        refine own_st (fun t k => XS.aload X30.here hx rfl (hb hby at_121) rfl rfl k) ?_
        show own_Go _ _ _ _ T30 (mkF m 123 _ [(.ref b2)])
        refine own_st (fun t k => XS.iload X30.here hx rfl (hb hby at_123) rfl k) ?_
        show own_Go _ _ _ _ T30 (mkF m 125 _ [(.int v6), (.ref b2)])
        refine own_st (fun t k => XS.iconst X30.here hx rfl (hb hby at_125) k) ?_
        show own_Go _ _ _ _ T30 (mkF m 126 _ [(.int (1 : Int32)), (.int v6), (.ref b2)])
        refine own_st (fun t k => XS.iconst X30.here hx rfl (hb hby at_126) k) ?_
        show own_Go _ _ _ _ T30 (mkF m 127 _ [(.int (0 : Int32)), (.int (1 : Int32)), (.int v6), (.ref b2)])
        obtain ⟨_, _, ⟨T33, L33, k33, n33⟩, -, X33, ⟨Lc33, hQ33, l33, y33, z33⟩, st33⟩ := Jvm.LawKit.callS X30 hx (y := (⟨"com/example/premise/premise/store/NumberSlotsSlotPinLaw", "step", "([IIZZ)Z"⟩ : MethodName)) hown (mvT hZ (hw _ (List.mem_of_getElem? (i := 2) rfl))) (mvT hZ (hw _ (List.mem_of_getElem? (i := 3) rfl))) (mvT hZ (hw _ (List.mem_of_getElem? (i := 4) rfl))) (mvT hZ (hw _ (List.mem_of_getElem? (i := 5) rfl))) (by decide) (backOf (W := 0) (rm2 l Z a0 hw [] b2 v6 (1 : Int32) (0 : Int32) k2 (4 : Int32) r30_g2 T30.heap n0 Z32 fq30_0 (Or.inl rfl) (own_room (Or.inl rfl) inv30 (by simp only [List.length_nil] at *; omega)) gx3) hZ (hw _ (List.mem_of_getElem? (i := 5) rfl)) (hw _ (List.mem_of_getElem? (i := 4) rfl)) (by decide) (by decide)) (g := (mkF m 127 #[.val (.int x0), .val (.int x1), .val (.int x2), .val (.int x3), .val (.int x4), .val (.int (4 : Int32)), .val (.ref b2), .val (.int v5), .val (.int v6), .val (.int v7), .val (.int v8)] [(.int (0 : Int32)), (.int (1 : Int32)), (.int v6), (.ref b2)])) rfl (by rw [hml]; rfl) (argsL := [(.ref b2), (.int v6), (.int (1 : Int32)), (.int (0 : Int32))]) (rest := []) (lenOf own_pd___IIZZ_Z rfl) rfl (by show 2 * 0 + _ ≤ _; exact Nat.le_of_eq rfl) (hb hby at_127) (fun _ _ => ⟨rfl, rfl, (by decide : 1 + 0 ≤ _), (by decide : 4 + 0 ≤ _)⟩)
        dsimp only [Pt.U, Pt.locs, Pt.cells, Pt.slots] at X33 l33 y33 z33 st33 hQ33
        subst l33 y33 z33
        obtain ⟨r33_r, r33_sp, r33_g2, rfl, NQ33, K33, fq33_0, hq33_0⟩ := hQ33
        have N34 := Fr.app N31 NQ33
        refine own_st st33 ?_
        have Z35 : n0 ≤ T33.heap.size := Nat.le_trans Z32 K33.1
        obtain ⟨hr33, inv33⟩ := own_callR (inv30) hq33_0 (⟨fun _ => by decide, fun q => absurd (by simp only [mem27, mem17, mem9, List.not_mem_nil, or_false]; simp) q⟩)
        show own_Go _ _ _ _ T33 (mkF m 130 _ [(.int r33_r)])
        refine own_st (fun t k => XS.ifNo X33.here hx rfl (hb hby at_130) rfl ((if0 _ _).trans (feq (by rw [hr33]; decide)).1) k) ?_
        show own_Go _ _ _ _ T33 (mkF m 133 _ [])
        refine own_st (fun t k => XS.aload X33.here hx rfl (hb hby at_133) rfl rfl k) ?_
        show own_Go _ _ _ _ T33 (mkF m 135 _ [(.ref b2)])
        refine own_st (fun t k => XS.iload X33.here hx rfl (hb hby at_135) rfl k) ?_
        show own_Go _ _ _ _ T33 (mkF m 137 _ [(.int v7), (.ref b2)])
        refine own_st (fun t k => XS.iconst X33.here hx rfl (hb hby at_137) k) ?_
        show own_Go _ _ _ _ T33 (mkF m 138 _ [(.int (1 : Int32)), (.int v7), (.ref b2)])
        refine own_st (fun t k => XS.iconst X33.here hx rfl (hb hby at_138) k) ?_
        show own_Go _ _ _ _ T33 (mkF m 139 _ [(.int (0 : Int32)), (.int (1 : Int32)), (.int v7), (.ref b2)])
        obtain ⟨_, _, ⟨T36, L36, k36, n36⟩, -, X36, ⟨Lc36, hQ36, l36, y36, z36⟩, st36⟩ := Jvm.LawKit.callS X33 hx (y := (⟨"com/example/premise/premise/store/NumberSlotsSlotPinLaw", "step", "([IIZZ)Z"⟩ : MethodName)) hown (mvT hZ (hw _ (List.mem_of_getElem? (i := 2) rfl))) (mvT hZ (hw _ (List.mem_of_getElem? (i := 3) rfl))) (mvT hZ (hw _ (List.mem_of_getElem? (i := 4) rfl))) (mvT hZ (hw _ (List.mem_of_getElem? (i := 5) rfl))) (by decide) (backOf (W := 0) (rm2 l Z a0 hw [] b2 v7 (1 : Int32) (0 : Int32) k2 (4 : Int32) r33_g2 T33.heap n0 Z35 fq33_0 (Or.inl rfl) (own_room (Or.inl rfl) inv33 (by simp only [List.length_nil] at *; omega)) gx3) hZ (hw _ (List.mem_of_getElem? (i := 5) rfl)) (hw _ (List.mem_of_getElem? (i := 4) rfl)) (by decide) (by decide)) (g := (mkF m 139 #[.val (.int x0), .val (.int x1), .val (.int x2), .val (.int x3), .val (.int x4), .val (.int (4 : Int32)), .val (.ref b2), .val (.int v5), .val (.int v6), .val (.int v7), .val (.int v8)] [(.int (0 : Int32)), (.int (1 : Int32)), (.int v7), (.ref b2)])) rfl (by rw [hml]; rfl) (argsL := [(.ref b2), (.int v7), (.int (1 : Int32)), (.int (0 : Int32))]) (rest := []) (lenOf own_pd___IIZZ_Z rfl) rfl (by show 2 * 0 + _ ≤ _; exact Nat.le_of_eq rfl) (hb hby at_139) (fun _ _ => ⟨rfl, rfl, (by decide : 1 + 0 ≤ _), (by decide : 4 + 0 ≤ _)⟩)
        dsimp only [Pt.U, Pt.locs, Pt.cells, Pt.slots] at X36 l36 y36 z36 st36 hQ36
        subst l36 y36 z36
        obtain ⟨r36_r, r36_sp, r36_g2, rfl, NQ36, K36, fq36_0, hq36_0⟩ := hQ36
        have N37 := Fr.app N34 NQ36
        refine own_st st36 ?_
        have Z38 : n0 ≤ T36.heap.size := Nat.le_trans Z35 K36.1
        obtain ⟨hr36, inv36⟩ := own_callR (inv33) hq36_0 (⟨fun _ => by decide, fun q => absurd (by simp only [mem27, mem17, mem9, List.not_mem_nil, or_false]; simp) q⟩)
        show own_Go _ _ _ _ T36 (mkF m 142 _ [(.int r36_r)])
        refine own_st (fun t k => XS.ifNo X36.here hx rfl (hb hby at_142) rfl ((if0 _ _).trans (feq (by rw [hr36]; decide)).1) k) ?_
        show own_Go _ _ _ _ T36 (mkF m 145 _ [])
        refine own_st (fun t k => XS.aload X36.here hx rfl (hb hby at_145) rfl rfl k) ?_
        show own_Go _ _ _ _ T36 (mkF m 147 _ [(.ref b2)])
        refine own_st (fun t k => XS.iload X36.here hx rfl (hb hby at_147) rfl k) ?_
        show own_Go _ _ _ _ T36 (mkF m 149 _ [(.int v8), (.ref b2)])
        refine own_st (fun t k => XS.iload X36.here hx rfl (hb hby at_149) rfl k) ?_
        show own_Go _ _ _ _ T36 (mkF m 151 _ [(.int v8), (.int v8), (.ref b2)])
        refine own_st (fun t k => XS.iload X36.here hx rfl (hb hby at_151) rfl k) ?_
        show own_Go _ _ _ _ T36 (mkF m 153 _ [(.int v5), (.int v8), (.int v8), (.ref b2)])
        have J46 : ∀ (Tj46 : State) (Lj46 : List Loc) (p47 : Int32), Stand p l e room_1 s m #[(.int x0), (.int x1), (.int x2), (.int x3), (.int x4)] below meth c Tj46 Lj46 1 4 → Tj46.heap = T36.heap → Fr n0 Lj46 → p47 = (if v8 = v5 then (1 : Int32) else (if v8 = v6 then (1 : Int32) else (if v8 = v7 then (1 : Int32) else (0 : Int32)))) → own_Go p.tables e below Pq Tj46 (mkF m 175 #[.val (.int x0), .val (.int x1), .val (.int x2), .val (.int x3), .val (.int x4), .val (.int (4 : Int32)), .val (.ref b2), .val (.int v5), .val (.int v6), .val (.int v7), .val (.int v8)] [(.int p47), (.int v8), (.ref b2)]) := by
          intro Tj46 Lj46 p47 Xj46 ej46 Nj46 qp47
          show own_Go _ _ _ _ Tj46 (mkF m 175 _ [(.int p47), (.int v8), (.ref b2)])
          refine own_st (fun t k => XS.iconst Xj46.here hx rfl (hb hby at_175) k) ?_
          show own_Go _ _ _ _ Tj46 (mkF m 176 _ [(.int (0 : Int32)), (.int p47), (.int v8), (.ref b2)])
          obtain ⟨_, _, ⟨T48, L48, k48, n48⟩, -, X48, ⟨Lc48, hQ48, l48, y48, z48⟩, st48⟩ := Jvm.LawKit.callS Xj46 hx (y := (⟨"com/example/premise/premise/store/NumberSlotsSlotPinLaw", "step", "([IIZZ)Z"⟩ : MethodName)) hown (mvT hZ (hw _ (List.mem_of_getElem? (i := 2) rfl))) (mvT hZ (hw _ (List.mem_of_getElem? (i := 3) rfl))) (mvT hZ (hw _ (List.mem_of_getElem? (i := 4) rfl))) (mvT hZ (hw _ (List.mem_of_getElem? (i := 5) rfl))) (by decide) (backOf (W := 0) (rm2 l Z a0 hw [] b2 v8 p47 (0 : Int32) k2 (4 : Int32) r36_g2 T36.heap n0 Z38 fq36_0 (Or.inl rfl) (own_room (Or.inl rfl) inv36 (by simp only [List.length_nil] at *; omega)) gx3) hZ (hw _ (List.mem_of_getElem? (i := 5) rfl)) (hw _ (List.mem_of_getElem? (i := 4) rfl)) (by decide) (by decide)) (g := (mkF m 176 #[.val (.int x0), .val (.int x1), .val (.int x2), .val (.int x3), .val (.int x4), .val (.int (4 : Int32)), .val (.ref b2), .val (.int v5), .val (.int v6), .val (.int v7), .val (.int v8)] [(.int (0 : Int32)), (.int p47), (.int v8), (.ref b2)])) rfl (by rw [hml]; rfl) (argsL := [(.ref b2), (.int v8), (.int p47), (.int (0 : Int32))]) (rest := []) (lenOf own_pd___IIZZ_Z rfl) rfl (by show 2 * 0 + _ ≤ _; exact Nat.le_of_eq rfl) (hb hby at_176) (fun _ _ => ⟨rfl, ej46, (by decide : 1 + 0 ≤ _), (by decide : 4 + 0 ≤ _)⟩)
          dsimp only [Pt.U, Pt.locs, Pt.cells, Pt.slots] at X48 l48 y48 z48 st48 hQ48
          subst l48 y48 z48
          obtain ⟨r48_r, r48_sp, r48_g2, rfl, NQ48, K48, fq48_0, hq48_0⟩ := hQ48
          have N49 := Fr.app Nj46 NQ48
          refine own_st st48 ?_
          have Z50 : n0 ≤ T48.heap.size := Nat.le_trans Z38 K48.1
          obtain ⟨hr48, inv48⟩ := own_callR (inv36) hq48_0 (own_pr3 qp47 (by first | (simp only [mem27, mem17, mem9, List.not_mem_nil, or_false]; done) | (simp only [mem27, mem17, mem9, List.not_mem_nil, or_false]; exact ⟨fun h => by rcases h with h | h | h <;> simp [h], fun h => by rcases h with h | h | h <;> simp [h]⟩)))
          show own_Go _ _ _ _ T48 (mkF m 179 _ [(.int r48_r)])
          refine own_st (fun t k => XS.ifNo X48.here hx rfl (hb hby at_179) rfl ((if0 _ _).trans (feq (by rw [hr48]; decide)).1) k) ?_
          show own_Go _ _ _ _ T48 (mkF m 182 _ [])
          refine own_st (fun t k => XS.iconst X48.here hx rfl (hb hby at_182) k) ?_
          show own_Go _ _ _ _ T48 (mkF m 183 _ [(.int (1 : Int32))])
          refine own_st (fun t k => XS.goto X48.here hx rfl (pc0 := 183) (pc' := 187) rfl (hb hby at_183) (by decide) (by decide) k) ?_
          show own_Go _ _ _ _ T48 (mkF m 187 _ [(.int (1 : Int32))])
          subst hPq
          refine own_out X48 (v := some (.int (nar .boolean (1 : Int32)))) (fun h => by rw [Bd.returns] at h; cases h) Bd.notSynchronized (fun fs hr => retN X48 hx (t := .boolean) Bd.returns (by simp) (hb hby at_187) hr) (by decide) (by decide) ?_
          show Q0 Z x0 x1 x2 x3 x4 h0 n0 _ T48.heap _
          exact ⟨congrArg (fun z => some (Value.int (nar .boolean z))) (own_law x0 x1 x2 x3 x4 v5 v6 v7 v8 r9_r r9_sp r9_g2 p16 r17_r r17_sp r17_g2 p26 r27_r r27_sp r27_g2 r30_r r30_sp r30_g2 r33_r r33_sp r33_g2 r36_r r36_sp r36_g2 p47 r48_r r48_sp r48_g2 hv5 hv6 hv7 hv8 hq9_0 qp16 hq17_0 qp26 hq27_0 hq30_0 hq33_0 hq36_0 qp47 hq48_0), N49⟩
        by_cases c39 : v8 = v5
        · skip
          refine own_st (fun t k => XS.icmpYes X36.here hx rfl (pc0 := 153) (pc' := 170) rfl (hb hby at_153) rfl (teq c39).1 (by decide) (by decide) k) ?_
          show own_Go _ _ _ _ T36 (mkF m 170 _ [(.int v8), (.ref b2)])
          refine own_st (fun t k => XS.iconst X36.here hx rfl (hb hby at_170) k) ?_
          show own_Go _ _ _ _ T36 (mkF m 171 _ [(.int (1 : Int32)), (.int v8), (.ref b2)])
          refine own_st (fun t k => XS.goto X36.here hx rfl (pc0 := 171) (pc' := 175) rfl (hb hby at_171) (by decide) (by decide) k) ?_
          show own_Go _ _ _ _ T36 (mkF m 175 _ [(.int (1 : Int32)), (.int v8), (.ref b2)])
          exact J46 T36 _ _ X36 rfl N37 (by simp only [if_pos c39])
        · skip
          refine own_st (fun t k => XS.icmpNo X36.here hx rfl (hb hby at_153) rfl (feq c39).1 k) ?_
          show own_Go _ _ _ _ T36 (mkF m 156 _ [(.int v8), (.ref b2)])
          refine own_st (fun t k => XS.iload X36.here hx rfl (hb hby at_156) rfl k) ?_
          show own_Go _ _ _ _ T36 (mkF m 158 _ [(.int v8), (.int v8), (.ref b2)])
          refine own_st (fun t k => XS.iload X36.here hx rfl (hb hby at_158) rfl k) ?_
          show own_Go _ _ _ _ T36 (mkF m 160 _ [(.int v6), (.int v8), (.int v8), (.ref b2)])
          by_cases c41 : v8 = v6
          · skip
            refine own_st (fun t k => XS.icmpYes X36.here hx rfl (pc0 := 160) (pc' := 170) rfl (hb hby at_160) rfl (teq c41).1 (by decide) (by decide) k) ?_
            show own_Go _ _ _ _ T36 (mkF m 170 _ [(.int v8), (.ref b2)])
            refine own_st (fun t k => XS.iconst X36.here hx rfl (hb hby at_170) k) ?_
            show own_Go _ _ _ _ T36 (mkF m 171 _ [(.int (1 : Int32)), (.int v8), (.ref b2)])
            refine own_st (fun t k => XS.goto X36.here hx rfl (pc0 := 171) (pc' := 175) rfl (hb hby at_171) (by decide) (by decide) k) ?_
            show own_Go _ _ _ _ T36 (mkF m 175 _ [(.int (1 : Int32)), (.int v8), (.ref b2)])
            exact J46 T36 _ _ X36 rfl N37 (by simp only [if_neg c39, if_pos c41])
          · skip
            refine own_st (fun t k => XS.icmpNo X36.here hx rfl (hb hby at_160) rfl (feq c41).1 k) ?_
            show own_Go _ _ _ _ T36 (mkF m 163 _ [(.int v8), (.ref b2)])
            refine own_st (fun t k => XS.iload X36.here hx rfl (hb hby at_163) rfl k) ?_
            show own_Go _ _ _ _ T36 (mkF m 165 _ [(.int v8), (.int v8), (.ref b2)])
            refine own_st (fun t k => XS.iload X36.here hx rfl (hb hby at_165) rfl k) ?_
            show own_Go _ _ _ _ T36 (mkF m 167 _ [(.int v7), (.int v8), (.int v8), (.ref b2)])
            by_cases c43 : v8 = v7
            · skip
              refine own_st (fun t k => XS.icmpNo X36.here hx rfl (hb hby at_167) rfl (teq c43).2 k) ?_
              show own_Go _ _ _ _ T36 (mkF m 170 _ [(.int v8), (.ref b2)])
              refine own_st (fun t k => XS.iconst X36.here hx rfl (hb hby at_170) k) ?_
              show own_Go _ _ _ _ T36 (mkF m 171 _ [(.int (1 : Int32)), (.int v8), (.ref b2)])
              refine own_st (fun t k => XS.goto X36.here hx rfl (pc0 := 171) (pc' := 175) rfl (hb hby at_171) (by decide) (by decide) k) ?_
              show own_Go _ _ _ _ T36 (mkF m 175 _ [(.int (1 : Int32)), (.int v8), (.ref b2)])
              exact J46 T36 _ _ X36 rfl N37 (by simp only [if_neg c39, if_neg c41, if_pos c43])
            · skip
              refine own_st (fun t k => XS.icmpYes X36.here hx rfl (pc0 := 167) (pc' := 174) rfl (hb hby at_167) rfl (feq c43).2 (by decide) (by decide) k) ?_
              show own_Go _ _ _ _ T36 (mkF m 174 _ [(.int v8), (.ref b2)])
              refine own_st (fun t k => XS.iconst X36.here hx rfl (hb hby at_174) k) ?_
              show own_Go _ _ _ _ T36 (mkF m 175 _ [(.int (0 : Int32)), (.int v8), (.ref b2)])
              exact J46 T36 _ _ X36 rfl N37 (by simp only [if_neg c39, if_neg c41, if_neg c43])
      by_cases c20 : v7 = v5
      · skip
        refine own_st (fun t k => XS.icmpYes X17.here hx rfl (pc0 := 85) (pc' := 95) rfl (hb hby at_85) rfl (teq c20).1 (by decide) (by decide) k) ?_
        show own_Go _ _ _ _ T17 (mkF m 95 _ [(.int v7), (.ref b2)])
        refine own_st (fun t k => XS.iconst X17.here hx rfl (hb hby at_95) k) ?_
        show own_Go _ _ _ _ T17 (mkF m 96 _ [(.int (1 : Int32)), (.int v7), (.ref b2)])
        refine own_st (fun t k => XS.goto X17.here hx rfl (pc0 := 96) (pc' := 100) rfl (hb hby at_96) (by decide) (by decide) k) ?_
        show own_Go _ _ _ _ T17 (mkF m 100 _ [(.int (1 : Int32)), (.int v7), (.ref b2)])
        exact J25 T17 _ _ X17 rfl N18 (by simp only [if_pos c20])
      · skip
        refine own_st (fun t k => XS.icmpNo X17.here hx rfl (hb hby at_85) rfl (feq c20).1 k) ?_
        show own_Go _ _ _ _ T17 (mkF m 88 _ [(.int v7), (.ref b2)])
        refine own_st (fun t k => XS.iload X17.here hx rfl (hb hby at_88) rfl k) ?_
        show own_Go _ _ _ _ T17 (mkF m 90 _ [(.int v7), (.int v7), (.ref b2)])
        refine own_st (fun t k => XS.iload X17.here hx rfl (hb hby at_90) rfl k) ?_
        show own_Go _ _ _ _ T17 (mkF m 92 _ [(.int v6), (.int v7), (.int v7), (.ref b2)])
        by_cases c22 : v7 = v6
        · skip
          refine own_st (fun t k => XS.icmpNo X17.here hx rfl (hb hby at_92) rfl (teq c22).2 k) ?_
          show own_Go _ _ _ _ T17 (mkF m 95 _ [(.int v7), (.ref b2)])
          refine own_st (fun t k => XS.iconst X17.here hx rfl (hb hby at_95) k) ?_
          show own_Go _ _ _ _ T17 (mkF m 96 _ [(.int (1 : Int32)), (.int v7), (.ref b2)])
          refine own_st (fun t k => XS.goto X17.here hx rfl (pc0 := 96) (pc' := 100) rfl (hb hby at_96) (by decide) (by decide) k) ?_
          show own_Go _ _ _ _ T17 (mkF m 100 _ [(.int (1 : Int32)), (.int v7), (.ref b2)])
          exact J25 T17 _ _ X17 rfl N18 (by simp only [if_neg c20, if_pos c22])
        · skip
          refine own_st (fun t k => XS.icmpYes X17.here hx rfl (pc0 := 92) (pc' := 99) rfl (hb hby at_92) rfl (feq c22).2 (by decide) (by decide) k) ?_
          show own_Go _ _ _ _ T17 (mkF m 99 _ [(.int v7), (.ref b2)])
          refine own_st (fun t k => XS.iconst X17.here hx rfl (hb hby at_99) k) ?_
          show own_Go _ _ _ _ T17 (mkF m 100 _ [(.int (0 : Int32)), (.int v7), (.ref b2)])
          exact J25 T17 _ _ X17 rfl N18 (by simp only [if_neg c20, if_neg c22])
    by_cases c12 : v6 = v5
    · skip
      refine own_st (fun t k => XS.icmpNo X9.here hx rfl (hb hby at_60) rfl (teq c12).2 k) ?_
      show own_Go _ _ _ _ T9 (mkF m 63 _ [(.int v6), (.ref b2)])
      refine own_st (fun t k => XS.iconst X9.here hx rfl (hb hby at_63) k) ?_
      show own_Go _ _ _ _ T9 (mkF m 64 _ [(.int (1 : Int32)), (.int v6), (.ref b2)])
      refine own_st (fun t k => XS.goto X9.here hx rfl (pc0 := 64) (pc' := 68) rfl (hb hby at_64) (by decide) (by decide) k) ?_
      show own_Go _ _ _ _ T9 (mkF m 68 _ [(.int (1 : Int32)), (.int v6), (.ref b2)])
      exact J15 T9 _ _ X9 rfl N10 (by simp only [if_pos c12])
    · skip
      refine own_st (fun t k => XS.icmpYes X9.here hx rfl (pc0 := 60) (pc' := 67) rfl (hb hby at_60) rfl (feq c12).2 (by decide) (by decide) k) ?_
      show own_Go _ _ _ _ T9 (mkF m 67 _ [(.int v6), (.ref b2)])
      refine own_st (fun t k => XS.iconst X9.here hx rfl (hb hby at_67) k) ?_
      show own_Go _ _ _ _ T9 (mkF m 68 _ [(.int (0 : Int32)), (.int v6), (.ref b2)])
      exact J15 T9 _ _ X9 rfl N10 (by simp only [if_neg c12])
  · skip
    show own_Go _ _ _ _ s₁ (mkF m 7 #[.val (.int x0), .val (.int x1), .val (.int x2), .val (.int x3), .val (.int x4), .val (.int (8 : Int32)), .unset, .unset, .unset, .unset, .unset] [])
    refine own_st (fun t k => XS.iload X0.here hx rfl (hb hby at_7) rfl k) ?_
    show own_Go _ _ _ _ s₁ (mkF m 9 _ [(.int (8 : Int32))])
    obtain ⟨T51, h51, k51, X51, e51, E51, A51, st51⟩ := newP X0 hx hZ (hw _ (List.mem_of_getElem? (i := 0) rfl)) e0 (g := (mkF m 9 #[.val (.int x0), .val (.int x1), .val (.int x2), .val (.int x3), .val (.int x4), .val (.int (8 : Int32)), .unset, .unset, .unset, .unset, .unset] [(.int (8 : Int32))])) rfl (hb hby at_9) rfl (by decide) (cap := 8) (by decide) (by decide) (by decide) (by decide)
    obtain ⟨b51, g51⟩ : ∃ z, z = h0.size := ⟨_, rfl⟩
    rw [← g51] at A51 st51
    refine own_st st51 ?_
    have gx52 : n0 ≤ b51 := Nat.le_trans Z0 (Nat.le_of_eq g51.symm)
    have Z53 : n0 ≤ h51.size := Nat.le_trans Z0 E51.1
    have V51 : own_AI Z h51 b51 k51 (8 : Int32) (fun _ => (0 : Int32)) := own_AI.new A51 (by decide)
    show own_Go _ _ _ _ T51 (mkF m 11 _ [(.ref b51)])
    refine own_st (fun t k => XS.astore X51.here hx rfl (hb hby at_11) rfl rfl (l' := #[.val (.int x0), .val (.int x1), .val (.int x2), .val (.int x3), .val (.int x4), .val (.int (8 : Int32)), .val (.ref b51), .unset, .unset, .unset, .unset]) rfl k) ?_
    show own_Go _ _ _ _ T51 (mkF m 13 #[.val (.int x0), .val (.int x1), .val (.int x2), .val (.int x3), .val (.int x4), .val (.int (8 : Int32)), .val (.ref b51), .unset, .unset, .unset, .unset] [])
    refine own_st (fun t k => XS.iloadN X51.here hx rfl (hb hby at_13) rfl k) ?_
    show own_Go _ _ _ _ T51 (mkF m 14 _ [(.int x1)])
    refine own_st (fun t k => X51.ldcInt hx hown (mvT hZ (hw _ (List.mem_of_getElem? (i := 1) rfl))) (g := (mkF m 14 #[.val (.int x0), .val (.int x1), .val (.int x2), .val (.int x3), .val (.int x4), .val (.int (8 : Int32)), .val (.ref b51), .unset, .unset, .unset, .unset] [(.int x1)])) rfl (hb hby at_14) _ k) ?_
    show own_Go _ _ _ _ T51 (mkF m 16 _ [(.int (2147483647 : Int32)), (.int x1)])
    refine own_st (fun t k => XS.iand X51.here hx rfl (hb hby at_16) rfl k) ?_
    show own_Go _ _ _ _ T51 (mkF m 17 _ [(.int (x1 &&& (2147483647 : Int32)))])
    generalize hv54 : (x1 &&& (2147483647 : Int32)) = v54
    refine own_st (fun t k => XS.istore X51.here hx rfl (hb hby at_17) rfl (l' := #[.val (.int x0), .val (.int x1), .val (.int x2), .val (.int x3), .val (.int x4), .val (.int (8 : Int32)), .val (.ref b51), .val (.int v54), .unset, .unset, .unset]) rfl k) ?_
    show own_Go _ _ _ _ T51 (mkF m 19 #[.val (.int x0), .val (.int x1), .val (.int x2), .val (.int x3), .val (.int x4), .val (.int (8 : Int32)), .val (.ref b51), .val (.int v54), .unset, .unset, .unset] [])
    refine own_st (fun t k => XS.iloadN X51.here hx rfl (hb hby at_19) rfl k) ?_
    show own_Go _ _ _ _ T51 (mkF m 20 _ [(.int x2)])
    refine own_st (fun t k => X51.ldcInt hx hown (mvT hZ (hw _ (List.mem_of_getElem? (i := 1) rfl))) (g := (mkF m 20 #[.val (.int x0), .val (.int x1), .val (.int x2), .val (.int x3), .val (.int x4), .val (.int (8 : Int32)), .val (.ref b51), .val (.int v54), .unset, .unset, .unset] [(.int x2)])) rfl (hb hby at_20) _ k) ?_
    show own_Go _ _ _ _ T51 (mkF m 22 _ [(.int (2147483647 : Int32)), (.int x2)])
    refine own_st (fun t k => XS.iand X51.here hx rfl (hb hby at_22) rfl k) ?_
    show own_Go _ _ _ _ T51 (mkF m 23 _ [(.int (x2 &&& (2147483647 : Int32)))])
    generalize hv55 : (x2 &&& (2147483647 : Int32)) = v55
    refine own_st (fun t k => XS.istore X51.here hx rfl (hb hby at_23) rfl (l' := #[.val (.int x0), .val (.int x1), .val (.int x2), .val (.int x3), .val (.int x4), .val (.int (8 : Int32)), .val (.ref b51), .val (.int v54), .val (.int v55), .unset, .unset]) rfl k) ?_
    show own_Go _ _ _ _ T51 (mkF m 25 #[.val (.int x0), .val (.int x1), .val (.int x2), .val (.int x3), .val (.int x4), .val (.int (8 : Int32)), .val (.ref b51), .val (.int v54), .val (.int v55), .unset, .unset] [])
    refine own_st (fun t k => XS.iloadN X51.here hx rfl (hb hby at_25) rfl k) ?_
    show own_Go _ _ _ _ T51 (mkF m 26 _ [(.int x3)])
    refine own_st (fun t k => X51.ldcInt hx hown (mvT hZ (hw _ (List.mem_of_getElem? (i := 1) rfl))) (g := (mkF m 26 #[.val (.int x0), .val (.int x1), .val (.int x2), .val (.int x3), .val (.int x4), .val (.int (8 : Int32)), .val (.ref b51), .val (.int v54), .val (.int v55), .unset, .unset] [(.int x3)])) rfl (hb hby at_26) _ k) ?_
    show own_Go _ _ _ _ T51 (mkF m 28 _ [(.int (2147483647 : Int32)), (.int x3)])
    refine own_st (fun t k => XS.iand X51.here hx rfl (hb hby at_28) rfl k) ?_
    show own_Go _ _ _ _ T51 (mkF m 29 _ [(.int (x3 &&& (2147483647 : Int32)))])
    generalize hv56 : (x3 &&& (2147483647 : Int32)) = v56
    refine own_st (fun t k => XS.istore X51.here hx rfl (hb hby at_29) rfl (l' := #[.val (.int x0), .val (.int x1), .val (.int x2), .val (.int x3), .val (.int x4), .val (.int (8 : Int32)), .val (.ref b51), .val (.int v54), .val (.int v55), .val (.int v56), .unset]) rfl k) ?_
    show own_Go _ _ _ _ T51 (mkF m 31 #[.val (.int x0), .val (.int x1), .val (.int x2), .val (.int x3), .val (.int x4), .val (.int (8 : Int32)), .val (.ref b51), .val (.int v54), .val (.int v55), .val (.int v56), .unset] [])
    refine own_st (fun t k => XS.iload X51.here hx rfl (hb hby at_31) rfl k) ?_
    show own_Go _ _ _ _ T51 (mkF m 33 _ [(.int x4)])
    refine own_st (fun t k => X51.ldcInt hx hown (mvT hZ (hw _ (List.mem_of_getElem? (i := 1) rfl))) (g := (mkF m 33 #[.val (.int x0), .val (.int x1), .val (.int x2), .val (.int x3), .val (.int x4), .val (.int (8 : Int32)), .val (.ref b51), .val (.int v54), .val (.int v55), .val (.int v56), .unset] [(.int x4)])) rfl (hb hby at_33) _ k) ?_
    show own_Go _ _ _ _ T51 (mkF m 35 _ [(.int (2147483647 : Int32)), (.int x4)])
    refine own_st (fun t k => XS.iand X51.here hx rfl (hb hby at_35) rfl k) ?_
    show own_Go _ _ _ _ T51 (mkF m 36 _ [(.int (x4 &&& (2147483647 : Int32)))])
    generalize hv57 : (x4 &&& (2147483647 : Int32)) = v57
    refine own_st (fun t k => XS.istore X51.here hx rfl (hb hby at_36) rfl (l' := #[.val (.int x0), .val (.int x1), .val (.int x2), .val (.int x3), .val (.int x4), .val (.int (8 : Int32)), .val (.ref b51), .val (.int v54), .val (.int v55), .val (.int v56), .val (.int v57)]) rfl k) ?_
    show own_Go _ _ _ _ T51 (mkF m 38 #[.val (.int x0), .val (.int x1), .val (.int x2), .val (.int x3), .val (.int x4), .val (.int (8 : Int32)), .val (.ref b51), .val (.int v54), .val (.int v55), .val (.int v56), .val (.int v57)] [])
    refine own_st (fun t k => XS.aload X51.here hx rfl (hb hby at_38) rfl rfl k) ?_
    show own_Go _ _ _ _ T51 (mkF m 40 _ [(.ref b51)])
    refine own_st (fun t k => XS.iload X51.here hx rfl (hb hby at_40) rfl k) ?_
    show own_Go _ _ _ _ T51 (mkF m 42 _ [(.int v54), (.ref b51)])
    refine own_st (fun t k => XS.iconst X51.here hx rfl (hb hby at_42) k) ?_
    show own_Go _ _ _ _ T51 (mkF m 43 _ [(.int (0 : Int32)), (.int v54), (.ref b51)])
    refine own_st (fun t k => XS.iconst X51.here hx rfl (hb hby at_43) k) ?_
    show own_Go _ _ _ _ T51 (mkF m 44 _ [(.int (1 : Int32)), (.int (0 : Int32)), (.int v54), (.ref b51)])
    obtain ⟨_, _, ⟨T58, L58, k58, n58⟩, -, X58, ⟨Lc58, hQ58, l58, y58, z58⟩, st58⟩ := Jvm.LawKit.callS X51 hx (y := (⟨"com/example/premise/premise/store/NumberSlotsSlotPinLaw", "step", "([IIZZ)Z"⟩ : MethodName)) hown (mvT hZ (hw _ (List.mem_of_getElem? (i := 2) rfl))) (mvT hZ (hw _ (List.mem_of_getElem? (i := 3) rfl))) (mvT hZ (hw _ (List.mem_of_getElem? (i := 4) rfl))) (mvT hZ (hw _ (List.mem_of_getElem? (i := 5) rfl))) (by decide) (backOf (W := 0) (rm2 l Z a0 hw [] b51 v54 (0 : Int32) (1 : Int32) k51 (8 : Int32) (fun _ => (0 : Int32)) h51 n0 Z53 V51 (Or.inr (Or.inl rfl)) (own_room (Or.inr (Or.inl rfl)) (own_inv0 (8 : Int32)) (by decide)) gx52) hZ (hw _ (List.mem_of_getElem? (i := 5) rfl)) (hw _ (List.mem_of_getElem? (i := 4) rfl)) (by decide) (by decide)) (g := (mkF m 44 #[.val (.int x0), .val (.int x1), .val (.int x2), .val (.int x3), .val (.int x4), .val (.int (8 : Int32)), .val (.ref b51), .val (.int v54), .val (.int v55), .val (.int v56), .val (.int v57)] [(.int (1 : Int32)), (.int (0 : Int32)), (.int v54), (.ref b51)])) rfl (by rw [hml]; rfl) (argsL := [(.ref b51), (.int v54), (.int (0 : Int32)), (.int (1 : Int32))]) (rest := []) (lenOf own_pd___IIZZ_Z rfl) rfl (by show 2 * 0 + _ ≤ _; exact Nat.le_of_eq rfl) (hb hby at_44) (fun _ _ => ⟨rfl, e51, (by decide : 1 + 0 ≤ _), (by decide : 8 + 0 ≤ _)⟩)
    dsimp only [Pt.U, Pt.locs, Pt.cells, Pt.slots] at X58 l58 y58 z58 st58 hQ58
    subst l58 y58 z58
    obtain ⟨r58_r, r58_sp, r58_g2, rfl, NQ58, K58, fq58_0, hq58_0⟩ := hQ58
    have N59 := Fr.app N0 NQ58
    refine own_st st58 ?_
    have Z60 : n0 ≤ T58.heap.size := Nat.le_trans Z53 K58.1
    obtain ⟨hr58, S58_, inv58, len58, mem58⟩ := own_callW ((own_inv0 (8 : Int32))) hq58_0 (own_nzm hv54) (⟨fun q => by simp at q, fun _ => rfl⟩)
    show own_Go _ _ _ _ T58 (mkF m 47 _ [(.int r58_r)])
    refine own_st (fun t k => XS.ifYes X58.here hx rfl (pc0 := 47) (pc' := 52) rfl (hb hby at_47) rfl ((if0 _ _).trans (feq (by rw [hr58]; decide)).2) (by decide) (by decide) k) ?_
    show own_Go _ _ _ _ T58 (mkF m 52 _ [])
    refine own_st (fun t k => XS.aload X58.here hx rfl (hb hby at_52) rfl rfl k) ?_
    show own_Go _ _ _ _ T58 (mkF m 54 _ [(.ref b51)])
    refine own_st (fun t k => XS.iload X58.here hx rfl (hb hby at_54) rfl k) ?_
    show own_Go _ _ _ _ T58 (mkF m 56 _ [(.int v55), (.ref b51)])
    refine own_st (fun t k => XS.iload X58.here hx rfl (hb hby at_56) rfl k) ?_
    show own_Go _ _ _ _ T58 (mkF m 58 _ [(.int v55), (.int v55), (.ref b51)])
    refine own_st (fun t k => XS.iload X58.here hx rfl (hb hby at_58) rfl k) ?_
    show own_Go _ _ _ _ T58 (mkF m 60 _ [(.int v54), (.int v55), (.int v55), (.ref b51)])
    have J64 : ∀ (Tj64 : State) (Lj64 : List Loc) (p65 : Int32), Stand p l e room_1 s m #[(.int x0), (.int x1), (.int x2), (.int x3), (.int x4)] below meth c Tj64 Lj64 1 8 → Tj64.heap = T58.heap → Fr n0 Lj64 → p65 = (if v55 = v54 then (1 : Int32) else (0 : Int32)) → own_Go p.tables e below Pq Tj64 (mkF m 68 #[.val (.int x0), .val (.int x1), .val (.int x2), .val (.int x3), .val (.int x4), .val (.int (8 : Int32)), .val (.ref b51), .val (.int v54), .val (.int v55), .val (.int v56), .val (.int v57)] [(.int p65), (.int v55), (.ref b51)]) := by
      intro Tj64 Lj64 p65 Xj64 ej64 Nj64 qp65
      show own_Go _ _ _ _ Tj64 (mkF m 68 _ [(.int p65), (.int v55), (.ref b51)])
      refine own_st (fun t k => XS.iconst Xj64.here hx rfl (hb hby at_68) k) ?_
      show own_Go _ _ _ _ Tj64 (mkF m 69 _ [(.int (1 : Int32)), (.int p65), (.int v55), (.ref b51)])
      obtain ⟨_, _, ⟨T66, L66, k66, n66⟩, -, X66, ⟨Lc66, hQ66, l66, y66, z66⟩, st66⟩ := Jvm.LawKit.callS Xj64 hx (y := (⟨"com/example/premise/premise/store/NumberSlotsSlotPinLaw", "step", "([IIZZ)Z"⟩ : MethodName)) hown (mvT hZ (hw _ (List.mem_of_getElem? (i := 2) rfl))) (mvT hZ (hw _ (List.mem_of_getElem? (i := 3) rfl))) (mvT hZ (hw _ (List.mem_of_getElem? (i := 4) rfl))) (mvT hZ (hw _ (List.mem_of_getElem? (i := 5) rfl))) (by decide) (backOf (W := 0) (rm2 l Z a0 hw [] b51 v55 p65 (1 : Int32) k51 (8 : Int32) r58_g2 T58.heap n0 Z60 fq58_0 (Or.inr (Or.inl rfl)) (own_room (Or.inr (Or.inl rfl)) inv58 (Nat.le_trans len58 (by decide))) gx52) hZ (hw _ (List.mem_of_getElem? (i := 5) rfl)) (hw _ (List.mem_of_getElem? (i := 4) rfl)) (by decide) (by decide)) (g := (mkF m 69 #[.val (.int x0), .val (.int x1), .val (.int x2), .val (.int x3), .val (.int x4), .val (.int (8 : Int32)), .val (.ref b51), .val (.int v54), .val (.int v55), .val (.int v56), .val (.int v57)] [(.int (1 : Int32)), (.int p65), (.int v55), (.ref b51)])) rfl (by rw [hml]; rfl) (argsL := [(.ref b51), (.int v55), (.int p65), (.int (1 : Int32))]) (rest := []) (lenOf own_pd___IIZZ_Z rfl) rfl (by show 2 * 0 + _ ≤ _; exact Nat.le_of_eq rfl) (hb hby at_69) (fun _ _ => ⟨rfl, ej64, (by decide : 1 + 0 ≤ _), (by decide : 8 + 0 ≤ _)⟩)
      dsimp only [Pt.U, Pt.locs, Pt.cells, Pt.slots] at X66 l66 y66 z66 st66 hQ66
      subst l66 y66 z66
      obtain ⟨r66_r, r66_sp, r66_g2, rfl, NQ66, K66, fq66_0, hq66_0⟩ := hQ66
      have N67 := Fr.app Nj64 NQ66
      refine own_st st66 ?_
      have Z68 : n0 ≤ T66.heap.size := Nat.le_trans Z60 K66.1
      obtain ⟨hr66, S66_, inv66, len66, mem66⟩ := own_callW (inv58) hq66_0 (own_nzm hv55) (own_pr1 qp65 (by first | (simp only [mem58, List.not_mem_nil, or_false]; done) | (simp only [mem58, List.not_mem_nil, or_false]; exact ⟨fun h => by rcases h with h <;> simp [h], fun h => by rcases h with h <;> simp [h]⟩)))
      show own_Go _ _ _ _ T66 (mkF m 72 _ [(.int r66_r)])
      refine own_st (fun t k => XS.ifYes X66.here hx rfl (pc0 := 72) (pc' := 77) rfl (hb hby at_72) rfl ((if0 _ _).trans (feq (by rw [hr66]; decide)).2) (by decide) (by decide) k) ?_
      show own_Go _ _ _ _ T66 (mkF m 77 _ [])
      refine own_st (fun t k => XS.aload X66.here hx rfl (hb hby at_77) rfl rfl k) ?_
      show own_Go _ _ _ _ T66 (mkF m 79 _ [(.ref b51)])
      refine own_st (fun t k => XS.iload X66.here hx rfl (hb hby at_79) rfl k) ?_
      show own_Go _ _ _ _ T66 (mkF m 81 _ [(.int v56), (.ref b51)])
      refine own_st (fun t k => XS.iload X66.here hx rfl (hb hby at_81) rfl k) ?_
      show own_Go _ _ _ _ T66 (mkF m 83 _ [(.int v56), (.int v56), (.ref b51)])
      refine own_st (fun t k => XS.iload X66.here hx rfl (hb hby at_83) rfl k) ?_
      show own_Go _ _ _ _ T66 (mkF m 85 _ [(.int v54), (.int v56), (.int v56), (.ref b51)])
      have J74 : ∀ (Tj74 : State) (Lj74 : List Loc) (p75 : Int32), Stand p l e room_1 s m #[(.int x0), (.int x1), (.int x2), (.int x3), (.int x4)] below meth c Tj74 Lj74 1 8 → Tj74.heap = T66.heap → Fr n0 Lj74 → p75 = (if v56 = v54 then (1 : Int32) else (if v56 = v55 then (1 : Int32) else (0 : Int32))) → own_Go p.tables e below Pq Tj74 (mkF m 100 #[.val (.int x0), .val (.int x1), .val (.int x2), .val (.int x3), .val (.int x4), .val (.int (8 : Int32)), .val (.ref b51), .val (.int v54), .val (.int v55), .val (.int v56), .val (.int v57)] [(.int p75), (.int v56), (.ref b51)]) := by
        intro Tj74 Lj74 p75 Xj74 ej74 Nj74 qp75
        show own_Go _ _ _ _ Tj74 (mkF m 100 _ [(.int p75), (.int v56), (.ref b51)])
        refine own_st (fun t k => XS.iconst Xj74.here hx rfl (hb hby at_100) k) ?_
        show own_Go _ _ _ _ Tj74 (mkF m 101 _ [(.int (1 : Int32)), (.int p75), (.int v56), (.ref b51)])
        obtain ⟨_, _, ⟨T76, L76, k76, n76⟩, -, X76, ⟨Lc76, hQ76, l76, y76, z76⟩, st76⟩ := Jvm.LawKit.callS Xj74 hx (y := (⟨"com/example/premise/premise/store/NumberSlotsSlotPinLaw", "step", "([IIZZ)Z"⟩ : MethodName)) hown (mvT hZ (hw _ (List.mem_of_getElem? (i := 2) rfl))) (mvT hZ (hw _ (List.mem_of_getElem? (i := 3) rfl))) (mvT hZ (hw _ (List.mem_of_getElem? (i := 4) rfl))) (mvT hZ (hw _ (List.mem_of_getElem? (i := 5) rfl))) (by decide) (backOf (W := 0) (rm2 l Z a0 hw [] b51 v56 p75 (1 : Int32) k51 (8 : Int32) r66_g2 T66.heap n0 Z68 fq66_0 (Or.inr (Or.inl rfl)) (own_room (Or.inr (Or.inl rfl)) inv66 (by simp only [List.length_nil] at *; omega)) gx52) hZ (hw _ (List.mem_of_getElem? (i := 5) rfl)) (hw _ (List.mem_of_getElem? (i := 4) rfl)) (by decide) (by decide)) (g := (mkF m 101 #[.val (.int x0), .val (.int x1), .val (.int x2), .val (.int x3), .val (.int x4), .val (.int (8 : Int32)), .val (.ref b51), .val (.int v54), .val (.int v55), .val (.int v56), .val (.int v57)] [(.int (1 : Int32)), (.int p75), (.int v56), (.ref b51)])) rfl (by rw [hml]; rfl) (argsL := [(.ref b51), (.int v56), (.int p75), (.int (1 : Int32))]) (rest := []) (lenOf own_pd___IIZZ_Z rfl) rfl (by show 2 * 0 + _ ≤ _; exact Nat.le_of_eq rfl) (hb hby at_101) (fun _ _ => ⟨rfl, ej74, (by decide : 1 + 0 ≤ _), (by decide : 8 + 0 ≤ _)⟩)
        dsimp only [Pt.U, Pt.locs, Pt.cells, Pt.slots] at X76 l76 y76 z76 st76 hQ76
        subst l76 y76 z76
        obtain ⟨r76_r, r76_sp, r76_g2, rfl, NQ76, K76, fq76_0, hq76_0⟩ := hQ76
        have N77 := Fr.app Nj74 NQ76
        refine own_st st76 ?_
        have Z78 : n0 ≤ T76.heap.size := Nat.le_trans Z68 K76.1
        obtain ⟨hr76, S76_, inv76, len76, mem76⟩ := own_callW (inv66) hq76_0 (own_nzm hv56) (own_pr2 qp75 (by first | (simp only [mem66, mem58, List.not_mem_nil, or_false]; done) | (simp only [mem66, mem58, List.not_mem_nil, or_false]; exact ⟨fun h => by rcases h with h | h <;> simp [h], fun h => by rcases h with h | h <;> simp [h]⟩)))
        show own_Go _ _ _ _ T76 (mkF m 104 _ [(.int r76_r)])
        refine own_st (fun t k => XS.ifYes X76.here hx rfl (pc0 := 104) (pc' := 109) rfl (hb hby at_104) rfl ((if0 _ _).trans (feq (by rw [hr76]; decide)).2) (by decide) (by decide) k) ?_
        show own_Go _ _ _ _ T76 (mkF m 109 _ [])
        refine own_st (fun t k => XS.aload X76.here hx rfl (hb hby at_109) rfl rfl k) ?_
        show own_Go _ _ _ _ T76 (mkF m 111 _ [(.ref b51)])
        refine own_st (fun t k => XS.iload X76.here hx rfl (hb hby at_111) rfl k) ?_
        show own_Go _ _ _ _ T76 (mkF m 113 _ [(.int v54), (.ref b51)])
        refine own_st (fun t k => XS.iconst X76.here hx rfl (hb hby at_113) k) ?_
        show own_Go _ _ _ _ T76 (mkF m 114 _ [(.int (1 : Int32)), (.int v54), (.ref b51)])
        refine own_st (fun t k => XS.iconst X76.here hx rfl (hb hby at_114) k) ?_
        show own_Go _ _ _ _ T76 (mkF m 115 _ [(.int (0 : Int32)), (.int (1 : Int32)), (.int v54), (.ref b51)])
        obtain ⟨_, _, ⟨T79, L79, k79, n79⟩, -, X79, ⟨Lc79, hQ79, l79, y79, z79⟩, st79⟩ := Jvm.LawKit.callS X76 hx (y := (⟨"com/example/premise/premise/store/NumberSlotsSlotPinLaw", "step", "([IIZZ)Z"⟩ : MethodName)) hown (mvT hZ (hw _ (List.mem_of_getElem? (i := 2) rfl))) (mvT hZ (hw _ (List.mem_of_getElem? (i := 3) rfl))) (mvT hZ (hw _ (List.mem_of_getElem? (i := 4) rfl))) (mvT hZ (hw _ (List.mem_of_getElem? (i := 5) rfl))) (by decide) (backOf (W := 0) (rm2 l Z a0 hw [] b51 v54 (1 : Int32) (0 : Int32) k51 (8 : Int32) r76_g2 T76.heap n0 Z78 fq76_0 (Or.inr (Or.inl rfl)) (own_room (Or.inr (Or.inl rfl)) inv76 (by simp only [List.length_nil] at *; omega)) gx52) hZ (hw _ (List.mem_of_getElem? (i := 5) rfl)) (hw _ (List.mem_of_getElem? (i := 4) rfl)) (by decide) (by decide)) (g := (mkF m 115 #[.val (.int x0), .val (.int x1), .val (.int x2), .val (.int x3), .val (.int x4), .val (.int (8 : Int32)), .val (.ref b51), .val (.int v54), .val (.int v55), .val (.int v56), .val (.int v57)] [(.int (0 : Int32)), (.int (1 : Int32)), (.int v54), (.ref b51)])) rfl (by rw [hml]; rfl) (argsL := [(.ref b51), (.int v54), (.int (1 : Int32)), (.int (0 : Int32))]) (rest := []) (lenOf own_pd___IIZZ_Z rfl) rfl (by show 2 * 0 + _ ≤ _; exact Nat.le_of_eq rfl) (hb hby at_115) (fun _ _ => ⟨rfl, rfl, (by decide : 1 + 0 ≤ _), (by decide : 8 + 0 ≤ _)⟩)
        dsimp only [Pt.U, Pt.locs, Pt.cells, Pt.slots] at X79 l79 y79 z79 st79 hQ79
        subst l79 y79 z79
        obtain ⟨r79_r, r79_sp, r79_g2, rfl, NQ79, K79, fq79_0, hq79_0⟩ := hQ79
        have N80 := Fr.app N77 NQ79
        refine own_st st79 ?_
        have Z81 : n0 ≤ T79.heap.size := Nat.le_trans Z78 K79.1
        obtain ⟨hr79, inv79⟩ := own_callR (inv76) hq79_0 (⟨fun _ => by decide, fun q => absurd (by simp only [mem76, mem66, mem58, List.not_mem_nil, or_false]; simp) q⟩)
        show own_Go _ _ _ _ T79 (mkF m 118 _ [(.int r79_r)])
        refine own_st (fun t k => XS.ifNo X79.here hx rfl (hb hby at_118) rfl ((if0 _ _).trans (feq (by rw [hr79]; decide)).1) k) ?_
        show own_Go _ _ _ _ T79 (mkF m 121 _ [])
        refine own_st (fun t k => XS.aload X79.here hx rfl (hb hby at_121) rfl rfl k) ?_
        show own_Go _ _ _ _ T79 (mkF m 123 _ [(.ref b51)])
        refine own_st (fun t k => XS.iload X79.here hx rfl (hb hby at_123) rfl k) ?_
        show own_Go _ _ _ _ T79 (mkF m 125 _ [(.int v55), (.ref b51)])
        refine own_st (fun t k => XS.iconst X79.here hx rfl (hb hby at_125) k) ?_
        show own_Go _ _ _ _ T79 (mkF m 126 _ [(.int (1 : Int32)), (.int v55), (.ref b51)])
        refine own_st (fun t k => XS.iconst X79.here hx rfl (hb hby at_126) k) ?_
        show own_Go _ _ _ _ T79 (mkF m 127 _ [(.int (0 : Int32)), (.int (1 : Int32)), (.int v55), (.ref b51)])
        obtain ⟨_, _, ⟨T82, L82, k82, n82⟩, -, X82, ⟨Lc82, hQ82, l82, y82, z82⟩, st82⟩ := Jvm.LawKit.callS X79 hx (y := (⟨"com/example/premise/premise/store/NumberSlotsSlotPinLaw", "step", "([IIZZ)Z"⟩ : MethodName)) hown (mvT hZ (hw _ (List.mem_of_getElem? (i := 2) rfl))) (mvT hZ (hw _ (List.mem_of_getElem? (i := 3) rfl))) (mvT hZ (hw _ (List.mem_of_getElem? (i := 4) rfl))) (mvT hZ (hw _ (List.mem_of_getElem? (i := 5) rfl))) (by decide) (backOf (W := 0) (rm2 l Z a0 hw [] b51 v55 (1 : Int32) (0 : Int32) k51 (8 : Int32) r79_g2 T79.heap n0 Z81 fq79_0 (Or.inr (Or.inl rfl)) (own_room (Or.inr (Or.inl rfl)) inv79 (by simp only [List.length_nil] at *; omega)) gx52) hZ (hw _ (List.mem_of_getElem? (i := 5) rfl)) (hw _ (List.mem_of_getElem? (i := 4) rfl)) (by decide) (by decide)) (g := (mkF m 127 #[.val (.int x0), .val (.int x1), .val (.int x2), .val (.int x3), .val (.int x4), .val (.int (8 : Int32)), .val (.ref b51), .val (.int v54), .val (.int v55), .val (.int v56), .val (.int v57)] [(.int (0 : Int32)), (.int (1 : Int32)), (.int v55), (.ref b51)])) rfl (by rw [hml]; rfl) (argsL := [(.ref b51), (.int v55), (.int (1 : Int32)), (.int (0 : Int32))]) (rest := []) (lenOf own_pd___IIZZ_Z rfl) rfl (by show 2 * 0 + _ ≤ _; exact Nat.le_of_eq rfl) (hb hby at_127) (fun _ _ => ⟨rfl, rfl, (by decide : 1 + 0 ≤ _), (by decide : 8 + 0 ≤ _)⟩)
        dsimp only [Pt.U, Pt.locs, Pt.cells, Pt.slots] at X82 l82 y82 z82 st82 hQ82
        subst l82 y82 z82
        obtain ⟨r82_r, r82_sp, r82_g2, rfl, NQ82, K82, fq82_0, hq82_0⟩ := hQ82
        have N83 := Fr.app N80 NQ82
        refine own_st st82 ?_
        have Z84 : n0 ≤ T82.heap.size := Nat.le_trans Z81 K82.1
        obtain ⟨hr82, inv82⟩ := own_callR (inv79) hq82_0 (⟨fun _ => by decide, fun q => absurd (by simp only [mem76, mem66, mem58, List.not_mem_nil, or_false]; simp) q⟩)
        show own_Go _ _ _ _ T82 (mkF m 130 _ [(.int r82_r)])
        refine own_st (fun t k => XS.ifNo X82.here hx rfl (hb hby at_130) rfl ((if0 _ _).trans (feq (by rw [hr82]; decide)).1) k) ?_
        show own_Go _ _ _ _ T82 (mkF m 133 _ [])
        refine own_st (fun t k => XS.aload X82.here hx rfl (hb hby at_133) rfl rfl k) ?_
        show own_Go _ _ _ _ T82 (mkF m 135 _ [(.ref b51)])
        refine own_st (fun t k => XS.iload X82.here hx rfl (hb hby at_135) rfl k) ?_
        show own_Go _ _ _ _ T82 (mkF m 137 _ [(.int v56), (.ref b51)])
        refine own_st (fun t k => XS.iconst X82.here hx rfl (hb hby at_137) k) ?_
        show own_Go _ _ _ _ T82 (mkF m 138 _ [(.int (1 : Int32)), (.int v56), (.ref b51)])
        refine own_st (fun t k => XS.iconst X82.here hx rfl (hb hby at_138) k) ?_
        show own_Go _ _ _ _ T82 (mkF m 139 _ [(.int (0 : Int32)), (.int (1 : Int32)), (.int v56), (.ref b51)])
        obtain ⟨_, _, ⟨T85, L85, k85, n85⟩, -, X85, ⟨Lc85, hQ85, l85, y85, z85⟩, st85⟩ := Jvm.LawKit.callS X82 hx (y := (⟨"com/example/premise/premise/store/NumberSlotsSlotPinLaw", "step", "([IIZZ)Z"⟩ : MethodName)) hown (mvT hZ (hw _ (List.mem_of_getElem? (i := 2) rfl))) (mvT hZ (hw _ (List.mem_of_getElem? (i := 3) rfl))) (mvT hZ (hw _ (List.mem_of_getElem? (i := 4) rfl))) (mvT hZ (hw _ (List.mem_of_getElem? (i := 5) rfl))) (by decide) (backOf (W := 0) (rm2 l Z a0 hw [] b51 v56 (1 : Int32) (0 : Int32) k51 (8 : Int32) r82_g2 T82.heap n0 Z84 fq82_0 (Or.inr (Or.inl rfl)) (own_room (Or.inr (Or.inl rfl)) inv82 (by simp only [List.length_nil] at *; omega)) gx52) hZ (hw _ (List.mem_of_getElem? (i := 5) rfl)) (hw _ (List.mem_of_getElem? (i := 4) rfl)) (by decide) (by decide)) (g := (mkF m 139 #[.val (.int x0), .val (.int x1), .val (.int x2), .val (.int x3), .val (.int x4), .val (.int (8 : Int32)), .val (.ref b51), .val (.int v54), .val (.int v55), .val (.int v56), .val (.int v57)] [(.int (0 : Int32)), (.int (1 : Int32)), (.int v56), (.ref b51)])) rfl (by rw [hml]; rfl) (argsL := [(.ref b51), (.int v56), (.int (1 : Int32)), (.int (0 : Int32))]) (rest := []) (lenOf own_pd___IIZZ_Z rfl) rfl (by show 2 * 0 + _ ≤ _; exact Nat.le_of_eq rfl) (hb hby at_139) (fun _ _ => ⟨rfl, rfl, (by decide : 1 + 0 ≤ _), (by decide : 8 + 0 ≤ _)⟩)
        dsimp only [Pt.U, Pt.locs, Pt.cells, Pt.slots] at X85 l85 y85 z85 st85 hQ85
        subst l85 y85 z85
        obtain ⟨r85_r, r85_sp, r85_g2, rfl, NQ85, K85, fq85_0, hq85_0⟩ := hQ85
        have N86 := Fr.app N83 NQ85
        refine own_st st85 ?_
        have Z87 : n0 ≤ T85.heap.size := Nat.le_trans Z84 K85.1
        obtain ⟨hr85, inv85⟩ := own_callR (inv82) hq85_0 (⟨fun _ => by decide, fun q => absurd (by simp only [mem76, mem66, mem58, List.not_mem_nil, or_false]; simp) q⟩)
        show own_Go _ _ _ _ T85 (mkF m 142 _ [(.int r85_r)])
        refine own_st (fun t k => XS.ifNo X85.here hx rfl (hb hby at_142) rfl ((if0 _ _).trans (feq (by rw [hr85]; decide)).1) k) ?_
        show own_Go _ _ _ _ T85 (mkF m 145 _ [])
        refine own_st (fun t k => XS.aload X85.here hx rfl (hb hby at_145) rfl rfl k) ?_
        show own_Go _ _ _ _ T85 (mkF m 147 _ [(.ref b51)])
        refine own_st (fun t k => XS.iload X85.here hx rfl (hb hby at_147) rfl k) ?_
        show own_Go _ _ _ _ T85 (mkF m 149 _ [(.int v57), (.ref b51)])
        refine own_st (fun t k => XS.iload X85.here hx rfl (hb hby at_149) rfl k) ?_
        show own_Go _ _ _ _ T85 (mkF m 151 _ [(.int v57), (.int v57), (.ref b51)])
        refine own_st (fun t k => XS.iload X85.here hx rfl (hb hby at_151) rfl k) ?_
        show own_Go _ _ _ _ T85 (mkF m 153 _ [(.int v54), (.int v57), (.int v57), (.ref b51)])
        have J95 : ∀ (Tj95 : State) (Lj95 : List Loc) (p96 : Int32), Stand p l e room_1 s m #[(.int x0), (.int x1), (.int x2), (.int x3), (.int x4)] below meth c Tj95 Lj95 1 8 → Tj95.heap = T85.heap → Fr n0 Lj95 → p96 = (if v57 = v54 then (1 : Int32) else (if v57 = v55 then (1 : Int32) else (if v57 = v56 then (1 : Int32) else (0 : Int32)))) → own_Go p.tables e below Pq Tj95 (mkF m 175 #[.val (.int x0), .val (.int x1), .val (.int x2), .val (.int x3), .val (.int x4), .val (.int (8 : Int32)), .val (.ref b51), .val (.int v54), .val (.int v55), .val (.int v56), .val (.int v57)] [(.int p96), (.int v57), (.ref b51)]) := by
          intro Tj95 Lj95 p96 Xj95 ej95 Nj95 qp96
          show own_Go _ _ _ _ Tj95 (mkF m 175 _ [(.int p96), (.int v57), (.ref b51)])
          refine own_st (fun t k => XS.iconst Xj95.here hx rfl (hb hby at_175) k) ?_
          show own_Go _ _ _ _ Tj95 (mkF m 176 _ [(.int (0 : Int32)), (.int p96), (.int v57), (.ref b51)])
          obtain ⟨_, _, ⟨T97, L97, k97, n97⟩, -, X97, ⟨Lc97, hQ97, l97, y97, z97⟩, st97⟩ := Jvm.LawKit.callS Xj95 hx (y := (⟨"com/example/premise/premise/store/NumberSlotsSlotPinLaw", "step", "([IIZZ)Z"⟩ : MethodName)) hown (mvT hZ (hw _ (List.mem_of_getElem? (i := 2) rfl))) (mvT hZ (hw _ (List.mem_of_getElem? (i := 3) rfl))) (mvT hZ (hw _ (List.mem_of_getElem? (i := 4) rfl))) (mvT hZ (hw _ (List.mem_of_getElem? (i := 5) rfl))) (by decide) (backOf (W := 0) (rm2 l Z a0 hw [] b51 v57 p96 (0 : Int32) k51 (8 : Int32) r85_g2 T85.heap n0 Z87 fq85_0 (Or.inr (Or.inl rfl)) (own_room (Or.inr (Or.inl rfl)) inv85 (by simp only [List.length_nil] at *; omega)) gx52) hZ (hw _ (List.mem_of_getElem? (i := 5) rfl)) (hw _ (List.mem_of_getElem? (i := 4) rfl)) (by decide) (by decide)) (g := (mkF m 176 #[.val (.int x0), .val (.int x1), .val (.int x2), .val (.int x3), .val (.int x4), .val (.int (8 : Int32)), .val (.ref b51), .val (.int v54), .val (.int v55), .val (.int v56), .val (.int v57)] [(.int (0 : Int32)), (.int p96), (.int v57), (.ref b51)])) rfl (by rw [hml]; rfl) (argsL := [(.ref b51), (.int v57), (.int p96), (.int (0 : Int32))]) (rest := []) (lenOf own_pd___IIZZ_Z rfl) rfl (by show 2 * 0 + _ ≤ _; exact Nat.le_of_eq rfl) (hb hby at_176) (fun _ _ => ⟨rfl, ej95, (by decide : 1 + 0 ≤ _), (by decide : 8 + 0 ≤ _)⟩)
          dsimp only [Pt.U, Pt.locs, Pt.cells, Pt.slots] at X97 l97 y97 z97 st97 hQ97
          subst l97 y97 z97
          obtain ⟨r97_r, r97_sp, r97_g2, rfl, NQ97, K97, fq97_0, hq97_0⟩ := hQ97
          have N98 := Fr.app Nj95 NQ97
          refine own_st st97 ?_
          have Z99 : n0 ≤ T97.heap.size := Nat.le_trans Z87 K97.1
          obtain ⟨hr97, inv97⟩ := own_callR (inv85) hq97_0 (own_pr3 qp96 (by first | (simp only [mem76, mem66, mem58, List.not_mem_nil, or_false]; done) | (simp only [mem76, mem66, mem58, List.not_mem_nil, or_false]; exact ⟨fun h => by rcases h with h | h | h <;> simp [h], fun h => by rcases h with h | h | h <;> simp [h]⟩)))
          show own_Go _ _ _ _ T97 (mkF m 179 _ [(.int r97_r)])
          refine own_st (fun t k => XS.ifNo X97.here hx rfl (hb hby at_179) rfl ((if0 _ _).trans (feq (by rw [hr97]; decide)).1) k) ?_
          show own_Go _ _ _ _ T97 (mkF m 182 _ [])
          refine own_st (fun t k => XS.iconst X97.here hx rfl (hb hby at_182) k) ?_
          show own_Go _ _ _ _ T97 (mkF m 183 _ [(.int (1 : Int32))])
          refine own_st (fun t k => XS.goto X97.here hx rfl (pc0 := 183) (pc' := 187) rfl (hb hby at_183) (by decide) (by decide) k) ?_
          show own_Go _ _ _ _ T97 (mkF m 187 _ [(.int (1 : Int32))])
          subst hPq
          refine own_out X97 (v := some (.int (nar .boolean (1 : Int32)))) (fun h => by rw [Bd.returns] at h; cases h) Bd.notSynchronized (fun fs hr => retN X97 hx (t := .boolean) Bd.returns (by simp) (hb hby at_187) hr) (by decide) (by decide) ?_
          show Q0 Z x0 x1 x2 x3 x4 h0 n0 _ T97.heap _
          exact ⟨congrArg (fun z => some (Value.int (nar .boolean z))) (own_law2 x0 x1 x2 x3 x4 v54 v55 v56 v57 r58_r r58_sp r58_g2 p65 r66_r r66_sp r66_g2 p75 r76_r r76_sp r76_g2 r79_r r79_sp r79_g2 r82_r r82_sp r82_g2 r85_r r85_sp r85_g2 p96 r97_r r97_sp r97_g2 hv54 hv55 hv56 hv57 hq58_0 qp65 hq66_0 qp75 hq76_0 hq79_0 hq82_0 hq85_0 qp96 hq97_0), N98⟩
        by_cases c88 : v57 = v54
        · skip
          refine own_st (fun t k => XS.icmpYes X85.here hx rfl (pc0 := 153) (pc' := 170) rfl (hb hby at_153) rfl (teq c88).1 (by decide) (by decide) k) ?_
          show own_Go _ _ _ _ T85 (mkF m 170 _ [(.int v57), (.ref b51)])
          refine own_st (fun t k => XS.iconst X85.here hx rfl (hb hby at_170) k) ?_
          show own_Go _ _ _ _ T85 (mkF m 171 _ [(.int (1 : Int32)), (.int v57), (.ref b51)])
          refine own_st (fun t k => XS.goto X85.here hx rfl (pc0 := 171) (pc' := 175) rfl (hb hby at_171) (by decide) (by decide) k) ?_
          show own_Go _ _ _ _ T85 (mkF m 175 _ [(.int (1 : Int32)), (.int v57), (.ref b51)])
          exact J95 T85 _ _ X85 rfl N86 (by simp only [if_pos c88])
        · skip
          refine own_st (fun t k => XS.icmpNo X85.here hx rfl (hb hby at_153) rfl (feq c88).1 k) ?_
          show own_Go _ _ _ _ T85 (mkF m 156 _ [(.int v57), (.ref b51)])
          refine own_st (fun t k => XS.iload X85.here hx rfl (hb hby at_156) rfl k) ?_
          show own_Go _ _ _ _ T85 (mkF m 158 _ [(.int v57), (.int v57), (.ref b51)])
          refine own_st (fun t k => XS.iload X85.here hx rfl (hb hby at_158) rfl k) ?_
          show own_Go _ _ _ _ T85 (mkF m 160 _ [(.int v55), (.int v57), (.int v57), (.ref b51)])
          by_cases c90 : v57 = v55
          · skip
            refine own_st (fun t k => XS.icmpYes X85.here hx rfl (pc0 := 160) (pc' := 170) rfl (hb hby at_160) rfl (teq c90).1 (by decide) (by decide) k) ?_
            show own_Go _ _ _ _ T85 (mkF m 170 _ [(.int v57), (.ref b51)])
            refine own_st (fun t k => XS.iconst X85.here hx rfl (hb hby at_170) k) ?_
            show own_Go _ _ _ _ T85 (mkF m 171 _ [(.int (1 : Int32)), (.int v57), (.ref b51)])
            refine own_st (fun t k => XS.goto X85.here hx rfl (pc0 := 171) (pc' := 175) rfl (hb hby at_171) (by decide) (by decide) k) ?_
            show own_Go _ _ _ _ T85 (mkF m 175 _ [(.int (1 : Int32)), (.int v57), (.ref b51)])
            exact J95 T85 _ _ X85 rfl N86 (by simp only [if_neg c88, if_pos c90])
          · skip
            refine own_st (fun t k => XS.icmpNo X85.here hx rfl (hb hby at_160) rfl (feq c90).1 k) ?_
            show own_Go _ _ _ _ T85 (mkF m 163 _ [(.int v57), (.ref b51)])
            refine own_st (fun t k => XS.iload X85.here hx rfl (hb hby at_163) rfl k) ?_
            show own_Go _ _ _ _ T85 (mkF m 165 _ [(.int v57), (.int v57), (.ref b51)])
            refine own_st (fun t k => XS.iload X85.here hx rfl (hb hby at_165) rfl k) ?_
            show own_Go _ _ _ _ T85 (mkF m 167 _ [(.int v56), (.int v57), (.int v57), (.ref b51)])
            by_cases c92 : v57 = v56
            · skip
              refine own_st (fun t k => XS.icmpNo X85.here hx rfl (hb hby at_167) rfl (teq c92).2 k) ?_
              show own_Go _ _ _ _ T85 (mkF m 170 _ [(.int v57), (.ref b51)])
              refine own_st (fun t k => XS.iconst X85.here hx rfl (hb hby at_170) k) ?_
              show own_Go _ _ _ _ T85 (mkF m 171 _ [(.int (1 : Int32)), (.int v57), (.ref b51)])
              refine own_st (fun t k => XS.goto X85.here hx rfl (pc0 := 171) (pc' := 175) rfl (hb hby at_171) (by decide) (by decide) k) ?_
              show own_Go _ _ _ _ T85 (mkF m 175 _ [(.int (1 : Int32)), (.int v57), (.ref b51)])
              exact J95 T85 _ _ X85 rfl N86 (by simp only [if_neg c88, if_neg c90, if_pos c92])
            · skip
              refine own_st (fun t k => XS.icmpYes X85.here hx rfl (pc0 := 167) (pc' := 174) rfl (hb hby at_167) rfl (feq c92).2 (by decide) (by decide) k) ?_
              show own_Go _ _ _ _ T85 (mkF m 174 _ [(.int v57), (.ref b51)])
              refine own_st (fun t k => XS.iconst X85.here hx rfl (hb hby at_174) k) ?_
              show own_Go _ _ _ _ T85 (mkF m 175 _ [(.int (0 : Int32)), (.int v57), (.ref b51)])
              exact J95 T85 _ _ X85 rfl N86 (by simp only [if_neg c88, if_neg c90, if_neg c92])
      by_cases c69 : v56 = v54
      · skip
        refine own_st (fun t k => XS.icmpYes X66.here hx rfl (pc0 := 85) (pc' := 95) rfl (hb hby at_85) rfl (teq c69).1 (by decide) (by decide) k) ?_
        show own_Go _ _ _ _ T66 (mkF m 95 _ [(.int v56), (.ref b51)])
        refine own_st (fun t k => XS.iconst X66.here hx rfl (hb hby at_95) k) ?_
        show own_Go _ _ _ _ T66 (mkF m 96 _ [(.int (1 : Int32)), (.int v56), (.ref b51)])
        refine own_st (fun t k => XS.goto X66.here hx rfl (pc0 := 96) (pc' := 100) rfl (hb hby at_96) (by decide) (by decide) k) ?_
        show own_Go _ _ _ _ T66 (mkF m 100 _ [(.int (1 : Int32)), (.int v56), (.ref b51)])
        exact J74 T66 _ _ X66 rfl N67 (by simp only [if_pos c69])
      · skip
        refine own_st (fun t k => XS.icmpNo X66.here hx rfl (hb hby at_85) rfl (feq c69).1 k) ?_
        show own_Go _ _ _ _ T66 (mkF m 88 _ [(.int v56), (.ref b51)])
        refine own_st (fun t k => XS.iload X66.here hx rfl (hb hby at_88) rfl k) ?_
        show own_Go _ _ _ _ T66 (mkF m 90 _ [(.int v56), (.int v56), (.ref b51)])
        refine own_st (fun t k => XS.iload X66.here hx rfl (hb hby at_90) rfl k) ?_
        show own_Go _ _ _ _ T66 (mkF m 92 _ [(.int v55), (.int v56), (.int v56), (.ref b51)])
        by_cases c71 : v56 = v55
        · skip
          refine own_st (fun t k => XS.icmpNo X66.here hx rfl (hb hby at_92) rfl (teq c71).2 k) ?_
          show own_Go _ _ _ _ T66 (mkF m 95 _ [(.int v56), (.ref b51)])
          refine own_st (fun t k => XS.iconst X66.here hx rfl (hb hby at_95) k) ?_
          show own_Go _ _ _ _ T66 (mkF m 96 _ [(.int (1 : Int32)), (.int v56), (.ref b51)])
          refine own_st (fun t k => XS.goto X66.here hx rfl (pc0 := 96) (pc' := 100) rfl (hb hby at_96) (by decide) (by decide) k) ?_
          show own_Go _ _ _ _ T66 (mkF m 100 _ [(.int (1 : Int32)), (.int v56), (.ref b51)])
          exact J74 T66 _ _ X66 rfl N67 (by simp only [if_neg c69, if_pos c71])
        · skip
          refine own_st (fun t k => XS.icmpYes X66.here hx rfl (pc0 := 92) (pc' := 99) rfl (hb hby at_92) rfl (feq c71).2 (by decide) (by decide) k) ?_
          show own_Go _ _ _ _ T66 (mkF m 99 _ [(.int v56), (.ref b51)])
          refine own_st (fun t k => XS.iconst X66.here hx rfl (hb hby at_99) k) ?_
          show own_Go _ _ _ _ T66 (mkF m 100 _ [(.int (0 : Int32)), (.int v56), (.ref b51)])
          exact J74 T66 _ _ X66 rfl N67 (by simp only [if_neg c69, if_neg c71])
    by_cases c61 : v55 = v54
    · skip
      refine own_st (fun t k => XS.icmpNo X58.here hx rfl (hb hby at_60) rfl (teq c61).2 k) ?_
      show own_Go _ _ _ _ T58 (mkF m 63 _ [(.int v55), (.ref b51)])
      refine own_st (fun t k => XS.iconst X58.here hx rfl (hb hby at_63) k) ?_
      show own_Go _ _ _ _ T58 (mkF m 64 _ [(.int (1 : Int32)), (.int v55), (.ref b51)])
      refine own_st (fun t k => XS.goto X58.here hx rfl (pc0 := 64) (pc' := 68) rfl (hb hby at_64) (by decide) (by decide) k) ?_
      show own_Go _ _ _ _ T58 (mkF m 68 _ [(.int (1 : Int32)), (.int v55), (.ref b51)])
      exact J64 T58 _ _ X58 rfl N59 (by simp only [if_pos c61])
    · skip
      refine own_st (fun t k => XS.icmpYes X58.here hx rfl (pc0 := 60) (pc' := 67) rfl (hb hby at_60) rfl (feq c61).2 (by decide) (by decide) k) ?_
      show own_Go _ _ _ _ T58 (mkF m 67 _ [(.int v55), (.ref b51)])
      refine own_st (fun t k => XS.iconst X58.here hx rfl (hb hby at_67) k) ?_
      show own_Go _ _ _ _ T58 (mkF m 68 _ [(.int (0 : Int32)), (.int v55), (.ref b51)])
      exact J64 T58 _ _ X58 rfl N59 (by simp only [if_neg c61])
set_option maxRecDepth 65536 in
set_option maxHeartbeats 4000000 in
theorem own_comes {Post : Tables → Env → Array Value → State → Outcome → State → Prop} (hpost : ∀ tb e args s v u, (limb_1_1.after args s (.returned v) u = true ∧ limb_1_2.after args s (.returned v) u = true ∧ True) → FrameEnd s (.returned v) u (Jvm.fieldLocs frame_1_writes args s ++ Jvm.arrayLocs frame_1_arrays args s ++ Jvm.staticLocs frame_1_statics s) 16 128 → Post tb e args s (.returned v) u) :
    ArmFor flags0 classFile x code maxLocals ret World_1 tables_1 room_1 Calls_1 rest_1 Pre_1 Post := by
  intro l hfl _ _ p e ha hc hk s m args below hf hA hF happ hP
  obtain ⟨hcalls, hrest, hpre⟩ := hP
  obtain ⟨-, -, -, hnamed, -, -, -, hat⟩ := (Spec.applies_iff hf).mp happ
  obtain ⟨hg, hn⟩ := and_e (Cond.before_iff.mp (show (Jvm.Cond.and given_1 narrow_1).before args s = true from hpre))
  obtain ⟨g0, r0⟩ := and_e hg
  obtain ⟨g1, r1⟩ := and_e r0
  obtain ⟨g2, r2⟩ := and_e r1
  obtain ⟨g3, r3⟩ := and_e r2
  obtain ⟨g4, r4⟩ := and_e r3
  obtain ⟨w0, w1, w2, w3, w4, rfl⟩ : ∃ w0 w1 w2 w3 w4 : Value, args = #[w0, w1, w2, w3, w4] := by
    have hs : args.size = 5 := by simpa [Cond.value, given_1] using g0
    obtain ⟨L⟩ := args
    match L, hs with
    | [w0, w1, w2, w3, w4], _ => exact ⟨w0, w1, w2, w3, w4, rfl⟩
  have hw := fun d (hd : d ∈ tables_1) => atoms_spec (ws := Jvm.Cond.code x code maxLocals ret :: tables_1) hat d (List.mem_cons_of_mem _ hd)
  obtain ⟨i0, ei0⟩ := is_v g1
  obtain rfl : w0 = (.int i0) := Option.some.inj ei0
  obtain ⟨i1, ei1⟩ := is_v g2
  obtain rfl : w1 = (.int i1) := Option.some.inj ei1
  obtain ⟨i2, ei2⟩ := is_v g3
  obtain rfl : w2 = (.int i2) := Option.some.inj ei2
  obtain ⟨i3, ei3⟩ := is_v g4
  obtain rfl : w3 = (.int i3) := Option.some.inj ei3
  obtain ⟨i4, ei4⟩ := is_v r4
  obtain rfl : w4 = (.int i4) := Option.some.inj ei4
  obtain ⟨n, o, h1, h2, h3, _, L, rfl, ⟨rfl, N⟩, hq⟩ := rm0 l s _ hw tables_1 i0 i1 i2 i3 i4 s.heap s.heap.size (Nat.le_refl _) p e ha hc hk s m _ below hf ((Spec.applies_iff_loose hf).mp happ).1 ⟨rfl, State.Warmed39.refl s, rfl⟩ trivial
  refine ⟨n, _, h1, h2, h3, hpost _ _ _ _ _ _ ⟨Cond.after_iff.mpr rfl, Cond.after_iff.mpr (eq_i res_at (Term.int_eval (1)) rfl), trivial⟩ ⟨hq.1, hq.2.1, (hq.2.2.sift fun y hy => Or.inr (N y hy)).mono (by decide) (by decide)⟩⟩
theorem main_1_1 : Claimed_1_1 := own_comes fun _ _ _ _ _ _ h hF => ⟨h.1, hF⟩
theorem main_1_2 : Claimed_1_2 := own_comes fun _ _ _ _ _ _ h hF => ⟨h.2.1, hF⟩
end Jvm.Pilot.@@N@@
namespace Jvm.Pilot.@@N@@
open Jvm Jvm.ClassFile Sem Op Lib Jvm.Free Jvm.Stand Jvm.Pilot.@@N@@.Jvm.D
/-! MADE BY PROGRAM (witnessworld.py) out of the Statement's table words and the real class files: 9 classes; the members and pool entries that the words name. The judged class is class 1, her method 1. -/
namespace start1
open Jvm.ClassFile
def u (s : String) : CpInfo := .utf8 (stringToUtf16 s)
/-- a pool by its gaps: so many unusable entries, then the entry; so many at the end -/
def gap : Nat → List CpInfo → List CpInfo
  | 0, r => r
  | n + 1, r => .unusable :: gap n r
def poolList (es : List (Nat × CpInfo)) (last : Nat) : List CpInfo := es.foldr (fun e r => gap e.1 (e.2 :: r)) (gap last [])
def pool (es : List (Nat × CpInfo)) (last : Nat) : Array CpInfo := ⟨poolList es last⟩
def fileOf (pool : Array CpInfo) (this : Nat) (attrs : Array Attribute := #[]) (ms : Array MethodInfo := #[]) (fl : Nat := 33) (sup : Nat := 0) (ifs : Array Nat := #[]) (fds : Array FieldInfo := #[]) : ClassFile where
  minorVersion := 0
  majorVersion := 65
  constantPool := pool
  accessFlags := fl
  thisClass := this
  superClass := sup
  interfaces := ifs
  fields := fds
  methods := ms
  attributes := attrs
def plain (name : String) (sup : Option ClassId) : Class where
  name := name
  kind := .ordinary
  loader := none
  accessFlags := 33
  super := sup
  interfaces := #[]
  cf := none
  fields := #[]
  methods := #[]
  instanceTypes := #[]
  staticTypes := #[]
  resolved := #[]
  callSites := []
  init := .initialized
  statics := none
  mirror := none

def pool0 : Array CpInfo := pool [(5, u "<init>"), (0, u "()V"), (1, .class_ 10), (1, u "java/lang/Object")] 113

def k0m0 : Method := { name := "<init>", desc := "()V", sig := { parameters := [], returnType := none }, accessFlags := 1, code := none }
/-- java/lang/Object -/
def k0 : Class := { plain "java/lang/Object" none with
  accessFlags := 33
  interfaces := #[]
  cf := some (fileOf pool0 8 #[] #[{ accessFlags := 1, nameIndex := 5, descriptorIndex := 6, attributes := #[] }] 33 0 #[] #[])
  fields := #[]
  methods := #[k0m0]
  instanceTypes := #[]
  staticTypes := #[]
  resolved := Array.replicate 124 none
  statics := none }

def pool1 : Array CpInfo := pool [(2, .class_ 4), (1, u "java/lang/Object"), (0, u "<init>"), (0, u "()V"), (0, .integer 2147483647), (0, .methodref 9 10), (0, .class_ 11), (0, .nameAndType 12 13), (0, u "com/example/premise/premise/store/NumberSlotsSlotPinLaw"), (0, u "step"), (0, u "([IIZZ)Z"), (0, .methodref 15 16), (0, .class_ 17), (0, .nameAndType 18 19), (0, u "com/example/premise/premise/store/NumberSlots"), (0, u "slot"), (0, u "([II)I"), (2, u "law"), (0, u "(IIIII)Z")] 5

def k1m0 : Method := { name := "<init>", desc := "()V", sig := { parameters := [], returnType := none }, accessFlags := 2, code := none }
def k1c1 : Code := { maxStack := 4, maxLocals := 11, code := code, exceptionTable := #[], attributes := #[] }
def k1m1 : Method := { name := "law", desc := "(IIIII)Z", sig := { parameters := [.int, .int, .int, .int, .int], returnType := some .boolean }, accessFlags := 9, code := some k1c1 }
def k1c2 : Code := { maxStack := 4, maxLocals := 5, code := method_3_code, exceptionTable := #[], attributes := #[] }
def k1m2 : Method := { name := "step", desc := "([IIZZ)Z", sig := { parameters := [(.array .int), .int, .boolean, .boolean], returnType := some .boolean }, accessFlags := 10, code := some k1c2 }
/-- com/example/premise/premise/store/NumberSlotsSlotPinLaw -/
def k1 : Class := { plain "com/example/premise/premise/store/NumberSlotsSlotPinLaw" (some 0) with
  accessFlags := 49
  interfaces := #[]
  cf := some (fileOf pool1 9 #[] #[{ accessFlags := 2, nameIndex := 5, descriptorIndex := 6, attributes := #[] }, { accessFlags := 9, nameIndex := 22, descriptorIndex := 23, attributes := #[] }, { accessFlags := 10, nameIndex := 12, descriptorIndex := 13, attributes := #[] }] 49 2 #[] #[])
  fields := #[]
  methods := #[k1m0, k1m1, k1m2]
  instanceTypes := #[]
  staticTypes := #[]
  resolved := Array.replicate 29 none
  statics := none }

def pool2 : Array CpInfo := pool [(2, .class_ 4), (1, u "java/lang/Object"), (0, u "<init>"), (0, u "()V"), (0, .integer 2654435769), (0, .class_ 9), (0, u "com/example/premise/premise/store/NumberSlots"), (2, u "slot"), (0, u "([II)I")] 3

def k2m0 : Method := { name := "<init>", desc := "()V", sig := { parameters := [], returnType := none }, accessFlags := 2, code := none }
def k2c1 : Code := { maxStack := 3, maxLocals := 5, code := prog_43_method_2_code, exceptionTable := #[], attributes := #[] }
def k2m1 : Method := { name := "slot", desc := "([II)I", sig := { parameters := [(.array .int), .int], returnType := some .int }, accessFlags := 9, code := some k2c1 }
/-- com/example/premise/premise/store/NumberSlots -/
def k2 : Class := { plain "com/example/premise/premise/store/NumberSlots" (some 0) with
  accessFlags := 49
  interfaces := #[]
  cf := some (fileOf pool2 8 #[] #[{ accessFlags := 2, nameIndex := 5, descriptorIndex := 6, attributes := #[] }, { accessFlags := 9, nameIndex := 12, descriptorIndex := 13, attributes := #[] }] 49 2 #[] #[])
  fields := #[]
  methods := #[k2m0, k2m1]
  instanceTypes := #[]
  staticTypes := #[]
  resolved := Array.replicate 17 none
  statics := none }

def pool3 : Array CpInfo := pool [(1, u "java/lang/Cloneable"), (0, .class_ 1), (0, u "java/lang/Object"), (0, .class_ 3)] 3

/-- java/lang/Cloneable -/
def k3 : Class := { plain "java/lang/Cloneable" (some 0) with
  accessFlags := 1537
  interfaces := #[]
  cf := some (fileOf pool3 2 #[] #[] 1537 4 #[] #[])
  fields := #[]
  methods := #[]
  instanceTypes := #[]
  staticTypes := #[]
  resolved := Array.replicate 8 none
  statics := none }

def pool4 : Array CpInfo := pool [(1, u "java/io/Serializable"), (0, .class_ 1), (0, u "java/lang/Object"), (0, .class_ 3)] 3

/-- java/io/Serializable -/
def k4 : Class := { plain "java/io/Serializable" (some 0) with
  accessFlags := 1537
  interfaces := #[]
  cf := some (fileOf pool4 2 #[] #[] 1537 4 #[] #[])
  fields := #[]
  methods := #[]
  instanceTypes := #[]
  staticTypes := #[]
  resolved := Array.replicate 8 none
  statics := none }

/-- the primitive byte -/
def k5 : Class := { plain "byte" none with kind := .primitive 'B', accessFlags := 0x411 }
/-- [B -/
def k6 : Class := { plain "[B" (some 0) with kind := .array 5 .byte, interfaces := #[3, 4], accessFlags := 1041 }

/-- the primitive int -/
def k7 : Class := { plain "int" none with kind := .primitive 'I', accessFlags := 0x411 }
/-- [I -/
def k8 : Class := { plain "[I" (some 0) with kind := .array 7 .int, interfaces := #[3, 4], accessFlags := 1041 }

def heap : Heap := #[]
def classes : Array Class := #[k0, k1, k2, k3, k4, k5, k6, k7, k8]
def interned : List (Array UInt16 × Addr) := []
def slotsUsed : Nat := 0
def theMethod : MethodId := ⟨1, 1⟩
def args0 : Array Value := #[.int 5, .int 5, .int 5, .int 5, .int 5]
def aboutOver (below : List Frame) : State where
  vm := { classes := classes, interned := interned.toArray }
  heap := heap
  slotsUsed := slotsUsed
  threads := #[{ frames := .invoking theMethod args0 :: below }]
def below0 : List Frame := [.native { method := ⟨0, 0⟩, args := #[] }]
def about1 : State := aboutOver below0
def p0 : Program := .bare "" "" ""
def e0 : Env := launch0.env 0 0 0
theorem w_frames : about1.frames = Frame.invoking theMethod args0 :: below0 := rfl
set_option maxRecDepth 65536 in
theorem w_args : argsFit about1.vm theMethod args0 = true := by decide +kernel
set_option maxRecDepth 65536 in
theorem w_heap : heapFits about1 = true := by decide +kernel
set_option maxRecDepth 65536 in
theorem w_runnable : about1.curStatus? = some .runnable := by decide +kernel
set_option maxRecDepth 65536 in
theorem w_alone : about1.alone = true := by decide +kernel
set_option maxRecDepth 65536 in
theorem w_named : about1.methodNamed? x = some theMethod := by decide +kernel
set_option maxRecDepth 65536 in
theorem w_hears : about1.hears theMethod below0 = true := by decide +kernel
set_option maxRecDepth 65536 in
theorem w_ripe : about1.ripe theMethod args0 below0 = true := by decide +kernel
theorem w_running : about1.status = .running := rfl
set_option maxRecDepth 65536 in
theorem w_room : about1.hasRoom e0.platform room_1 = true :=
  launch0.hasRoom_least _ room_1 (by decide +kernel) (by decide +kernel) (by decide +kernel) (by decide +kernel) (by decide +kernel) (by decide +kernel)
theorem allAtoms_all (ts : List Jvm.Cond) (a : Array Jvm.Value) (st : Jvm.State) : (allAtoms ts).before a st = ts.all (fun c => c.before a st) := by
  induction ts with
  | nil => rfl
  | cons c t ih =>
    show (Jvm.Cond.and c (allAtoms t)).before a st = _
    rw [Jvm.Cond.before_and, ih, List.all_cons]
def words1 : List Jvm.Cond := Jvm.Cond.code x code maxLocals ret :: tables_1
/-- a 'code' word, met by the world's own term for the bytes: nothing is compared byte by byte -/
theorem code_word {y : MethodName} {bytes : ByteArray} {mx : Nat} {rt : Option FieldType} {a : Array Value} {s : State} {m : MethodId} {meth : Method} {c : Code} (h1 : s.methodNamed? y = some m) (h2 : s.vm.method? m = some meth) (h3 : meth.code = some c) (h4 : c.code = bytes)
    (h5 : (c.maxLocals == mx && c.exceptionTable.isEmpty && decide (c.maxStack ≤ mostOperands) && decide (meth.sig.returnType = rt) && !meth.locks && decide (parseMethodDescriptor y.desc = some meth.sig)) = true) : (Jvm.Cond.code y bytes mx rt).before a s = true := by
  simp only [Bool.and_eq_true, beq_iff_eq, Bool.not_eq_true', decide_eq_true_eq] at h5
  obtain ⟨⟨⟨⟨⟨g1, g2⟩, g3⟩, g4⟩, g5⟩, g6⟩ := h5
  simp [Cond.before, Cond.holds, Cond.value, h1, h2, h3, h4, g1, g2, g3, g4, g5, g6]
def isCode : Jvm.Cond → Bool
  | .code _ _ _ _ => true
  | _ => false
theorem all_split {L : List Jvm.Cond} {P : Jvm.Cond → Bool} (h1 : L.all (fun c => isCode c || P c) = true) (h2 : ∀ c ∈ L.filter isCode, P c = true) : L.all P = true := by
  refine List.all_eq_true.mpr fun c hc => ?_
  have h := List.all_eq_true.mp h1 c hc
  rcases Bool.eq_false_or_eq_true (isCode c) with hi | hi
  · exact h2 c (List.mem_filter.mpr ⟨hc, hi⟩)
  · simpa [hi] using h
set_option maxRecDepth 65536 in
theorem w_c0 : (Jvm.Cond.code x code maxLocals ret).before args0 about1 = true := code_word (m := ⟨1, 1⟩) (meth := k1m1) (c := k1c1) (by decide +kernel) rfl rfl rfl (by decide +kernel)
set_option maxRecDepth 65536 in
theorem w_c1 : (Jvm.Cond.code ({ cls := "com/example/premise/premise/store/NumberSlotsSlotPinLaw", name := "step", desc := "([IIZZ)Z" } : Jvm.MethodName) method_3_code (5 : Nat) (Option.some Jvm.ClassFile.FieldType.boolean)).before args0 about1 = true := code_word (m := ⟨1, 2⟩) (meth := k1m2) (c := k1c2) (by decide +kernel) rfl rfl rfl (by decide +kernel)
set_option maxRecDepth 65536 in
theorem w_c2 : (Jvm.Cond.code ({ cls := "com/example/premise/premise/store/NumberSlots", name := "slot", desc := "([II)I" } : Jvm.MethodName) prog_43_method_2_code (5 : Nat) (Option.some Jvm.ClassFile.FieldType.int)).before args0 about1 = true := code_word (m := ⟨2, 1⟩) (meth := k2m1) (c := k2c1) (by decide +kernel) rfl rfl rfl (by decide +kernel)
def codes1 : List Jvm.Cond := [Jvm.Cond.code x code maxLocals ret, Jvm.Cond.code ({ cls := "com/example/premise/premise/store/NumberSlotsSlotPinLaw", name := "step", desc := "([IIZZ)Z" } : Jvm.MethodName) method_3_code (5 : Nat) (Option.some Jvm.ClassFile.FieldType.boolean), Jvm.Cond.code ({ cls := "com/example/premise/premise/store/NumberSlots", name := "slot", desc := "([II)I" } : Jvm.MethodName) prog_43_method_2_code (5 : Nat) (Option.some Jvm.ClassFile.FieldType.int)]
set_option maxRecDepth 65536 in
theorem codes_eq : words1.filter isCode = codes1 := rfl
theorem w_codes : ∀ c ∈ words1.filter isCode, c.before args0 about1 = true := by
  rw [codes_eq]
  intro c hc
  simp only [codes1, List.mem_cons, List.not_mem_nil, or_false] at hc
  rcases hc with rfl | rfl | rfl
  · exact w_c0
  · exact w_c1
  · exact w_c2
set_option maxRecDepth 65536 in
theorem w_t1 : words1.all (fun c => isCode c || c.before args0 about1) = true := by decide +kernel
theorem w_tables : (allAtoms (Jvm.Cond.code x code maxLocals ret :: tables_1)).before args0 about1 = true := by
  rw [allAtoms_all]
  show words1.all (fun c => c.before args0 about1) = true
  refine all_split ?_ w_codes
  rw [w_t1]
set_option maxRecDepth 65536 in
theorem w_case : (Jvm.Cond.and given_1 narrow_1).before args0 about1 = true := by decide +kernel
theorem w_applies : (headSpec (Jvm.Cond.code x code maxLocals ret :: tables_1) room_1).applies x e0.platform about1 = true :=
  (Spec.applies_iff w_frames).mpr ⟨w_running, w_runnable, w_alone, w_named, w_hears, w_ripe, w_room, w_tables⟩
theorem atStart : AtStart classFile x code maxLocals ret World_1 tables_1 room_1 Calls_1 rest_1 Pre_1 launch0 p0 e0 about1 theMethod args0 below0 :=
  ⟨lists_1, trivial, launch0.admits_env _ _ _, launch0.least_env, fairChoices_fair.cas, fairChoices_fair.clock, w_frames, w_args, w_heap, w_applies, trivial, trivial, w_case⟩
end start1
theorem witness_1 : WitnessClaimed_1 := ⟨start1.p0, start1.e0, start1.about1, start1.theMethod, start1.args0, start1.below0, start1.atStart⟩
end Jvm.Pilot.@@N@@
