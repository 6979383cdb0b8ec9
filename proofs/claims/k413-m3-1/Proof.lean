import JvmDerived
import JvmDerived.Pilot.@@N@@Statement
import JvmDerived.Pilot.@@N@@Code
set_option linter.unusedVariables false
set_option linter.unusedSimpArgs false
@@BLOCK:NumsL.lean.txt@@
namespace Jvm.Pilot.@@N@@
open Jvm Jvm.ClassFile Sem Op Lib Jvm.Free Jvm.Stand Jvm.LawKit Jvm.RoadKit Bundle Jvm.Pilot.@@N@@.Jvm.D
/-- from here the run comes to a state of which P holds -/
def own_Go (tb : Tables) (e : Env) (below : List Frame) (P : State → Prop) (T : State) (g : JFrame) : Prop := ∃ t, Steps tb e below (T.setTop g) t ∧ P t
theorem own_st {tb : Tables} {e : Env} {below : List Frame} {P : State → Prop} {T T' : State} {g g' : JFrame} (h : ∀ t, Steps tb e below (T'.setTop g') t → Steps tb e below (T.setTop g) t) (k : own_Go tb e below P T' g') : own_Go tb e below P T g := by
  obtain ⟨t, a, b⟩ := k; exact ⟨t, h t a, b⟩
/-- what the end of a body must be -/
def own_P (s : State) (below : List Frame) (Q : Option Value → Heap → List Loc → Prop) (C S : Nat) (t : State) : Prop := t.status = .running ∧ ∃ o, Ended t below o ∧ ∃ v L, o = .returned v ∧ Q v t.heap L ∧ FrameEnd s o t L C S
/-- .. of a body that may have interned -/
def own_PW (s : State) (below : List Frame) (Q : Option Value → Heap → List Loc → Prop) (C S : Nat) (t : State) : Prop := t.status = .running ∧ ∃ o, Ended t below o ∧ ∃ v L, o = .returned v ∧ Q v t.heap L ∧ ReturnedEndW s o t L C S
section own
variable {p : Program} {l : Launch} {e : Env} {R : Room} {s : State} {m : MethodId} {args : Array Value} {below : List Frame} {meth : Method} {c : Code} {T : State} {locs : List Loc} {cells slots : Nat} {Qo : Option Value → Heap → List Loc → Prop} {C' S' : Nat}
theorem own_out (X : Stand p l e R s m args below meth c T locs cells slots) {v : Option Value} {g : JFrame} (hv : meth.sig.returnType = none → v = none) (hlocks : meth.locks = false)
    (hst : ∀ fs, (∀ (f : JFrame) (acts : List Action), f.method = m → f.locked = none → f.entered = [] → (doReturn e (T.setTop f) acts v).1 = T.setFrames fs) → Steps p.tables e below (T.setTop g) (T.setFrames fs))
    (hc : cells ≤ C') (hs : slots ≤ S') (hq : Qo v T.heap locs) : own_Go p.tables e below (own_P s below Qo C' S') T g := by
  obtain ⟨fs, hr, hrun, hended, hW, hsame⟩ := X.leave (v := v) hv hlocks
  exact ⟨_, hst fs hr, hrun, _, hended, _, _, rfl, hq, ⟨_, rfl⟩, hW, hsame.mono hc hs⟩
theorem own_outW {vm0 : Vm} (X : Stand p l e R (s.setVm vm0) m args below meth c T locs cells slots) {k0 : Nat} (hS : s.Since vm0 k0) (hk : k0 ≤ T.heap.size) {v : Option Value} {g : JFrame} (hv : meth.sig.returnType = none → v = none) (hlocks : meth.locks = false)
    (hst : ∀ fs, (∀ (f : JFrame) (acts : List Action), f.method = m → f.locked = none → f.entered = [] → (doReturn e (T.setTop f) acts v).1 = T.setFrames fs) → Steps p.tables e below (T.setTop g) (T.setFrames fs))
    (hc : cells ≤ C') (hs : slots ≤ S') (hq : Qo v T.heap locs) : own_Go p.tables e below (own_PW s below Qo C' S') T g := by
  obtain ⟨fs, hr, hrun, hended, hW⟩ := X.leaveW hS hk (v := v) hv hlocks
  exact ⟨_, hst fs hr, hrun, _, hended, _, _, rfl, hq, hW.1, hW.2.1, hW.2.2.1, hW.2.2.2.mono hc hs⟩
theorem own_retI (X : Stand p l e R s m args below meth c T locs cells slots) (hx : p.tables.exec = Jvm.exec) {pc : Nat} {Ls : Array Slot} {z : Int32} {rest : List Value} (hret : meth.sig.returnType = some .int) (hd : decode c.code pc = .ok (.ireturn, 1)) (fs : List Frame)
    (hl : ∀ (f : JFrame) (acts : List Action), f.method = m → f.locked = none → f.entered = [] → (doReturn e (T.setTop f) acts (some (.int z))).1 = T.setFrames fs) : Steps p.tables e below (T.setTop (mkF m pc Ls (.int z :: rest))) (T.setFrames fs) :=
  retOut X hx hret rfl (Or.inl ⟨rfl, Or.inl rfl, _, rfl⟩) hd hl
theorem own_retZ (X : Stand p l e R s m args below meth c T locs cells slots) (hx : p.tables.exec = Jvm.exec) {pc : Nat} {Ls : Array Slot} {z : Int32} {rest : List Value} (hret : meth.sig.returnType = some .boolean) (hd : decode c.code pc = .ok (.ireturn, 1)) (hb : z = 0 ∨ z = 1) (fs : List Frame)
    (hl : ∀ (f : JFrame) (acts : List Action), f.method = m → f.locked = none → f.entered = [] → (doReturn e (T.setTop f) acts (some (.int z))).1 = T.setFrames fs) : Steps p.tables e below (T.setTop (mkF m pc Ls (.int z :: rest))) (T.setFrames fs) := by
  have e1 : nar .boolean z = z := by rcases hb with rfl | rfl <;> decide
  exact retN X hx hret (Or.inl rfl) hd (by rw [e1]; exact hl)
theorem own_retJ (X : Stand p l e R s m args below meth c T locs cells slots) (hx : p.tables.exec = Jvm.exec) {pc : Nat} {Ls : Array Slot} {z : Int64} {rest : List Value} (hret : meth.sig.returnType = some .long) (hd : decode c.code pc = .ok (.lreturn, 1)) (fs : List Frame)
    (hl : ∀ (f : JFrame) (acts : List Action), f.method = m → f.locked = none → f.entered = [] → (doReturn e (T.setTop f) acts (some (.long z))).1 = T.setFrames fs) : Steps p.tables e below (T.setTop (mkF m pc Ls (.long z :: rest))) (T.setFrames fs) :=
  retOut X hx hret rfl (Or.inr (Or.inl ⟨rfl, rfl, _, rfl⟩)) hd hl
theorem own_retR (X : Stand p l e R s m args below meth c T locs cells slots) (hx : p.tables.exec = Jvm.exec) {pc : Nat} {Ls : Array Slot} {w : Value} {t : FieldType} {rest : List Value} (hret : meth.sig.returnType = some t) (ht : t.isReference = true) (hw : w.isRef = true) (hn : narrow t w = w) (hd : decode c.code pc = .ok (.areturn, 1)) (fs : List Frame)
    (hl : ∀ (f : JFrame) (acts : List Action), f.method = m → f.locked = none → f.entered = [] → (doReturn e (T.setTop f) acts (some w)).1 = T.setFrames fs) : Steps p.tables e below (T.setTop (mkF m pc Ls (w :: rest))) (T.setFrames fs) :=
  retOut X hx hret hn (Or.inr (Or.inr (Or.inr (Or.inr ⟨rfl, ht, hw⟩)))) hd hl
end own
/-- a private method is the one that is picked -/
theorem own_selp {s : State} {args : Array Value} {y : MethodName} {n : Nat} (hi : (Jvm.Cond.instantiable y.cls n).before args s = true) (hp : s.PrivateAt y) (hm : (Jvm.Cond.instanceMethod y).before args s = true) (hy : y.cls ≠ "java/lang/invoke/MethodHandle" ∧ y.cls ≠ "java/lang/invoke/VarHandle") : (Jvm.Cond.selects y.cls y y).before args s = true := by
  obtain ⟨c, k, h1, h2, -, h4, -⟩ := Cond.instantiable_spec hi
  exact selects_self_of_private h1 h2 (Bool.or_eq_false_iff.mp h4).1 hp hm hy
theorem own_staK {Z : State} {h h' : Heap} {C n d : String} {v : Value} {ws : List Addr} (F : Sta Z h C n d v) (K : Keep h h' ws) (q : ∀ x ∈ ws, ∃ D, Exa Z h x D) : Sta Z h' C n d v := by
  obtain ⟨cf, i, k, f, st, cell, h1, h2, h3, h4, h5, h6, h7⟩ := F
  refine ⟨cf, i, k, f, st, cell, h1, h2, h3, h4, K.2.1 st cell h5 (fun hm => ?_), h6, h7⟩
  obtain ⟨D, c', k', e1, -, -, e4, -⟩ := q st hm
  cases h5.symm.trans e1
  rw [h6] at e4; cases e4
/-- a reference or null -/
theorem own_refOf {w : Value} (h : w.isRef = true) (c : ¬ w = Value.null) : ∃ a, w = .ref a := (ref_cases h).resolve_left c
theorem own_nW {t : FieldType} {w : Value} (ht : t.isReference = true) (h : w.isRef = true) : narrow t w = w := by
  rcases ref_cases h with rfl | ⟨a, rfl⟩ <;> cases t <;> first | rfl | simp [FieldType.isReference] at ht
theorem own_fW {t : FieldType} {w : Value} (ht : t.isReference = true) (h : w.isRef = true) : fits t w = true := by
  rcases ref_cases h with rfl | ⟨a, rfl⟩ <;> cases t <;> first | rfl | simp [FieldType.isReference] at ht
theorem own_nb {z : Int32} (h : z = 0 ∨ z = 1) : narrow .boolean (.int z) = .int z := by rcases h with rfl | rfl <;> rfl
theorem own_fb {z : Int32} (h : z = 0 ∨ z = 1) : fits .boolean (.int z) = true := by rcases h with rfl | rfl <;> rfl
/-- lcmp and a branch, in one -/
def own_lcv : ClassFile.Cond → Int64 → Int64 → Prop
  | .lt, x, y => x < y | .ge, x, y => ¬ x < y | .gt, x, y => y < x | .le, x, y => ¬ y < x | .eq, x, y => x = y | .ne, x, y => ¬ x = y
theorem own_lcT {cd : ClassFile.Cond} {x y : Int64} (h : own_lcv cd x y) : ifCond.holds cd (lcmpW x y) = true := by
  rw [if0]
  cases cd
  · exact (teq ((lw_eq x y).mpr h)).1
  · exact (feq (fun q => h ((lw_eq x y).mp q))).2
  · exact (tlt ((lw_lt x y).mpr h)).1
  · exact (flt (fun q => h ((lw_lt x y).mp q))).2.1
  · exact (tlt ((lw_gt x y).mpr h)).2.2.1
  · exact (flt (fun q => h ((lw_gt x y).mp q))).2.2.2
theorem own_lcF {cd : ClassFile.Cond} {x y : Int64} (h : ¬ own_lcv cd x y) : ifCond.holds cd (lcmpW x y) = false := by
  rw [if0]
  cases cd
  · exact (feq (fun q => h ((lw_eq x y).mp q))).1
  · exact (teq (Classical.byContradiction fun q => h (fun r => q ((lw_eq x y).mpr r)))).2
  · exact (flt (fun q => h ((lw_lt x y).mp q))).1
  · exact (tlt (Classical.byContradiction fun q => h (fun r => q ((lw_lt x y).mpr r)))).2.1
  · exact (flt (fun q => h ((lw_gt x y).mp q))).2.2.1
  · exact (tlt (Classical.byContradiction fun q => h (fun r => q ((lw_gt x y).mpr r)))).2.2.2

theorem own_pd___II_I : parseMethodDescriptor "([II)I" = some ⟨[(.array .int), .int], some .int⟩ := by decide +kernel
theorem own_pd__I_I : parseMethodDescriptor "(I)I" = some ⟨[.int], some .int⟩ := by decide +kernel
theorem own_pd__II_I : parseMethodDescriptor "(II)I" = some ⟨[.int, .int], some .int⟩ := by decide +kernel
theorem own_pd___V : parseMethodDescriptor "()V" = some ⟨[], none⟩ := by decide +kernel
theorem own_pd__I_J : parseMethodDescriptor "(I)J" = some ⟨[.int], some .long⟩ := by decide +kernel
theorem own_pd__III_V : parseMethodDescriptor "(III)V" = some ⟨[.int, .int, .int], none⟩ := by decide +kernel
theorem own_pd__J_I : parseMethodDescriptor "(J)I" = some ⟨[.long], some .int⟩ := by decide +kernel
def own_updI (g : Nat → Int32) (j : Nat) (x : Int32) : Nat → Int32 := fun i => if i = j then x else g i
def own_updJ (g : Nat → Int64) (j : Nat) (x : Int64) : Nat → Int64 := fun i => if i = j then x else g i
theorem own_lt {c : Cell} {j : Int32} (q : ¬ (j < 0 ∨ c.slots.size ≤ j.toNatClampNeg)) : j.toNatClampNeg < c.slots.size := Nat.lt_of_not_le fun y => q (Or.inr y)
/-- an array of her own kind, its content as a function -/
def own_AI (Z : State) (h : Heap) (a : Addr) (k : ClassId) (z : Int32) (g : Nat → Int32) : Prop := ∃ c : Cell, Arr Z h a c .int ∧ c.cls = k ∧ c.slots.size = z.toNatClampNeg ∧ ¬ z < 0 ∧ ∀ i, i < c.slots.size → c.slots[i]? = some (.int (g i))
section own_AI
variable {Z : State} {h h' : Heap} {a b : Addr} {k : ClassId} {z j : Int32} {g : Nat → Int32} {sl : Nat} {v : Value} {ws : List Addr}
theorem own_AI.lt (F : own_AI Z h a k z g) : a < h.size := by obtain ⟨c, A, -⟩ := F; exact A.lt
theorem own_AI.ext (F : own_AI Z h a k z g) (E : Ext h h') : own_AI Z h' a k z g := by obtain ⟨c, A, r⟩ := F; exact ⟨c, A.ext E, r⟩
theorem own_AI.other (F : own_AI Z h b k z g) (W : Wr h h' a sl v) (q : b ≠ a) : own_AI Z h' b k z g := by obtain ⟨c, A, r⟩ := F; exact ⟨c, A.other W q, r⟩
theorem own_AI.keep (F : own_AI Z h a k z g) (K : Keep h h' ws) (q : a ∉ ws) : own_AI Z h' a k z g := by obtain ⟨c, A, r⟩ := F; exact ⟨c, ⟨K.2.1 a c A.1 q, A.2⟩, r⟩
theorem own_AI.new (A : Arr Z h a (newA k .int z) .int) (q : ¬ z < 0) : own_AI Z h a k z (fun _ => 0) := by
  obtain ⟨c, r1, r2, r3, r4, r5, -⟩ := Arv.new A q
  exact ⟨c, r1, r2, r3, r4, fun i hi => by rw [r5 i hi]; rfl⟩
theorem own_AI.set {x : Int32} (F : own_AI Z h a k z g) (W : Wr h h' a j.toNatClampNeg (.int x)) : own_AI Z h' a k z (own_updI g j.toNatClampNeg x) := by
  obtain ⟨c, r1, r2, r3, r4, r5⟩ := F
  refine ⟨_, r1.same W, r2, by rw [sz_set]; exact r3, r4, fun i hi => ?_⟩
  rw [sz_set] at hi
  unfold own_updI
  by_cases u : i = j.toNatClampNeg
  · subst u; simp [Cell.setSlot, hi]
  · rw [if_neg u]; have := r5 i hi; simp only [Cell.setSlot] at this ⊢; rw [Array.getElem?_setIfInBounds_ne (Ne.symm u)]; exact this
theorem own_fitI {c : Cell} (A : Arr Z h a c .int) (H : ∀ i, i < c.slots.size → c.slots[i]? = some (.int (g i))) : FitC Z c := fitC_of A fun i hi v hv => by rw [H i hi] at hv; cases hv; rfl
theorem own_AI.clone {c : Cell} (H : ∀ i, i < c.slots.size → c.slots[i]? = some (.int (g i))) (q : c.cls = k) (S : c.slots.size = z.toNatClampNeg) (N : ¬ z < 0) (A : Arr Z h' b (cloneOf c) .int) : own_AI Z h' b k z g := ⟨_, A, q, S, N, H⟩
end own_AI

/-- an array of her own kind, its content as a function -/
def own_AJ (Z : State) (h : Heap) (a : Addr) (k : ClassId) (z : Int32) (g : Nat → Int64) : Prop := ∃ c : Cell, Arr Z h a c .long ∧ c.cls = k ∧ c.slots.size = z.toNatClampNeg ∧ ¬ z < 0 ∧ ∀ i, i < c.slots.size → c.slots[i]? = some (.long (g i))
section own_AJ
variable {Z : State} {h h' : Heap} {a b : Addr} {k : ClassId} {z j : Int32} {g : Nat → Int64} {sl : Nat} {v : Value} {ws : List Addr}
theorem own_AJ.lt (F : own_AJ Z h a k z g) : a < h.size := by obtain ⟨c, A, -⟩ := F; exact A.lt
theorem own_AJ.ext (F : own_AJ Z h a k z g) (E : Ext h h') : own_AJ Z h' a k z g := by obtain ⟨c, A, r⟩ := F; exact ⟨c, A.ext E, r⟩
theorem own_AJ.other (F : own_AJ Z h b k z g) (W : Wr h h' a sl v) (q : b ≠ a) : own_AJ Z h' b k z g := by obtain ⟨c, A, r⟩ := F; exact ⟨c, A.other W q, r⟩
theorem own_AJ.keep (F : own_AJ Z h a k z g) (K : Keep h h' ws) (q : a ∉ ws) : own_AJ Z h' a k z g := by obtain ⟨c, A, r⟩ := F; exact ⟨c, ⟨K.2.1 a c A.1 q, A.2⟩, r⟩
theorem own_AJ.new (A : Arr Z h a (newA k .long z) .long) (q : ¬ z < 0) : own_AJ Z h a k z (fun _ => 0) := by
  obtain ⟨c, r1, r2, r3, r4, r5, -⟩ := Arv.new A q
  exact ⟨c, r1, r2, r3, r4, fun i hi => by rw [r5 i hi]; rfl⟩
theorem own_AJ.set {x : Int64} (F : own_AJ Z h a k z g) (W : Wr h h' a j.toNatClampNeg (.long x)) : own_AJ Z h' a k z (own_updJ g j.toNatClampNeg x) := by
  obtain ⟨c, r1, r2, r3, r4, r5⟩ := F
  refine ⟨_, r1.same W, r2, by rw [sz_set]; exact r3, r4, fun i hi => ?_⟩
  rw [sz_set] at hi
  unfold own_updJ
  by_cases u : i = j.toNatClampNeg
  · subst u; simp [Cell.setSlot, hi]
  · rw [if_neg u]; have := r5 i hi; simp only [Cell.setSlot] at this ⊢; rw [Array.getElem?_setIfInBounds_ne (Ne.symm u)]; exact this
theorem own_fitJ {c : Cell} (A : Arr Z h a c .long) (H : ∀ i, i < c.slots.size → c.slots[i]? = some (.long (g i))) : FitC Z c := fitC_of A fun i hi v hv => by rw [H i hi] at hv; cases hv; rfl
theorem own_AJ.clone {c : Cell} (H : ∀ i, i < c.slots.size → c.slots[i]? = some (.long (g i))) (q : c.cls = k) (S : c.slots.size = z.toNatClampNeg) (N : ¬ z < 0) (A : Arr Z h' b (cloneOf c) .long) : own_AJ Z h' b k z g := ⟨_, A, q, S, N, H⟩
end own_AJ

/-- where the search begins, and whom it meets in its n-th turn -/
def own_h (z x : Int32) : Int32 := ((x * (-1640531527 : Int32)) ^^^ (((x * (-1640531527 : Int32)).toUInt32 >>> ((16 : Int32) &&& 31).toUInt32).toInt32)) &&& (z - (1 : Int32))
def own_ix (z x : Int32) (n : Nat) : Nat := ((own_h z x).toNatClampNeg + n) % z.toNatClampNeg
def own_size (z : Int32) : Prop := z = 4 ∨ z = 8 ∨ z = 16
def own_probe (g : Nat → Int32) (z x r : Int32) : Prop := ¬ r < 0 ∧ r < z ∧ ∃ n, r.toNatClampNeg = own_ix z x n ∧ (g r.toNatClampNeg = 0 ∨ g r.toNatClampNeg = x + 1) ∧ ∀ m, m < n → g (own_ix z x m) ≠ 0 ∧ g (own_ix z x m) ≠ x + 1
/-- what holds at the head of the search's loop: n turns are made, at most k are left -/
def own_look (g : Nat → Int32) (z x : Int32) (k : Nat) (i : Int32) : Prop := ¬ i < 0 ∧ i < z ∧ ∃ n, i.toNatClampNeg = own_ix z x n ∧ (∀ m, m < n → g (own_ix z x m) ≠ 0 ∧ g (own_ix z x m) ≠ x + 1) ∧ ∃ d, n ≤ d ∧ d ≤ n + k ∧ g (own_ix z x d) = 0
theorem own_mask {z : Int32} (hz : own_size z) (y : Int32) : ¬ (y &&& (z - 1)) < 0 ∧ (y &&& (z - 1)) < z ∧ (y &&& (z - 1)).toInt = y.toInt % z.toInt := by
  rcases hz with rfl | rfl | rfl
  · have e := c_mask y ((4 : Int32) - 1) 2 (by decide) (by decide)
    rw [Int32.lt_iff_toInt_lt, Int32.lt_iff_toInt_lt, e, show (0 : Int32).toInt = 0 from rfl, show (4 : Int32).toInt = 4 from rfl]; omega
  · have e := c_mask y ((8 : Int32) - 1) 3 (by decide) (by decide)
    rw [Int32.lt_iff_toInt_lt, Int32.lt_iff_toInt_lt, e, show (0 : Int32).toInt = 0 from rfl, show (8 : Int32).toInt = 8 from rfl]; omega
  · have e := c_mask y ((16 : Int32) - 1) 4 (by decide) (by decide)
    rw [Int32.lt_iff_toInt_lt, Int32.lt_iff_toInt_lt, e, show (0 : Int32).toInt = 0 from rfl, show (16 : Int32).toInt = 16 from rfl]; omega
theorem own_zn {z : Int32} (hz : own_size z) : 4 ≤ z.toNatClampNeg ∧ z.toNatClampNeg ≤ 16 ∧ z.toInt = z.toNatClampNeg := by
  rcases hz with rfl | rfl | rfl <;> decide
theorem own_look0 {g : Nat → Int32} {z x : Int32} (hz : own_size z) (hs : ∃ j, j < z.toNatClampNeg ∧ g j = 0) : own_look g z x 16 (own_h z x) := by
  obtain ⟨a, b, c⟩ := own_mask hz ((x * (-1640531527 : Int32)) ^^^ (((x * (-1640531527 : Int32)).toUInt32 >>> ((16 : Int32) &&& 31).toUInt32).toInt32))
  refine ⟨a, b, 0, ?_, fun m hm => absurd hm (Nat.not_lt_zero _), ?_⟩
  · have q : (own_h z x).toNatClampNeg < z.toNatClampNeg := by
      have a' : ¬ (own_h z x) < 0 := a
      have b' : (own_h z x) < z := b
      rw [Int32.lt_iff_toInt_lt, show (0 : Int32).toInt = 0 from rfl] at a'
      rw [Int32.lt_iff_toInt_lt] at b'
      simp only [Int32.toNatClampNeg]; omega
    unfold own_ix; rw [Nat.add_zero, Nat.mod_eq_of_lt q]
  · obtain ⟨j, hj, hg⟩ := hs
    obtain ⟨z1, z2, -⟩ := own_zn hz
    have q : (own_h z x).toNatClampNeg < z.toNatClampNeg := by
      have a' : ¬ (own_h z x) < 0 := a
      have b' : (own_h z x) < z := b
      rw [Int32.lt_iff_toInt_lt, show (0 : Int32).toInt = 0 from rfl] at a'
      rw [Int32.lt_iff_toInt_lt] at b'
      simp only [Int32.toNatClampNeg]; omega
    by_cases u : (own_h z x).toNatClampNeg ≤ j
    · refine ⟨j - (own_h z x).toNatClampNeg, Nat.zero_le _, by omega, ?_⟩
      unfold own_ix
      rw [show (own_h z x).toNatClampNeg + (j - (own_h z x).toNatClampNeg) = j by omega, Nat.mod_eq_of_lt hj]; exact hg
    · refine ⟨j + z.toNatClampNeg - (own_h z x).toNatClampNeg, Nat.zero_le _, by omega, ?_⟩
      unfold own_ix
      rw [show (own_h z x).toNatClampNeg + (j + z.toNatClampNeg - (own_h z x).toNatClampNeg) = j + z.toNatClampNeg by omega, Nat.add_mod_right, Nat.mod_eq_of_lt hj]; exact hg
theorem own_look1 {g : Nat → Int32} {z x : Int32} {k : Nat} {i : Int32} (hz : own_size z) (h : own_look g z x k i) (c1 : ¬ g i.toNatClampNeg = 0) (c2 : ¬ g i.toNatClampNeg = x + 1) : k - 1 < k ∧ own_look g z x (k - 1) ((i + 1) &&& (z - 1)) := by
  obtain ⟨a, b, n, e, hm, d, d1, d2, d3⟩ := h
  obtain ⟨z1, z2, z3⟩ := own_zn hz
  have hd : d ≠ n := fun q => c1 (by rw [e, ← q]; exact d3)
  refine ⟨by omega, (own_mask hz _).1, (own_mask hz _).2.1, n + 1, ?_, ?_, d, by omega, by omega, d3⟩
  · have m := (own_mask hz (i + 1)).2.2
    have s := c_iadd i 1
    have r1 := rng32 i; have r2 := rng32 (i + 1)
    rw [Int32.lt_iff_toInt_lt, show (0 : Int32).toInt = 0 from rfl] at a
    rw [Int32.lt_iff_toInt_lt] at b
    rw [show (1 : Int32).toInt = 1 from rfl] at s
    have s' : (i + 1).toInt = i.toInt + 1 := by omega
    rw [s', z3] at m
    have e' : (i.toInt : Int) = (own_ix z x n : Nat) := by rw [← e]; simp only [Int32.toNatClampNeg]; omega
    rw [e'] at m
    have f : own_ix z x (n + 1) = (own_ix z x n + 1) % z.toNatClampNeg := by unfold own_ix; rw [Nat.mod_add_mod]; rfl
    rw [f]
    rw [show (((own_ix z x n : Nat) : Int) + 1) % (z.toNatClampNeg : Int) = (((own_ix z x n + 1) % z.toNatClampNeg : Nat) : Int) by rw [Int.natCast_emod]; rfl] at m
    show ((i + 1) &&& (z - 1)).toInt.toNat = _
    rw [m]; exact Int.toNat_natCast _
  · intro m hm'
    by_cases u : m = n
    · subst u; rw [← e]; exact ⟨c1, c2⟩
    · exact hm m (by omega)
theorem own_found {g : Nat → Int32} {z x : Int32} {k : Nat} {i : Int32} (h : own_look g z x k i) (c : g i.toNatClampNeg = 0 ∨ g i.toNatClampNeg = x + 1) : own_probe g z x i := by
  obtain ⟨a, b, n, e, hm, -⟩ := h
  exact ⟨a, b, n, e, c, hm⟩
/-- the numbers of S lie in the table, each where its search ends; nothing else does -/
def own_inv (g : Nat → Int32) (z : Int32) (S : List Int32) : Prop :=
  (∀ y, y ∈ S → y + 1 ≠ 0 ∧ ∃ n, g (own_ix z y n) = y + 1 ∧ ∀ m, m < n → g (own_ix z y m) ≠ 0 ∧ g (own_ix z y m) ≠ y + 1) ∧ (∀ j, g j ≠ 0 → ∃ y, y ∈ S ∧ g j = y + 1) ∧ ∃ l : List Nat, l.length = S.length ∧ ∀ j, g j ≠ 0 → j ∈ l
theorem own_pig : ∀ (n : Nat) (l : List Nat), l.length < n → ∃ j, j < n ∧ j ∉ l
  | 0, l, h => absurd h (Nat.not_lt_zero _)
  | n + 1, l, h => by
    by_cases u : n ∈ l
    · obtain ⟨j, hj, hn⟩ := own_pig n (l.erase n) (by rw [List.length_erase_of_mem u]; have := List.length_pos_of_mem u; omega)
      exact ⟨j, by omega, fun q => hn ((List.mem_erase_of_ne (by omega)).mpr q)⟩
    · exact ⟨n, Nat.lt_succ_self _, u⟩
theorem own_room {g : Nat → Int32} {z : Int32} {S : List Int32} (hz : own_size z) (h : own_inv g z S) (hl : S.length ≤ 3) : ∃ j, j < z.toNatClampNeg ∧ g j = 0 := by
  obtain ⟨-, -, l, e, hj⟩ := h
  obtain ⟨z1, -, -⟩ := own_zn hz
  obtain ⟨j, h1, h2⟩ := own_pig z.toNatClampNeg l (by omega)
  exact ⟨j, h1, Classical.byContradiction fun q => h2 (hj j q)⟩
theorem own_inv0 (z : Int32) : own_inv (fun _ => 0) z [] := ⟨fun y h => by simp at h, fun j h => absurd rfl h, [], rfl, fun j h => absurd rfl h⟩
theorem own_p1 {x y : Int32} (h : x + 1 = y + 1) : x = y := by
  have a := c_iadd x 1; have b := c_iadd y 1
  rw [h] at a
  have r1 := rng32 x; have r2 := rng32 y
  exact Int32.toInt_inj.mp (by omega)
theorem own_in {g : Nat → Int32} {z x s : Int32} {S : List Int32} (h : own_inv g z S) (hp : own_probe g z x s) (hx : x ∈ S) : g s.toNatClampNeg = x + 1 := by
  obtain ⟨-, n, h1, h2⟩ := h.1 x hx
  obtain ⟨-, -, k, e, h3, h4⟩ := hp
  have : n = k := by
    rcases Nat.lt_trichotomy n k with q | q | q
    · exact absurd h1 (h4 n q).2
    · exact q
    · rw [e] at h3; rcases h3 with h3 | h3
      · exact absurd h3 (h2 k q).1
      · exact absurd h3 (h2 k q).2
  rw [e, ← this]; exact h1
theorem own_out0 {g : Nat → Int32} {z x s : Int32} {S : List Int32} (h : own_inv g z S) (hp : own_probe g z x s) (hx : x ∉ S) : g s.toNatClampNeg = 0 := by
  obtain ⟨-, -, k, e, h3, h4⟩ := hp
  rcases h3 with h3 | h3
  · exact h3
  · by_cases u : g s.toNatClampNeg = 0
    · exact u
    · obtain ⟨y, hy, q⟩ := h.2.1 _ u
      rw [h3] at q
      exact absurd (own_p1 q ▸ hy) hx
theorem own_add {g : Nat → Int32} {z x s : Int32} {S : List Int32} (h : own_inv g z S) (hp : own_probe g z x s) (hx : x ∉ S) (hx0 : x + 1 ≠ 0) : own_inv (own_updI g s.toNatClampNeg (x + 1)) z (x :: S) := by
  have h0 := own_out0 h hp hx
  obtain ⟨a, b, k, e, h3, h4⟩ := hp
  have keep : ∀ j, g j ≠ 0 → own_updI g s.toNatClampNeg (x + 1) j = g j := fun j hj => if_neg fun (q : j = s.toNatClampNeg) => hj (by rw [q]; exact h0)
  have hit : own_updI g s.toNatClampNeg (x + 1) s.toNatClampNeg = x + 1 := if_pos rfl
  refine ⟨fun y hy => ?_, fun j hj => ?_, ?_⟩
  · rcases List.mem_cons.mp hy with rfl | hy
    · refine ⟨hx0, k, by rw [← e]; exact hit, fun m hm => ?_⟩
      rw [keep _ (h4 m hm).1]; exact h4 m hm
    · obtain ⟨y0, n, h1, h2⟩ := h.1 y hy
      exact ⟨y0, n, by rw [keep _ (by rw [h1]; exact y0)]; exact h1, fun m hm => by rw [keep _ (h2 m hm).1]; exact h2 m hm⟩
  · by_cases u : j = s.toNatClampNeg
    · subst u; exact ⟨x, List.mem_cons_self .., hit⟩
    · rw [show own_updI g s.toNatClampNeg (x + 1) j = g j from if_neg u] at hj ⊢
      obtain ⟨y, h1, h2⟩ := h.2.1 j hj
      exact ⟨y, List.mem_cons_of_mem _ h1, h2⟩
  · obtain ⟨l, h1, h2⟩ := h.2.2
    refine ⟨s.toNatClampNeg :: l, by simp [h1], fun j hj => ?_⟩
    by_cases u : j = s.toNatClampNeg
    · subst u; exact List.mem_cons_self ..
    · rw [show own_updI g s.toNatClampNeg (x + 1) j = g j from if_neg u] at hj
      exact List.mem_cons_of_mem _ (h2 j hj)
theorem own_nz {x : Int32} (h : 0 ≤ x.toInt) : x + 1 ≠ 0 := fun q => by
  have a := c_iadd x 1
  have r := rng32 x
  rw [q, show (0 : Int32).toInt = 0 from rfl, show (1 : Int32).toInt = 1 from rfl] at a
  omega
def own_max (x0 : Int32) (x1 : Int32) : Int32 := (if x0 < x1 then x1 else x0)
theorem d1_0 : decode jdk_29_method_65_code 0 = .ok (.iload_n 0, 1) := by decide +kernel
theorem d1_1 : decode jdk_29_method_65_code 1 = .ok (.iload_n 1, 1) := by decide +kernel
theorem d1_2 : decode jdk_29_method_65_code 2 = .ok (.if_icmp .lt 7, 3) := by decide +kernel
theorem d1_5 : decode jdk_29_method_65_code 5 = .ok (.iload_n 0, 1) := by decide +kernel
theorem d1_6 : decode jdk_29_method_65_code 6 = .ok (.goto 4, 3) := by decide +kernel
theorem d1_9 : decode jdk_29_method_65_code 9 = .ok (.iload_n 1, 1) := by decide +kernel
theorem d1_10 : decode jdk_29_method_65_code 10 = .ok (.ireturn, 1) := by decide +kernel
theorem own_ef1 (m : MethodId) (x0 : Int32) (x1 : Int32) : entryFrame m #[(.int x0), (.int x1)] 2 = mkF m 0 #[.val (.int x0), .val (.int x1)] [] := by first | (simp [entryFrame, mkF, argsToLocals, Value.category]; done) | rfl
def Q1 (Z : State) (x0 : Int32) (x1 : Int32) (h0 : Heap) (n0 : Nat) (v : Option Value) (h : Heap) (L : List Loc) : Prop := v = some (.int (own_max x0 x1)) ∧ Fr n0 L ∧ h = h0
set_option maxRecDepth 65536 in
set_option maxHeartbeats 4000000 in
theorem rm1 (l : Launch) (Z : State) (a0 : Array Value) (hw : ∀ d ∈ tables_1, d.before a0 Z = true) (ws : List Jvm.Cond) (x0 : Int32) (x1 : Int32) (h0 : Heap) (n0 : Nat) (Z0 : n0 ≤ h0.size) :
    MetFree l (⟨"java/lang/Math", "max", "(II)I"⟩ : MethodName) (head1 (Jvm.Cond.code (⟨"java/lang/Math", "max", "(II)I"⟩ : MethodName) jdk_29_method_65_code 2 (some .int) :: ws) ({ frames := 0, cells := 0, slots := 0, locals := 0 } : Room)) (fun aW U => aW = #[(.int x0), (.int x1)] ∧ Z.Warmed39 U.vm ∧ U.heap = h0) (fun _ _ _ _ _ => True) (fun _ U o U' => ∃ v L, o = .returned v ∧ Q1 Z x0 x1 h0 n0 v U'.heap L ∧ FrameEnd U o U' L ({ frames := 0, cells := 0, slots := 0, locals := 0 } : Room).cells ({ frames := 0, cells := 0, slots := 0, locals := 0 } : Room).slots) := by
  refine MetFree.of_bodySF (Jvm.Free.JP.mathPlain rfl (by decide +kernel)) hisR ?_
  intro p e s m args below meth c s₁ Bd hml0 hP hK
  obtain ⟨rfl, hZ, hh⟩ := hP
  have hx := Bd.exec
  have hby := Bd.bytes
  have hml : c.maxLocals = 2 := hml0
  have hown : s.vm.findClass "java/lang/Math" = some m.cls := findClass_of_methodNamed Bd.named
  have hnm := (name_of_methodNamed Bd.named Bd.method).1
  have X0 : Stand p l e ({ frames := 0, cells := 0, slots := 0, locals := 0 } : Room) s m #[(.int x0), (.int x1)] below meth c s₁ [] 0 0 := Stand.of_body Bd
  have e0 : s₁.heap = h0 := by rw [← hh, Bd.state]; rfl
  have N0 := Fr.nil n0
  obtain ⟨Pq, hPq⟩ : ∃ P, P = own_P s below (fun v h L => Q1 Z x0 x1 h0 n0 v h L) ({ frames := 0, cells := 0, slots := 0, locals := 0 } : Room).cells ({ frames := 0, cells := 0, slots := 0, locals := 0 } : Room).slots := ⟨_, rfl⟩
  suffices hgo : own_Go p.tables e below Pq s₁ (mkF m 0 #[.val (.int x0), .val (.int x1)] []) by
    subst hPq
    obtain ⟨t, k1, k2, o, k3, k4⟩ := hgo
    exact ⟨t, o, castTop (own_ef1 m x0 x1) k1, k2, k3, k4⟩
  show own_Go _ _ _ _ s₁ (mkF m 0 #[.val (.int x0), .val (.int x1)] [])
  refine own_st (fun t k => XS.iloadN X0.here hx rfl (hb hby d1_0) rfl k) ?_
  show own_Go _ _ _ _ s₁ (mkF m 1 _ [(.int x0)])
  refine own_st (fun t k => XS.iloadN X0.here hx rfl (hb hby d1_1) rfl k) ?_
  show own_Go _ _ _ _ s₁ (mkF m 2 _ [(.int x1), (.int x0)])
  have J4 : ∀ (Tj4 : State) (Lj4 : List Loc) (p5 : Int32), Stand p l e ({ frames := 0, cells := 0, slots := 0, locals := 0 } : Room) s m #[(.int x0), (.int x1)] below meth c Tj4 Lj4 0 0 → Tj4.heap = h0 → Fr n0 Lj4 → p5 = (if x0 < x1 then x1 else x0) → own_Go p.tables e below Pq Tj4 (mkF m 10 #[.val (.int x0), .val (.int x1)] [(.int p5)]) := by
    intro Tj4 Lj4 p5 Xj4 ej4 Nj4 qp5
    show own_Go _ _ _ _ Tj4 (mkF m 10 _ [(.int p5)])
    subst hPq
    refine own_out Xj4 (v := some (.int p5)) (fun h => by rw [Bd.returns] at h; cases h) Bd.notSynchronized (own_retI Xj4 hx Bd.returns (hb hby d1_10)) (by decide) (by decide) ?_
    show Q1 Z x0 x1 h0 n0 _ Tj4.heap _
    rw [ej4]
    exact ⟨by subst_vars; rfl, Nj4, rfl⟩
  by_cases c1 : x0 < x1
  · skip
    refine own_st (fun t k => XS.icmpYes X0.here hx rfl (pc0 := 2) (pc' := 9) rfl (hb hby d1_2) rfl (tlt c1).1 (by decide) (by decide) k) ?_
    show own_Go _ _ _ _ s₁ (mkF m 9 _ [])
    refine own_st (fun t k => XS.iloadN X0.here hx rfl (hb hby d1_9) rfl k) ?_
    show own_Go _ _ _ _ s₁ (mkF m 10 _ [(.int x1)])
    exact J4 s₁ _ _ X0 e0 N0 (by simp only [if_pos c1])
  · skip
    refine own_st (fun t k => XS.icmpNo X0.here hx rfl (hb hby d1_2) rfl (flt c1).1 k) ?_
    show own_Go _ _ _ _ s₁ (mkF m 5 _ [])
    refine own_st (fun t k => XS.iloadN X0.here hx rfl (hb hby d1_5) rfl k) ?_
    show own_Go _ _ _ _ s₁ (mkF m 6 _ [(.int x0)])
    refine own_st (fun t k => XS.goto X0.here hx rfl (pc0 := 6) (pc' := 10) rfl (hb hby d1_6) (by decide) (by decide) k) ?_
    show own_Go _ _ _ _ s₁ (mkF m 10 _ [(.int x0)])
    exact J4 s₁ _ _ X0 e0 N0 (by simp only [if_neg c1])
theorem d2_0 : decode prog_44_method_1_code 0 = .ok (.aload_n 0, 1) := by decide +kernel
theorem d2_1 : decode prog_44_method_1_code 1 = .ok (.invokespecial 1, 3) := by decide +kernel
theorem d2_4 : decode prog_44_method_1_code 4 = .ok (.aload_n 0, 1) := by decide +kernel
theorem d2_5 : decode prog_44_method_1_code 5 = .ok (.bipush 16, 2) := by decide +kernel
theorem d2_7 : decode prog_44_method_1_code 7 = .ok (.newarray .int, 2) := by decide +kernel
theorem d2_9 : decode prog_44_method_1_code 9 = .ok (.putfield 7, 3) := by decide +kernel
theorem d2_12 : decode prog_44_method_1_code 12 = .ok (.aload_n 0, 1) := by decide +kernel
theorem d2_13 : decode prog_44_method_1_code 13 = .ok (.bipush 16, 2) := by decide +kernel
theorem d2_15 : decode prog_44_method_1_code 15 = .ok (.newarray .long, 2) := by decide +kernel
theorem d2_17 : decode prog_44_method_1_code 17 = .ok (.putfield 13, 3) := by decide +kernel
theorem d2_20 : decode prog_44_method_1_code 20 = .ok (.return_, 1) := by decide +kernel
theorem own_pn2 : plainName "com/example/premise/premise/store/Skips" = true := by first | (simp [plainName, overriddenIn]; done) | decide +kernel
theorem own_ef2 (m : MethodId) (a : Addr) : entryFrame m #[(.ref a)] 1 = mkF m 0 #[.val (.ref a)] [] := by first | (simp [entryFrame, mkF, argsToLocals, Value.category]; done) | rfl
def Q2 (Z : State) (a : Addr) (u0 : Value) (u1 : Value) (sz : Int32) (h0 : Heap) (n0 : Nat) (v : Option Value) (h : Heap) (L : List Loc) : Prop := ∃ (ki : ClassId) (kj : ClassId) (st : Addr) (sk : Addr), v = none ∧ Fr n0 L ∧ Keep h0 h [a] ∧ n0 ≤ st ∧ h0.size ≤ st ∧ n0 ≤ sk ∧ h0.size ≤ sk ∧ Exa Z h a "com/example/premise/premise/store/Skips" ∧ Fld Z h a "com/example/premise/premise/store/Skips" "statements" "[I" (.ref st) ∧ Fld Z h a "com/example/premise/premise/store/Skips" "skips" "[J" (.ref sk) ∧ Fld Z h a "com/example/premise/premise/store/Skips" "size" "I" (.int sz) ∧ own_AI Z h st ki (16 : Int32) (fun _ => (0 : Int32)) ∧ own_AJ Z h sk kj (16 : Int32) (fun _ => (0 : Int64)) ∧ st ≠ sk
set_option maxRecDepth 65536 in
set_option maxHeartbeats 4000000 in
theorem rm2 (l : Launch) (Z : State) (a0 : Array Value) (hw : ∀ d ∈ tables_1, d.before a0 Z = true) (ws : List Jvm.Cond) (a : Addr) (u0 : Value) (u1 : Value) (sz : Int32) (h0 : Heap) (n0 : Nat) (Z0 : n0 ≤ h0.size) (F0 : Exa Z h0 a "com/example/premise/premise/store/Skips") (F1 : Fld Z h0 a "com/example/premise/premise/store/Skips" "statements" "[I" u0) (F2 : Fld Z h0 a "com/example/premise/premise/store/Skips" "skips" "[J" u1) (F3 : Fld Z h0 a "com/example/premise/premise/store/Skips" "size" "I" (.int sz)) (g_a : n0 ≤ a) :
    MetFree l (⟨"com/example/premise/premise/store/Skips", "<init>", "()V"⟩ : MethodName) (head1 (Jvm.Cond.code (⟨"com/example/premise/premise/store/Skips", "<init>", "()V"⟩ : MethodName) prog_44_method_1_code 1 none :: ws) ({ frames := 1, cells := 2, slots := 32, locals := 12 } : Room)) (fun aW U => aW = #[(.ref a)] ∧ Z.Warmed39 U.vm ∧ U.heap = h0) (fun _ _ _ _ _ => True) (fun _ U o U' => ∃ v L, o = .returned v ∧ Q2 Z a u0 u1 sz h0 n0 v U'.heap L ∧ FrameEnd U o U' L ({ frames := 1, cells := 2, slots := 32, locals := 12 } : Room).cells ({ frames := 1, cells := 2, slots := 32, locals := 12 } : Room).slots) := by
  refine MetFree.of_bodySF (plainFor_of_name own_pn2) hisR ?_
  intro p e s m args below meth c s₁ Bd hml0 hP hK
  obtain ⟨rfl, hZ, hh⟩ := hP
  have hx := Bd.exec
  have hby := Bd.bytes
  have hml : c.maxLocals = 1 := hml0
  have hown : s.vm.findClass "com/example/premise/premise/store/Skips" = some m.cls := findClass_of_methodNamed Bd.named
  have hnm := (name_of_methodNamed Bd.named Bd.method).1
  have X0 : Stand p l e ({ frames := 1, cells := 2, slots := 32, locals := 12 } : Room) s m #[(.ref a)] below meth c s₁ [] 0 0 := Stand.of_body Bd
  have e0 : s₁.heap = h0 := by rw [← hh, Bd.state]; rfl
  have N0 := Fr.nil n0
  have K0 : Keep h0 h0 [a] := Keep.refl _ _
  obtain ⟨Pq, hPq⟩ : ∃ P, P = own_P s below (fun v h L => Q2 Z a u0 u1 sz h0 n0 v h L) ({ frames := 1, cells := 2, slots := 32, locals := 12 } : Room).cells ({ frames := 1, cells := 2, slots := 32, locals := 12 } : Room).slots := ⟨_, rfl⟩
  suffices hgo : own_Go p.tables e below Pq s₁ (mkF m 0 #[.val (.ref a)] []) by
    subst hPq
    obtain ⟨t, k1, k2, o, k3, k4⟩ := hgo
    exact ⟨t, o, castTop (own_ef2 m a) k1, k2, k3, k4⟩
  show own_Go _ _ _ _ s₁ (mkF m 0 #[.val (.ref a)] [])
  refine own_st (fun t k => XS.aloadN X0.here hx rfl (hb hby d2_0) rfl rfl k) ?_
  show own_Go _ _ _ _ s₁ (mkF m 1 _ [(.ref a)])
  obtain ⟨T1, X1, e1, st1⟩ := initO X0 hx hZ hown (hw _ (List.mem_of_getElem? (i := 11) rfl)) (hw _ (List.mem_of_getElem? (i := 12) rfl)) (hw _ (List.mem_of_getElem? (i := 13) rfl)) e0 (g := (mkF m 1 #[.val (.ref a)] [(.ref a)])) rfl (by rw [hml]; rfl) rfl (hb hby d2_1) (by decide) (W := 0) (by show 2 * 0 + _ ≤ _; exact Nat.le_of_eq rfl) (by decide)
  refine own_st st1 ?_
  show own_Go _ _ _ _ T1 (mkF m 4 _ [])
  refine own_st (fun t k => XS.aloadN X1.here hx rfl (hb hby d2_4) rfl rfl k) ?_
  show own_Go _ _ _ _ T1 (mkF m 5 _ [(.ref a)])
  refine own_st (fun t k => XS.bipush X1.here hx rfl (hb hby d2_5) k) ?_
  show own_Go _ _ _ _ T1 (mkF m 7 _ [(.int (16 : Int32)), (.ref a)])
  obtain ⟨T2, h2, k2, X2, e2, E2, A2, st2⟩ := newP X1 hx hZ (hw _ (List.mem_of_getElem? (i := 14) rfl)) e1 (g := (mkF m 7 #[.val (.ref a)] [(.int (16 : Int32)), (.ref a)])) rfl (hb hby d2_7) rfl (by decide) (cap := 16) (by decide) (by decide) (by decide) (by decide)
  obtain ⟨b2, g2⟩ : ∃ z, z = h0.size := ⟨_, rfl⟩
  rw [← g2] at A2 st2
  refine own_st st2 ?_
  have ne3 : a ≠ b2 := Nat.ne_of_lt (Nat.lt_of_lt_of_le F0.lt (Nat.le_of_eq g2.symm))
  have f4 := F0.ext E2
  have f5 := F1.ext E2
  have f6 := F2.ext E2
  have f7 := F3.ext E2
  have gx8 : n0 ≤ b2 := Nat.le_trans Z0 (Nat.le_of_eq g2.symm)
  have Z9 : n0 ≤ h2.size := Nat.le_trans Z0 E2.1
  have sz11 : h0.size ≤ b2 := Nat.le_trans K0.1 (Nat.le_of_eq g2.symm)
  have K10 : Keep h0 h2 [a] := K0.ext E2
  have V2 : own_AI Z h2 b2 k2 (16 : Int32) (fun _ => (0 : Int32)) := own_AI.new A2 (by decide)
  show own_Go _ _ _ _ T2 (mkF m 9 _ [(.ref b2), (.ref a)])
  obtain ⟨T12, h12, X12, e12, W12, st12⟩ := putF X2 hx hZ hown (host := "") (Or.inl (hw _ (List.mem_of_getElem? (i := 15) rfl))) Via.refl e2 f5 f4 (Or.inl (hw _ (List.mem_of_getElem? (i := 16) rfl))) (hw _ (List.mem_of_getElem? (i := 6) rfl)) (ty := (.array .int)) (by decide) rfl rfl (g := (mkF m 9 #[.val (.ref a)] [(.ref b2), (.ref a)])) rfl rfl (hb hby d2_9)
  refine own_st st12 ?_
  have f13 := f4.wr W12
  have f14 := f6.other W12 (Or.inr (slot_ne (Or.inl (hw _ (List.mem_of_getElem? (i := 19) rfl))) (Or.inl (hw _ (List.mem_of_getElem? (i := 16) rfl))) (by decide) (t := (.array .long)) (t' := (.array .int)) (by decide) (by decide)))
  have f15 := f7.other W12 (Or.inr (slot_ne (Or.inl (hw _ (List.mem_of_getElem? (i := 26) rfl))) (Or.inl (hw _ (List.mem_of_getElem? (i := 16) rfl))) (by decide) (t := .int) (t' := (.array .int)) (by decide) (by decide)))
  have f16 := V2.other W12 (Ne.symm ne3)
  have N17 := Fr.snoc X12 N0 g_a
  have Z18 : n0 ≤ h12.size := Nat.le_trans Z9 (Nat.le_of_eq W12.size.symm)
  have K19 : Keep h0 h12 [a] := K10.wr W12 (Or.inl (List.mem_of_getElem? (i := 0) rfl))
  have f20 := f5.same W12
  show own_Go _ _ _ _ T12 (mkF m 12 _ [])
  refine own_st (fun t k => XS.aloadN X12.here hx rfl (hb hby d2_12) rfl rfl k) ?_
  show own_Go _ _ _ _ T12 (mkF m 13 _ [(.ref a)])
  refine own_st (fun t k => XS.bipush X12.here hx rfl (hb hby d2_13) k) ?_
  show own_Go _ _ _ _ T12 (mkF m 15 _ [(.int (16 : Int32)), (.ref a)])
  obtain ⟨T21, h21, k21, X21, e21, E21, A21, st21⟩ := newP X12 hx hZ (hw _ (List.mem_of_getElem? (i := 17) rfl)) e12 (g := (mkF m 15 #[.val (.ref a)] [(.int (16 : Int32)), (.ref a)])) rfl (hb hby d2_15) rfl (by decide) (cap := 16) (by decide) (by decide) (by decide) (by decide)
  obtain ⟨b21, g21⟩ : ∃ z, z = h12.size := ⟨_, rfl⟩
  rw [← g21] at A21 st21
  refine own_st st21 ?_
  have ne22 : a ≠ b21 := Nat.ne_of_lt (Nat.lt_of_lt_of_le f13.lt (Nat.le_of_eq g21.symm))
  have ne23 : b2 ≠ b21 := Nat.ne_of_lt (Nat.lt_of_lt_of_le f16.lt (Nat.le_of_eq g21.symm))
  have f24 := f13.ext E21
  have f25 := f14.ext E21
  have f26 := f15.ext E21
  have f27 := f16.ext E21
  have f28 := f20.ext E21
  have gx29 : n0 ≤ b21 := Nat.le_trans Z18 (Nat.le_of_eq g21.symm)
  have Z30 : n0 ≤ h21.size := Nat.le_trans Z18 E21.1
  have sz32 : h0.size ≤ b21 := Nat.le_trans K19.1 (Nat.le_of_eq g21.symm)
  have K31 : Keep h0 h21 [a] := K19.ext E21
  have V21 : own_AJ Z h21 b21 k21 (16 : Int32) (fun _ => (0 : Int64)) := own_AJ.new A21 (by decide)
  show own_Go _ _ _ _ T21 (mkF m 17 _ [(.ref b21), (.ref a)])
  obtain ⟨T33, h33, X33, e33, W33, st33⟩ := putF X21 hx hZ hown (host := "") (Or.inl (hw _ (List.mem_of_getElem? (i := 18) rfl))) Via.refl e21 f25 f24 (Or.inl (hw _ (List.mem_of_getElem? (i := 19) rfl))) (hw _ (List.mem_of_getElem? (i := 6) rfl)) (ty := (.array .long)) (by decide) rfl rfl (g := (mkF m 17 #[.val (.ref a)] [(.ref b21), (.ref a)])) rfl rfl (hb hby d2_17)
  refine own_st st33 ?_
  have f34 := f24.wr W33
  have f35 := f26.other W33 (Or.inr (slot_ne (Or.inl (hw _ (List.mem_of_getElem? (i := 26) rfl))) (Or.inl (hw _ (List.mem_of_getElem? (i := 19) rfl))) (by decide) (t := .int) (t' := (.array .long)) (by decide) (by decide)))
  have f36 := f27.other W33 (Ne.symm ne3)
  have f37 := f28.other W33 (Or.inr (slot_ne (Or.inl (hw _ (List.mem_of_getElem? (i := 16) rfl))) (Or.inl (hw _ (List.mem_of_getElem? (i := 19) rfl))) (by decide) (t := (.array .int)) (t' := (.array .long)) (by decide) (by decide)))
  have f38 := V21.other W33 (Ne.symm ne22)
  have N39 := Fr.snoc X33 N17 g_a
  have Z40 : n0 ≤ h33.size := Nat.le_trans Z30 (Nat.le_of_eq W33.size.symm)
  have K41 : Keep h0 h33 [a] := K31.wr W33 (Or.inl (List.mem_of_getElem? (i := 0) rfl))
  have f42 := f25.same W33
  show own_Go _ _ _ _ T33 (mkF m 20 _ [])
  subst hPq
  refine own_out X33 (v := none) (fun _ => rfl) Bd.notSynchronized (fun fs hr => X33.returnOut hx Bd.returns (hb hby d2_20) hr) (by decide) (by decide) ?_
  show Q2 Z a u0 u1 sz h0 n0 _ T33.heap _
  rw [e33]
  exact ⟨k2, k21, b2, b21, rfl, N39, K41, gx8, sz11, gx29, sz32, f34, f37, f42, f35, f36, f38, ne23⟩
theorem d3_0 : decode prog_43_method_2_code 0 = .ok (.aload_n 0, 1) := by decide +kernel
theorem d3_1 : decode prog_43_method_2_code 1 = .ok (.arraylength, 1) := by decide +kernel
theorem d3_2 : decode prog_43_method_2_code 2 = .ok (.iconst 1, 1) := by decide +kernel
theorem d3_3 : decode prog_43_method_2_code 3 = .ok (.isub, 1) := by decide +kernel
theorem d3_4 : decode prog_43_method_2_code 4 = .ok (.istore_n 2, 1) := by decide +kernel
theorem d3_5 : decode prog_43_method_2_code 5 = .ok (.iload_n 1, 1) := by decide +kernel
theorem d3_6 : decode prog_43_method_2_code 6 = .ok (.ldc 7, 2) := by decide +kernel
theorem d3_8 : decode prog_43_method_2_code 8 = .ok (.imul, 1) := by decide +kernel
theorem d3_9 : decode prog_43_method_2_code 9 = .ok (.istore_n 3, 1) := by decide +kernel
theorem d3_10 : decode prog_43_method_2_code 10 = .ok (.iload_n 3, 1) := by decide +kernel
theorem d3_11 : decode prog_43_method_2_code 11 = .ok (.iload_n 3, 1) := by decide +kernel
theorem d3_12 : decode prog_43_method_2_code 12 = .ok (.bipush 16, 2) := by decide +kernel
theorem d3_14 : decode prog_43_method_2_code 14 = .ok (.iushr, 1) := by decide +kernel
theorem d3_15 : decode prog_43_method_2_code 15 = .ok (.ixor, 1) := by decide +kernel
theorem d3_16 : decode prog_43_method_2_code 16 = .ok (.iload_n 2, 1) := by decide +kernel
theorem d3_17 : decode prog_43_method_2_code 17 = .ok (.iand, 1) := by decide +kernel
theorem d3_18 : decode prog_43_method_2_code 18 = .ok (.istore 4, 2) := by decide +kernel
theorem d3_20 : decode prog_43_method_2_code 20 = .ok (.aload_n 0, 1) := by decide +kernel
theorem d3_21 : decode prog_43_method_2_code 21 = .ok (.iload 4, 2) := by decide +kernel
theorem d3_23 : decode prog_43_method_2_code 23 = .ok (.iaload, 1) := by decide +kernel
theorem d3_24 : decode prog_43_method_2_code 24 = .ok (.ifCond .eq 24, 3) := by decide +kernel
theorem d3_27 : decode prog_43_method_2_code 27 = .ok (.aload_n 0, 1) := by decide +kernel
theorem d3_28 : decode prog_43_method_2_code 28 = .ok (.iload 4, 2) := by decide +kernel
theorem d3_30 : decode prog_43_method_2_code 30 = .ok (.iaload, 1) := by decide +kernel
theorem d3_31 : decode prog_43_method_2_code 31 = .ok (.iload_n 1, 1) := by decide +kernel
theorem d3_32 : decode prog_43_method_2_code 32 = .ok (.iconst 1, 1) := by decide +kernel
theorem d3_33 : decode prog_43_method_2_code 33 = .ok (.iadd, 1) := by decide +kernel
theorem d3_34 : decode prog_43_method_2_code 34 = .ok (.if_icmp .eq 14, 3) := by decide +kernel
theorem d3_37 : decode prog_43_method_2_code 37 = .ok (.iload 4, 2) := by decide +kernel
theorem d3_39 : decode prog_43_method_2_code 39 = .ok (.iconst 1, 1) := by decide +kernel
theorem d3_40 : decode prog_43_method_2_code 40 = .ok (.iadd, 1) := by decide +kernel
theorem d3_41 : decode prog_43_method_2_code 41 = .ok (.iload_n 2, 1) := by decide +kernel
theorem d3_42 : decode prog_43_method_2_code 42 = .ok (.iand, 1) := by decide +kernel
theorem d3_43 : decode prog_43_method_2_code 43 = .ok (.istore 4, 2) := by decide +kernel
theorem d3_45 : decode prog_43_method_2_code 45 = .ok (.goto (-25), 3) := by decide +kernel
theorem d3_48 : decode prog_43_method_2_code 48 = .ok (.iload 4, 2) := by decide +kernel
theorem d3_50 : decode prog_43_method_2_code 50 = .ok (.ireturn, 1) := by decide +kernel
theorem own_pn3 : plainName "com/example/premise/premise/store/NumberSlots" = true := by first | (simp [plainName, overriddenIn]; done) | decide +kernel
theorem own_ef3 (m : MethodId) (ar : Addr) (nn : Int32) : entryFrame m #[(.ref ar), (.int nn)] 5 = mkF m 0 #[.val (.ref ar), .val (.int nn), .unset, .unset, .unset] [] := by first | (simp [entryFrame, mkF, argsToLocals, Value.category]; done) | rfl
def Q3 (Z : State) (ar : Addr) (nn : Int32) (kc : ClassId) (z : Int32) (gf : Nat → Int32) (h0 : Heap) (n0 : Nat) (v : Option Value) (h : Heap) (L : List Loc) : Prop := ∃ (r : Int32), v = some (.int r) ∧ Fr n0 L ∧ h = h0 ∧ own_probe gf z nn r
set_option maxRecDepth 65536 in
set_option maxHeartbeats 4000000 in
theorem rm3 (l : Launch) (Z : State) (a0 : Array Value) (hw : ∀ d ∈ tables_1, d.before a0 Z = true) (ws : List Jvm.Cond) (ar : Addr) (nn : Int32) (kc : ClassId) (z : Int32) (gf : Nat → Int32) (h0 : Heap) (n0 : Nat) (Z0 : n0 ≤ h0.size) (F0 : own_AI Z h0 ar kc z gf) (hz : own_size z) (hs : ∃ j, j < z.toNatClampNeg ∧ gf j = 0) :
    MetFree l (⟨"com/example/premise/premise/store/NumberSlots", "slot", "([II)I"⟩ : MethodName) (head1 (Jvm.Cond.code (⟨"com/example/premise/premise/store/NumberSlots", "slot", "([II)I"⟩ : MethodName) prog_43_method_2_code 5 (some .int) :: ws) ({ frames := 0, cells := 0, slots := 0, locals := 0 } : Room)) (fun aW U => aW = #[(.ref ar), (.int nn)] ∧ Z.Warmed39 U.vm ∧ U.heap = h0) (fun _ _ _ _ _ => True) (fun _ U o U' => ∃ v L, o = .returned v ∧ Q3 Z ar nn kc z gf h0 n0 v U'.heap L ∧ FrameEnd U o U' L ({ frames := 0, cells := 0, slots := 0, locals := 0 } : Room).cells ({ frames := 0, cells := 0, slots := 0, locals := 0 } : Room).slots) := by
  refine MetFree.of_bodySF (plainFor_of_name own_pn3) hisR ?_
  intro p e s m args below meth c s₁ Bd hml0 hP hK
  obtain ⟨rfl, hZ, hh⟩ := hP
  have hx := Bd.exec
  have hby := Bd.bytes
  have hml : c.maxLocals = 5 := hml0
  have hown : s.vm.findClass "com/example/premise/premise/store/NumberSlots" = some m.cls := findClass_of_methodNamed Bd.named
  have hnm := (name_of_methodNamed Bd.named Bd.method).1
  have X0 : Stand p l e ({ frames := 0, cells := 0, slots := 0, locals := 0 } : Room) s m #[(.ref ar), (.int nn)] below meth c s₁ [] 0 0 := Stand.of_body Bd
  have e0 : s₁.heap = h0 := by rw [← hh, Bd.state]; rfl
  have N0 := Fr.nil n0
  obtain ⟨Pq, hPq⟩ : ∃ P, P = own_P s below (fun v h L => Q3 Z ar nn kc z gf h0 n0 v h L) ({ frames := 0, cells := 0, slots := 0, locals := 0 } : Room).cells ({ frames := 0, cells := 0, slots := 0, locals := 0 } : Room).slots := ⟨_, rfl⟩
  suffices hgo : own_Go p.tables e below Pq s₁ (mkF m 0 #[.val (.ref ar), .val (.int nn), .unset, .unset, .unset] []) by
    subst hPq
    obtain ⟨t, k1, k2, o, k3, k4⟩ := hgo
    exact ⟨t, o, castTop (own_ef3 m ar nn) k1, k2, k3, k4⟩
  show own_Go _ _ _ _ s₁ (mkF m 0 #[.val (.ref ar), .val (.int nn), .unset, .unset, .unset] [])
  refine own_st (fun t k => XS.aloadN X0.here hx rfl (hb hby d3_0) rfl rfl k) ?_
  show own_Go _ _ _ _ s₁ (mkF m 1 _ [(.ref ar)])
  obtain ⟨c1, Ar1, q1, S1, N1, H1⟩ := id F0
  refine own_st (fun t k => X0.arraylength hx (by rw [e0]; exact Ar1.1) (State.isArrayOf_alike hZ.alike Ar1.2.1) (g := (mkF m 1 #[.val (.ref ar), .val (.int nn), .unset, .unset, .unset] [(.ref ar)])) rfl rfl (hb hby d3_1) _ k) ?_
  rw [len_of S1 N1]
  show own_Go _ _ _ _ s₁ (mkF m 2 _ [(.int z)])
  refine own_st (fun t k => XS.iconst X0.here hx rfl (hb hby d3_2) k) ?_
  show own_Go _ _ _ _ s₁ (mkF m 3 _ [(.int (1 : Int32)), (.int z)])
  refine own_st (fun t k => XS.isub X0.here hx rfl (hb hby d3_3) rfl k) ?_
  show own_Go _ _ _ _ s₁ (mkF m 4 _ [(.int (z - (1 : Int32)))])
  refine own_st (fun t k => XS.istoreN X0.here hx rfl (hb hby d3_4) rfl (l' := #[.val (.ref ar), .val (.int nn), .val (.int (z - (1 : Int32))), .unset, .unset]) rfl k) ?_
  show own_Go _ _ _ _ s₁ (mkF m 5 #[.val (.ref ar), .val (.int nn), .val (.int (z - (1 : Int32))), .unset, .unset] [])
  refine own_st (fun t k => XS.iloadN X0.here hx rfl (hb hby d3_5) rfl k) ?_
  show own_Go _ _ _ _ s₁ (mkF m 6 _ [(.int nn)])
  refine own_st (fun t k => X0.ldcInt hx hown (mvT hZ (hw _ (List.mem_of_getElem? (i := 35) rfl))) (g := (mkF m 6 #[.val (.ref ar), .val (.int nn), .val (.int (z - (1 : Int32))), .unset, .unset] [(.int nn)])) rfl (hb hby d3_6) _ k) ?_
  show own_Go _ _ _ _ s₁ (mkF m 8 _ [(.int (-1640531527 : Int32)), (.int nn)])
  refine own_st (fun t k => XS.imul X0.here hx rfl (hb hby d3_8) rfl k) ?_
  show own_Go _ _ _ _ s₁ (mkF m 9 _ [(.int (nn * (-1640531527 : Int32)))])
  refine own_st (fun t k => XS.istoreN X0.here hx rfl (hb hby d3_9) rfl (l' := #[.val (.ref ar), .val (.int nn), .val (.int (z - (1 : Int32))), .val (.int (nn * (-1640531527 : Int32))), .unset]) rfl k) ?_
  show own_Go _ _ _ _ s₁ (mkF m 10 #[.val (.ref ar), .val (.int nn), .val (.int (z - (1 : Int32))), .val (.int (nn * (-1640531527 : Int32))), .unset] [])
  refine own_st (fun t k => XS.iloadN X0.here hx rfl (hb hby d3_10) rfl k) ?_
  show own_Go _ _ _ _ s₁ (mkF m 11 _ [(.int (nn * (-1640531527 : Int32)))])
  refine own_st (fun t k => XS.iloadN X0.here hx rfl (hb hby d3_11) rfl k) ?_
  show own_Go _ _ _ _ s₁ (mkF m 12 _ [(.int (nn * (-1640531527 : Int32))), (.int (nn * (-1640531527 : Int32)))])
  refine own_st (fun t k => XS.bipush X0.here hx rfl (hb hby d3_12) k) ?_
  show own_Go _ _ _ _ s₁ (mkF m 14 _ [(.int (16 : Int32)), (.int (nn * (-1640531527 : Int32))), (.int (nn * (-1640531527 : Int32)))])
  refine own_st (fun t k => XS.iushr X0.here hx rfl (hb hby d3_14) rfl k) ?_
  show own_Go _ _ _ _ s₁ (mkF m 15 _ [(.int (((nn * (-1640531527 : Int32)).toUInt32 >>> ((16 : Int32) &&& 31).toUInt32).toInt32)), (.int (nn * (-1640531527 : Int32)))])
  refine own_st (fun t k => XS.ixor X0.here hx rfl (hb hby d3_15) rfl k) ?_
  show own_Go _ _ _ _ s₁ (mkF m 16 _ [(.int ((nn * (-1640531527 : Int32)) ^^^ (((nn * (-1640531527 : Int32)).toUInt32 >>> ((16 : Int32) &&& 31).toUInt32).toInt32)))])
  refine own_st (fun t k => XS.iloadN X0.here hx rfl (hb hby d3_16) rfl k) ?_
  show own_Go _ _ _ _ s₁ (mkF m 17 _ [(.int (z - (1 : Int32))), (.int ((nn * (-1640531527 : Int32)) ^^^ (((nn * (-1640531527 : Int32)).toUInt32 >>> ((16 : Int32) &&& 31).toUInt32).toInt32)))])
  refine own_st (fun t k => XS.iand X0.here hx rfl (hb hby d3_17) rfl k) ?_
  show own_Go _ _ _ _ s₁ (mkF m 18 _ [(.int (((nn * (-1640531527 : Int32)) ^^^ (((nn * (-1640531527 : Int32)).toUInt32 >>> ((16 : Int32) &&& 31).toUInt32).toInt32)) &&& (z - (1 : Int32))))])
  refine own_st (fun t k => XS.istore X0.here hx rfl (hb hby d3_18) rfl (l' := #[.val (.ref ar), .val (.int nn), .val (.int (z - (1 : Int32))), .val (.int (nn * (-1640531527 : Int32))), .val (.int (((nn * (-1640531527 : Int32)) ^^^ (((nn * (-1640531527 : Int32)).toUInt32 >>> ((16 : Int32) &&& 31).toUInt32).toInt32)) &&& (z - (1 : Int32))))]) rfl k) ?_
  show own_Go _ _ _ _ s₁ (mkF m 20 #[.val (.ref ar), .val (.int nn), .val (.int (z - (1 : Int32))), .val (.int (nn * (-1640531527 : Int32))), .val (.int (((nn * (-1640531527 : Int32)) ^^^ (((nn * (-1640531527 : Int32)).toUInt32 >>> ((16 : Int32) &&& 31).toUInt32).toInt32)) &&& (z - (1 : Int32))))] [])
  have Lp : ∀ (kk : Nat) (Tl : State) (Ll : List Loc) (i : Int32), Stand p l e ({ frames := 0, cells := 0, slots := 0, locals := 0 } : Room) s m #[(.ref ar), (.int nn)] below meth c Tl Ll 0 0 → Tl.heap = h0 → Fr n0 Ll → own_look gf z nn kk i → own_Go p.tables e below Pq Tl (mkF m 20 #[.val (.ref ar), .val (.int nn), .val (.int (z - (1 : Int32))), .val (.int (nn * (-1640531527 : Int32))), .val (.int i)] []) := by
    intro kk
    induction kk using Nat.strongRecOn with
    | _ kk ih =>
      intro Tl Ll i Xl el Nl Iv
      show own_Go _ _ _ _ Tl (mkF m 20 #[.val (.ref ar), .val (.int nn), .val (.int (z - (1 : Int32))), .val (.int (nn * (-1640531527 : Int32))), .val (.int i)] [])
      refine own_st (fun t k => XS.aloadN Xl.here hx rfl (hb hby d3_20) rfl rfl k) ?_
      show own_Go _ _ _ _ Tl (mkF m 21 _ [(.ref ar)])
      refine own_st (fun t k => XS.iload Xl.here hx rfl (hb hby d3_21) rfl k) ?_
      show own_Go _ _ _ _ Tl (mkF m 23 _ [(.int i), (.ref ar)])
      obtain ⟨c2, Ar2, q2, S2, N2, H2⟩ := id F0
      refine own_st (fun t k => Xl.iaload hx (j := i) (v := (.int (gf i.toNatClampNeg))) (by rw [el]; exact Ar2.1) (State.isArrayOf_alike hZ.alike Ar2.2.1) Ar2.2.2 (inb_of S2 ⟨Iv.1, Iv.2.1⟩) (H2 _ (own_lt (inb_of S2 ⟨Iv.1, Iv.2.1⟩))) (g := (mkF m 23 #[.val (.ref ar), .val (.int nn), .val (.int (z - (1 : Int32))), .val (.int (nn * (-1640531527 : Int32))), .val (.int i)] [(.int i), (.ref ar)])) rfl rfl (hb hby d3_23) _ k) ?_
      show own_Go _ _ _ _ Tl (mkF m 24 _ [(.int (gf i.toNatClampNeg))])
      by_cases c3 : (gf i.toNatClampNeg) = (0 : Int32)
      · skip
        refine own_st (fun t k => XS.ifYes Xl.here hx rfl (pc0 := 24) (pc' := 48) rfl (hb hby d3_24) rfl ((if0 _ _).trans (teq c3).1) (by decide) (by decide) k) ?_
        show own_Go _ _ _ _ Tl (mkF m 48 _ [])
        refine own_st (fun t k => XS.iload Xl.here hx rfl (hb hby d3_48) rfl k) ?_
        show own_Go _ _ _ _ Tl (mkF m 50 _ [(.int i)])
        subst hPq
        refine own_out Xl (v := some (.int i)) (fun h => by rw [Bd.returns] at h; cases h) Bd.notSynchronized (own_retI Xl hx Bd.returns (hb hby d3_50)) (by decide) (by decide) ?_
        show Q3 Z ar nn kc z gf h0 n0 _ Tl.heap _
        rw [el]
        exact ⟨i, rfl, Nl, rfl, own_found Iv (Or.inl c3)⟩
      · skip
        refine own_st (fun t k => XS.ifNo Xl.here hx rfl (hb hby d3_24) rfl ((if0 _ _).trans (feq c3).1) k) ?_
        show own_Go _ _ _ _ Tl (mkF m 27 _ [])
        refine own_st (fun t k => XS.aloadN Xl.here hx rfl (hb hby d3_27) rfl rfl k) ?_
        show own_Go _ _ _ _ Tl (mkF m 28 _ [(.ref ar)])
        refine own_st (fun t k => XS.iload Xl.here hx rfl (hb hby d3_28) rfl k) ?_
        show own_Go _ _ _ _ Tl (mkF m 30 _ [(.int i), (.ref ar)])
        obtain ⟨c4, Ar4, q4, S4, N4, H4⟩ := id F0
        refine own_st (fun t k => Xl.iaload hx (j := i) (v := (.int (gf i.toNatClampNeg))) (by rw [el]; exact Ar4.1) (State.isArrayOf_alike hZ.alike Ar4.2.1) Ar4.2.2 (inb_of S4 ⟨Iv.1, Iv.2.1⟩) (H4 _ (own_lt (inb_of S4 ⟨Iv.1, Iv.2.1⟩))) (g := (mkF m 30 #[.val (.ref ar), .val (.int nn), .val (.int (z - (1 : Int32))), .val (.int (nn * (-1640531527 : Int32))), .val (.int i)] [(.int i), (.ref ar)])) rfl rfl (hb hby d3_30) _ k) ?_
        show own_Go _ _ _ _ Tl (mkF m 31 _ [(.int (gf i.toNatClampNeg))])
        refine own_st (fun t k => XS.iloadN Xl.here hx rfl (hb hby d3_31) rfl k) ?_
        show own_Go _ _ _ _ Tl (mkF m 32 _ [(.int nn), (.int (gf i.toNatClampNeg))])
        refine own_st (fun t k => XS.iconst Xl.here hx rfl (hb hby d3_32) k) ?_
        show own_Go _ _ _ _ Tl (mkF m 33 _ [(.int (1 : Int32)), (.int nn), (.int (gf i.toNatClampNeg))])
        refine own_st (fun t k => XS.iadd Xl.here hx rfl (hb hby d3_33) rfl k) ?_
        show own_Go _ _ _ _ Tl (mkF m 34 _ [(.int (nn + (1 : Int32))), (.int (gf i.toNatClampNeg))])
        by_cases c5 : (gf i.toNatClampNeg) = (nn + (1 : Int32))
        · skip
          refine own_st (fun t k => XS.icmpYes Xl.here hx rfl (pc0 := 34) (pc' := 48) rfl (hb hby d3_34) rfl (teq c5).1 (by decide) (by decide) k) ?_
          show own_Go _ _ _ _ Tl (mkF m 48 _ [])
          refine own_st (fun t k => XS.iload Xl.here hx rfl (hb hby d3_48) rfl k) ?_
          show own_Go _ _ _ _ Tl (mkF m 50 _ [(.int i)])
          subst hPq
          refine own_out Xl (v := some (.int i)) (fun h => by rw [Bd.returns] at h; cases h) Bd.notSynchronized (own_retI Xl hx Bd.returns (hb hby d3_50)) (by decide) (by decide) ?_
          show Q3 Z ar nn kc z gf h0 n0 _ Tl.heap _
          rw [el]
          exact ⟨i, rfl, Nl, rfl, own_found Iv (Or.inr c5)⟩
        · skip
          refine own_st (fun t k => XS.icmpNo Xl.here hx rfl (hb hby d3_34) rfl (feq c5).1 k) ?_
          show own_Go _ _ _ _ Tl (mkF m 37 _ [])
          refine own_st (fun t k => XS.iload Xl.here hx rfl (hb hby d3_37) rfl k) ?_
          show own_Go _ _ _ _ Tl (mkF m 39 _ [(.int i)])
          refine own_st (fun t k => XS.iconst Xl.here hx rfl (hb hby d3_39) k) ?_
          show own_Go _ _ _ _ Tl (mkF m 40 _ [(.int (1 : Int32)), (.int i)])
          refine own_st (fun t k => XS.iadd Xl.here hx rfl (hb hby d3_40) rfl k) ?_
          show own_Go _ _ _ _ Tl (mkF m 41 _ [(.int (i + (1 : Int32)))])
          refine own_st (fun t k => XS.iloadN Xl.here hx rfl (hb hby d3_41) rfl k) ?_
          show own_Go _ _ _ _ Tl (mkF m 42 _ [(.int (z - (1 : Int32))), (.int (i + (1 : Int32)))])
          refine own_st (fun t k => XS.iand Xl.here hx rfl (hb hby d3_42) rfl k) ?_
          show own_Go _ _ _ _ Tl (mkF m 43 _ [(.int ((i + (1 : Int32)) &&& (z - (1 : Int32))))])
          refine own_st (fun t k => XS.istore Xl.here hx rfl (hb hby d3_43) rfl (l' := #[.val (.ref ar), .val (.int nn), .val (.int (z - (1 : Int32))), .val (.int (nn * (-1640531527 : Int32))), .val (.int ((i + (1 : Int32)) &&& (z - (1 : Int32))))]) rfl k) ?_
          show own_Go _ _ _ _ Tl (mkF m 45 #[.val (.ref ar), .val (.int nn), .val (.int (z - (1 : Int32))), .val (.int (nn * (-1640531527 : Int32))), .val (.int ((i + (1 : Int32)) &&& (z - (1 : Int32))))] [])
          refine own_st (fun t k => XS.goto Xl.here hx rfl (pc0 := 45) (pc' := 20) rfl (hb hby d3_45) (by decide) (by decide) k) ?_
          show own_Go _ _ _ _ Tl (mkF m 20 _ [])
          exact ih (kk - 1) (own_look1 hz Iv c3 c5).1 Tl _ _ Xl el Nl (own_look1 hz Iv c3 c5).2
  exact Lp 16 s₁ _ _ X0 e0 N0 (own_look0 hz hs)
def own_to (x0 : Int64) : Int32 := (x0.toInt32 - (1 : Int32))
theorem d4_0 : decode prog_44_method_5_code 0 = .ok (.lload_n 0, 1) := by decide +kernel
theorem d4_1 : decode prog_44_method_5_code 1 = .ok (.l2i, 1) := by decide +kernel
theorem d4_2 : decode prog_44_method_5_code 2 = .ok (.iconst 1, 1) := by decide +kernel
theorem d4_3 : decode prog_44_method_5_code 3 = .ok (.isub, 1) := by decide +kernel
theorem d4_4 : decode prog_44_method_5_code 4 = .ok (.ireturn, 1) := by decide +kernel
theorem own_pn4 : plainName "com/example/premise/premise/store/Skips" = true := by first | (simp [plainName, overriddenIn]; done) | decide +kernel
theorem own_ef4 (m : MethodId) (x0 : Int64) : entryFrame m #[(.long x0)] 2 = mkF m 0 #[.val (.long x0), .second] [] := by first | (simp [entryFrame, mkF, argsToLocals, Value.category]; done) | rfl
def Q4 (Z : State) (x0 : Int64) (h0 : Heap) (n0 : Nat) (v : Option Value) (h : Heap) (L : List Loc) : Prop := v = some (.int (own_to x0)) ∧ Fr n0 L ∧ h = h0
set_option maxRecDepth 65536 in
set_option maxHeartbeats 4000000 in
theorem rm4 (l : Launch) (Z : State) (a0 : Array Value) (hw : ∀ d ∈ tables_1, d.before a0 Z = true) (ws : List Jvm.Cond) (x0 : Int64) (h0 : Heap) (n0 : Nat) (Z0 : n0 ≤ h0.size) :
    MetFree l (⟨"com/example/premise/premise/store/Skips", "to", "(J)I"⟩ : MethodName) (head1 (Jvm.Cond.code (⟨"com/example/premise/premise/store/Skips", "to", "(J)I"⟩ : MethodName) prog_44_method_5_code 2 (some .int) :: ws) ({ frames := 0, cells := 0, slots := 0, locals := 0 } : Room)) (fun aW U => aW = #[(.long x0)] ∧ Z.Warmed39 U.vm ∧ U.heap = h0) (fun _ _ _ _ _ => True) (fun _ U o U' => ∃ v L, o = .returned v ∧ Q4 Z x0 h0 n0 v U'.heap L ∧ FrameEnd U o U' L ({ frames := 0, cells := 0, slots := 0, locals := 0 } : Room).cells ({ frames := 0, cells := 0, slots := 0, locals := 0 } : Room).slots) := by
  refine MetFree.of_bodySF (plainFor_of_name own_pn4) hisR ?_
  intro p e s m args below meth c s₁ Bd hml0 hP hK
  obtain ⟨rfl, hZ, hh⟩ := hP
  have hx := Bd.exec
  have hby := Bd.bytes
  have hml : c.maxLocals = 2 := hml0
  have hown : s.vm.findClass "com/example/premise/premise/store/Skips" = some m.cls := findClass_of_methodNamed Bd.named
  have hnm := (name_of_methodNamed Bd.named Bd.method).1
  have X0 : Stand p l e ({ frames := 0, cells := 0, slots := 0, locals := 0 } : Room) s m #[(.long x0)] below meth c s₁ [] 0 0 := Stand.of_body Bd
  have e0 : s₁.heap = h0 := by rw [← hh, Bd.state]; rfl
  have N0 := Fr.nil n0
  obtain ⟨Pq, hPq⟩ : ∃ P, P = own_P s below (fun v h L => Q4 Z x0 h0 n0 v h L) ({ frames := 0, cells := 0, slots := 0, locals := 0 } : Room).cells ({ frames := 0, cells := 0, slots := 0, locals := 0 } : Room).slots := ⟨_, rfl⟩
  suffices hgo : own_Go p.tables e below Pq s₁ (mkF m 0 #[.val (.long x0), .second] []) by
    subst hPq
    obtain ⟨t, k1, k2, o, k3, k4⟩ := hgo
    exact ⟨t, o, castTop (own_ef4 m x0) k1, k2, k3, k4⟩
  show own_Go _ _ _ _ s₁ (mkF m 0 #[.val (.long x0), .second] [])
  refine own_st (fun t k => XS.lloadN X0.here hx rfl (hb hby d4_0) rfl k) ?_
  show own_Go _ _ _ _ s₁ (mkF m 1 _ [(.long x0)])
  refine own_st (fun t k => XS.l2i X0.here hx rfl (hb hby d4_1) rfl k) ?_
  show own_Go _ _ _ _ s₁ (mkF m 2 _ [(.int x0.toInt32)])
  refine own_st (fun t k => XS.iconst X0.here hx rfl (hb hby d4_2) k) ?_
  show own_Go _ _ _ _ s₁ (mkF m 3 _ [(.int (1 : Int32)), (.int x0.toInt32)])
  refine own_st (fun t k => XS.isub X0.here hx rfl (hb hby d4_3) rfl k) ?_
  show own_Go _ _ _ _ s₁ (mkF m 4 _ [(.int (x0.toInt32 - (1 : Int32)))])
  subst hPq
  refine own_out X0 (v := some (.int (x0.toInt32 - (1 : Int32)))) (fun h => by rw [Bd.returns] at h; cases h) Bd.notSynchronized (own_retI X0 hx Bd.returns (hb hby d4_4)) (by decide) (by decide) ?_
  show Q4 Z x0 h0 n0 _ s₁.heap _
  rw [e0]
  exact ⟨by subst_vars; rfl, N0, rfl⟩
def own_removal (x0 : Int64) : Int32 := ((x0.toUInt64 >>> ((32 : Int32) &&& 0x3f).toInt64.toUInt64).toInt64).toInt32
theorem d5_0 : decode prog_44_method_6_code 0 = .ok (.lload_n 0, 1) := by decide +kernel
theorem d5_1 : decode prog_44_method_6_code 1 = .ok (.bipush 32, 2) := by decide +kernel
theorem d5_3 : decode prog_44_method_6_code 3 = .ok (.lushr, 1) := by decide +kernel
theorem d5_4 : decode prog_44_method_6_code 4 = .ok (.l2i, 1) := by decide +kernel
theorem d5_5 : decode prog_44_method_6_code 5 = .ok (.ireturn, 1) := by decide +kernel
theorem own_pn5 : plainName "com/example/premise/premise/store/Skips" = true := by first | (simp [plainName, overriddenIn]; done) | decide +kernel
theorem own_ef5 (m : MethodId) (x0 : Int64) : entryFrame m #[(.long x0)] 2 = mkF m 0 #[.val (.long x0), .second] [] := by first | (simp [entryFrame, mkF, argsToLocals, Value.category]; done) | rfl
def Q5 (Z : State) (x0 : Int64) (h0 : Heap) (n0 : Nat) (v : Option Value) (h : Heap) (L : List Loc) : Prop := v = some (.int (own_removal x0)) ∧ Fr n0 L ∧ h = h0
set_option maxRecDepth 65536 in
set_option maxHeartbeats 4000000 in
theorem rm5 (l : Launch) (Z : State) (a0 : Array Value) (hw : ∀ d ∈ tables_1, d.before a0 Z = true) (ws : List Jvm.Cond) (x0 : Int64) (h0 : Heap) (n0 : Nat) (Z0 : n0 ≤ h0.size) :
    MetFree l (⟨"com/example/premise/premise/store/Skips", "removal", "(J)I"⟩ : MethodName) (head1 (Jvm.Cond.code (⟨"com/example/premise/premise/store/Skips", "removal", "(J)I"⟩ : MethodName) prog_44_method_6_code 2 (some .int) :: ws) ({ frames := 0, cells := 0, slots := 0, locals := 0 } : Room)) (fun aW U => aW = #[(.long x0)] ∧ Z.Warmed39 U.vm ∧ U.heap = h0) (fun _ _ _ _ _ => True) (fun _ U o U' => ∃ v L, o = .returned v ∧ Q5 Z x0 h0 n0 v U'.heap L ∧ FrameEnd U o U' L ({ frames := 0, cells := 0, slots := 0, locals := 0 } : Room).cells ({ frames := 0, cells := 0, slots := 0, locals := 0 } : Room).slots) := by
  refine MetFree.of_bodySF (plainFor_of_name own_pn5) hisR ?_
  intro p e s m args below meth c s₁ Bd hml0 hP hK
  obtain ⟨rfl, hZ, hh⟩ := hP
  have hx := Bd.exec
  have hby := Bd.bytes
  have hml : c.maxLocals = 2 := hml0
  have hown : s.vm.findClass "com/example/premise/premise/store/Skips" = some m.cls := findClass_of_methodNamed Bd.named
  have hnm := (name_of_methodNamed Bd.named Bd.method).1
  have X0 : Stand p l e ({ frames := 0, cells := 0, slots := 0, locals := 0 } : Room) s m #[(.long x0)] below meth c s₁ [] 0 0 := Stand.of_body Bd
  have e0 : s₁.heap = h0 := by rw [← hh, Bd.state]; rfl
  have N0 := Fr.nil n0
  obtain ⟨Pq, hPq⟩ : ∃ P, P = own_P s below (fun v h L => Q5 Z x0 h0 n0 v h L) ({ frames := 0, cells := 0, slots := 0, locals := 0 } : Room).cells ({ frames := 0, cells := 0, slots := 0, locals := 0 } : Room).slots := ⟨_, rfl⟩
  suffices hgo : own_Go p.tables e below Pq s₁ (mkF m 0 #[.val (.long x0), .second] []) by
    subst hPq
    obtain ⟨t, k1, k2, o, k3, k4⟩ := hgo
    exact ⟨t, o, castTop (own_ef5 m x0) k1, k2, k3, k4⟩
  show own_Go _ _ _ _ s₁ (mkF m 0 #[.val (.long x0), .second] [])
  refine own_st (fun t k => XS.lloadN X0.here hx rfl (hb hby d5_0) rfl k) ?_
  show own_Go _ _ _ _ s₁ (mkF m 1 _ [(.long x0)])
  refine own_st (fun t k => XS.bipush X0.here hx rfl (hb hby d5_1) k) ?_
  show own_Go _ _ _ _ s₁ (mkF m 3 _ [(.int (32 : Int32)), (.long x0)])
  refine own_st (fun t k => XS.lushr X0.here hx rfl (hb hby d5_3) rfl k) ?_
  show own_Go _ _ _ _ s₁ (mkF m 4 _ [(.long ((x0.toUInt64 >>> ((32 : Int32) &&& 0x3f).toInt64.toUInt64).toInt64))])
  refine own_st (fun t k => XS.l2i X0.here hx rfl (hb hby d5_4) rfl k) ?_
  show own_Go _ _ _ _ s₁ (mkF m 5 _ [(.int ((x0.toUInt64 >>> ((32 : Int32) &&& 0x3f).toInt64.toUInt64).toInt64).toInt32)])
  subst hPq
  refine own_out X0 (v := some (.int ((x0.toUInt64 >>> ((32 : Int32) &&& 0x3f).toInt64.toUInt64).toInt64).toInt32)) (fun h => by rw [Bd.returns] at h; cases h) Bd.notSynchronized (own_retI X0 hx Bd.returns (hb hby d5_5)) (by decide) (by decide) ?_
  show Q5 Z x0 h0 n0 _ s₁.heap _
  rw [e0]
  exact ⟨by subst_vars; rfl, N0, rfl⟩
def own_pack (to rem : Int32) : Int64 := (rem.toInt64 <<< ((32 : Int32) &&& 0x3f).toInt64) ||| ((to + (1 : Int32)).toInt64 &&& (4294967295 : Int64))
theorem own_pkbits (t r : BitVec 32) : ((r.signExtend 64) <<< 32 ||| (t.signExtend 64 &&& 4294967295#64)).setWidth 32 = t ∧ (((r.signExtend 64) <<< 32 ||| (t.signExtend 64 &&& 4294967295#64)) >>> 32).setWidth 32 = r := by
  have hm : ∀ i : Fin 64, (4294967295#64).getLsbD i.val = decide (i.val < 32) := by decide
  constructor
  · apply BitVec.eq_of_getLsbD_eq
    intro i hi
    rw [BitVec.getLsbD_setWidth, BitVec.getLsbD_or, BitVec.getLsbD_shiftLeft, BitVec.getLsbD_and, hm ⟨i, by omega⟩, BitVec.getLsbD_signExtend, BitVec.getLsbD_signExtend]
    simp [hi, show i < 64 by omega]
  · apply BitVec.eq_of_getLsbD_eq
    intro i hi
    rw [BitVec.getLsbD_setWidth, BitVec.getLsbD_ushiftRight, BitVec.getLsbD_or, BitVec.getLsbD_shiftLeft, BitVec.getLsbD_and, hm ⟨32 + i, by omega⟩, BitVec.getLsbD_signExtend, BitVec.getLsbD_signExtend]
    simp [hi, show 32 + i < 64 by omega, show ¬ 32 + i < 32 by omega, show 32 + i - 32 = i by omega, show i < 64 by omega]
theorem own_packbv (to rem : Int32) : (own_pack to rem).toBitVec = (rem.toBitVec.signExtend 64) <<< 32 ||| ((to + 1).toBitVec.signExtend 64 &&& 4294967295#64) := by
  unfold own_pack
  rw [Int64.toBitVec_or, Int64.toBitVec_and, Int64.toBitVec_shiftLeft, Int32.toBitVec_toInt64, Int32.toBitVec_toInt64]
  rfl
theorem own_to_pack (to rem : Int32) : own_to (own_pack to rem) = to := by
  have e : (own_pack to rem).toInt32 = to + 1 := by
    apply Int32.toBitVec_inj.mp
    rw [Int64.toBitVec_toInt32, BitVec.signExtend_eq_setWidth_of_le _ (by decide), own_packbv]
    exact (own_pkbits _ _).1
  unfold own_to
  rw [e]
  apply Int32.toBitVec_inj.mp
  rw [Int32.toBitVec_sub, Int32.toBitVec_add, BitVec.add_sub_cancel]
theorem own_rem_pack (to rem : Int32) : own_removal (own_pack to rem) = rem := by
  unfold own_removal
  apply Int32.toBitVec_inj.mp
  rw [Int64.toBitVec_toInt32, BitVec.signExtend_eq_setWidth_of_le _ (by decide)]
  show ((own_pack to rem).toBitVec >>> 32).setWidth 32 = _
  rw [own_packbv]
  exact (own_pkbits _ _).2
def own_putR (gf : Nat → Int32) (wf : Nat → Int64) (sz n to rem r : Int32) (g2 : Nat → Int32) (w2 : Nat → Int64) (s2 : Int32) : Prop :=
  g2 = (if (gf r.toNatClampNeg) = (0 : Int32) then (own_updI gf r.toNatClampNeg (n + (1 : Int32))) else gf) ∧ w2 = own_updJ wf r.toNatClampNeg (own_pack to rem) ∧ s2 = (if (gf r.toNatClampNeg) = (0 : Int32) then (sz + (1 : Int32)) else sz)
def own_getR (gf : Nat → Int32) (wf : Nat → Int64) (sz n : Int32) (w : Int64) : Prop := (sz = 0 ∧ w = 0) ∨ (¬ sz = 0 ∧ ∃ r, own_probe gf 16 n r ∧ w = wf r.toNatClampNeg)
/-- at most n places are taken; size counts them; an empty one is all zeros -/
def own_pi (g : Nat → Int32) (w : Nat → Int64) (sz : Int32) (n : Nat) : Prop := (∃ l : List Nat, l.length ≤ n ∧ ∀ j, g j ≠ 0 → j ∈ l) ∧ 0 ≤ sz.toInt ∧ sz.toInt ≤ n ∧ (¬ 0 < sz → g = (fun _ => 0) ∧ w = (fun _ => 0) ∧ sz = 0)
theorem own_pi0 : own_pi (fun _ => 0) (fun _ => 0) 0 0 := ⟨⟨[], Nat.le_refl _, fun j h => absurd rfl h⟩, by decide, by decide, fun _ => ⟨rfl, rfl, rfl⟩⟩
theorem own_piroom {g : Nat → Int32} {w : Nat → Int64} {sz : Int32} {n : Nat} (h : own_pi g w sz n) (hn : n ≤ 3) : ∃ j, j < (16 : Int32).toNatClampNeg ∧ g j = 0 := by
  obtain ⟨⟨l, h1, h2⟩, -⟩ := h
  obtain ⟨j, a, b⟩ := own_pig 16 l (by omega)
  exact ⟨j, a, Classical.byContradiction fun q => b (h2 j q)⟩
theorem own_pisz {g : Nat → Int32} {w : Nat → Int64} {sz : Int32} {n : Nat} (h : own_pi g w sz n) (hn : n ≤ 3) : ¬ (16 : Int32) < ((2 : Int32) * (sz + (1 : Int32))) := by
  obtain ⟨-, h1, h2, -⟩ := h
  have a := c_iadd sz 1
  have r := rng32 (sz + 1); have rs := rng32 sz
  rw [show (1 : Int32).toInt = 1 from rfl] at a
  have f : (sz + 1).toInt = sz.toInt + 1 := by omega
  have b := c_imul 2 (sz + 1)
  have r2 := rng32 (2 * (sz + 1))
  rw [f, show (2 : Int32).toInt = 2 from rfl] at b
  rw [Int32.lt_iff_toInt_lt, show (16 : Int32).toInt = 16 from rfl]
  omega
theorem own_pi1 {g g2 : Nat → Int32} {w w2 : Nat → Int64} {sz s2 x to rem r : Int32} {n : Nat} (h : own_pi g w sz n) (hn : n ≤ 3) (hp : own_putR g w sz x to rem r g2 w2 s2) : own_pi g2 w2 s2 (n + 1) := by
  obtain ⟨⟨l, h1, h2⟩, h3, h4, h5⟩ := h
  obtain ⟨rfl, rfl, rfl⟩ := hp
  have a := c_iadd sz 1
  have ra := rng32 (sz + 1); have rs := rng32 sz
  rw [show (1 : Int32).toInt = 1 from rfl] at a
  by_cases c : g r.toNatClampNeg = 0
  · rw [if_pos c, if_pos c]
    refine ⟨⟨r.toNatClampNeg :: l, by simp; omega, fun j hj => ?_⟩, by omega, by omega, fun q => ?_⟩
    · by_cases u : j = r.toNatClampNeg
      · subst u; exact List.mem_cons_self ..
      · rw [show own_updI g r.toNatClampNeg (x + 1) j = g j from if_neg u] at hj
        exact List.mem_cons_of_mem _ (h2 j hj)
    · rw [Int32.lt_iff_toInt_lt, show (0 : Int32).toInt = 0 from rfl] at q; omega
  · rw [if_neg c, if_neg c]
    refine ⟨⟨l, by omega, h2⟩, h3, by omega, fun q => ?_⟩
    rw [(h5 q).1] at c
    exact absurd rfl c
theorem own_put0 {g2 : Nat → Int32} {w2 : Nat → Int64} {s2 x to rem r : Int32} (hp : own_putR (fun _ => 0) (fun _ => 0) 0 x to rem r g2 w2 s2) : g2 = own_updI (fun _ => 0) r.toNatClampNeg (x + 1) ∧ w2 = own_updJ (fun _ => 0) r.toNatClampNeg (own_pack to rem) ∧ s2 = 1 := by
  obtain ⟨a, b, c⟩ := hp
  exact ⟨a.trans (if_pos rfl), b, c.trans (if_pos rfl)⟩
theorem own_get0 {n : Int32} {w : Int64} {g : Nat → Int32} {wf : Nat → Int64} (h : own_getR g wf 0 n w) : w = 0 := by
  rcases h with h | h
  · exact h.2
  · exact absurd rfl h.1
/-- behind put(x) on an empty one -/
def own_one (g2 : Nat → Int32) (w2 : Nat → Int64) (s2 x to rem : Int32) : Prop := ∃ r : Nat, g2 = own_updI (fun _ => 0) r (x + 1) ∧ w2 = own_updJ (fun _ => 0) r (own_pack to rem) ∧ s2 = 1 ∧ own_inv g2 16 [x]
theorem own_one0 {g2 : Nat → Int32} {w2 : Nat → Int64} {s2 x to rem r : Int32} (hx : x + 1 ≠ 0) (hp : own_probe (fun _ => 0) 16 x r) (h : own_putR (fun _ => 0) (fun _ => 0) 0 x to rem r g2 w2 s2) : own_one g2 w2 s2 x to rem := by
  obtain ⟨a, b, c⟩ := own_put0 h
  exact ⟨r.toNatClampNeg, a, b, c, by rw [a]; exact own_add (own_inv0 16) hp (by simp) hx⟩
theorem own_one_room {g2 : Nat → Int32} {w2 : Nat → Int64} {s2 x to rem : Int32} (h : own_one g2 w2 s2 x to rem) : ∃ j, j < (16 : Int32).toNatClampNeg ∧ g2 j = 0 := by
  obtain ⟨r, -, -, -, h⟩ := h
  exact own_room (Or.inr (Or.inr rfl)) h (by simp)
theorem own_one_hit {g2 : Nat → Int32} {w2 : Nat → Int64} {s2 x to rem : Int32} {w : Int64} (h : own_one g2 w2 s2 x to rem) (hx : x + 1 ≠ 0) (hg : own_getR g2 w2 s2 x w) : w = own_pack to rem := by
  obtain ⟨r, a, b, c, hi⟩ := h
  rcases hg with hg | ⟨-, s, hs, hw⟩
  · rw [c] at hg; exact absurd hg.1 (by decide)
  · have e := own_in hi hs (by simp)
    rw [hw, b]
    rw [a] at e
    by_cases u : s.toNatClampNeg = r
    · exact if_pos u
    · rw [show own_updI (fun _ => 0) r (x + 1) s.toNatClampNeg = 0 from if_neg u] at e
      exact absurd e.symm hx
theorem own_one_miss {g2 : Nat → Int32} {w2 : Nat → Int64} {s2 x y to rem : Int32} {w : Int64} (h : own_one g2 w2 s2 x to rem) (hx : x + 1 ≠ 0) (hy : ¬ y = x) (hg : own_getR g2 w2 s2 y w) : w = 0 := by
  obtain ⟨r, a, b, c, hi⟩ := h
  rcases hg with hg | ⟨-, s, hs, hw⟩
  · exact hg.2
  · have e := own_out0 hi hs (by simpa using hy)
    rw [hw, b]
    rw [a] at e
    by_cases u : s.toNatClampNeg = r
    · rw [show own_updI (fun _ => 0) r (x + 1) s.toNatClampNeg = x + 1 from if_pos u] at e
      exact absurd e hx
    · exact if_neg u
theorem own_lt12 {x : Int32} (h : x < 1) : x < 2 := by rw [Int32.lt_iff_toInt_lt, show (1 : Int32).toInt = 1 from rfl] at h; rw [Int32.lt_iff_toInt_lt, show (2 : Int32).toInt = 2 from rfl]; omega
theorem own_lt23 {x : Int32} (h : x < 2) : x < 3 := by rw [Int32.lt_iff_toInt_lt, show (2 : Int32).toInt = 2 from rfl] at h; rw [Int32.lt_iff_toInt_lt, show (3 : Int32).toInt = 3 from rfl]; omega
theorem d6_0 : decode prog_44_method_7_code 0 = .ok (.aload_n 0, 1) := by decide +kernel
theorem d6_1 : decode prog_44_method_7_code 1 = .ok (.getfield 7, 3) := by decide +kernel
theorem d6_4 : decode prog_44_method_7_code 4 = .ok (.iload_n 1, 1) := by decide +kernel
theorem d6_5 : decode prog_44_method_7_code 5 = .ok (.invokestatic 32, 3) := by decide +kernel
theorem d6_8 : decode prog_44_method_7_code 8 = .ok (.ireturn, 1) := by decide +kernel
theorem own_pn6 : plainName "com/example/premise/premise/store/Skips" = true := by first | (simp [plainName, overriddenIn]; done) | decide +kernel
theorem own_ef6 (m : MethodId) (a : Addr) (nn : Int32) : entryFrame m #[(.ref a), (.int nn)] 2 = mkF m 0 #[.val (.ref a), .val (.int nn)] [] := by first | (simp [entryFrame, mkF, argsToLocals, Value.category]; done) | rfl
def Q6 (Z : State) (a : Addr) (nn : Int32) (st : Addr) (ki : ClassId) (gf : Nat → Int32) (h0 : Heap) (n0 : Nat) (v : Option Value) (h : Heap) (L : List Loc) : Prop := ∃ (r : Int32), v = some (.int r) ∧ Fr n0 L ∧ h = h0 ∧ own_probe gf (16 : Int32) nn r
set_option maxRecDepth 65536 in
set_option maxHeartbeats 4000000 in
theorem rm6 (l : Launch) (Z : State) (a0 : Array Value) (hw : ∀ d ∈ tables_1, d.before a0 Z = true) (ws : List Jvm.Cond) (a : Addr) (nn : Int32) (st : Addr) (ki : ClassId) (gf : Nat → Int32) (h0 : Heap) (n0 : Nat) (Z0 : n0 ≤ h0.size) (F0 : Exa Z h0 a "com/example/premise/premise/store/Skips") (F1 : Fld Z h0 a "com/example/premise/premise/store/Skips" "statements" "[I" (.ref st)) (F2 : own_AI Z h0 st ki (16 : Int32) gf) (hs : ∃ j, j < (16 : Int32).toNatClampNeg ∧ gf j = 0) :
    MetFree l (⟨"com/example/premise/premise/store/Skips", "slot", "(I)I"⟩ : MethodName) (head1 (Jvm.Cond.code (⟨"com/example/premise/premise/store/Skips", "slot", "(I)I"⟩ : MethodName) prog_44_method_7_code 2 (some .int) :: ws) ({ frames := 1, cells := 0, slots := 0, locals := 16 } : Room)) (fun aW U => aW = #[(.ref a), (.int nn)] ∧ Z.Warmed39 U.vm ∧ U.heap = h0) (fun _ _ _ _ _ => True) (fun _ U o U' => ∃ v L, o = .returned v ∧ Q6 Z a nn st ki gf h0 n0 v U'.heap L ∧ FrameEnd U o U' L ({ frames := 1, cells := 0, slots := 0, locals := 16 } : Room).cells ({ frames := 1, cells := 0, slots := 0, locals := 16 } : Room).slots) := by
  refine MetFree.of_bodySF (plainFor_of_name own_pn6) hisR ?_
  intro p e s m args below meth c s₁ Bd hml0 hP hK
  obtain ⟨rfl, hZ, hh⟩ := hP
  have hx := Bd.exec
  have hby := Bd.bytes
  have hml : c.maxLocals = 2 := hml0
  have hown : s.vm.findClass "com/example/premise/premise/store/Skips" = some m.cls := findClass_of_methodNamed Bd.named
  have hnm := (name_of_methodNamed Bd.named Bd.method).1
  have X0 : Stand p l e ({ frames := 1, cells := 0, slots := 0, locals := 16 } : Room) s m #[(.ref a), (.int nn)] below meth c s₁ [] 0 0 := Stand.of_body Bd
  have e0 : s₁.heap = h0 := by rw [← hh, Bd.state]; rfl
  have N0 := Fr.nil n0
  obtain ⟨Pq, hPq⟩ : ∃ P, P = own_P s below (fun v h L => Q6 Z a nn st ki gf h0 n0 v h L) ({ frames := 1, cells := 0, slots := 0, locals := 16 } : Room).cells ({ frames := 1, cells := 0, slots := 0, locals := 16 } : Room).slots := ⟨_, rfl⟩
  suffices hgo : own_Go p.tables e below Pq s₁ (mkF m 0 #[.val (.ref a), .val (.int nn)] []) by
    subst hPq
    obtain ⟨t, k1, k2, o, k3, k4⟩ := hgo
    exact ⟨t, o, castTop (own_ef6 m a nn) k1, k2, k3, k4⟩
  show own_Go _ _ _ _ s₁ (mkF m 0 #[.val (.ref a), .val (.int nn)] [])
  refine own_st (fun t k => XS.aloadN X0.here hx rfl (hb hby d6_0) rfl rfl k) ?_
  show own_Go _ _ _ _ s₁ (mkF m 1 _ [(.ref a)])
  obtain ⟨T1, X1, e1, st1⟩ := getF X0 hx hZ hown (host := "") (Or.inl (hw _ (List.mem_of_getElem? (i := 15) rfl))) Via.refl e0 F1 (g := (mkF m 1 #[.val (.ref a), .val (.int nn)] [(.ref a)])) rfl rfl (hb hby d6_1)
  refine own_st st1 ?_
  show own_Go _ _ _ _ T1 (mkF m 4 _ [(.ref st)])
  refine own_st (fun t k => XS.iloadN X1.here hx rfl (hb hby d6_4) rfl k) ?_
  show own_Go _ _ _ _ T1 (mkF m 5 _ [(.int nn), (.ref st)])
  obtain ⟨_, _, ⟨T2, L2, k2, n2⟩, -, X2, ⟨Lc2, hQ2, l2, y2, z2⟩, st2⟩ := Jvm.LawKit.callS X1 hx (y := (⟨"com/example/premise/premise/store/NumberSlots", "slot", "([II)I"⟩ : MethodName)) hown (mvT hZ (hw _ (List.mem_of_getElem? (i := 31) rfl))) (mvT hZ (hw _ (List.mem_of_getElem? (i := 32) rfl))) (mvT hZ (hw _ (List.mem_of_getElem? (i := 33) rfl))) (mvT hZ (hw _ (List.mem_of_getElem? (i := 34) rfl))) (by decide) (backOf (W := 0) (rm3 l Z a0 hw [] st nn ki (16 : Int32) gf h0 n0 Z0 F2 (Or.inr (Or.inr rfl)) hs) hZ (hw _ (List.mem_of_getElem? (i := 34) rfl)) (hw _ (List.mem_of_getElem? (i := 33) rfl)) (by decide) (by decide)) (g := (mkF m 5 #[.val (.ref a), .val (.int nn)] [(.int nn), (.ref st)])) rfl (by rw [hml]; rfl) (argsL := [(.ref st), (.int nn)]) (rest := []) (lenOf own_pd___II_I rfl) rfl (by show 2 * 0 + _ ≤ _; exact Nat.le_of_eq rfl) (hb hby d6_5) (fun _ _ => ⟨rfl, e1, (by decide : 0 + 0 ≤ _), (by decide : 0 + 0 ≤ _)⟩)
  dsimp only [Pt.U, Pt.locs, Pt.cells, Pt.slots] at X2 l2 y2 z2 st2 hQ2
  subst l2 y2 z2
  obtain ⟨r2_r, rfl, NQ2, eq2, hq2_0⟩ := hQ2
  have N3 := Fr.app N0 NQ2
  refine own_st st2 ?_
  show own_Go _ _ _ _ T2 (mkF m 8 _ [(.int r2_r)])
  subst hPq
  refine own_out X2 (v := some (.int r2_r)) (fun h => by rw [Bd.returns] at h; cases h) Bd.notSynchronized (own_retI X2 hx Bd.returns (hb hby d6_8)) (by decide) (by decide) ?_
  show Q6 Z a nn st ki gf h0 n0 _ T2.heap _
  rw [eq2]
  exact ⟨_, rfl, N3, rfl, hq2_0⟩
theorem d7_0 : decode prog_44_method_3_code 0 = .ok (.iconst 2, 1) := by decide +kernel
theorem d7_1 : decode prog_44_method_3_code 1 = .ok (.aload_n 0, 1) := by decide +kernel
theorem d7_2 : decode prog_44_method_3_code 2 = .ok (.getfield 17, 3) := by decide +kernel
theorem d7_5 : decode prog_44_method_3_code 5 = .ok (.iconst 1, 1) := by decide +kernel
theorem d7_6 : decode prog_44_method_3_code 6 = .ok (.iadd, 1) := by decide +kernel
theorem d7_7 : decode prog_44_method_3_code 7 = .ok (.imul, 1) := by decide +kernel
theorem d7_8 : decode prog_44_method_3_code 8 = .ok (.aload_n 0, 1) := by decide +kernel
theorem d7_9 : decode prog_44_method_3_code 9 = .ok (.getfield 7, 3) := by decide +kernel
theorem d7_12 : decode prog_44_method_3_code 12 = .ok (.arraylength, 1) := by decide +kernel
theorem d7_13 : decode prog_44_method_3_code 13 = .ok (.if_icmp .le 7, 3) := by decide +kernel
theorem d7_20 : decode prog_44_method_3_code 20 = .ok (.aload_n 0, 1) := by decide +kernel
theorem d7_21 : decode prog_44_method_3_code 21 = .ok (.iload_n 1, 1) := by decide +kernel
theorem d7_22 : decode prog_44_method_3_code 22 = .ok (.invokevirtual 21, 3) := by decide +kernel
theorem d7_25 : decode prog_44_method_3_code 25 = .ok (.istore 4, 2) := by decide +kernel
theorem d7_27 : decode prog_44_method_3_code 27 = .ok (.aload_n 0, 1) := by decide +kernel
theorem d7_28 : decode prog_44_method_3_code 28 = .ok (.getfield 7, 3) := by decide +kernel
theorem d7_31 : decode prog_44_method_3_code 31 = .ok (.iload 4, 2) := by decide +kernel
theorem d7_33 : decode prog_44_method_3_code 33 = .ok (.iaload, 1) := by decide +kernel
theorem d7_34 : decode prog_44_method_3_code 34 = .ok (.ifCond .ne 23, 3) := by decide +kernel
theorem d7_37 : decode prog_44_method_3_code 37 = .ok (.aload_n 0, 1) := by decide +kernel
theorem d7_38 : decode prog_44_method_3_code 38 = .ok (.getfield 7, 3) := by decide +kernel
theorem d7_41 : decode prog_44_method_3_code 41 = .ok (.iload 4, 2) := by decide +kernel
theorem d7_43 : decode prog_44_method_3_code 43 = .ok (.iload_n 1, 1) := by decide +kernel
theorem d7_44 : decode prog_44_method_3_code 44 = .ok (.iconst 1, 1) := by decide +kernel
theorem d7_45 : decode prog_44_method_3_code 45 = .ok (.iadd, 1) := by decide +kernel
theorem d7_46 : decode prog_44_method_3_code 46 = .ok (.iastore, 1) := by decide +kernel
theorem d7_47 : decode prog_44_method_3_code 47 = .ok (.aload_n 0, 1) := by decide +kernel
theorem d7_48 : decode prog_44_method_3_code 48 = .ok (.dup, 1) := by decide +kernel
theorem d7_49 : decode prog_44_method_3_code 49 = .ok (.getfield 17, 3) := by decide +kernel
theorem d7_52 : decode prog_44_method_3_code 52 = .ok (.iconst 1, 1) := by decide +kernel
theorem d7_53 : decode prog_44_method_3_code 53 = .ok (.iadd, 1) := by decide +kernel
theorem d7_54 : decode prog_44_method_3_code 54 = .ok (.putfield 17, 3) := by decide +kernel
theorem d7_57 : decode prog_44_method_3_code 57 = .ok (.aload_n 0, 1) := by decide +kernel
theorem d7_58 : decode prog_44_method_3_code 58 = .ok (.getfield 13, 3) := by decide +kernel
theorem d7_61 : decode prog_44_method_3_code 61 = .ok (.iload 4, 2) := by decide +kernel
theorem d7_63 : decode prog_44_method_3_code 63 = .ok (.iload_n 3, 1) := by decide +kernel
theorem d7_64 : decode prog_44_method_3_code 64 = .ok (.i2l, 1) := by decide +kernel
theorem d7_65 : decode prog_44_method_3_code 65 = .ok (.bipush 32, 2) := by decide +kernel
theorem d7_67 : decode prog_44_method_3_code 67 = .ok (.lshl, 1) := by decide +kernel
theorem d7_68 : decode prog_44_method_3_code 68 = .ok (.iload_n 2, 1) := by decide +kernel
theorem d7_69 : decode prog_44_method_3_code 69 = .ok (.iconst 1, 1) := by decide +kernel
theorem d7_70 : decode prog_44_method_3_code 70 = .ok (.iadd, 1) := by decide +kernel
theorem d7_71 : decode prog_44_method_3_code 71 = .ok (.i2l, 1) := by decide +kernel
theorem d7_72 : decode prog_44_method_3_code 72 = .ok (.ldc2_w 30, 3) := by decide +kernel
theorem d7_75 : decode prog_44_method_3_code 75 = .ok (.land, 1) := by decide +kernel
theorem d7_76 : decode prog_44_method_3_code 76 = .ok (.lor, 1) := by decide +kernel
theorem d7_77 : decode prog_44_method_3_code 77 = .ok (.lastore, 1) := by decide +kernel
theorem d7_78 : decode prog_44_method_3_code 78 = .ok (.return_, 1) := by decide +kernel
theorem own_pn7 : plainName "com/example/premise/premise/store/Skips" = true := by first | (simp [plainName, overriddenIn]; done) | decide +kernel
theorem own_ef7 (m : MethodId) (a : Addr) (nn : Int32) (to : Int32) (rem : Int32) : entryFrame m #[(.ref a), (.int nn), (.int to), (.int rem)] 5 = mkF m 0 #[.val (.ref a), .val (.int nn), .val (.int to), .val (.int rem), .unset] [] := by first | (simp [entryFrame, mkF, argsToLocals, Value.category]; done) | rfl
def Q7 (Z : State) (a : Addr) (nn : Int32) (to : Int32) (rem : Int32) (st : Addr) (sk : Addr) (ki : ClassId) (kj : ClassId) (gf : Nat → Int32) (wf : Nat → Int64) (sz : Int32) (h0 : Heap) (n0 : Nat) (v : Option Value) (h : Heap) (L : List Loc) : Prop := ∃ (r : Int32) (g2 : Nat → Int32) (w2 : Nat → Int64) (s2 : Int32), v = none ∧ Fr n0 L ∧ Keep h0 h [a, st, sk] ∧ Exa Z h a "com/example/premise/premise/store/Skips" ∧ Fld Z h a "com/example/premise/premise/store/Skips" "statements" "[I" (.ref st) ∧ Fld Z h a "com/example/premise/premise/store/Skips" "skips" "[J" (.ref sk) ∧ Fld Z h a "com/example/premise/premise/store/Skips" "size" "I" (.int s2) ∧ own_AI Z h st ki (16 : Int32) g2 ∧ own_AJ Z h sk kj (16 : Int32) w2 ∧ own_probe gf (16 : Int32) nn r ∧ own_putR gf wf sz nn to rem r g2 w2 s2
set_option maxRecDepth 65536 in
set_option maxHeartbeats 4000000 in
theorem rm7 (l : Launch) (Z : State) (a0 : Array Value) (hw : ∀ d ∈ tables_1, d.before a0 Z = true) (ws : List Jvm.Cond) (a : Addr) (nn : Int32) (to : Int32) (rem : Int32) (st : Addr) (sk : Addr) (ki : ClassId) (kj : ClassId) (gf : Nat → Int32) (wf : Nat → Int64) (sz : Int32) (h0 : Heap) (n0 : Nat) (Z0 : n0 ≤ h0.size) (F0 : Exa Z h0 a "com/example/premise/premise/store/Skips") (F1 : Fld Z h0 a "com/example/premise/premise/store/Skips" "statements" "[I" (.ref st)) (F2 : Fld Z h0 a "com/example/premise/premise/store/Skips" "skips" "[J" (.ref sk)) (F3 : Fld Z h0 a "com/example/premise/premise/store/Skips" "size" "I" (.int sz)) (F4 : own_AI Z h0 st ki (16 : Int32) gf) (F5 : own_AJ Z h0 sk kj (16 : Int32) wf) (hs : ∃ j, j < (16 : Int32).toNatClampNeg ∧ gf j = 0) (hsz : ¬ (16 : Int32) < ((2 : Int32) * (sz + (1 : Int32)))) (n1 : st ≠ a) (n2 : sk ≠ a) (n3 : st ≠ sk) (g_a : n0 ≤ a) (g_st : n0 ≤ st) (g_sk : n0 ≤ sk) :
    MetFree l (⟨"com/example/premise/premise/store/Skips", "put", "(III)V"⟩ : MethodName) (head1 (Jvm.Cond.code (⟨"com/example/premise/premise/store/Skips", "put", "(III)V"⟩ : MethodName) prog_44_method_3_code 5 none :: ws) ({ frames := 2, cells := 0, slots := 0, locals := 29 } : Room)) (fun aW U => aW = #[(.ref a), (.int nn), (.int to), (.int rem)] ∧ Z.Warmed39 U.vm ∧ U.heap = h0) (fun _ _ _ _ _ => True) (fun _ U o U' => ∃ v L, o = .returned v ∧ Q7 Z a nn to rem st sk ki kj gf wf sz h0 n0 v U'.heap L ∧ FrameEnd U o U' L ({ frames := 2, cells := 0, slots := 0, locals := 29 } : Room).cells ({ frames := 2, cells := 0, slots := 0, locals := 29 } : Room).slots) := by
  refine MetFree.of_bodySF (plainFor_of_name own_pn7) hisR ?_
  intro p e s m args below meth c s₁ Bd hml0 hP hK
  obtain ⟨rfl, hZ, hh⟩ := hP
  have hx := Bd.exec
  have hby := Bd.bytes
  have hml : c.maxLocals = 5 := hml0
  have hown : s.vm.findClass "com/example/premise/premise/store/Skips" = some m.cls := findClass_of_methodNamed Bd.named
  have hnm := (name_of_methodNamed Bd.named Bd.method).1
  have X0 : Stand p l e ({ frames := 2, cells := 0, slots := 0, locals := 29 } : Room) s m #[(.ref a), (.int nn), (.int to), (.int rem)] below meth c s₁ [] 0 0 := Stand.of_body Bd
  have e0 : s₁.heap = h0 := by rw [← hh, Bd.state]; rfl
  have N0 := Fr.nil n0
  have K0 : Keep h0 h0 [a, st, sk] := Keep.refl _ _
  obtain ⟨Pq, hPq⟩ : ∃ P, P = own_P s below (fun v h L => Q7 Z a nn to rem st sk ki kj gf wf sz h0 n0 v h L) ({ frames := 2, cells := 0, slots := 0, locals := 29 } : Room).cells ({ frames := 2, cells := 0, slots := 0, locals := 29 } : Room).slots := ⟨_, rfl⟩
  suffices hgo : own_Go p.tables e below Pq s₁ (mkF m 0 #[.val (.ref a), .val (.int nn), .val (.int to), .val (.int rem), .unset] []) by
    subst hPq
    obtain ⟨t, k1, k2, o, k3, k4⟩ := hgo
    exact ⟨t, o, castTop (own_ef7 m a nn to rem) k1, k2, k3, k4⟩
  show own_Go _ _ _ _ s₁ (mkF m 0 #[.val (.ref a), .val (.int nn), .val (.int to), .val (.int rem), .unset] [])
  refine own_st (fun t k => XS.iconst X0.here hx rfl (hb hby d7_0) k) ?_
  show own_Go _ _ _ _ s₁ (mkF m 1 _ [(.int (2 : Int32))])
  refine own_st (fun t k => XS.aloadN X0.here hx rfl (hb hby d7_1) rfl rfl k) ?_
  show own_Go _ _ _ _ s₁ (mkF m 2 _ [(.ref a), (.int (2 : Int32))])
  obtain ⟨T1, X1, e1, st1⟩ := getF X0 hx hZ hown (host := "") (Or.inl (hw _ (List.mem_of_getElem? (i := 25) rfl))) Via.refl e0 F3 (g := (mkF m 2 #[.val (.ref a), .val (.int nn), .val (.int to), .val (.int rem), .unset] [(.ref a), (.int (2 : Int32))])) rfl rfl (hb hby d7_2)
  refine own_st st1 ?_
  show own_Go _ _ _ _ T1 (mkF m 5 _ [(.int sz), (.int (2 : Int32))])
  refine own_st (fun t k => XS.iconst X1.here hx rfl (hb hby d7_5) k) ?_
  show own_Go _ _ _ _ T1 (mkF m 6 _ [(.int (1 : Int32)), (.int sz), (.int (2 : Int32))])
  refine own_st (fun t k => XS.iadd X1.here hx rfl (hb hby d7_6) rfl k) ?_
  show own_Go _ _ _ _ T1 (mkF m 7 _ [(.int (sz + (1 : Int32))), (.int (2 : Int32))])
  refine own_st (fun t k => XS.imul X1.here hx rfl (hb hby d7_7) rfl k) ?_
  show own_Go _ _ _ _ T1 (mkF m 8 _ [(.int ((2 : Int32) * (sz + (1 : Int32))))])
  refine own_st (fun t k => XS.aloadN X1.here hx rfl (hb hby d7_8) rfl rfl k) ?_
  show own_Go _ _ _ _ T1 (mkF m 9 _ [(.ref a), (.int ((2 : Int32) * (sz + (1 : Int32))))])
  obtain ⟨T2, X2, e2, st2⟩ := getF X1 hx hZ hown (host := "") (Or.inl (hw _ (List.mem_of_getElem? (i := 15) rfl))) Via.refl e1 F1 (g := (mkF m 9 #[.val (.ref a), .val (.int nn), .val (.int to), .val (.int rem), .unset] [(.ref a), (.int ((2 : Int32) * (sz + (1 : Int32))))])) rfl rfl (hb hby d7_9)
  refine own_st st2 ?_
  show own_Go _ _ _ _ T2 (mkF m 12 _ [(.ref st), (.int ((2 : Int32) * (sz + (1 : Int32))))])
  obtain ⟨c3, Ar3, q3, S3, N3, H3⟩ := id F4
  refine own_st (fun t k => X2.arraylength hx (by rw [e2]; exact Ar3.1) (State.isArrayOf_alike hZ.alike Ar3.2.1) (g := (mkF m 12 #[.val (.ref a), .val (.int nn), .val (.int to), .val (.int rem), .unset] [(.ref st), (.int ((2 : Int32) * (sz + (1 : Int32))))])) rfl rfl (hb hby d7_12) _ k) ?_
  rw [len_of S3 N3]
  show own_Go _ _ _ _ T2 (mkF m 13 _ [(.int (16 : Int32)), (.int ((2 : Int32) * (sz + (1 : Int32))))])
  refine own_st (fun t k => XS.icmpYes X2.here hx rfl (pc0 := 13) (pc' := 20) rfl (hb hby d7_13) rfl (flt hsz).2.2.2 (by decide) (by decide) k) ?_
  show own_Go _ _ _ _ T2 (mkF m 20 _ [])
  refine own_st (fun t k => XS.aloadN X2.here hx rfl (hb hby d7_20) rfl rfl k) ?_
  show own_Go _ _ _ _ T2 (mkF m 21 _ [(.ref a)])
  refine own_st (fun t k => XS.iloadN X2.here hx rfl (hb hby d7_21) rfl k) ?_
  show own_Go _ _ _ _ T2 (mkF m 22 _ [(.int nn), (.ref a)])
  obtain ⟨cq4, q4, q4'⟩ := F0.cell
  obtain ⟨_, _, ⟨T4, L4, k4, n4⟩, -, X4, ⟨Lc4, hQ4, l4, y4, z4⟩, st4⟩ := X2.privateBack hx (y := (⟨"com/example/premise/premise/store/Skips", "slot", "(I)I"⟩ : MethodName)) hown (mvT hZ (hw _ (List.mem_of_getElem? (i := 27) rfl))) (mvT hZ (hw _ (List.mem_of_getElem? (i := 28) rfl))) (own_selp (y := (⟨"com/example/premise/premise/store/Skips", "slot", "(I)I"⟩ : MethodName)) (mvT hZ (hw _ (List.mem_of_getElem? (i := 6) rfl))) (Cond.privateMethod_at (mvP hZ (hw _ (List.mem_of_getElem? (i := 29) rfl)) (args := #[]))) (mvT hZ (hw _ (List.mem_of_getElem? (i := 28) rfl))) (by decide)) (Cond.privateMethod_at (mvP hZ (hw _ (List.mem_of_getElem? (i := 29) rfl)) (args := #[]))) (mvT hZ (hw _ (List.mem_of_getElem? (i := 30) rfl))) (by decide) (backOf (W := 0) (rm6 l Z a0 hw [] a nn st ki gf h0 n0 Z0 F0 F1 F4 hs) hZ (hw _ (List.mem_of_getElem? (i := 30) rfl)) (hw _ (List.mem_of_getElem? (i := 7) rfl)) (by decide) (by decide)) (g := (mkF m 22 #[.val (.ref a), .val (.int nn), .val (.int to), .val (.int rem), .unset] [(.int nn), (.ref a)])) rfl (by rw [hml]; rfl) (Steps.refl _) (a := a) (by rw [e2]; exact q4) q4' (argsL := [(.int nn)]) (rest := []) (lenOf own_pd__I_I rfl) rfl (by show 2 * 0 + _ ≤ _; exact Nat.le_of_eq rfl) (hb hby d7_22) (fun _ _ => ⟨rfl, e2, (by decide : 0 + 0 ≤ _), (by decide : 0 + 0 ≤ _)⟩)
  dsimp only [Pt.U, Pt.locs, Pt.cells, Pt.slots] at X4 l4 y4 z4 st4 hQ4
  subst l4 y4 z4
  obtain ⟨r4_r, rfl, NQ4, eq4, hq4_0⟩ := hQ4
  have N5 := Fr.app N0 NQ4
  refine own_st (fun t k => st4.trans k) ?_
  show own_Go _ _ _ _ T4 (mkF m 25 _ [(.int r4_r)])
  refine own_st (fun t k => XS.istore X4.here hx rfl (hb hby d7_25) rfl (l' := #[.val (.ref a), .val (.int nn), .val (.int to), .val (.int rem), .val (.int r4_r)]) rfl k) ?_
  show own_Go _ _ _ _ T4 (mkF m 27 #[.val (.ref a), .val (.int nn), .val (.int to), .val (.int rem), .val (.int r4_r)] [])
  refine own_st (fun t k => XS.aloadN X4.here hx rfl (hb hby d7_27) rfl rfl k) ?_
  show own_Go _ _ _ _ T4 (mkF m 28 _ [(.ref a)])
  obtain ⟨T6, X6, e6, st6⟩ := getF X4 hx hZ hown (host := "") (Or.inl (hw _ (List.mem_of_getElem? (i := 15) rfl))) Via.refl eq4 F1 (g := (mkF m 28 #[.val (.ref a), .val (.int nn), .val (.int to), .val (.int rem), .val (.int r4_r)] [(.ref a)])) rfl rfl (hb hby d7_28)
  refine own_st st6 ?_
  show own_Go _ _ _ _ T6 (mkF m 31 _ [(.ref st)])
  refine own_st (fun t k => XS.iload X6.here hx rfl (hb hby d7_31) rfl k) ?_
  show own_Go _ _ _ _ T6 (mkF m 33 _ [(.int r4_r), (.ref st)])
  obtain ⟨c7, Ar7, q7, S7, N7, H7⟩ := id F4
  refine own_st (fun t k => X6.iaload hx (j := r4_r) (v := (.int (gf r4_r.toNatClampNeg))) (by rw [e6]; exact Ar7.1) (State.isArrayOf_alike hZ.alike Ar7.2.1) Ar7.2.2 (inb_of S7 ⟨hq4_0.1, hq4_0.2.1⟩) (H7 _ (own_lt (inb_of S7 ⟨hq4_0.1, hq4_0.2.1⟩))) (g := (mkF m 33 #[.val (.ref a), .val (.int nn), .val (.int to), .val (.int rem), .val (.int r4_r)] [(.int r4_r), (.ref st)])) rfl rfl (hb hby d7_33) _ k) ?_
  show own_Go _ _ _ _ T6 (mkF m 34 _ [(.int (gf r4_r.toNatClampNeg))])
  have J33 : ∀ (Tj33 : State) (Lj33 : List Loc) (hj33 : Heap) (p38 : Nat → Int32) (p40 : Int32), Stand p l e ({ frames := 2, cells := 0, slots := 0, locals := 29 } : Room) s m #[(.ref a), (.int nn), (.int to), (.int rem)] below meth c Tj33 Lj33 0 0 → Tj33.heap = hj33 → Fr n0 Lj33 → n0 ≤ hj33.size → Keep h0 hj33 [a, st, sk] → Exa Z hj33 a "com/example/premise/premise/store/Skips" → Fld Z hj33 a "com/example/premise/premise/store/Skips" "statements" "[I" (.ref st) → Fld Z hj33 a "com/example/premise/premise/store/Skips" "skips" "[J" (.ref sk) → own_AJ Z hj33 sk kj (16 : Int32) wf → own_AI Z hj33 st ki (16 : Int32) p38 → Fld Z hj33 a "com/example/premise/premise/store/Skips" "size" "I" (.int p40) → p38 = (if (gf r4_r.toNatClampNeg) = (0 : Int32) then (own_updI gf r4_r.toNatClampNeg (nn + (1 : Int32))) else gf) → p40 = (if (gf r4_r.toNatClampNeg) = (0 : Int32) then (sz + (1 : Int32)) else sz) → own_Go p.tables e below Pq Tj33 (mkF m 57 #[.val (.ref a), .val (.int nn), .val (.int to), .val (.int rem), .val (.int r4_r)] []) := by
    intro Tj33 Lj33 hj33 p38 p40 Xj33 ej33 Nj33 Zj33 Kj33 fj34 fj35 fj36 fj37 fj39 fj41 qp38 qp40
    show own_Go _ _ _ _ Tj33 (mkF m 57 _ [])
    refine own_st (fun t k => XS.aloadN Xj33.here hx rfl (hb hby d7_57) rfl rfl k) ?_
    show own_Go _ _ _ _ Tj33 (mkF m 58 _ [(.ref a)])
    obtain ⟨T42, X42, e42, st42⟩ := getF Xj33 hx hZ hown (host := "") (Or.inl (hw _ (List.mem_of_getElem? (i := 18) rfl))) Via.refl ej33 fj36 (g := (mkF m 58 #[.val (.ref a), .val (.int nn), .val (.int to), .val (.int rem), .val (.int r4_r)] [(.ref a)])) rfl rfl (hb hby d7_58)
    refine own_st st42 ?_
    show own_Go _ _ _ _ T42 (mkF m 61 _ [(.ref sk)])
    refine own_st (fun t k => XS.iload X42.here hx rfl (hb hby d7_61) rfl k) ?_
    show own_Go _ _ _ _ T42 (mkF m 63 _ [(.int r4_r), (.ref sk)])
    refine own_st (fun t k => XS.iloadN X42.here hx rfl (hb hby d7_63) rfl k) ?_
    show own_Go _ _ _ _ T42 (mkF m 64 _ [(.int rem), (.int r4_r), (.ref sk)])
    refine own_st (fun t k => XS.i2l X42.here hx rfl (hb hby d7_64) rfl k) ?_
    show own_Go _ _ _ _ T42 (mkF m 65 _ [(.long rem.toInt64), (.int r4_r), (.ref sk)])
    refine own_st (fun t k => XS.bipush X42.here hx rfl (hb hby d7_65) k) ?_
    show own_Go _ _ _ _ T42 (mkF m 67 _ [(.int (32 : Int32)), (.long rem.toInt64), (.int r4_r), (.ref sk)])
    refine own_st (fun t k => XS.lshl X42.here hx rfl (hb hby d7_67) rfl k) ?_
    show own_Go _ _ _ _ T42 (mkF m 68 _ [(.long (rem.toInt64 <<< ((32 : Int32) &&& 0x3f).toInt64)), (.int r4_r), (.ref sk)])
    refine own_st (fun t k => XS.iloadN X42.here hx rfl (hb hby d7_68) rfl k) ?_
    show own_Go _ _ _ _ T42 (mkF m 69 _ [(.int to), (.long (rem.toInt64 <<< ((32 : Int32) &&& 0x3f).toInt64)), (.int r4_r), (.ref sk)])
    refine own_st (fun t k => XS.iconst X42.here hx rfl (hb hby d7_69) k) ?_
    show own_Go _ _ _ _ T42 (mkF m 70 _ [(.int (1 : Int32)), (.int to), (.long (rem.toInt64 <<< ((32 : Int32) &&& 0x3f).toInt64)), (.int r4_r), (.ref sk)])
    refine own_st (fun t k => XS.iadd X42.here hx rfl (hb hby d7_70) rfl k) ?_
    show own_Go _ _ _ _ T42 (mkF m 71 _ [(.int (to + (1 : Int32))), (.long (rem.toInt64 <<< ((32 : Int32) &&& 0x3f).toInt64)), (.int r4_r), (.ref sk)])
    refine own_st (fun t k => XS.i2l X42.here hx rfl (hb hby d7_71) rfl k) ?_
    show own_Go _ _ _ _ T42 (mkF m 72 _ [(.long (to + (1 : Int32)).toInt64), (.long (rem.toInt64 <<< ((32 : Int32) &&& 0x3f).toInt64)), (.int r4_r), (.ref sk)])
    refine own_st (fun t k => X42.ldc2Long hx hown (mvT hZ (hw _ (List.mem_of_getElem? (i := 36) rfl))) (g := (mkF m 72 #[.val (.ref a), .val (.int nn), .val (.int to), .val (.int rem), .val (.int r4_r)] [(.long (to + (1 : Int32)).toInt64), (.long (rem.toInt64 <<< ((32 : Int32) &&& 0x3f).toInt64)), (.int r4_r), (.ref sk)])) rfl (hb hby d7_72) _ k) ?_
    show own_Go _ _ _ _ T42 (mkF m 75 _ [(.long (4294967295 : Int64)), (.long (to + (1 : Int32)).toInt64), (.long (rem.toInt64 <<< ((32 : Int32) &&& 0x3f).toInt64)), (.int r4_r), (.ref sk)])
    refine own_st (fun t k => XS.land X42.here hx rfl (hb hby d7_75) rfl k) ?_
    show own_Go _ _ _ _ T42 (mkF m 76 _ [(.long ((to + (1 : Int32)).toInt64 &&& (4294967295 : Int64))), (.long (rem.toInt64 <<< ((32 : Int32) &&& 0x3f).toInt64)), (.int r4_r), (.ref sk)])
    refine own_st (fun t k => XS.lor X42.here hx rfl (hb hby d7_76) rfl k) ?_
    show own_Go _ _ _ _ T42 (mkF m 77 _ [(.long ((rem.toInt64 <<< ((32 : Int32) &&& 0x3f).toInt64) ||| ((to + (1 : Int32)).toInt64 &&& (4294967295 : Int64)))), (.int r4_r), (.ref sk)])
    obtain ⟨c43, Ar43, q43, S43, N43, H43⟩ := id fj37
    obtain ⟨T43, h43, X43, e43, W43, st43⟩ := stJ X42 hx hZ e42 Ar43 (j := r4_r) (inb_of S43 ⟨hq4_0.1, hq4_0.2.1⟩) (g := (mkF m 77 #[.val (.ref a), .val (.int nn), .val (.int to), .val (.int rem), .val (.int r4_r)] [(.long ((rem.toInt64 <<< ((32 : Int32) &&& 0x3f).toInt64) ||| ((to + (1 : Int32)).toInt64 &&& (4294967295 : Int64)))), (.int r4_r), (.ref sk)])) rfl rfl (hb hby d7_77)
    refine own_st st43 ?_
    have f44 : own_AJ Z h43 sk kj (16 : Int32) (own_updJ wf r4_r.toNatClampNeg ((rem.toInt64 <<< ((32 : Int32) &&& 0x3f).toInt64) ||| ((to + (1 : Int32)).toInt64 &&& (4294967295 : Int64)))) := own_AJ.set fj37 W43
    have f45 := fj34.wr W43
    have f46 := fj35.other W43 (Or.inl (Ne.symm n2))
    have f47 := fj36.other W43 (Or.inl (Ne.symm n2))
    have f48 := fj39.other W43 n3
    have f49 := fj41.other W43 (Or.inl (Ne.symm n2))
    have N50 := Fr.snoc X43 Nj33 g_sk
    have Z51 : n0 ≤ h43.size := Nat.le_trans Zj33 (Nat.le_of_eq W43.size.symm)
    have K52 : Keep h0 h43 [a, st, sk] := Kj33.wr W43 (Or.inl (List.mem_of_getElem? (i := 2) rfl))
    show own_Go _ _ _ _ T43 (mkF m 78 _ [])
    subst hPq
    refine own_out X43 (v := none) (fun _ => rfl) Bd.notSynchronized (fun fs hr => X43.returnOut hx Bd.returns (hb hby d7_78) hr) (by decide) (by decide) ?_
    show Q7 Z a nn to rem st sk ki kj gf wf sz h0 n0 _ T43.heap _
    rw [e43]
    exact ⟨r4_r, p38, (own_updJ wf r4_r.toNatClampNeg ((rem.toInt64 <<< ((32 : Int32) &&& 0x3f).toInt64) ||| ((to + (1 : Int32)).toInt64 &&& (4294967295 : Int64)))), p40, rfl, N50, K52, f45, f46, f47, f49, f48, f44, hq4_0, qp38, rfl, qp40⟩
  by_cases c8 : (gf r4_r.toNatClampNeg) = (0 : Int32)
  · skip
    refine own_st (fun t k => XS.ifNo X6.here hx rfl (hb hby d7_34) rfl ((if0 _ _).trans (teq c8).2) k) ?_
    show own_Go _ _ _ _ T6 (mkF m 37 _ [])
    refine own_st (fun t k => XS.aloadN X6.here hx rfl (hb hby d7_37) rfl rfl k) ?_
    show own_Go _ _ _ _ T6 (mkF m 38 _ [(.ref a)])
    obtain ⟨T9, X9, e9, st9⟩ := getF X6 hx hZ hown (host := "") (Or.inl (hw _ (List.mem_of_getElem? (i := 15) rfl))) Via.refl e6 F1 (g := (mkF m 38 #[.val (.ref a), .val (.int nn), .val (.int to), .val (.int rem), .val (.int r4_r)] [(.ref a)])) rfl rfl (hb hby d7_38)
    refine own_st st9 ?_
    show own_Go _ _ _ _ T9 (mkF m 41 _ [(.ref st)])
    refine own_st (fun t k => XS.iload X9.here hx rfl (hb hby d7_41) rfl k) ?_
    show own_Go _ _ _ _ T9 (mkF m 43 _ [(.int r4_r), (.ref st)])
    refine own_st (fun t k => XS.iloadN X9.here hx rfl (hb hby d7_43) rfl k) ?_
    show own_Go _ _ _ _ T9 (mkF m 44 _ [(.int nn), (.int r4_r), (.ref st)])
    refine own_st (fun t k => XS.iconst X9.here hx rfl (hb hby d7_44) k) ?_
    show own_Go _ _ _ _ T9 (mkF m 45 _ [(.int (1 : Int32)), (.int nn), (.int r4_r), (.ref st)])
    refine own_st (fun t k => XS.iadd X9.here hx rfl (hb hby d7_45) rfl k) ?_
    show own_Go _ _ _ _ T9 (mkF m 46 _ [(.int (nn + (1 : Int32))), (.int r4_r), (.ref st)])
    obtain ⟨c10, Ar10, q10, S10, N10, H10⟩ := id F4
    obtain ⟨T10, h10, X10, e10, W10, st10⟩ := stI X9 hx hZ e9 Ar10 (j := r4_r) (inb_of S10 ⟨hq4_0.1, hq4_0.2.1⟩) (g := (mkF m 46 #[.val (.ref a), .val (.int nn), .val (.int to), .val (.int rem), .val (.int r4_r)] [(.int (nn + (1 : Int32))), (.int r4_r), (.ref st)])) rfl rfl (hb hby d7_46)
    refine own_st st10 ?_
    have f11 : own_AI Z h10 st ki (16 : Int32) (own_updI gf r4_r.toNatClampNeg (nn + (1 : Int32))) := own_AI.set F4 W10
    have f12 := F0.wr W10
    have f13 := F1.other W10 (Or.inl (Ne.symm n1))
    have f14 := F2.other W10 (Or.inl (Ne.symm n1))
    have f15 := F3.other W10 (Or.inl (Ne.symm n1))
    have f16 := F5.other W10 (Ne.symm n3)
    have N17 := Fr.snoc X10 N5 g_st
    have Z18 : n0 ≤ h10.size := Nat.le_trans Z0 (Nat.le_of_eq W10.size.symm)
    have K19 : Keep h0 h10 [a, st, sk] := K0.wr W10 (Or.inl (List.mem_of_getElem? (i := 1) rfl))
    show own_Go _ _ _ _ T10 (mkF m 47 _ [])
    refine own_st (fun t k => XS.aloadN X10.here hx rfl (hb hby d7_47) rfl rfl k) ?_
    show own_Go _ _ _ _ T10 (mkF m 48 _ [(.ref a)])
    refine own_st (fun t k => XS.dup X10.here hx rfl (hb hby d7_48) rfl rfl k) ?_
    show own_Go _ _ _ _ T10 (mkF m 49 _ [(.ref a), (.ref a)])
    obtain ⟨T20, X20, e20, st20⟩ := getF X10 hx hZ hown (host := "") (Or.inl (hw _ (List.mem_of_getElem? (i := 25) rfl))) Via.refl e10 f15 (g := (mkF m 49 #[.val (.ref a), .val (.int nn), .val (.int to), .val (.int rem), .val (.int r4_r)] [(.ref a), (.ref a)])) rfl rfl (hb hby d7_49)
    refine own_st st20 ?_
    show own_Go _ _ _ _ T20 (mkF m 52 _ [(.int sz), (.ref a)])
    refine own_st (fun t k => XS.iconst X20.here hx rfl (hb hby d7_52) k) ?_
    show own_Go _ _ _ _ T20 (mkF m 53 _ [(.int (1 : Int32)), (.int sz), (.ref a)])
    refine own_st (fun t k => XS.iadd X20.here hx rfl (hb hby d7_53) rfl k) ?_
    show own_Go _ _ _ _ T20 (mkF m 54 _ [(.int (sz + (1 : Int32))), (.ref a)])
    obtain ⟨T21, h21, X21, e21, W21, st21⟩ := putF X20 hx hZ hown (host := "") (Or.inl (hw _ (List.mem_of_getElem? (i := 25) rfl))) Via.refl e20 f15 f12 (Or.inl (hw _ (List.mem_of_getElem? (i := 26) rfl))) (hw _ (List.mem_of_getElem? (i := 6) rfl)) (ty := .int) (by decide) rfl rfl (g := (mkF m 54 #[.val (.ref a), .val (.int nn), .val (.int to), .val (.int rem), .val (.int r4_r)] [(.int (sz + (1 : Int32))), (.ref a)])) rfl rfl (hb hby d7_54)
    refine own_st st21 ?_
    have f22 := f12.wr W21
    have f23 := f13.other W21 (Or.inr (slot_ne (Or.inl (hw _ (List.mem_of_getElem? (i := 16) rfl))) (Or.inl (hw _ (List.mem_of_getElem? (i := 26) rfl))) (by decide) (t := (.array .int)) (t' := .int) (by decide) (by decide)))
    have f24 := f14.other W21 (Or.inr (slot_ne (Or.inl (hw _ (List.mem_of_getElem? (i := 19) rfl))) (Or.inl (hw _ (List.mem_of_getElem? (i := 26) rfl))) (by decide) (t := (.array .long)) (t' := .int) (by decide) (by decide)))
    have f25 := f16.other W21 n2
    have f26 := f11.other W21 n1
    have N27 := Fr.snoc X21 N17 g_a
    have Z28 : n0 ≤ h21.size := Nat.le_trans Z18 (Nat.le_of_eq W21.size.symm)
    have K29 : Keep h0 h21 [a, st, sk] := K19.wr W21 (Or.inl (List.mem_of_getElem? (i := 0) rfl))
    have f30 := f15.same W21
    show own_Go _ _ _ _ T21 (mkF m 57 _ [])
    exact J33 T21 _ h21 _ _ X21 e21 N27 Z28 K29 f22 f23 f24 f25 f26 f30 (by simp only [if_pos c8]) (by simp only [if_pos c8])
  · skip
    refine own_st (fun t k => XS.ifYes X6.here hx rfl (pc0 := 34) (pc' := 57) rfl (hb hby d7_34) rfl ((if0 _ _).trans (feq c8).2) (by decide) (by decide) k) ?_
    show own_Go _ _ _ _ T6 (mkF m 57 _ [])
    exact J33 T6 _ h0 _ _ X6 e6 N5 Z0 K0 F0 F1 F2 F5 F4 F3 (by simp only [if_neg c8]) (by simp only [if_neg c8])
theorem d8_0 : decode prog_44_method_4_code 0 = .ok (.aload_n 0, 1) := by decide +kernel
theorem d8_1 : decode prog_44_method_4_code 1 = .ok (.getfield 17, 3) := by decide +kernel
theorem d8_4 : decode prog_44_method_4_code 4 = .ok (.ifCond .le 24, 3) := by decide +kernel
theorem d8_7 : decode prog_44_method_4_code 7 = .ok (.aload_n 0, 1) := by decide +kernel
theorem d8_8 : decode prog_44_method_4_code 8 = .ok (.bipush 16, 2) := by decide +kernel
theorem d8_10 : decode prog_44_method_4_code 10 = .ok (.newarray .int, 2) := by decide +kernel
theorem d8_12 : decode prog_44_method_4_code 12 = .ok (.putfield 7, 3) := by decide +kernel
theorem d8_15 : decode prog_44_method_4_code 15 = .ok (.aload_n 0, 1) := by decide +kernel
theorem d8_16 : decode prog_44_method_4_code 16 = .ok (.bipush 16, 2) := by decide +kernel
theorem d8_18 : decode prog_44_method_4_code 18 = .ok (.newarray .long, 2) := by decide +kernel
theorem d8_20 : decode prog_44_method_4_code 20 = .ok (.putfield 13, 3) := by decide +kernel
theorem d8_23 : decode prog_44_method_4_code 23 = .ok (.aload_n 0, 1) := by decide +kernel
theorem d8_24 : decode prog_44_method_4_code 24 = .ok (.iconst 0, 1) := by decide +kernel
theorem d8_25 : decode prog_44_method_4_code 25 = .ok (.putfield 17, 3) := by decide +kernel
theorem d8_28 : decode prog_44_method_4_code 28 = .ok (.return_, 1) := by decide +kernel
theorem own_pn8 : plainName "com/example/premise/premise/store/Skips" = true := by first | (simp [plainName, overriddenIn]; done) | decide +kernel
theorem own_ef8 (m : MethodId) (a : Addr) : entryFrame m #[(.ref a)] 1 = mkF m 0 #[.val (.ref a)] [] := by first | (simp [entryFrame, mkF, argsToLocals, Value.category]; done) | rfl
def Q8 (Z : State) (a : Addr) (st : Addr) (sk : Addr) (ki : ClassId) (kj : ClassId) (gf : Nat → Int32) (wf : Nat → Int64) (sz : Int32) (h0 : Heap) (n0 : Nat) (v : Option Value) (h : Heap) (L : List Loc) : Prop := ∃ (st2 : Addr) (sk2 : Addr) (ki2 : ClassId) (kj2 : ClassId), v = none ∧ Fr n0 L ∧ Keep h0 h [a] ∧ Exa Z h a "com/example/premise/premise/store/Skips" ∧ Fld Z h a "com/example/premise/premise/store/Skips" "statements" "[I" (.ref st2) ∧ Fld Z h a "com/example/premise/premise/store/Skips" "skips" "[J" (.ref sk2) ∧ Fld Z h a "com/example/premise/premise/store/Skips" "size" "I" (.int (0 : Int32)) ∧ own_AI Z h st2 ki2 (16 : Int32) (fun _ => (0 : Int32)) ∧ own_AJ Z h sk2 kj2 (16 : Int32) (fun _ => (0 : Int64)) ∧ n0 ≤ st2 ∧ n0 ≤ sk2 ∧ st2 ≠ a ∧ sk2 ≠ a ∧ st2 ≠ sk2
set_option maxRecDepth 65536 in
set_option maxHeartbeats 4000000 in
theorem rm8 (l : Launch) (Z : State) (a0 : Array Value) (hw : ∀ d ∈ tables_1, d.before a0 Z = true) (ws : List Jvm.Cond) (a : Addr) (st : Addr) (sk : Addr) (ki : ClassId) (kj : ClassId) (gf : Nat → Int32) (wf : Nat → Int64) (sz : Int32) (h0 : Heap) (n0 : Nat) (Z0 : n0 ≤ h0.size) (F0 : Exa Z h0 a "com/example/premise/premise/store/Skips") (F1 : Fld Z h0 a "com/example/premise/premise/store/Skips" "statements" "[I" (.ref st)) (F2 : Fld Z h0 a "com/example/premise/premise/store/Skips" "skips" "[J" (.ref sk)) (F3 : Fld Z h0 a "com/example/premise/premise/store/Skips" "size" "I" (.int sz)) (F4 : own_AI Z h0 st ki (16 : Int32) gf) (F5 : own_AJ Z h0 sk kj (16 : Int32) wf) (n1 : st ≠ a) (n2 : sk ≠ a) (n3 : st ≠ sk) (gs : n0 ≤ st) (gk : n0 ≤ sk) (hz0 : ¬ 0 < sz → gf = (fun _ => 0) ∧ wf = (fun _ => 0) ∧ sz = 0) (g_a : n0 ≤ a) :
    MetFree l (⟨"com/example/premise/premise/store/Skips", "clear", "()V"⟩ : MethodName) (head1 (Jvm.Cond.code (⟨"com/example/premise/premise/store/Skips", "clear", "()V"⟩ : MethodName) prog_44_method_4_code 1 none :: ws) ({ frames := 0, cells := 2, slots := 32, locals := 0 } : Room)) (fun aW U => aW = #[(.ref a)] ∧ Z.Warmed39 U.vm ∧ U.heap = h0) (fun _ _ _ _ _ => True) (fun _ U o U' => ∃ v L, o = .returned v ∧ Q8 Z a st sk ki kj gf wf sz h0 n0 v U'.heap L ∧ FrameEnd U o U' L ({ frames := 0, cells := 2, slots := 32, locals := 0 } : Room).cells ({ frames := 0, cells := 2, slots := 32, locals := 0 } : Room).slots) := by
  refine MetFree.of_bodySF (plainFor_of_name own_pn8) hisR ?_
  intro p e s m args below meth c s₁ Bd hml0 hP hK
  obtain ⟨rfl, hZ, hh⟩ := hP
  have hx := Bd.exec
  have hby := Bd.bytes
  have hml : c.maxLocals = 1 := hml0
  have hown : s.vm.findClass "com/example/premise/premise/store/Skips" = some m.cls := findClass_of_methodNamed Bd.named
  have hnm := (name_of_methodNamed Bd.named Bd.method).1
  have X0 : Stand p l e ({ frames := 0, cells := 2, slots := 32, locals := 0 } : Room) s m #[(.ref a)] below meth c s₁ [] 0 0 := Stand.of_body Bd
  have e0 : s₁.heap = h0 := by rw [← hh, Bd.state]; rfl
  have N0 := Fr.nil n0
  have K0 : Keep h0 h0 [a] := Keep.refl _ _
  obtain ⟨Pq, hPq⟩ : ∃ P, P = own_P s below (fun v h L => Q8 Z a st sk ki kj gf wf sz h0 n0 v h L) ({ frames := 0, cells := 2, slots := 32, locals := 0 } : Room).cells ({ frames := 0, cells := 2, slots := 32, locals := 0 } : Room).slots := ⟨_, rfl⟩
  suffices hgo : own_Go p.tables e below Pq s₁ (mkF m 0 #[.val (.ref a)] []) by
    subst hPq
    obtain ⟨t, k1, k2, o, k3, k4⟩ := hgo
    exact ⟨t, o, castTop (own_ef8 m a) k1, k2, k3, k4⟩
  show own_Go _ _ _ _ s₁ (mkF m 0 #[.val (.ref a)] [])
  refine own_st (fun t k => XS.aloadN X0.here hx rfl (hb hby d8_0) rfl rfl k) ?_
  show own_Go _ _ _ _ s₁ (mkF m 1 _ [(.ref a)])
  obtain ⟨T1, X1, e1, st1⟩ := getF X0 hx hZ hown (host := "") (Or.inl (hw _ (List.mem_of_getElem? (i := 25) rfl))) Via.refl e0 F3 (g := (mkF m 1 #[.val (.ref a)] [(.ref a)])) rfl rfl (hb hby d8_1)
  refine own_st st1 ?_
  show own_Go _ _ _ _ T1 (mkF m 4 _ [(.int sz)])
  by_cases c2 : (0 : Int32) < sz
  · skip
    refine own_st (fun t k => XS.ifNo X1.here hx rfl (hb hby d8_4) rfl ((if0 _ _).trans (tlt c2).2.2.2) k) ?_
    show own_Go _ _ _ _ T1 (mkF m 7 _ [])
    refine own_st (fun t k => XS.aloadN X1.here hx rfl (hb hby d8_7) rfl rfl k) ?_
    show own_Go _ _ _ _ T1 (mkF m 8 _ [(.ref a)])
    refine own_st (fun t k => XS.bipush X1.here hx rfl (hb hby d8_8) k) ?_
    show own_Go _ _ _ _ T1 (mkF m 10 _ [(.int (16 : Int32)), (.ref a)])
    obtain ⟨T3, h3, k3, X3, e3, E3, A3, st3⟩ := newP X1 hx hZ (hw _ (List.mem_of_getElem? (i := 14) rfl)) e1 (g := (mkF m 10 #[.val (.ref a)] [(.int (16 : Int32)), (.ref a)])) rfl (hb hby d8_10) rfl (by decide) (cap := 16) (by decide) (by decide) (by decide) (by decide)
    obtain ⟨b3, g3⟩ : ∃ z, z = h0.size := ⟨_, rfl⟩
    rw [← g3] at A3 st3
    refine own_st st3 ?_
    have ne4 : a ≠ b3 := Nat.ne_of_lt (Nat.lt_of_lt_of_le F0.lt (Nat.le_of_eq g3.symm))
    have ne5 : st ≠ b3 := Nat.ne_of_lt (Nat.lt_of_lt_of_le F4.lt (Nat.le_of_eq g3.symm))
    have ne6 : sk ≠ b3 := Nat.ne_of_lt (Nat.lt_of_lt_of_le F5.lt (Nat.le_of_eq g3.symm))
    have f7 := F0.ext E3
    have f8 := F1.ext E3
    have f9 := F2.ext E3
    have f10 := F3.ext E3
    have f11 := F4.ext E3
    have f12 := F5.ext E3
    have gx13 : n0 ≤ b3 := Nat.le_trans Z0 (Nat.le_of_eq g3.symm)
    have Z14 : n0 ≤ h3.size := Nat.le_trans Z0 E3.1
    have sz16 : h0.size ≤ b3 := Nat.le_trans K0.1 (Nat.le_of_eq g3.symm)
    have K15 : Keep h0 h3 [a] := K0.ext E3
    have V3 : own_AI Z h3 b3 k3 (16 : Int32) (fun _ => (0 : Int32)) := own_AI.new A3 (by decide)
    show own_Go _ _ _ _ T3 (mkF m 12 _ [(.ref b3), (.ref a)])
    obtain ⟨T17, h17, X17, e17, W17, st17⟩ := putF X3 hx hZ hown (host := "") (Or.inl (hw _ (List.mem_of_getElem? (i := 15) rfl))) Via.refl e3 f8 f7 (Or.inl (hw _ (List.mem_of_getElem? (i := 16) rfl))) (hw _ (List.mem_of_getElem? (i := 6) rfl)) (ty := (.array .int)) (by decide) rfl rfl (g := (mkF m 12 #[.val (.ref a)] [(.ref b3), (.ref a)])) rfl rfl (hb hby d8_12)
    refine own_st st17 ?_
    have f18 := f7.wr W17
    have f19 := f9.other W17 (Or.inr (slot_ne (Or.inl (hw _ (List.mem_of_getElem? (i := 19) rfl))) (Or.inl (hw _ (List.mem_of_getElem? (i := 16) rfl))) (by decide) (t := (.array .long)) (t' := (.array .int)) (by decide) (by decide)))
    have f20 := f10.other W17 (Or.inr (slot_ne (Or.inl (hw _ (List.mem_of_getElem? (i := 26) rfl))) (Or.inl (hw _ (List.mem_of_getElem? (i := 16) rfl))) (by decide) (t := .int) (t' := (.array .int)) (by decide) (by decide)))
    have f21 := f11.other W17 n1
    have f22 := f12.other W17 n2
    have f23 := V3.other W17 (Ne.symm ne4)
    have N24 := Fr.snoc X17 N0 g_a
    have Z25 : n0 ≤ h17.size := Nat.le_trans Z14 (Nat.le_of_eq W17.size.symm)
    have K26 : Keep h0 h17 [a] := K15.wr W17 (Or.inl (List.mem_of_getElem? (i := 0) rfl))
    have f27 := f8.same W17
    show own_Go _ _ _ _ T17 (mkF m 15 _ [])
    refine own_st (fun t k => XS.aloadN X17.here hx rfl (hb hby d8_15) rfl rfl k) ?_
    show own_Go _ _ _ _ T17 (mkF m 16 _ [(.ref a)])
    refine own_st (fun t k => XS.bipush X17.here hx rfl (hb hby d8_16) k) ?_
    show own_Go _ _ _ _ T17 (mkF m 18 _ [(.int (16 : Int32)), (.ref a)])
    obtain ⟨T28, h28, k28, X28, e28, E28, A28, st28⟩ := newP X17 hx hZ (hw _ (List.mem_of_getElem? (i := 17) rfl)) e17 (g := (mkF m 18 #[.val (.ref a)] [(.int (16 : Int32)), (.ref a)])) rfl (hb hby d8_18) rfl (by decide) (cap := 16) (by decide) (by decide) (by decide) (by decide)
    obtain ⟨b28, g28⟩ : ∃ z, z = h17.size := ⟨_, rfl⟩
    rw [← g28] at A28 st28
    refine own_st st28 ?_
    have ne29 : a ≠ b28 := Nat.ne_of_lt (Nat.lt_of_lt_of_le f18.lt (Nat.le_of_eq g28.symm))
    have ne30 : st ≠ b28 := Nat.ne_of_lt (Nat.lt_of_lt_of_le f21.lt (Nat.le_of_eq g28.symm))
    have ne31 : sk ≠ b28 := Nat.ne_of_lt (Nat.lt_of_lt_of_le f22.lt (Nat.le_of_eq g28.symm))
    have ne32 : b3 ≠ b28 := Nat.ne_of_lt (Nat.lt_of_lt_of_le f23.lt (Nat.le_of_eq g28.symm))
    have f33 := f18.ext E28
    have f34 := f19.ext E28
    have f35 := f20.ext E28
    have f36 := f21.ext E28
    have f37 := f22.ext E28
    have f38 := f23.ext E28
    have f39 := f27.ext E28
    have gx40 : n0 ≤ b28 := Nat.le_trans Z25 (Nat.le_of_eq g28.symm)
    have Z41 : n0 ≤ h28.size := Nat.le_trans Z25 E28.1
    have sz43 : h0.size ≤ b28 := Nat.le_trans K26.1 (Nat.le_of_eq g28.symm)
    have K42 : Keep h0 h28 [a] := K26.ext E28
    have V28 : own_AJ Z h28 b28 k28 (16 : Int32) (fun _ => (0 : Int64)) := own_AJ.new A28 (by decide)
    show own_Go _ _ _ _ T28 (mkF m 20 _ [(.ref b28), (.ref a)])
    obtain ⟨T44, h44, X44, e44, W44, st44⟩ := putF X28 hx hZ hown (host := "") (Or.inl (hw _ (List.mem_of_getElem? (i := 18) rfl))) Via.refl e28 f34 f33 (Or.inl (hw _ (List.mem_of_getElem? (i := 19) rfl))) (hw _ (List.mem_of_getElem? (i := 6) rfl)) (ty := (.array .long)) (by decide) rfl rfl (g := (mkF m 20 #[.val (.ref a)] [(.ref b28), (.ref a)])) rfl rfl (hb hby d8_20)
    refine own_st st44 ?_
    have f45 := f33.wr W44
    have f46 := f35.other W44 (Or.inr (slot_ne (Or.inl (hw _ (List.mem_of_getElem? (i := 26) rfl))) (Or.inl (hw _ (List.mem_of_getElem? (i := 19) rfl))) (by decide) (t := .int) (t' := (.array .long)) (by decide) (by decide)))
    have f47 := f36.other W44 n1
    have f48 := f37.other W44 n2
    have f49 := f38.other W44 (Ne.symm ne4)
    have f50 := f39.other W44 (Or.inr (slot_ne (Or.inl (hw _ (List.mem_of_getElem? (i := 16) rfl))) (Or.inl (hw _ (List.mem_of_getElem? (i := 19) rfl))) (by decide) (t := (.array .int)) (t' := (.array .long)) (by decide) (by decide)))
    have f51 := V28.other W44 (Ne.symm ne29)
    have N52 := Fr.snoc X44 N24 g_a
    have Z53 : n0 ≤ h44.size := Nat.le_trans Z41 (Nat.le_of_eq W44.size.symm)
    have K54 : Keep h0 h44 [a] := K42.wr W44 (Or.inl (List.mem_of_getElem? (i := 0) rfl))
    have f55 := f34.same W44
    show own_Go _ _ _ _ T44 (mkF m 23 _ [])
    refine own_st (fun t k => XS.aloadN X44.here hx rfl (hb hby d8_23) rfl rfl k) ?_
    show own_Go _ _ _ _ T44 (mkF m 24 _ [(.ref a)])
    refine own_st (fun t k => XS.iconst X44.here hx rfl (hb hby d8_24) k) ?_
    show own_Go _ _ _ _ T44 (mkF m 25 _ [(.int (0 : Int32)), (.ref a)])
    obtain ⟨T56, h56, X56, e56, W56, st56⟩ := putF X44 hx hZ hown (host := "") (Or.inl (hw _ (List.mem_of_getElem? (i := 25) rfl))) Via.refl e44 f46 f45 (Or.inl (hw _ (List.mem_of_getElem? (i := 26) rfl))) (hw _ (List.mem_of_getElem? (i := 6) rfl)) (ty := .int) (by decide) rfl rfl (g := (mkF m 25 #[.val (.ref a)] [(.int (0 : Int32)), (.ref a)])) rfl rfl (hb hby d8_25)
    refine own_st st56 ?_
    have f57 := f45.wr W56
    have f58 := f47.other W56 n1
    have f59 := f48.other W56 n2
    have f60 := f49.other W56 (Ne.symm ne4)
    have f61 := f50.other W56 (Or.inr (slot_ne (Or.inl (hw _ (List.mem_of_getElem? (i := 16) rfl))) (Or.inl (hw _ (List.mem_of_getElem? (i := 26) rfl))) (by decide) (t := (.array .int)) (t' := .int) (by decide) (by decide)))
    have f62 := f51.other W56 (Ne.symm ne29)
    have f63 := f55.other W56 (Or.inr (slot_ne (Or.inl (hw _ (List.mem_of_getElem? (i := 19) rfl))) (Or.inl (hw _ (List.mem_of_getElem? (i := 26) rfl))) (by decide) (t := (.array .long)) (t' := .int) (by decide) (by decide)))
    have N64 := Fr.snoc X56 N52 g_a
    have Z65 : n0 ≤ h56.size := Nat.le_trans Z53 (Nat.le_of_eq W56.size.symm)
    have K66 : Keep h0 h56 [a] := K54.wr W56 (Or.inl (List.mem_of_getElem? (i := 0) rfl))
    have f67 := f46.same W56
    show own_Go _ _ _ _ T56 (mkF m 28 _ [])
    subst hPq
    refine own_out X56 (v := none) (fun _ => rfl) Bd.notSynchronized (fun fs hr => X56.returnOut hx Bd.returns (hb hby d8_28) hr) (by decide) (by decide) ?_
    show Q8 Z a st sk ki kj gf wf sz h0 n0 _ T56.heap _
    rw [e56]
    exact ⟨b3, b28, k3, k28, rfl, N64, K66, f57, f61, f63, f67, f60, f62, gx13, gx40, (Ne.symm ne4), (Ne.symm ne29), ne32⟩
  · skip
    refine own_st (fun t k => XS.ifYes X1.here hx rfl (pc0 := 4) (pc' := 28) rfl (hb hby d8_4) rfl ((if0 _ _).trans (flt c2).2.2.2) (by decide) (by decide) k) ?_
    show own_Go _ _ _ _ T1 (mkF m 28 _ [])
    subst hPq
    refine own_out X1 (v := none) (fun _ => rfl) Bd.notSynchronized (fun fs hr => X1.returnOut hx Bd.returns (hb hby d8_28) hr) (by decide) (by decide) ?_
    show Q8 Z a st sk ki kj gf wf sz h0 n0 _ T1.heap _
    rw [e1]
    obtain ⟨rfl, rfl, rfl⟩ := hz0 c2
    exact ⟨st, sk, ki, kj, rfl, N0, K0, F0, F1, F2, F3, F4, F5, gs, gk, n1, n2, n3⟩
theorem d9_0 : decode prog_44_method_2_code 0 = .ok (.aload_n 0, 1) := by decide +kernel
theorem d9_1 : decode prog_44_method_2_code 1 = .ok (.getfield 17, 3) := by decide +kernel
theorem d9_4 : decode prog_44_method_2_code 4 = .ok (.ifCond .ne 7, 3) := by decide +kernel
theorem d9_7 : decode prog_44_method_2_code 7 = .ok (.lconst 0, 1) := by decide +kernel
theorem d9_8 : decode prog_44_method_2_code 8 = .ok (.goto 13, 3) := by decide +kernel
theorem d9_11 : decode prog_44_method_2_code 11 = .ok (.aload_n 0, 1) := by decide +kernel
theorem d9_12 : decode prog_44_method_2_code 12 = .ok (.getfield 13, 3) := by decide +kernel
theorem d9_15 : decode prog_44_method_2_code 15 = .ok (.aload_n 0, 1) := by decide +kernel
theorem d9_16 : decode prog_44_method_2_code 16 = .ok (.iload_n 1, 1) := by decide +kernel
theorem d9_17 : decode prog_44_method_2_code 17 = .ok (.invokevirtual 21, 3) := by decide +kernel
theorem d9_20 : decode prog_44_method_2_code 20 = .ok (.laload, 1) := by decide +kernel
theorem d9_21 : decode prog_44_method_2_code 21 = .ok (.lreturn, 1) := by decide +kernel
theorem own_pn9 : plainName "com/example/premise/premise/store/Skips" = true := by first | (simp [plainName, overriddenIn]; done) | decide +kernel
theorem own_ef9 (m : MethodId) (a : Addr) (nn : Int32) : entryFrame m #[(.ref a), (.int nn)] 2 = mkF m 0 #[.val (.ref a), .val (.int nn)] [] := by first | (simp [entryFrame, mkF, argsToLocals, Value.category]; done) | rfl
def Q9 (Z : State) (a : Addr) (nn : Int32) (st : Addr) (sk : Addr) (ki : ClassId) (kj : ClassId) (gf : Nat → Int32) (wf : Nat → Int64) (sz : Int32) (h0 : Heap) (n0 : Nat) (v : Option Value) (h : Heap) (L : List Loc) : Prop := ∃ (w : Int64), v = some (.long w) ∧ Fr n0 L ∧ h = h0 ∧ own_getR gf wf sz nn w
set_option maxRecDepth 65536 in
set_option maxHeartbeats 4000000 in
theorem rm9 (l : Launch) (Z : State) (a0 : Array Value) (hw : ∀ d ∈ tables_1, d.before a0 Z = true) (ws : List Jvm.Cond) (a : Addr) (nn : Int32) (st : Addr) (sk : Addr) (ki : ClassId) (kj : ClassId) (gf : Nat → Int32) (wf : Nat → Int64) (sz : Int32) (h0 : Heap) (n0 : Nat) (Z0 : n0 ≤ h0.size) (F0 : Exa Z h0 a "com/example/premise/premise/store/Skips") (F1 : Fld Z h0 a "com/example/premise/premise/store/Skips" "statements" "[I" (.ref st)) (F2 : Fld Z h0 a "com/example/premise/premise/store/Skips" "skips" "[J" (.ref sk)) (F3 : Fld Z h0 a "com/example/premise/premise/store/Skips" "size" "I" (.int sz)) (F4 : own_AI Z h0 st ki (16 : Int32) gf) (F5 : own_AJ Z h0 sk kj (16 : Int32) wf) (hs : ∃ j, j < (16 : Int32).toNatClampNeg ∧ gf j = 0) :
    MetFree l (⟨"com/example/premise/premise/store/Skips", "get", "(I)J"⟩ : MethodName) (head1 (Jvm.Cond.code (⟨"com/example/premise/premise/store/Skips", "get", "(I)J"⟩ : MethodName) prog_44_method_2_code 2 (some .long) :: ws) ({ frames := 2, cells := 0, slots := 0, locals := 30 } : Room)) (fun aW U => aW = #[(.ref a), (.int nn)] ∧ Z.Warmed39 U.vm ∧ U.heap = h0) (fun _ _ _ _ _ => True) (fun _ U o U' => ∃ v L, o = .returned v ∧ Q9 Z a nn st sk ki kj gf wf sz h0 n0 v U'.heap L ∧ FrameEnd U o U' L ({ frames := 2, cells := 0, slots := 0, locals := 30 } : Room).cells ({ frames := 2, cells := 0, slots := 0, locals := 30 } : Room).slots) := by
  refine MetFree.of_bodySF (plainFor_of_name own_pn9) hisR ?_
  intro p e s m args below meth c s₁ Bd hml0 hP hK
  obtain ⟨rfl, hZ, hh⟩ := hP
  have hx := Bd.exec
  have hby := Bd.bytes
  have hml : c.maxLocals = 2 := hml0
  have hown : s.vm.findClass "com/example/premise/premise/store/Skips" = some m.cls := findClass_of_methodNamed Bd.named
  have hnm := (name_of_methodNamed Bd.named Bd.method).1
  have X0 : Stand p l e ({ frames := 2, cells := 0, slots := 0, locals := 30 } : Room) s m #[(.ref a), (.int nn)] below meth c s₁ [] 0 0 := Stand.of_body Bd
  have e0 : s₁.heap = h0 := by rw [← hh, Bd.state]; rfl
  have N0 := Fr.nil n0
  obtain ⟨Pq, hPq⟩ : ∃ P, P = own_P s below (fun v h L => Q9 Z a nn st sk ki kj gf wf sz h0 n0 v h L) ({ frames := 2, cells := 0, slots := 0, locals := 30 } : Room).cells ({ frames := 2, cells := 0, slots := 0, locals := 30 } : Room).slots := ⟨_, rfl⟩
  suffices hgo : own_Go p.tables e below Pq s₁ (mkF m 0 #[.val (.ref a), .val (.int nn)] []) by
    subst hPq
    obtain ⟨t, k1, k2, o, k3, k4⟩ := hgo
    exact ⟨t, o, castTop (own_ef9 m a nn) k1, k2, k3, k4⟩
  show own_Go _ _ _ _ s₁ (mkF m 0 #[.val (.ref a), .val (.int nn)] [])
  refine own_st (fun t k => XS.aloadN X0.here hx rfl (hb hby d9_0) rfl rfl k) ?_
  show own_Go _ _ _ _ s₁ (mkF m 1 _ [(.ref a)])
  obtain ⟨T1, X1, e1, st1⟩ := getF X0 hx hZ hown (host := "") (Or.inl (hw _ (List.mem_of_getElem? (i := 25) rfl))) Via.refl e0 F3 (g := (mkF m 1 #[.val (.ref a), .val (.int nn)] [(.ref a)])) rfl rfl (hb hby d9_1)
  refine own_st st1 ?_
  show own_Go _ _ _ _ T1 (mkF m 4 _ [(.int sz)])
  by_cases c2 : sz = (0 : Int32)
  · skip
    refine own_st (fun t k => XS.ifNo X1.here hx rfl (hb hby d9_4) rfl ((if0 _ _).trans (teq c2).2) k) ?_
    show own_Go _ _ _ _ T1 (mkF m 7 _ [])
    refine own_st (fun t k => XS.lconst X1.here hx rfl (hb hby d9_7) k) ?_
    show own_Go _ _ _ _ T1 (mkF m 8 _ [(.long (0 : Int64))])
    refine own_st (fun t k => XS.goto X1.here hx rfl (pc0 := 8) (pc' := 21) rfl (hb hby d9_8) (by decide) (by decide) k) ?_
    show own_Go _ _ _ _ T1 (mkF m 21 _ [(.long (0 : Int64))])
    subst hPq
    refine own_out X1 (v := some (.long (0 : Int64))) (fun h => by rw [Bd.returns] at h; cases h) Bd.notSynchronized (own_retJ X1 hx Bd.returns (hb hby d9_21)) (by decide) (by decide) ?_
    show Q9 Z a nn st sk ki kj gf wf sz h0 n0 _ T1.heap _
    rw [e1]
    exact ⟨_, rfl, N0, rfl, Or.inl ⟨c2, rfl⟩⟩
  · skip
    refine own_st (fun t k => XS.ifYes X1.here hx rfl (pc0 := 4) (pc' := 11) rfl (hb hby d9_4) rfl ((if0 _ _).trans (feq c2).2) (by decide) (by decide) k) ?_
    show own_Go _ _ _ _ T1 (mkF m 11 _ [])
    refine own_st (fun t k => XS.aloadN X1.here hx rfl (hb hby d9_11) rfl rfl k) ?_
    show own_Go _ _ _ _ T1 (mkF m 12 _ [(.ref a)])
    obtain ⟨T3, X3, e3, st3⟩ := getF X1 hx hZ hown (host := "") (Or.inl (hw _ (List.mem_of_getElem? (i := 18) rfl))) Via.refl e1 F2 (g := (mkF m 12 #[.val (.ref a), .val (.int nn)] [(.ref a)])) rfl rfl (hb hby d9_12)
    refine own_st st3 ?_
    show own_Go _ _ _ _ T3 (mkF m 15 _ [(.ref sk)])
    refine own_st (fun t k => XS.aloadN X3.here hx rfl (hb hby d9_15) rfl rfl k) ?_
    show own_Go _ _ _ _ T3 (mkF m 16 _ [(.ref a), (.ref sk)])
    refine own_st (fun t k => XS.iloadN X3.here hx rfl (hb hby d9_16) rfl k) ?_
    show own_Go _ _ _ _ T3 (mkF m 17 _ [(.int nn), (.ref a), (.ref sk)])
    obtain ⟨cq4, q4, q4'⟩ := F0.cell
    obtain ⟨_, _, ⟨T4, L4, k4, n4⟩, -, X4, ⟨Lc4, hQ4, l4, y4, z4⟩, st4⟩ := X3.privateBack hx (y := (⟨"com/example/premise/premise/store/Skips", "slot", "(I)I"⟩ : MethodName)) hown (mvT hZ (hw _ (List.mem_of_getElem? (i := 27) rfl))) (mvT hZ (hw _ (List.mem_of_getElem? (i := 28) rfl))) (own_selp (y := (⟨"com/example/premise/premise/store/Skips", "slot", "(I)I"⟩ : MethodName)) (mvT hZ (hw _ (List.mem_of_getElem? (i := 6) rfl))) (Cond.privateMethod_at (mvP hZ (hw _ (List.mem_of_getElem? (i := 29) rfl)) (args := #[]))) (mvT hZ (hw _ (List.mem_of_getElem? (i := 28) rfl))) (by decide)) (Cond.privateMethod_at (mvP hZ (hw _ (List.mem_of_getElem? (i := 29) rfl)) (args := #[]))) (mvT hZ (hw _ (List.mem_of_getElem? (i := 30) rfl))) (by decide) (backOf (W := 1) (rm6 l Z a0 hw [] a nn st ki gf h0 n0 Z0 F0 F1 F4 hs) hZ (hw _ (List.mem_of_getElem? (i := 30) rfl)) (hw _ (List.mem_of_getElem? (i := 7) rfl)) (by decide) (by decide)) (g := (mkF m 17 #[.val (.ref a), .val (.int nn)] [(.int nn), (.ref a), (.ref sk)])) rfl (by rw [hml]; rfl) (Steps.refl _) (a := a) (by rw [e3]; exact q4) q4' (argsL := [(.int nn)]) (rest := [(.ref sk)]) (lenOf own_pd__I_I rfl) rfl (by show 2 * 0 + _ ≤ _; exact Nat.le_of_eq rfl) (hb hby d9_17) (fun _ _ => ⟨rfl, e3, (by decide : 0 + 0 ≤ _), (by decide : 0 + 0 ≤ _)⟩)
    dsimp only [Pt.U, Pt.locs, Pt.cells, Pt.slots] at X4 l4 y4 z4 st4 hQ4
    subst l4 y4 z4
    obtain ⟨r4_r, rfl, NQ4, eq4, hq4_0⟩ := hQ4
    have N5 := Fr.app N0 NQ4
    refine own_st (fun t k => st4.trans k) ?_
    show own_Go _ _ _ _ T4 (mkF m 20 _ [(.int r4_r), (.ref sk)])
    obtain ⟨c6, Ar6, q6, S6, N6, H6⟩ := id F5
    refine own_st (fun t k => X4.laload hx (j := r4_r) (v := (.long (wf r4_r.toNatClampNeg))) (by rw [eq4]; exact Ar6.1) (State.isArrayOf_alike hZ.alike Ar6.2.1) Ar6.2.2 (inb_of S6 ⟨hq4_0.1, hq4_0.2.1⟩) (H6 _ (own_lt (inb_of S6 ⟨hq4_0.1, hq4_0.2.1⟩))) (g := (mkF m 20 #[.val (.ref a), .val (.int nn)] [(.int r4_r), (.ref sk)])) rfl rfl (hb hby d9_20) _ k) ?_
    show own_Go _ _ _ _ T4 (mkF m 21 _ [(.long (wf r4_r.toNatClampNeg))])
    subst hPq
    refine own_out X4 (v := some (.long (wf r4_r.toNatClampNeg))) (fun h => by rw [Bd.returns] at h; cases h) Bd.notSynchronized (own_retJ X4 hx Bd.returns (hb hby d9_21)) (by decide) (by decide) ?_
    show Q9 Z a nn st sk ki kj gf wf sz h0 n0 _ T4.heap _
    rw [eq4]
    exact ⟨_, rfl, N5, rfl, Or.inr ⟨c2, r4_r, hq4_0, rfl⟩⟩
theorem own_nzm {x v : Int32} (h : (x &&& (2147483647 : Int32)) = v) : v + 1 ≠ 0 := by
  have e := c_mask x 2147483647 31 (by decide) (by decide)
  rw [h] at e
  exact own_nz (by omega)
theorem own_pn0 : plainName "com/example/premise/premise/store/SkipsClearPinLaw" = true := by first | (simp [plainName, overriddenIn]; done) | decide +kernel
theorem own_ef0 (m : MethodId) (x0 : Int32) (x1 : Int32) (x2 : Int32) (x3 : Int32) (x4 : Int32) (x5 : Int32) : entryFrame m #[(.int x0), (.int x1), (.int x2), (.int x3), (.int x4), (.int x5)] maxLocals = mkF m 0 #[.val (.int x0), .val (.int x1), .val (.int x2), .val (.int x3), .val (.int x4), .val (.int x5), .unset, .unset, .unset, .unset, .unset, .unset, .unset, .unset, .unset] [] := by first | (simp [entryFrame, mkF, argsToLocals, Value.category, maxLocals]; done) | rfl
def Q0 (Z : State) (x0 : Int32) (x1 : Int32) (x2 : Int32) (x3 : Int32) (x4 : Int32) (x5 : Int32) (h0 : Heap) (n0 : Nat) (v : Option Value) (h : Heap) (L : List Loc) : Prop := v = some (.int 1) ∧ Fr n0 L
theorem own_law (x0 : Int32) (x1 : Int32) (x2 : Int32) (x3 : Int32) (x4 : Int32) (x5 : Int32) (v1 : Int32) (v2 : Int32) (v3 : Int32) (v4 : Int32) (v7 : Int32) (v8 : Int32) (r15_ki : ClassId) (r15_kj : ClassId) (r21_w : Int64) (r23_w : Int64) (r25_w : Int64) (r27_r : Int32) (r27_g2 : Nat → Int32) (r27_w2 : Nat → Int64) (r27_s2 : Int32) (r31_w : Int64) (hv1 : (x0 &&& (2147483647 : Int32)) = v1) (hv2 : (x1 &&& (2147483647 : Int32)) = v2) (hv3 : (x2 &&& (2147483647 : Int32)) = v3) (hv4 : ((x3 &&& (2147483647 : Int32)) - (1 : Int32)) = v4) (hv7 : (own_max (1 : Int32) (x4 &&& (2147483647 : Int32))) = v7) (hv8 : (x5 &&& (3 : Int32)) = v8) (hq21_0 : own_getR (fun _ => (0 : Int32)) (fun _ => (0 : Int64)) (0 : Int32) v1 r21_w) (hq23_0 : own_getR (fun _ => (0 : Int32)) (fun _ => (0 : Int64)) (0 : Int32) v2 r23_w) (hq25_0 : own_getR (fun _ => (0 : Int32)) (fun _ => (0 : Int64)) (0 : Int32) v3 r25_w) (hq27_0 : own_probe (fun _ => (0 : Int32)) (16 : Int32) v3 r27_r) (hq27_1 : own_putR (fun _ => (0 : Int32)) (fun _ => (0 : Int64)) (0 : Int32) v3 v4 v7 r27_r r27_g2 r27_w2 r27_s2) (hq31_0 : own_getR r27_g2 r27_w2 r27_s2 v3 r31_w) (c37 : v1 = v3) (c38 : v2 = v3) : (1 : Int32) = 1 := by
  rfl
theorem own_law2 (x0 : Int32) (x1 : Int32) (x2 : Int32) (x3 : Int32) (x4 : Int32) (x5 : Int32) (v1 : Int32) (v2 : Int32) (v3 : Int32) (v4 : Int32) (v7 : Int32) (v8 : Int32) (r15_ki : ClassId) (r15_kj : ClassId) (r21_w : Int64) (r23_w : Int64) (r25_w : Int64) (r27_r : Int32) (r27_g2 : Nat → Int32) (r27_w2 : Nat → Int64) (r27_s2 : Int32) (r31_w : Int64) (r39_w : Int64) (hv1 : (x0 &&& (2147483647 : Int32)) = v1) (hv2 : (x1 &&& (2147483647 : Int32)) = v2) (hv3 : (x2 &&& (2147483647 : Int32)) = v3) (hv4 : ((x3 &&& (2147483647 : Int32)) - (1 : Int32)) = v4) (hv7 : (own_max (1 : Int32) (x4 &&& (2147483647 : Int32))) = v7) (hv8 : (x5 &&& (3 : Int32)) = v8) (hq21_0 : own_getR (fun _ => (0 : Int32)) (fun _ => (0 : Int64)) (0 : Int32) v1 r21_w) (hq23_0 : own_getR (fun _ => (0 : Int32)) (fun _ => (0 : Int64)) (0 : Int32) v2 r23_w) (hq25_0 : own_getR (fun _ => (0 : Int32)) (fun _ => (0 : Int64)) (0 : Int32) v3 r25_w) (hq27_0 : own_probe (fun _ => (0 : Int32)) (16 : Int32) v3 r27_r) (hq27_1 : own_putR (fun _ => (0 : Int32)) (fun _ => (0 : Int64)) (0 : Int32) v3 v4 v7 r27_r r27_g2 r27_w2 r27_s2) (hq31_0 : own_getR r27_g2 r27_w2 r27_s2 v3 r31_w) (hq39_0 : own_getR r27_g2 r27_w2 r27_s2 v2 r39_w) (c37 : v1 = v3) (c38 : ¬ (v2 = v3)) : (1 : Int32) = 1 := by
  rfl
theorem own_law3 (x0 : Int32) (x1 : Int32) (x2 : Int32) (x3 : Int32) (x4 : Int32) (x5 : Int32) (v1 : Int32) (v2 : Int32) (v3 : Int32) (v4 : Int32) (v7 : Int32) (v8 : Int32) (r15_ki : ClassId) (r15_kj : ClassId) (r21_w : Int64) (r23_w : Int64) (r25_w : Int64) (r27_r : Int32) (r27_g2 : Nat → Int32) (r27_w2 : Nat → Int64) (r27_s2 : Int32) (r31_w : Int64) (r41_w : Int64) (hv1 : (x0 &&& (2147483647 : Int32)) = v1) (hv2 : (x1 &&& (2147483647 : Int32)) = v2) (hv3 : (x2 &&& (2147483647 : Int32)) = v3) (hv4 : ((x3 &&& (2147483647 : Int32)) - (1 : Int32)) = v4) (hv7 : (own_max (1 : Int32) (x4 &&& (2147483647 : Int32))) = v7) (hv8 : (x5 &&& (3 : Int32)) = v8) (hq21_0 : own_getR (fun _ => (0 : Int32)) (fun _ => (0 : Int64)) (0 : Int32) v1 r21_w) (hq23_0 : own_getR (fun _ => (0 : Int32)) (fun _ => (0 : Int64)) (0 : Int32) v2 r23_w) (hq25_0 : own_getR (fun _ => (0 : Int32)) (fun _ => (0 : Int64)) (0 : Int32) v3 r25_w) (hq27_0 : own_probe (fun _ => (0 : Int32)) (16 : Int32) v3 r27_r) (hq27_1 : own_putR (fun _ => (0 : Int32)) (fun _ => (0 : Int64)) (0 : Int32) v3 v4 v7 r27_r r27_g2 r27_w2 r27_s2) (hq31_0 : own_getR r27_g2 r27_w2 r27_s2 v3 r31_w) (hq41_0 : own_getR r27_g2 r27_w2 r27_s2 v1 r41_w) (c37 : ¬ (v1 = v3)) (c43 : v2 = v3) : (1 : Int32) = 1 := by
  rfl
theorem own_law4 (x0 : Int32) (x1 : Int32) (x2 : Int32) (x3 : Int32) (x4 : Int32) (x5 : Int32) (v1 : Int32) (v2 : Int32) (v3 : Int32) (v4 : Int32) (v7 : Int32) (v8 : Int32) (r15_ki : ClassId) (r15_kj : ClassId) (r21_w : Int64) (r23_w : Int64) (r25_w : Int64) (r27_r : Int32) (r27_g2 : Nat → Int32) (r27_w2 : Nat → Int64) (r27_s2 : Int32) (r31_w : Int64) (r41_w : Int64) (r44_w : Int64) (hv1 : (x0 &&& (2147483647 : Int32)) = v1) (hv2 : (x1 &&& (2147483647 : Int32)) = v2) (hv3 : (x2 &&& (2147483647 : Int32)) = v3) (hv4 : ((x3 &&& (2147483647 : Int32)) - (1 : Int32)) = v4) (hv7 : (own_max (1 : Int32) (x4 &&& (2147483647 : Int32))) = v7) (hv8 : (x5 &&& (3 : Int32)) = v8) (hq21_0 : own_getR (fun _ => (0 : Int32)) (fun _ => (0 : Int64)) (0 : Int32) v1 r21_w) (hq23_0 : own_getR (fun _ => (0 : Int32)) (fun _ => (0 : Int64)) (0 : Int32) v2 r23_w) (hq25_0 : own_getR (fun _ => (0 : Int32)) (fun _ => (0 : Int64)) (0 : Int32) v3 r25_w) (hq27_0 : own_probe (fun _ => (0 : Int32)) (16 : Int32) v3 r27_r) (hq27_1 : own_putR (fun _ => (0 : Int32)) (fun _ => (0 : Int64)) (0 : Int32) v3 v4 v7 r27_r r27_g2 r27_w2 r27_s2) (hq31_0 : own_getR r27_g2 r27_w2 r27_s2 v3 r31_w) (hq41_0 : own_getR r27_g2 r27_w2 r27_s2 v1 r41_w) (hq44_0 : own_getR r27_g2 r27_w2 r27_s2 v2 r44_w) (c37 : ¬ (v1 = v3)) (c43 : ¬ (v2 = v3)) : (1 : Int32) = 1 := by
  rfl
set_option maxRecDepth 65536 in
set_option maxHeartbeats 4000000 in
theorem rm0 (l : Launch) (Z : State) (a0 : Array Value) (hw : ∀ d ∈ tables_1, d.before a0 Z = true) (ws : List Jvm.Cond) (x0 : Int32) (x1 : Int32) (x2 : Int32) (x3 : Int32) (x4 : Int32) (x5 : Int32) (h0 : Heap) (n0 : Nat) (Z0 : n0 ≤ h0.size) :
    MetFree l x (head1 (Jvm.Cond.code x code maxLocals ret :: ws) room_1) (fun aW U => aW = #[(.int x0), (.int x1), (.int x2), (.int x3), (.int x4), (.int x5)] ∧ Z.Warmed39 U.vm ∧ U.heap = h0) (fun _ _ _ _ _ => True) (fun _ U o U' => ∃ v L, o = .returned v ∧ Q0 Z x0 x1 x2 x3 x4 x5 h0 n0 v U'.heap L ∧ FrameEnd U o U' L 24 256) := by
  refine MetFree.of_bodySF (plainFor_of_name own_pn0) hisR ?_
  intro p e s m args below meth c s₁ Bd hml0 hP hK
  obtain ⟨rfl, hZ, hh⟩ := hP
  have hx := Bd.exec
  have hby := Bd.bytes
  have hml : c.maxLocals = 15 := hml0
  have hown : s.vm.findClass "com/example/premise/premise/store/SkipsClearPinLaw" = some m.cls := findClass_of_methodNamed Bd.named
  have hnm := (name_of_methodNamed Bd.named Bd.method).1
  have X0 : Stand p l e room_1 s m #[(.int x0), (.int x1), (.int x2), (.int x3), (.int x4), (.int x5)] below meth c s₁ [] 0 0 := Stand.of_body Bd
  have e0 : s₁.heap = h0 := by rw [← hh, Bd.state]; rfl
  have N0 := Fr.nil n0
  obtain ⟨Pq, hPq⟩ : ∃ P, P = own_P s below (fun v h L => Q0 Z x0 x1 x2 x3 x4 x5 h0 n0 v h L) 24 256 := ⟨_, rfl⟩
  suffices hgo : own_Go p.tables e below Pq s₁ (mkF m 0 #[.val (.int x0), .val (.int x1), .val (.int x2), .val (.int x3), .val (.int x4), .val (.int x5), .unset, .unset, .unset, .unset, .unset, .unset, .unset, .unset, .unset] []) by
    subst hPq
    obtain ⟨t, k1, k2, o, k3, k4⟩ := hgo
    exact ⟨t, o, castTop (own_ef0 m x0 x1 x2 x3 x4 x5) k1, k2, k3, k4⟩
  show own_Go _ _ _ _ s₁ (mkF m 0 #[.val (.int x0), .val (.int x1), .val (.int x2), .val (.int x3), .val (.int x4), .val (.int x5), .unset, .unset, .unset, .unset, .unset, .unset, .unset, .unset, .unset] [])
  refine own_st (fun t k => XS.iloadN X0.here hx rfl (hb hby at_0) rfl k) ?_
  show own_Go _ _ _ _ s₁ (mkF m 1 _ [(.int x0)])
  refine own_st (fun t k => X0.ldcInt hx hown (mvT hZ (hw _ (List.mem_of_getElem? (i := 0) rfl))) (g := (mkF m 1 #[.val (.int x0), .val (.int x1), .val (.int x2), .val (.int x3), .val (.int x4), .val (.int x5), .unset, .unset, .unset, .unset, .unset, .unset, .unset, .unset, .unset] [(.int x0)])) rfl (hb hby at_1) _ k) ?_
  show own_Go _ _ _ _ s₁ (mkF m 3 _ [(.int (2147483647 : Int32)), (.int x0)])
  refine own_st (fun t k => XS.iand X0.here hx rfl (hb hby at_3) rfl k) ?_
  show own_Go _ _ _ _ s₁ (mkF m 4 _ [(.int (x0 &&& (2147483647 : Int32)))])
  generalize hv1 : (x0 &&& (2147483647 : Int32)) = v1
  refine own_st (fun t k => XS.istore X0.here hx rfl (hb hby at_4) rfl (l' := #[.val (.int x0), .val (.int x1), .val (.int x2), .val (.int x3), .val (.int x4), .val (.int x5), .val (.int v1), .unset, .unset, .unset, .unset, .unset, .unset, .unset, .unset]) rfl k) ?_
  show own_Go _ _ _ _ s₁ (mkF m 6 #[.val (.int x0), .val (.int x1), .val (.int x2), .val (.int x3), .val (.int x4), .val (.int x5), .val (.int v1), .unset, .unset, .unset, .unset, .unset, .unset, .unset, .unset] [])
  refine own_st (fun t k => XS.iloadN X0.here hx rfl (hb hby at_6) rfl k) ?_
  show own_Go _ _ _ _ s₁ (mkF m 7 _ [(.int x1)])
  refine own_st (fun t k => X0.ldcInt hx hown (mvT hZ (hw _ (List.mem_of_getElem? (i := 0) rfl))) (g := (mkF m 7 #[.val (.int x0), .val (.int x1), .val (.int x2), .val (.int x3), .val (.int x4), .val (.int x5), .val (.int v1), .unset, .unset, .unset, .unset, .unset, .unset, .unset, .unset] [(.int x1)])) rfl (hb hby at_7) _ k) ?_
  show own_Go _ _ _ _ s₁ (mkF m 9 _ [(.int (2147483647 : Int32)), (.int x1)])
  refine own_st (fun t k => XS.iand X0.here hx rfl (hb hby at_9) rfl k) ?_
  show own_Go _ _ _ _ s₁ (mkF m 10 _ [(.int (x1 &&& (2147483647 : Int32)))])
  generalize hv2 : (x1 &&& (2147483647 : Int32)) = v2
  refine own_st (fun t k => XS.istore X0.here hx rfl (hb hby at_10) rfl (l' := #[.val (.int x0), .val (.int x1), .val (.int x2), .val (.int x3), .val (.int x4), .val (.int x5), .val (.int v1), .val (.int v2), .unset, .unset, .unset, .unset, .unset, .unset, .unset]) rfl k) ?_
  show own_Go _ _ _ _ s₁ (mkF m 12 #[.val (.int x0), .val (.int x1), .val (.int x2), .val (.int x3), .val (.int x4), .val (.int x5), .val (.int v1), .val (.int v2), .unset, .unset, .unset, .unset, .unset, .unset, .unset] [])
  refine own_st (fun t k => XS.iloadN X0.here hx rfl (hb hby at_12) rfl k) ?_
  show own_Go _ _ _ _ s₁ (mkF m 13 _ [(.int x2)])
  refine own_st (fun t k => X0.ldcInt hx hown (mvT hZ (hw _ (List.mem_of_getElem? (i := 0) rfl))) (g := (mkF m 13 #[.val (.int x0), .val (.int x1), .val (.int x2), .val (.int x3), .val (.int x4), .val (.int x5), .val (.int v1), .val (.int v2), .unset, .unset, .unset, .unset, .unset, .unset, .unset] [(.int x2)])) rfl (hb hby at_13) _ k) ?_
  show own_Go _ _ _ _ s₁ (mkF m 15 _ [(.int (2147483647 : Int32)), (.int x2)])
  refine own_st (fun t k => XS.iand X0.here hx rfl (hb hby at_15) rfl k) ?_
  show own_Go _ _ _ _ s₁ (mkF m 16 _ [(.int (x2 &&& (2147483647 : Int32)))])
  generalize hv3 : (x2 &&& (2147483647 : Int32)) = v3
  refine own_st (fun t k => XS.istore X0.here hx rfl (hb hby at_16) rfl (l' := #[.val (.int x0), .val (.int x1), .val (.int x2), .val (.int x3), .val (.int x4), .val (.int x5), .val (.int v1), .val (.int v2), .val (.int v3), .unset, .unset, .unset, .unset, .unset, .unset]) rfl k) ?_
  show own_Go _ _ _ _ s₁ (mkF m 18 #[.val (.int x0), .val (.int x1), .val (.int x2), .val (.int x3), .val (.int x4), .val (.int x5), .val (.int v1), .val (.int v2), .val (.int v3), .unset, .unset, .unset, .unset, .unset, .unset] [])
  refine own_st (fun t k => XS.iloadN X0.here hx rfl (hb hby at_18) rfl k) ?_
  show own_Go _ _ _ _ s₁ (mkF m 19 _ [(.int x3)])
  refine own_st (fun t k => X0.ldcInt hx hown (mvT hZ (hw _ (List.mem_of_getElem? (i := 0) rfl))) (g := (mkF m 19 #[.val (.int x0), .val (.int x1), .val (.int x2), .val (.int x3), .val (.int x4), .val (.int x5), .val (.int v1), .val (.int v2), .val (.int v3), .unset, .unset, .unset, .unset, .unset, .unset] [(.int x3)])) rfl (hb hby at_19) _ k) ?_
  show own_Go _ _ _ _ s₁ (mkF m 21 _ [(.int (2147483647 : Int32)), (.int x3)])
  refine own_st (fun t k => XS.iand X0.here hx rfl (hb hby at_21) rfl k) ?_
  show own_Go _ _ _ _ s₁ (mkF m 22 _ [(.int (x3 &&& (2147483647 : Int32)))])
  refine own_st (fun t k => XS.iconst X0.here hx rfl (hb hby at_22) k) ?_
  show own_Go _ _ _ _ s₁ (mkF m 23 _ [(.int (1 : Int32)), (.int (x3 &&& (2147483647 : Int32)))])
  refine own_st (fun t k => XS.isub X0.here hx rfl (hb hby at_23) rfl k) ?_
  show own_Go _ _ _ _ s₁ (mkF m 24 _ [(.int ((x3 &&& (2147483647 : Int32)) - (1 : Int32)))])
  generalize hv4 : ((x3 &&& (2147483647 : Int32)) - (1 : Int32)) = v4
  refine own_st (fun t k => XS.istore X0.here hx rfl (hb hby at_24) rfl (l' := #[.val (.int x0), .val (.int x1), .val (.int x2), .val (.int x3), .val (.int x4), .val (.int x5), .val (.int v1), .val (.int v2), .val (.int v3), .val (.int v4), .unset, .unset, .unset, .unset, .unset]) rfl k) ?_
  show own_Go _ _ _ _ s₁ (mkF m 26 #[.val (.int x0), .val (.int x1), .val (.int x2), .val (.int x3), .val (.int x4), .val (.int x5), .val (.int v1), .val (.int v2), .val (.int v3), .val (.int v4), .unset, .unset, .unset, .unset, .unset] [])
  refine own_st (fun t k => XS.iconst X0.here hx rfl (hb hby at_26) k) ?_
  show own_Go _ _ _ _ s₁ (mkF m 27 _ [(.int (1 : Int32))])
  refine own_st (fun t k => XS.iload X0.here hx rfl (hb hby at_27) rfl k) ?_
  show own_Go _ _ _ _ s₁ (mkF m 29 _ [(.int x4), (.int (1 : Int32))])
  refine own_st (fun t k => X0.ldcInt hx hown (mvT hZ (hw _ (List.mem_of_getElem? (i := 0) rfl))) (g := (mkF m 29 #[.val (.int x0), .val (.int x1), .val (.int x2), .val (.int x3), .val (.int x4), .val (.int x5), .val (.int v1), .val (.int v2), .val (.int v3), .val (.int v4), .unset, .unset, .unset, .unset, .unset] [(.int x4), (.int (1 : Int32))])) rfl (hb hby at_29) _ k) ?_
  show own_Go _ _ _ _ s₁ (mkF m 31 _ [(.int (2147483647 : Int32)), (.int x4), (.int (1 : Int32))])
  refine own_st (fun t k => XS.iand X0.here hx rfl (hb hby at_31) rfl k) ?_
  show own_Go _ _ _ _ s₁ (mkF m 32 _ [(.int (x4 &&& (2147483647 : Int32))), (.int (1 : Int32))])
  obtain ⟨_, _, ⟨T5, L5, k5, n5⟩, -, X5, ⟨Lc5, hQ5, l5, y5, z5⟩, st5⟩ := Jvm.LawKit.callS X0 hx (y := (⟨"java/lang/Math", "max", "(II)I"⟩ : MethodName)) hown (mvT hZ (hw _ (List.mem_of_getElem? (i := 1) rfl))) (mvT hZ (hw _ (List.mem_of_getElem? (i := 2) rfl))) (mvT hZ (hw _ (List.mem_of_getElem? (i := 3) rfl))) (mvT hZ (hw _ (List.mem_of_getElem? (i := 4) rfl))) (by decide) (backOf (W := 0) (rm1 l Z a0 hw [] (1 : Int32) (x4 &&& (2147483647 : Int32)) h0 n0 Z0 ) hZ (hw _ (List.mem_of_getElem? (i := 4) rfl)) (hw _ (List.mem_of_getElem? (i := 3) rfl)) (by decide) (by decide)) (g := (mkF m 32 #[.val (.int x0), .val (.int x1), .val (.int x2), .val (.int x3), .val (.int x4), .val (.int x5), .val (.int v1), .val (.int v2), .val (.int v3), .val (.int v4), .unset, .unset, .unset, .unset, .unset] [(.int (x4 &&& (2147483647 : Int32))), (.int (1 : Int32))])) rfl (by rw [hml]; rfl) (argsL := [(.int (1 : Int32)), (.int (x4 &&& (2147483647 : Int32)))]) (rest := []) (lenOf own_pd__II_I rfl) rfl (by show 2 * 0 + _ ≤ _; exact Nat.le_of_eq rfl) (hb hby at_32) (fun _ _ => ⟨rfl, e0, (by decide : 0 + 0 ≤ _), (by decide : 0 + 0 ≤ _)⟩)
  dsimp only [Pt.U, Pt.locs, Pt.cells, Pt.slots] at X5 l5 y5 z5 st5 hQ5
  subst l5 y5 z5
  obtain ⟨rfl, NQ5, eq5⟩ := hQ5
  have N6 := Fr.app N0 NQ5
  refine own_st st5 ?_
  show own_Go _ _ _ _ T5 (mkF m 35 _ [(.int (own_max (1 : Int32) (x4 &&& (2147483647 : Int32))))])
  generalize hv7 : (own_max (1 : Int32) (x4 &&& (2147483647 : Int32))) = v7
  refine own_st (fun t k => XS.istore X5.here hx rfl (hb hby at_35) rfl (l' := #[.val (.int x0), .val (.int x1), .val (.int x2), .val (.int x3), .val (.int x4), .val (.int x5), .val (.int v1), .val (.int v2), .val (.int v3), .val (.int v4), .val (.int v7), .unset, .unset, .unset, .unset]) rfl k) ?_
  show own_Go _ _ _ _ T5 (mkF m 37 #[.val (.int x0), .val (.int x1), .val (.int x2), .val (.int x3), .val (.int x4), .val (.int x5), .val (.int v1), .val (.int v2), .val (.int v3), .val (.int v4), .val (.int v7), .unset, .unset, .unset, .unset] [])
  refine own_st (fun t k => XS.iload X5.here hx rfl (hb hby at_37) rfl k) ?_
  show own_Go _ _ _ _ T5 (mkF m 39 _ [(.int x5)])
  refine own_st (fun t k => XS.iconst X5.here hx rfl (hb hby at_39) k) ?_
  show own_Go _ _ _ _ T5 (mkF m 40 _ [(.int (3 : Int32)), (.int x5)])
  refine own_st (fun t k => XS.iand X5.here hx rfl (hb hby at_40) rfl k) ?_
  show own_Go _ _ _ _ T5 (mkF m 41 _ [(.int (x5 &&& (3 : Int32)))])
  generalize hv8 : (x5 &&& (3 : Int32)) = v8
  refine own_st (fun t k => XS.istore X5.here hx rfl (hb hby at_41) rfl (l' := #[.val (.int x0), .val (.int x1), .val (.int x2), .val (.int x3), .val (.int x4), .val (.int x5), .val (.int v1), .val (.int v2), .val (.int v3), .val (.int v4), .val (.int v7), .val (.int v8), .unset, .unset, .unset]) rfl k) ?_
  show own_Go _ _ _ _ T5 (mkF m 43 #[.val (.int x0), .val (.int x1), .val (.int x2), .val (.int x3), .val (.int x4), .val (.int x5), .val (.int v1), .val (.int v2), .val (.int v3), .val (.int v4), .val (.int v7), .val (.int v8), .unset, .unset, .unset] [])
  obtain ⟨T9, h9, X9, e9, E9, A9, D9, -, st9⟩ := newO X5 hx hZ hown (hw _ (List.mem_of_getElem? (i := 5) rfl)) (hw _ (List.mem_of_getElem? (i := 6) rfl)) (hw _ (List.mem_of_getElem? (i := 7) rfl)) eq5 (g := (mkF m 43 #[.val (.int x0), .val (.int x1), .val (.int x2), .val (.int x3), .val (.int x4), .val (.int x5), .val (.int v1), .val (.int v2), .val (.int v3), .val (.int v4), .val (.int v7), .val (.int v8), .unset, .unset, .unset] [])) rfl (hb hby at_43) (by decide) (by decide)
  obtain ⟨b9, g9⟩ : ∃ z, z = h0.size := ⟨_, rfl⟩
  rw [← g9] at A9 D9 st9
  refine own_st st9 ?_
  have gx10 : n0 ≤ b9 := Nat.le_trans Z0 (Nat.le_of_eq g9.symm)
  have Z11 : n0 ≤ h9.size := Nat.le_trans Z0 E9.1
  have f12 : Fld Z h9 b9 "com/example/premise/premise/store/Skips" "statements" "[I" .null := D9 (Or.inl (hw _ (List.mem_of_getElem? (i := 16) rfl))) (ty := (.array .int)) (by decide)
  have f13 : Fld Z h9 b9 "com/example/premise/premise/store/Skips" "skips" "[J" .null := D9 (Or.inl (hw _ (List.mem_of_getElem? (i := 19) rfl))) (ty := (.array .long)) (by decide)
  have f14 : Fld Z h9 b9 "com/example/premise/premise/store/Skips" "size" "I" (.int (0 : Int32)) := D9 (Or.inl (hw _ (List.mem_of_getElem? (i := 26) rfl))) (ty := .int) (by decide)
  show own_Go _ _ _ _ T9 (mkF m 46 _ [(.ref b9)])
  refine own_st (fun t k => XS.dup X9.here hx rfl (hb hby at_46) rfl rfl k) ?_
  show own_Go _ _ _ _ T9 (mkF m 47 _ [(.ref b9), (.ref b9)])
  obtain ⟨_, _, ⟨T15, L15, k15, n15⟩, -, X15, ⟨Lc15, hQ15, l15, y15, z15⟩, st15⟩ := X9.specialBack hx (y := (⟨"com/example/premise/premise/store/Skips", "<init>", "()V"⟩ : MethodName)) rfl hown (mvT hZ (hw _ (List.mem_of_getElem? (i := 8) rfl))) (mvT hZ (hw _ (List.mem_of_getElem? (i := 9) rfl))) (mvT hZ (hw _ (List.mem_of_getElem? (i := 10) rfl))) (by decide) (backOf (W := 1) (rm2 l Z a0 hw [] b9 (.null) (.null) (0 : Int32) h9 n0 Z11 A9 f12 f13 f14 gx10) hZ (hw _ (List.mem_of_getElem? (i := 10) rfl)) (hw _ (List.mem_of_getElem? (i := 7) rfl)) (by decide) (by decide)) (g := (mkF m 47 #[.val (.int x0), .val (.int x1), .val (.int x2), .val (.int x3), .val (.int x4), .val (.int x5), .val (.int v1), .val (.int v2), .val (.int v3), .val (.int v4), .val (.int v7), .val (.int v8), .unset, .unset, .unset] [(.ref b9), (.ref b9)])) rfl (by rw [hml]; rfl) (Steps.refl _) (a := b9) (argsL := []) (rest := [(.ref b9)]) (lenOf own_pd___V rfl) rfl (by show 2 * 0 + _ ≤ _; exact Nat.le_of_eq rfl) (hb hby at_47) (fun _ _ => ⟨rfl, e9, (by decide : 1 + 2 ≤ _), (by decide : 3 + 32 ≤ _)⟩)
  dsimp only [Pt.U, Pt.locs, Pt.cells, Pt.slots] at X15 l15 y15 z15 st15 hQ15
  subst l15 y15 z15
  obtain ⟨r15_ki, r15_kj, b15_st, b15_sk, rfl, NQ15, K15, gx_b15_st, sz_b15_st, gx_b15_sk, sz_b15_sk, fq15_0, fq15_1, fq15_2, fq15_3, fq15_4, fq15_5, hq15_0⟩ := hQ15
  have N16 := Fr.app N6 NQ15
  refine own_st (fun t k => st15.trans k) ?_
  have f17 := A9.keep K15
  have Z18 : n0 ≤ T15.heap.size := Nat.le_trans Z11 K15.1
  have ne19 : b9 ≠ b15_st := Nat.ne_of_lt (Nat.lt_of_lt_of_le A9.lt sz_b15_st)
  have ne20 : b9 ≠ b15_sk := Nat.ne_of_lt (Nat.lt_of_lt_of_le A9.lt sz_b15_sk)
  show own_Go _ _ _ _ T15 (mkF m 50 _ [(.ref b9)])
  refine own_st (fun t k => XS.astore X15.here hx rfl (hb hby at_50) rfl rfl (l' := #[.val (.int x0), .val (.int x1), .val (.int x2), .val (.int x3), .val (.int x4), .val (.int x5), .val (.int v1), .val (.int v2), .val (.int v3), .val (.int v4), .val (.int v7), .val (.int v8), .val (.ref b9), .unset, .unset]) rfl k) ?_
  show own_Go _ _ _ _ T15 (mkF m 52 #[.val (.int x0), .val (.int x1), .val (.int x2), .val (.int x3), .val (.int x4), .val (.int x5), .val (.int v1), .val (.int v2), .val (.int v3), .val (.int v4), .val (.int v7), .val (.int v8), .val (.ref b9), .unset, .unset] [])
  have J108 : ∀ (Tc : State) (Lc : List Loc) (hc : Heap) (st sk : Addr) (ki kj : ClassId), Stand p l e room_1 s m #[(.int x0), (.int x1), (.int x2), (.int x3), (.int x4), (.int x5)] below meth c Tc Lc 5 67 → Tc.heap = hc → Fr n0 Lc → n0 ≤ hc.size → Exa Z hc b9 "com/example/premise/premise/store/Skips" → Fld Z hc b9 "com/example/premise/premise/store/Skips" "statements" "[I" (.ref st) → Fld Z hc b9 "com/example/premise/premise/store/Skips" "skips" "[J" (.ref sk) → Fld Z hc b9 "com/example/premise/premise/store/Skips" "size" "I" (.int (0 : Int32)) → own_AI Z hc st ki (16 : Int32) (fun _ => (0 : Int32)) → own_AJ Z hc sk kj (16 : Int32) (fun _ => (0 : Int64)) → n0 ≤ st → n0 ≤ sk → st ≠ b9 → sk ≠ b9 → st ≠ sk → own_Go p.tables e below Pq Tc (mkF m 108 #[.val (.int x0), .val (.int x1), .val (.int x2), .val (.int x3), .val (.int x4), .val (.int x5), .val (.int v1), .val (.int v2), .val (.int v3), .val (.int v4), .val (.int v7), .val (.int v8), .val (.ref b9), .unset, .unset] []) := by
    intro Tc Lc hc st sk ki kj Xc ec Nc Zc fc0 fc1 fc2 fc3 fc4 fc5 gs gk m1 m2 m3
    show own_Go _ _ _ _ Tc (mkF m 108 _ [])
    refine own_st (fun t k => XS.aload Xc.here hx rfl (hb hby at_108) rfl rfl k) ?_
    show own_Go _ _ _ _ Tc (mkF m 110 _ [(.ref b9)])
    refine own_st (fun t k => XS.iload Xc.here hx rfl (hb hby at_110) rfl k) ?_
    show own_Go _ _ _ _ Tc (mkF m 112 _ [(.int v1), (.ref b9)])
    obtain ⟨cq21, kq21, q21a, q21b, q21c⟩ := isOf hZ ec fc0
    obtain ⟨_, _, ⟨T21, L21, k21, n21⟩, -, X21, ⟨Lc21, hQ21, l21, y21, z21⟩, st21⟩ := Xc.virtualBack hx (y := (⟨"com/example/premise/premise/store/Skips", "get", "(I)J"⟩ : MethodName)) (z := (⟨"com/example/premise/premise/store/Skips", "get", "(I)J"⟩ : MethodName)) hown (mvT hZ (hw _ (List.mem_of_getElem? (i := 42) rfl))) (mvT hZ (hw _ (List.mem_of_getElem? (i := 43) rfl))) (notFace_of_selects (args := #[]) (mvT hZ (hw _ (List.mem_of_getElem? (i := 45) rfl)))) (mvT hZ (hw _ (List.mem_of_getElem? (i := 45) rfl))) (mvT hZ (hw _ (List.mem_of_getElem? (i := 44) rfl))) (by decide) (backOf (W := 0) (rm9 l Z a0 hw [] b9 v1 st sk ki kj (fun _ => (0 : Int32)) (fun _ => (0 : Int64)) (0 : Int32) hc n0 Zc fc0 fc1 fc2 fc3 fc4 fc5 ⟨0, by decide, rfl⟩) hZ (hw _ (List.mem_of_getElem? (i := 46) rfl)) (hw _ (List.mem_of_getElem? (i := 7) rfl)) (by decide) (by decide)) q21a q21c (g := (mkF m 112 #[.val (.int x0), .val (.int x1), .val (.int x2), .val (.int x3), .val (.int x4), .val (.int x5), .val (.int v1), .val (.int v2), .val (.int v3), .val (.int v4), .val (.int v7), .val (.int v8), .val (.ref b9), .unset, .unset] [(.int v1), (.ref b9)])) rfl (by rw [hml]; rfl) (Steps.refl _) (argsL := [(.int v1)]) (rest := []) (lenOf own_pd__I_J rfl) rfl (by show 2 * 0 + _ ≤ _; exact Nat.le_of_eq rfl) (hb hby at_112) (fun _ _ => ⟨rfl, ec, (by decide : 5 + 0 ≤ _), (by decide : 67 + 0 ≤ _)⟩)
    dsimp only [Pt.U, Pt.locs, Pt.cells, Pt.slots] at X21 l21 y21 z21 st21 hQ21
    subst l21 y21 z21
    obtain ⟨r21_w, rfl, NQ21, eq21, hq21_0⟩ := hQ21
    have N22 := Fr.app Nc NQ21
    refine own_st (fun t k => st21.trans k) ?_
    show own_Go _ _ _ _ T21 (mkF m 115 _ [(.long r21_w)])
    refine own_st (fun t k => XS.lconst X21.here hx rfl (hb hby at_115) k) ?_
    show own_Go _ _ _ _ T21 (mkF m 116 _ [(.long (0 : Int64)), (.long r21_w)])
    refine own_st (fun t k => XS.lcmp X21.here hx rfl (hb hby at_116) rfl k) ?_
    show own_Go _ _ _ _ T21 (mkF m 117 _ [(.int (lcmpW r21_w (0 : Int64)))])
    refine own_st (fun t k => XS.ifYes X21.here hx rfl (pc0 := 117) (pc' := 122) rfl (hb hby at_117) rfl (own_lcT (cd := .eq) (own_get0 hq21_0)) (by decide) (by decide) k) ?_
    show own_Go _ _ _ _ T21 (mkF m 122 _ [])
    refine own_st (fun t k => XS.aload X21.here hx rfl (hb hby at_122) rfl rfl k) ?_
    show own_Go _ _ _ _ T21 (mkF m 124 _ [(.ref b9)])
    refine own_st (fun t k => XS.iload X21.here hx rfl (hb hby at_124) rfl k) ?_
    show own_Go _ _ _ _ T21 (mkF m 126 _ [(.int v2), (.ref b9)])
    obtain ⟨cq23, kq23, q23a, q23b, q23c⟩ := isOf hZ eq21 fc0
    obtain ⟨_, _, ⟨T23, L23, k23, n23⟩, -, X23, ⟨Lc23, hQ23, l23, y23, z23⟩, st23⟩ := X21.virtualBack hx (y := (⟨"com/example/premise/premise/store/Skips", "get", "(I)J"⟩ : MethodName)) (z := (⟨"com/example/premise/premise/store/Skips", "get", "(I)J"⟩ : MethodName)) hown (mvT hZ (hw _ (List.mem_of_getElem? (i := 42) rfl))) (mvT hZ (hw _ (List.mem_of_getElem? (i := 43) rfl))) (notFace_of_selects (args := #[]) (mvT hZ (hw _ (List.mem_of_getElem? (i := 45) rfl)))) (mvT hZ (hw _ (List.mem_of_getElem? (i := 45) rfl))) (mvT hZ (hw _ (List.mem_of_getElem? (i := 44) rfl))) (by decide) (backOf (W := 0) (rm9 l Z a0 hw [] b9 v2 st sk ki kj (fun _ => (0 : Int32)) (fun _ => (0 : Int64)) (0 : Int32) hc n0 Zc fc0 fc1 fc2 fc3 fc4 fc5 ⟨0, by decide, rfl⟩) hZ (hw _ (List.mem_of_getElem? (i := 46) rfl)) (hw _ (List.mem_of_getElem? (i := 7) rfl)) (by decide) (by decide)) q23a q23c (g := (mkF m 126 #[.val (.int x0), .val (.int x1), .val (.int x2), .val (.int x3), .val (.int x4), .val (.int x5), .val (.int v1), .val (.int v2), .val (.int v3), .val (.int v4), .val (.int v7), .val (.int v8), .val (.ref b9), .unset, .unset] [(.int v2), (.ref b9)])) rfl (by rw [hml]; rfl) (Steps.refl _) (argsL := [(.int v2)]) (rest := []) (lenOf own_pd__I_J rfl) rfl (by show 2 * 0 + _ ≤ _; exact Nat.le_of_eq rfl) (hb hby at_126) (fun _ _ => ⟨rfl, eq21, (by decide : 5 + 0 ≤ _), (by decide : 67 + 0 ≤ _)⟩)
    dsimp only [Pt.U, Pt.locs, Pt.cells, Pt.slots] at X23 l23 y23 z23 st23 hQ23
    subst l23 y23 z23
    obtain ⟨r23_w, rfl, NQ23, eq23, hq23_0⟩ := hQ23
    have N24 := Fr.app N22 NQ23
    refine own_st (fun t k => st23.trans k) ?_
    show own_Go _ _ _ _ T23 (mkF m 129 _ [(.long r23_w)])
    refine own_st (fun t k => XS.lconst X23.here hx rfl (hb hby at_129) k) ?_
    show own_Go _ _ _ _ T23 (mkF m 130 _ [(.long (0 : Int64)), (.long r23_w)])
    refine own_st (fun t k => XS.lcmp X23.here hx rfl (hb hby at_130) rfl k) ?_
    show own_Go _ _ _ _ T23 (mkF m 131 _ [(.int (lcmpW r23_w (0 : Int64)))])
    refine own_st (fun t k => XS.ifYes X23.here hx rfl (pc0 := 131) (pc' := 136) rfl (hb hby at_131) rfl (own_lcT (cd := .eq) (own_get0 hq23_0)) (by decide) (by decide) k) ?_
    show own_Go _ _ _ _ T23 (mkF m 136 _ [])
    refine own_st (fun t k => XS.aload X23.here hx rfl (hb hby at_136) rfl rfl k) ?_
    show own_Go _ _ _ _ T23 (mkF m 138 _ [(.ref b9)])
    refine own_st (fun t k => XS.iload X23.here hx rfl (hb hby at_138) rfl k) ?_
    show own_Go _ _ _ _ T23 (mkF m 140 _ [(.int v3), (.ref b9)])
    obtain ⟨cq25, kq25, q25a, q25b, q25c⟩ := isOf hZ eq23 fc0
    obtain ⟨_, _, ⟨T25, L25, k25, n25⟩, -, X25, ⟨Lc25, hQ25, l25, y25, z25⟩, st25⟩ := X23.virtualBack hx (y := (⟨"com/example/premise/premise/store/Skips", "get", "(I)J"⟩ : MethodName)) (z := (⟨"com/example/premise/premise/store/Skips", "get", "(I)J"⟩ : MethodName)) hown (mvT hZ (hw _ (List.mem_of_getElem? (i := 42) rfl))) (mvT hZ (hw _ (List.mem_of_getElem? (i := 43) rfl))) (notFace_of_selects (args := #[]) (mvT hZ (hw _ (List.mem_of_getElem? (i := 45) rfl)))) (mvT hZ (hw _ (List.mem_of_getElem? (i := 45) rfl))) (mvT hZ (hw _ (List.mem_of_getElem? (i := 44) rfl))) (by decide) (backOf (W := 0) (rm9 l Z a0 hw [] b9 v3 st sk ki kj (fun _ => (0 : Int32)) (fun _ => (0 : Int64)) (0 : Int32) hc n0 Zc fc0 fc1 fc2 fc3 fc4 fc5 ⟨0, by decide, rfl⟩) hZ (hw _ (List.mem_of_getElem? (i := 46) rfl)) (hw _ (List.mem_of_getElem? (i := 7) rfl)) (by decide) (by decide)) q25a q25c (g := (mkF m 140 #[.val (.int x0), .val (.int x1), .val (.int x2), .val (.int x3), .val (.int x4), .val (.int x5), .val (.int v1), .val (.int v2), .val (.int v3), .val (.int v4), .val (.int v7), .val (.int v8), .val (.ref b9), .unset, .unset] [(.int v3), (.ref b9)])) rfl (by rw [hml]; rfl) (Steps.refl _) (argsL := [(.int v3)]) (rest := []) (lenOf own_pd__I_J rfl) rfl (by show 2 * 0 + _ ≤ _; exact Nat.le_of_eq rfl) (hb hby at_140) (fun _ _ => ⟨rfl, eq23, (by decide : 5 + 0 ≤ _), (by decide : 67 + 0 ≤ _)⟩)
    dsimp only [Pt.U, Pt.locs, Pt.cells, Pt.slots] at X25 l25 y25 z25 st25 hQ25
    subst l25 y25 z25
    obtain ⟨r25_w, rfl, NQ25, eq25, hq25_0⟩ := hQ25
    have N26 := Fr.app N24 NQ25
    refine own_st (fun t k => st25.trans k) ?_
    show own_Go _ _ _ _ T25 (mkF m 143 _ [(.long r25_w)])
    refine own_st (fun t k => XS.lconst X25.here hx rfl (hb hby at_143) k) ?_
    show own_Go _ _ _ _ T25 (mkF m 144 _ [(.long (0 : Int64)), (.long r25_w)])
    refine own_st (fun t k => XS.lcmp X25.here hx rfl (hb hby at_144) rfl k) ?_
    show own_Go _ _ _ _ T25 (mkF m 145 _ [(.int (lcmpW r25_w (0 : Int64)))])
    refine own_st (fun t k => XS.ifYes X25.here hx rfl (pc0 := 145) (pc' := 150) rfl (hb hby at_145) rfl (own_lcT (cd := .eq) (own_get0 hq25_0)) (by decide) (by decide) k) ?_
    show own_Go _ _ _ _ T25 (mkF m 150 _ [])
    refine own_st (fun t k => XS.aload X25.here hx rfl (hb hby at_150) rfl rfl k) ?_
    show own_Go _ _ _ _ T25 (mkF m 152 _ [(.ref b9)])
    refine own_st (fun t k => XS.iload X25.here hx rfl (hb hby at_152) rfl k) ?_
    show own_Go _ _ _ _ T25 (mkF m 154 _ [(.int v3), (.ref b9)])
    refine own_st (fun t k => XS.iload X25.here hx rfl (hb hby at_154) rfl k) ?_
    show own_Go _ _ _ _ T25 (mkF m 156 _ [(.int v4), (.int v3), (.ref b9)])
    refine own_st (fun t k => XS.iload X25.here hx rfl (hb hby at_156) rfl k) ?_
    show own_Go _ _ _ _ T25 (mkF m 158 _ [(.int v7), (.int v4), (.int v3), (.ref b9)])
    obtain ⟨cq27, kq27, q27a, q27b, q27c⟩ := isOf hZ eq25 fc0
    obtain ⟨_, _, ⟨T27, L27, k27, n27⟩, -, X27, ⟨Lc27, hQ27, l27, y27, z27⟩, st27⟩ := X25.virtualBack hx (y := (⟨"com/example/premise/premise/store/Skips", "put", "(III)V"⟩ : MethodName)) (z := (⟨"com/example/premise/premise/store/Skips", "put", "(III)V"⟩ : MethodName)) hown (mvT hZ (hw _ (List.mem_of_getElem? (i := 20) rfl))) (mvT hZ (hw _ (List.mem_of_getElem? (i := 21) rfl))) (notFace_of_selects (args := #[]) (mvT hZ (hw _ (List.mem_of_getElem? (i := 23) rfl)))) (mvT hZ (hw _ (List.mem_of_getElem? (i := 23) rfl))) (mvT hZ (hw _ (List.mem_of_getElem? (i := 22) rfl))) (by decide) (backOf (W := 0) (rm7 l Z a0 hw [] b9 v3 v4 v7 st sk ki kj (fun _ => (0 : Int32)) (fun _ => (0 : Int64)) (0 : Int32) hc n0 Zc fc0 fc1 fc2 fc3 fc4 fc5 ⟨0, by decide, rfl⟩ (by decide) m1 m2 m3 gx10 gs gk) hZ (hw _ (List.mem_of_getElem? (i := 24) rfl)) (hw _ (List.mem_of_getElem? (i := 7) rfl)) (by decide) (by decide)) q27a q27c (g := (mkF m 158 #[.val (.int x0), .val (.int x1), .val (.int x2), .val (.int x3), .val (.int x4), .val (.int x5), .val (.int v1), .val (.int v2), .val (.int v3), .val (.int v4), .val (.int v7), .val (.int v8), .val (.ref b9), .unset, .unset] [(.int v7), (.int v4), (.int v3), (.ref b9)])) rfl (by rw [hml]; rfl) (Steps.refl _) (argsL := [(.int v3), (.int v4), (.int v7)]) (rest := []) (lenOf own_pd__III_V rfl) rfl (by show 2 * 0 + _ ≤ _; exact Nat.le_of_eq rfl) (hb hby at_158) (fun _ _ => ⟨rfl, eq25, (by decide : 5 + 0 ≤ _), (by decide : 67 + 0 ≤ _)⟩)
    dsimp only [Pt.U, Pt.locs, Pt.cells, Pt.slots] at X27 l27 y27 z27 st27 hQ27
    subst l27 y27 z27
    obtain ⟨r27_r, r27_g2, r27_w2, r27_s2, rfl, NQ27, K27, fq27_0, fq27_1, fq27_2, fq27_3, fq27_4, fq27_5, hq27_0, hq27_1⟩ := hQ27
    have N28 := Fr.app N26 NQ27
    refine own_st (fun t k => st27.trans k) ?_
    have f29 := fc0.keep K27
    have Z30 : n0 ≤ T27.heap.size := Nat.le_trans Zc K27.1
    have one27 := own_one0 (own_nzm hv3) hq27_0 hq27_1
    show own_Go _ _ _ _ T27 (mkF m 161 _ [])
    refine own_st (fun t k => XS.aload X27.here hx rfl (hb hby at_161) rfl rfl k) ?_
    show own_Go _ _ _ _ T27 (mkF m 163 _ [(.ref b9)])
    refine own_st (fun t k => XS.iload X27.here hx rfl (hb hby at_163) rfl k) ?_
    show own_Go _ _ _ _ T27 (mkF m 165 _ [(.int v3), (.ref b9)])
    obtain ⟨cq31, kq31, q31a, q31b, q31c⟩ := isOf hZ rfl fq27_0
    obtain ⟨_, _, ⟨T31, L31, k31, n31⟩, -, X31, ⟨Lc31, hQ31, l31, y31, z31⟩, st31⟩ := X27.virtualBack hx (y := (⟨"com/example/premise/premise/store/Skips", "get", "(I)J"⟩ : MethodName)) (z := (⟨"com/example/premise/premise/store/Skips", "get", "(I)J"⟩ : MethodName)) hown (mvT hZ (hw _ (List.mem_of_getElem? (i := 42) rfl))) (mvT hZ (hw _ (List.mem_of_getElem? (i := 43) rfl))) (notFace_of_selects (args := #[]) (mvT hZ (hw _ (List.mem_of_getElem? (i := 45) rfl)))) (mvT hZ (hw _ (List.mem_of_getElem? (i := 45) rfl))) (mvT hZ (hw _ (List.mem_of_getElem? (i := 44) rfl))) (by decide) (backOf (W := 0) (rm9 l Z a0 hw [] b9 v3 st sk ki kj r27_g2 r27_w2 r27_s2 T27.heap n0 Z30 fq27_0 fq27_1 fq27_2 fq27_3 fq27_4 fq27_5 (own_one_room one27)) hZ (hw _ (List.mem_of_getElem? (i := 46) rfl)) (hw _ (List.mem_of_getElem? (i := 7) rfl)) (by decide) (by decide)) q31a q31c (g := (mkF m 165 #[.val (.int x0), .val (.int x1), .val (.int x2), .val (.int x3), .val (.int x4), .val (.int x5), .val (.int v1), .val (.int v2), .val (.int v3), .val (.int v4), .val (.int v7), .val (.int v8), .val (.ref b9), .unset, .unset] [(.int v3), (.ref b9)])) rfl (by rw [hml]; rfl) (Steps.refl _) (argsL := [(.int v3)]) (rest := []) (lenOf own_pd__I_J rfl) rfl (by show 2 * 0 + _ ≤ _; exact Nat.le_of_eq rfl) (hb hby at_165) (fun _ _ => ⟨rfl, rfl, (by decide : 5 + 0 ≤ _), (by decide : 67 + 0 ≤ _)⟩)
    dsimp only [Pt.U, Pt.locs, Pt.cells, Pt.slots] at X31 l31 y31 z31 st31 hQ31
    subst l31 y31 z31
    obtain ⟨r31_w, rfl, NQ31, eq31, hq31_0⟩ := hQ31
    have N32 := Fr.app N28 NQ31
    refine own_st (fun t k => st31.trans k) ?_
    show own_Go _ _ _ _ T31 (mkF m 168 _ [(.long r31_w)])
    refine own_st (fun t k => XS.lstore X31.here hx rfl (hb hby at_168) rfl (l' := #[.val (.int x0), .val (.int x1), .val (.int x2), .val (.int x3), .val (.int x4), .val (.int x5), .val (.int v1), .val (.int v2), .val (.int v3), .val (.int v4), .val (.int v7), .val (.int v8), .val (.ref b9), .val (.long r31_w), .second]) rfl k) ?_
    show own_Go _ _ _ _ T31 (mkF m 170 #[.val (.int x0), .val (.int x1), .val (.int x2), .val (.int x3), .val (.int x4), .val (.int x5), .val (.int v1), .val (.int v2), .val (.int v3), .val (.int v4), .val (.int v7), .val (.int v8), .val (.ref b9), .val (.long r31_w), .second] [])
    refine own_st (fun t k => XS.lload X31.here hx rfl (hb hby at_170) rfl k) ?_
    show own_Go _ _ _ _ T31 (mkF m 172 _ [(.long r31_w)])
    obtain ⟨_, _, ⟨T33, L33, k33, n33⟩, -, X33, ⟨Lc33, hQ33, l33, y33, z33⟩, st33⟩ := Jvm.LawKit.callS X31 hx (y := (⟨"com/example/premise/premise/store/Skips", "to", "(J)I"⟩ : MethodName)) hown (mvT hZ (hw _ (List.mem_of_getElem? (i := 47) rfl))) (mvT hZ (hw _ (List.mem_of_getElem? (i := 48) rfl))) (mvT hZ (hw _ (List.mem_of_getElem? (i := 7) rfl))) (mvT hZ (hw _ (List.mem_of_getElem? (i := 49) rfl))) (by decide) (backOf (W := 0) (rm4 l Z a0 hw [] r31_w T27.heap n0 Z30 ) hZ (hw _ (List.mem_of_getElem? (i := 49) rfl)) (hw _ (List.mem_of_getElem? (i := 7) rfl)) (by decide) (by decide)) (g := (mkF m 172 #[.val (.int x0), .val (.int x1), .val (.int x2), .val (.int x3), .val (.int x4), .val (.int x5), .val (.int v1), .val (.int v2), .val (.int v3), .val (.int v4), .val (.int v7), .val (.int v8), .val (.ref b9), .val (.long r31_w), .second] [(.long r31_w)])) rfl (by rw [hml]; rfl) (argsL := [(.long r31_w)]) (rest := []) (lenOf own_pd__J_I rfl) rfl (by show 2 * 0 + _ ≤ _; exact Nat.le_of_eq rfl) (hb hby at_172) (fun _ _ => ⟨rfl, eq31, (by decide : 5 + 0 ≤ _), (by decide : 67 + 0 ≤ _)⟩)
    dsimp only [Pt.U, Pt.locs, Pt.cells, Pt.slots] at X33 l33 y33 z33 st33 hQ33
    subst l33 y33 z33
    obtain ⟨rfl, NQ33, eq33⟩ := hQ33
    have N34 := Fr.app N32 NQ33
    refine own_st st33 ?_
    show own_Go _ _ _ _ T33 (mkF m 175 _ [(.int (own_to r31_w))])
    refine own_st (fun t k => XS.iload X33.here hx rfl (hb hby at_175) rfl k) ?_
    show own_Go _ _ _ _ T33 (mkF m 177 _ [(.int v4), (.int (own_to r31_w))])
    refine own_st (fun t k => XS.icmpNo X33.here hx rfl (hb hby at_177) rfl (teq (by rw [own_one_hit one27 (own_nzm hv3) hq31_0]; exact own_to_pack _ _)).2 k) ?_
    show own_Go _ _ _ _ T33 (mkF m 180 _ [])
    refine own_st (fun t k => XS.lload X33.here hx rfl (hb hby at_180) rfl k) ?_
    show own_Go _ _ _ _ T33 (mkF m 182 _ [(.long r31_w)])
    obtain ⟨_, _, ⟨T35, L35, k35, n35⟩, -, X35, ⟨Lc35, hQ35, l35, y35, z35⟩, st35⟩ := Jvm.LawKit.callS X33 hx (y := (⟨"com/example/premise/premise/store/Skips", "removal", "(J)I"⟩ : MethodName)) hown (mvT hZ (hw _ (List.mem_of_getElem? (i := 50) rfl))) (mvT hZ (hw _ (List.mem_of_getElem? (i := 51) rfl))) (mvT hZ (hw _ (List.mem_of_getElem? (i := 7) rfl))) (mvT hZ (hw _ (List.mem_of_getElem? (i := 52) rfl))) (by decide) (backOf (W := 0) (rm5 l Z a0 hw [] r31_w T27.heap n0 Z30 ) hZ (hw _ (List.mem_of_getElem? (i := 52) rfl)) (hw _ (List.mem_of_getElem? (i := 7) rfl)) (by decide) (by decide)) (g := (mkF m 182 #[.val (.int x0), .val (.int x1), .val (.int x2), .val (.int x3), .val (.int x4), .val (.int x5), .val (.int v1), .val (.int v2), .val (.int v3), .val (.int v4), .val (.int v7), .val (.int v8), .val (.ref b9), .val (.long r31_w), .second] [(.long r31_w)])) rfl (by rw [hml]; rfl) (argsL := [(.long r31_w)]) (rest := []) (lenOf own_pd__J_I rfl) rfl (by show 2 * 0 + _ ≤ _; exact Nat.le_of_eq rfl) (hb hby at_182) (fun _ _ => ⟨rfl, eq33, (by decide : 5 + 0 ≤ _), (by decide : 67 + 0 ≤ _)⟩)
    dsimp only [Pt.U, Pt.locs, Pt.cells, Pt.slots] at X35 l35 y35 z35 st35 hQ35
    subst l35 y35 z35
    obtain ⟨rfl, NQ35, eq35⟩ := hQ35
    have N36 := Fr.app N34 NQ35
    refine own_st st35 ?_
    show own_Go _ _ _ _ T35 (mkF m 185 _ [(.int (own_removal r31_w))])
    refine own_st (fun t k => XS.iload X35.here hx rfl (hb hby at_185) rfl k) ?_
    show own_Go _ _ _ _ T35 (mkF m 187 _ [(.int v7), (.int (own_removal r31_w))])
    refine own_st (fun t k => XS.icmpYes X35.here hx rfl (pc0 := 187) (pc' := 192) rfl (hb hby at_187) rfl (teq (by rw [own_one_hit one27 (own_nzm hv3) hq31_0]; exact own_rem_pack _ _)).1 (by decide) (by decide) k) ?_
    show own_Go _ _ _ _ T35 (mkF m 192 _ [])
    refine own_st (fun t k => XS.iload X35.here hx rfl (hb hby at_192) rfl k) ?_
    show own_Go _ _ _ _ T35 (mkF m 194 _ [(.int v1)])
    refine own_st (fun t k => XS.iload X35.here hx rfl (hb hby at_194) rfl k) ?_
    show own_Go _ _ _ _ T35 (mkF m 196 _ [(.int v3), (.int v1)])
    by_cases c37 : v1 = v3
    · skip
      refine own_st (fun t k => XS.icmpYes X35.here hx rfl (pc0 := 196) (pc' := 213) rfl (hb hby at_196) rfl (teq c37).1 (by decide) (by decide) k) ?_
      show own_Go _ _ _ _ T35 (mkF m 213 _ [])
      refine own_st (fun t k => XS.iload X35.here hx rfl (hb hby at_213) rfl k) ?_
      show own_Go _ _ _ _ T35 (mkF m 215 _ [(.int v2)])
      refine own_st (fun t k => XS.iload X35.here hx rfl (hb hby at_215) rfl k) ?_
      show own_Go _ _ _ _ T35 (mkF m 217 _ [(.int v3), (.int v2)])
      by_cases c38 : v2 = v3
      · skip
        refine own_st (fun t k => XS.icmpYes X35.here hx rfl (pc0 := 217) (pc' := 234) rfl (hb hby at_217) rfl (teq c38).1 (by decide) (by decide) k) ?_
        show own_Go _ _ _ _ T35 (mkF m 234 _ [])
        refine own_st (fun t k => XS.iconst X35.here hx rfl (hb hby at_234) k) ?_
        show own_Go _ _ _ _ T35 (mkF m 235 _ [(.int (1 : Int32))])
        subst hPq
        refine own_out X35 (v := some (.int (nar .boolean (1 : Int32)))) (fun h => by rw [Bd.returns] at h; cases h) Bd.notSynchronized (fun fs hr => retN X35 hx (t := .boolean) Bd.returns (by simp) (hb hby at_235) hr) (by decide) (by decide) ?_
        show Q0 Z x0 x1 x2 x3 x4 x5 h0 n0 _ T35.heap _
        rw [eq35]
        exact ⟨congrArg (fun z => some (Value.int (nar .boolean z))) (own_law x0 x1 x2 x3 x4 x5 v1 v2 v3 v4 v7 v8 r15_ki r15_kj r21_w r23_w r25_w r27_r r27_g2 r27_w2 r27_s2 r31_w hv1 hv2 hv3 hv4 hv7 hv8 hq21_0 hq23_0 hq25_0 hq27_0 hq27_1 hq31_0 c37 c38), N36⟩
      · skip
        refine own_st (fun t k => XS.icmpNo X35.here hx rfl (hb hby at_217) rfl (feq c38).1 k) ?_
        show own_Go _ _ _ _ T35 (mkF m 220 _ [])
        refine own_st (fun t k => XS.aload X35.here hx rfl (hb hby at_220) rfl rfl k) ?_
        show own_Go _ _ _ _ T35 (mkF m 222 _ [(.ref b9)])
        refine own_st (fun t k => XS.iload X35.here hx rfl (hb hby at_222) rfl k) ?_
        show own_Go _ _ _ _ T35 (mkF m 224 _ [(.int v2), (.ref b9)])
        obtain ⟨cq39, kq39, q39a, q39b, q39c⟩ := isOf hZ eq35 fq27_0
        obtain ⟨_, _, ⟨T39, L39, k39, n39⟩, -, X39, ⟨Lc39, hQ39, l39, y39, z39⟩, st39⟩ := X35.virtualBack hx (y := (⟨"com/example/premise/premise/store/Skips", "get", "(I)J"⟩ : MethodName)) (z := (⟨"com/example/premise/premise/store/Skips", "get", "(I)J"⟩ : MethodName)) hown (mvT hZ (hw _ (List.mem_of_getElem? (i := 42) rfl))) (mvT hZ (hw _ (List.mem_of_getElem? (i := 43) rfl))) (notFace_of_selects (args := #[]) (mvT hZ (hw _ (List.mem_of_getElem? (i := 45) rfl)))) (mvT hZ (hw _ (List.mem_of_getElem? (i := 45) rfl))) (mvT hZ (hw _ (List.mem_of_getElem? (i := 44) rfl))) (by decide) (backOf (W := 0) (rm9 l Z a0 hw [] b9 v2 st sk ki kj r27_g2 r27_w2 r27_s2 T27.heap n0 Z30 fq27_0 fq27_1 fq27_2 fq27_3 fq27_4 fq27_5 (own_one_room one27)) hZ (hw _ (List.mem_of_getElem? (i := 46) rfl)) (hw _ (List.mem_of_getElem? (i := 7) rfl)) (by decide) (by decide)) q39a q39c (g := (mkF m 224 #[.val (.int x0), .val (.int x1), .val (.int x2), .val (.int x3), .val (.int x4), .val (.int x5), .val (.int v1), .val (.int v2), .val (.int v3), .val (.int v4), .val (.int v7), .val (.int v8), .val (.ref b9), .val (.long r31_w), .second] [(.int v2), (.ref b9)])) rfl (by rw [hml]; rfl) (Steps.refl _) (argsL := [(.int v2)]) (rest := []) (lenOf own_pd__I_J rfl) rfl (by show 2 * 0 + _ ≤ _; exact Nat.le_of_eq rfl) (hb hby at_224) (fun _ _ => ⟨rfl, eq35, (by decide : 5 + 0 ≤ _), (by decide : 67 + 0 ≤ _)⟩)
        dsimp only [Pt.U, Pt.locs, Pt.cells, Pt.slots] at X39 l39 y39 z39 st39 hQ39
        subst l39 y39 z39
        obtain ⟨r39_w, rfl, NQ39, eq39, hq39_0⟩ := hQ39
        have N40 := Fr.app N36 NQ39
        refine own_st (fun t k => st39.trans k) ?_
        show own_Go _ _ _ _ T39 (mkF m 227 _ [(.long r39_w)])
        refine own_st (fun t k => XS.lconst X39.here hx rfl (hb hby at_227) k) ?_
        show own_Go _ _ _ _ T39 (mkF m 228 _ [(.long (0 : Int64)), (.long r39_w)])
        refine own_st (fun t k => XS.lcmp X39.here hx rfl (hb hby at_228) rfl k) ?_
        show own_Go _ _ _ _ T39 (mkF m 229 _ [(.int (lcmpW r39_w (0 : Int64)))])
        refine own_st (fun t k => XS.ifYes X39.here hx rfl (pc0 := 229) (pc' := 234) rfl (hb hby at_229) rfl (own_lcT (cd := .eq) (own_one_miss one27 (own_nzm hv3) c38 hq39_0)) (by decide) (by decide) k) ?_
        show own_Go _ _ _ _ T39 (mkF m 234 _ [])
        refine own_st (fun t k => XS.iconst X39.here hx rfl (hb hby at_234) k) ?_
        show own_Go _ _ _ _ T39 (mkF m 235 _ [(.int (1 : Int32))])
        subst hPq
        refine own_out X39 (v := some (.int (nar .boolean (1 : Int32)))) (fun h => by rw [Bd.returns] at h; cases h) Bd.notSynchronized (fun fs hr => retN X39 hx (t := .boolean) Bd.returns (by simp) (hb hby at_235) hr) (by decide) (by decide) ?_
        show Q0 Z x0 x1 x2 x3 x4 x5 h0 n0 _ T39.heap _
        rw [eq39]
        exact ⟨congrArg (fun z => some (Value.int (nar .boolean z))) (own_law2 x0 x1 x2 x3 x4 x5 v1 v2 v3 v4 v7 v8 r15_ki r15_kj r21_w r23_w r25_w r27_r r27_g2 r27_w2 r27_s2 r31_w r39_w hv1 hv2 hv3 hv4 hv7 hv8 hq21_0 hq23_0 hq25_0 hq27_0 hq27_1 hq31_0 hq39_0 c37 c38), N40⟩
    · skip
      refine own_st (fun t k => XS.icmpNo X35.here hx rfl (hb hby at_196) rfl (feq c37).1 k) ?_
      show own_Go _ _ _ _ T35 (mkF m 199 _ [])
      refine own_st (fun t k => XS.aload X35.here hx rfl (hb hby at_199) rfl rfl k) ?_
      show own_Go _ _ _ _ T35 (mkF m 201 _ [(.ref b9)])
      refine own_st (fun t k => XS.iload X35.here hx rfl (hb hby at_201) rfl k) ?_
      show own_Go _ _ _ _ T35 (mkF m 203 _ [(.int v1), (.ref b9)])
      obtain ⟨cq41, kq41, q41a, q41b, q41c⟩ := isOf hZ eq35 fq27_0
      obtain ⟨_, _, ⟨T41, L41, k41, n41⟩, -, X41, ⟨Lc41, hQ41, l41, y41, z41⟩, st41⟩ := X35.virtualBack hx (y := (⟨"com/example/premise/premise/store/Skips", "get", "(I)J"⟩ : MethodName)) (z := (⟨"com/example/premise/premise/store/Skips", "get", "(I)J"⟩ : MethodName)) hown (mvT hZ (hw _ (List.mem_of_getElem? (i := 42) rfl))) (mvT hZ (hw _ (List.mem_of_getElem? (i := 43) rfl))) (notFace_of_selects (args := #[]) (mvT hZ (hw _ (List.mem_of_getElem? (i := 45) rfl)))) (mvT hZ (hw _ (List.mem_of_getElem? (i := 45) rfl))) (mvT hZ (hw _ (List.mem_of_getElem? (i := 44) rfl))) (by decide) (backOf (W := 0) (rm9 l Z a0 hw [] b9 v1 st sk ki kj r27_g2 r27_w2 r27_s2 T27.heap n0 Z30 fq27_0 fq27_1 fq27_2 fq27_3 fq27_4 fq27_5 (own_one_room one27)) hZ (hw _ (List.mem_of_getElem? (i := 46) rfl)) (hw _ (List.mem_of_getElem? (i := 7) rfl)) (by decide) (by decide)) q41a q41c (g := (mkF m 203 #[.val (.int x0), .val (.int x1), .val (.int x2), .val (.int x3), .val (.int x4), .val (.int x5), .val (.int v1), .val (.int v2), .val (.int v3), .val (.int v4), .val (.int v7), .val (.int v8), .val (.ref b9), .val (.long r31_w), .second] [(.int v1), (.ref b9)])) rfl (by rw [hml]; rfl) (Steps.refl _) (argsL := [(.int v1)]) (rest := []) (lenOf own_pd__I_J rfl) rfl (by show 2 * 0 + _ ≤ _; exact Nat.le_of_eq rfl) (hb hby at_203) (fun _ _ => ⟨rfl, eq35, (by decide : 5 + 0 ≤ _), (by decide : 67 + 0 ≤ _)⟩)
      dsimp only [Pt.U, Pt.locs, Pt.cells, Pt.slots] at X41 l41 y41 z41 st41 hQ41
      subst l41 y41 z41
      obtain ⟨r41_w, rfl, NQ41, eq41, hq41_0⟩ := hQ41
      have N42 := Fr.app N36 NQ41
      refine own_st (fun t k => st41.trans k) ?_
      show own_Go _ _ _ _ T41 (mkF m 206 _ [(.long r41_w)])
      refine own_st (fun t k => XS.lconst X41.here hx rfl (hb hby at_206) k) ?_
      show own_Go _ _ _ _ T41 (mkF m 207 _ [(.long (0 : Int64)), (.long r41_w)])
      refine own_st (fun t k => XS.lcmp X41.here hx rfl (hb hby at_207) rfl k) ?_
      show own_Go _ _ _ _ T41 (mkF m 208 _ [(.int (lcmpW r41_w (0 : Int64)))])
      refine own_st (fun t k => XS.ifYes X41.here hx rfl (pc0 := 208) (pc' := 213) rfl (hb hby at_208) rfl (own_lcT (cd := .eq) (own_one_miss one27 (own_nzm hv3) c37 hq41_0)) (by decide) (by decide) k) ?_
      show own_Go _ _ _ _ T41 (mkF m 213 _ [])
      refine own_st (fun t k => XS.iload X41.here hx rfl (hb hby at_213) rfl k) ?_
      show own_Go _ _ _ _ T41 (mkF m 215 _ [(.int v2)])
      refine own_st (fun t k => XS.iload X41.here hx rfl (hb hby at_215) rfl k) ?_
      show own_Go _ _ _ _ T41 (mkF m 217 _ [(.int v3), (.int v2)])
      by_cases c43 : v2 = v3
      · skip
        refine own_st (fun t k => XS.icmpYes X41.here hx rfl (pc0 := 217) (pc' := 234) rfl (hb hby at_217) rfl (teq c43).1 (by decide) (by decide) k) ?_
        show own_Go _ _ _ _ T41 (mkF m 234 _ [])
        refine own_st (fun t k => XS.iconst X41.here hx rfl (hb hby at_234) k) ?_
        show own_Go _ _ _ _ T41 (mkF m 235 _ [(.int (1 : Int32))])
        subst hPq
        refine own_out X41 (v := some (.int (nar .boolean (1 : Int32)))) (fun h => by rw [Bd.returns] at h; cases h) Bd.notSynchronized (fun fs hr => retN X41 hx (t := .boolean) Bd.returns (by simp) (hb hby at_235) hr) (by decide) (by decide) ?_
        show Q0 Z x0 x1 x2 x3 x4 x5 h0 n0 _ T41.heap _
        rw [eq41]
        exact ⟨congrArg (fun z => some (Value.int (nar .boolean z))) (own_law3 x0 x1 x2 x3 x4 x5 v1 v2 v3 v4 v7 v8 r15_ki r15_kj r21_w r23_w r25_w r27_r r27_g2 r27_w2 r27_s2 r31_w r41_w hv1 hv2 hv3 hv4 hv7 hv8 hq21_0 hq23_0 hq25_0 hq27_0 hq27_1 hq31_0 hq41_0 c37 c43), N42⟩
      · skip
        refine own_st (fun t k => XS.icmpNo X41.here hx rfl (hb hby at_217) rfl (feq c43).1 k) ?_
        show own_Go _ _ _ _ T41 (mkF m 220 _ [])
        refine own_st (fun t k => XS.aload X41.here hx rfl (hb hby at_220) rfl rfl k) ?_
        show own_Go _ _ _ _ T41 (mkF m 222 _ [(.ref b9)])
        refine own_st (fun t k => XS.iload X41.here hx rfl (hb hby at_222) rfl k) ?_
        show own_Go _ _ _ _ T41 (mkF m 224 _ [(.int v2), (.ref b9)])
        obtain ⟨cq44, kq44, q44a, q44b, q44c⟩ := isOf hZ eq41 fq27_0
        obtain ⟨_, _, ⟨T44, L44, k44, n44⟩, -, X44, ⟨Lc44, hQ44, l44, y44, z44⟩, st44⟩ := X41.virtualBack hx (y := (⟨"com/example/premise/premise/store/Skips", "get", "(I)J"⟩ : MethodName)) (z := (⟨"com/example/premise/premise/store/Skips", "get", "(I)J"⟩ : MethodName)) hown (mvT hZ (hw _ (List.mem_of_getElem? (i := 42) rfl))) (mvT hZ (hw _ (List.mem_of_getElem? (i := 43) rfl))) (notFace_of_selects (args := #[]) (mvT hZ (hw _ (List.mem_of_getElem? (i := 45) rfl)))) (mvT hZ (hw _ (List.mem_of_getElem? (i := 45) rfl))) (mvT hZ (hw _ (List.mem_of_getElem? (i := 44) rfl))) (by decide) (backOf (W := 0) (rm9 l Z a0 hw [] b9 v2 st sk ki kj r27_g2 r27_w2 r27_s2 T27.heap n0 Z30 fq27_0 fq27_1 fq27_2 fq27_3 fq27_4 fq27_5 (own_one_room one27)) hZ (hw _ (List.mem_of_getElem? (i := 46) rfl)) (hw _ (List.mem_of_getElem? (i := 7) rfl)) (by decide) (by decide)) q44a q44c (g := (mkF m 224 #[.val (.int x0), .val (.int x1), .val (.int x2), .val (.int x3), .val (.int x4), .val (.int x5), .val (.int v1), .val (.int v2), .val (.int v3), .val (.int v4), .val (.int v7), .val (.int v8), .val (.ref b9), .val (.long r31_w), .second] [(.int v2), (.ref b9)])) rfl (by rw [hml]; rfl) (Steps.refl _) (argsL := [(.int v2)]) (rest := []) (lenOf own_pd__I_J rfl) rfl (by show 2 * 0 + _ ≤ _; exact Nat.le_of_eq rfl) (hb hby at_224) (fun _ _ => ⟨rfl, eq41, (by decide : 5 + 0 ≤ _), (by decide : 67 + 0 ≤ _)⟩)
        dsimp only [Pt.U, Pt.locs, Pt.cells, Pt.slots] at X44 l44 y44 z44 st44 hQ44
        subst l44 y44 z44
        obtain ⟨r44_w, rfl, NQ44, eq44, hq44_0⟩ := hQ44
        have N45 := Fr.app N42 NQ44
        refine own_st (fun t k => st44.trans k) ?_
        show own_Go _ _ _ _ T44 (mkF m 227 _ [(.long r44_w)])
        refine own_st (fun t k => XS.lconst X44.here hx rfl (hb hby at_227) k) ?_
        show own_Go _ _ _ _ T44 (mkF m 228 _ [(.long (0 : Int64)), (.long r44_w)])
        refine own_st (fun t k => XS.lcmp X44.here hx rfl (hb hby at_228) rfl k) ?_
        show own_Go _ _ _ _ T44 (mkF m 229 _ [(.int (lcmpW r44_w (0 : Int64)))])
        refine own_st (fun t k => XS.ifYes X44.here hx rfl (pc0 := 229) (pc' := 234) rfl (hb hby at_229) rfl (own_lcT (cd := .eq) (own_one_miss one27 (own_nzm hv3) c43 hq44_0)) (by decide) (by decide) k) ?_
        show own_Go _ _ _ _ T44 (mkF m 234 _ [])
        refine own_st (fun t k => XS.iconst X44.here hx rfl (hb hby at_234) k) ?_
        show own_Go _ _ _ _ T44 (mkF m 235 _ [(.int (1 : Int32))])
        subst hPq
        refine own_out X44 (v := some (.int (nar .boolean (1 : Int32)))) (fun h => by rw [Bd.returns] at h; cases h) Bd.notSynchronized (fun fs hr => retN X44 hx (t := .boolean) Bd.returns (by simp) (hb hby at_235) hr) (by decide) (by decide) ?_
        show Q0 Z x0 x1 x2 x3 x4 x5 h0 n0 _ T44.heap _
        rw [eq44]
        exact ⟨congrArg (fun z => some (Value.int (nar .boolean z))) (own_law4 x0 x1 x2 x3 x4 x5 v1 v2 v3 v4 v7 v8 r15_ki r15_kj r21_w r23_w r25_w r27_r r27_g2 r27_w2 r27_s2 r31_w r41_w r44_w hv1 hv2 hv3 hv4 hv7 hv8 hq21_0 hq23_0 hq25_0 hq27_0 hq27_1 hq31_0 hq41_0 hq44_0 c37 c43), N45⟩
  refine own_st (fun t k => XS.iload X15.here hx rfl (hb hby at_52) rfl k) ?_
  show own_Go _ _ _ _ T15 (mkF m 54 _ [(.int v8)])
  refine own_st (fun t k => XS.iconst X15.here hx rfl (hb hby at_54) k) ?_
  show own_Go _ _ _ _ T15 (mkF m 55 _ [(.int (1 : Int32)), (.int v8)])
  by_cases c46 : v8 < (1 : Int32)
  · skip
    refine own_st (fun t k => XS.icmpYes X15.here hx rfl (pc0 := 55) (pc' := 69) rfl (hb hby at_55) rfl (tlt c46).1 (by decide) (by decide) k) ?_
    show own_Go _ _ _ _ T15 (mkF m 69 _ [])
    refine own_st (fun t k => XS.iload X15.here hx rfl (hb hby at_69) rfl k) ?_
    show own_Go _ _ _ _ T15 (mkF m 71 _ [(.int v8)])
    refine own_st (fun t k => XS.iconst X15.here hx rfl (hb hby at_71) k) ?_
    show own_Go _ _ _ _ T15 (mkF m 72 _ [(.int (2 : Int32)), (.int v8)])
    refine own_st (fun t k => XS.icmpYes X15.here hx rfl (pc0 := 72) (pc' := 86) rfl (hb hby at_72) rfl (tlt (own_lt12 c46)).1 (by decide) (by decide) k) ?_
    show own_Go _ _ _ _ T15 (mkF m 86 _ [])
    refine own_st (fun t k => XS.iload X15.here hx rfl (hb hby at_86) rfl k) ?_
    show own_Go _ _ _ _ T15 (mkF m 88 _ [(.int v8)])
    refine own_st (fun t k => XS.iconst X15.here hx rfl (hb hby at_88) k) ?_
    show own_Go _ _ _ _ T15 (mkF m 89 _ [(.int (3 : Int32)), (.int v8)])
    by_cases c47 : v8 < (3 : Int32)
    · skip
      refine own_st (fun t k => XS.icmpYes X15.here hx rfl (pc0 := 89) (pc' := 103) rfl (hb hby at_89) rfl (tlt c47).1 (by decide) (by decide) k) ?_
      show own_Go _ _ _ _ T15 (mkF m 103 _ [])
      refine own_st (fun t k => XS.aload X15.here hx rfl (hb hby at_103) rfl rfl k) ?_
      show own_Go _ _ _ _ T15 (mkF m 105 _ [(.ref b9)])
      obtain ⟨cq48, kq48, q48a, q48b, q48c⟩ := isOf hZ rfl fq15_0
      obtain ⟨_, _, ⟨T48, L48, k48, n48⟩, -, X48, ⟨Lc48, hQ48, l48, y48, z48⟩, st48⟩ := X15.virtualBack hx (y := (⟨"com/example/premise/premise/store/Skips", "clear", "()V"⟩ : MethodName)) (z := (⟨"com/example/premise/premise/store/Skips", "clear", "()V"⟩ : MethodName)) hown (mvT hZ (hw _ (List.mem_of_getElem? (i := 37) rfl))) (mvT hZ (hw _ (List.mem_of_getElem? (i := 38) rfl))) (notFace_of_selects (args := #[]) (mvT hZ (hw _ (List.mem_of_getElem? (i := 40) rfl)))) (mvT hZ (hw _ (List.mem_of_getElem? (i := 40) rfl))) (mvT hZ (hw _ (List.mem_of_getElem? (i := 39) rfl))) (by decide) (backOf (W := 0) (rm8 l Z a0 hw [] b9 b15_st b15_sk r15_ki r15_kj (fun _ => (0 : Int32)) (fun _ => (0 : Int64)) (0 : Int32) T15.heap n0 Z18 fq15_0 fq15_1 fq15_2 fq15_3 fq15_4 fq15_5 (Ne.symm ne19) (Ne.symm ne20) hq15_0 gx_b15_st gx_b15_sk own_pi0.2.2.2 gx10) hZ (hw _ (List.mem_of_getElem? (i := 41) rfl)) (hw _ (List.mem_of_getElem? (i := 7) rfl)) (by decide) (by decide)) q48a q48c (g := (mkF m 105 #[.val (.int x0), .val (.int x1), .val (.int x2), .val (.int x3), .val (.int x4), .val (.int x5), .val (.int v1), .val (.int v2), .val (.int v3), .val (.int v4), .val (.int v7), .val (.int v8), .val (.ref b9), .unset, .unset] [(.ref b9)])) rfl (by rw [hml]; rfl) (Steps.refl _) (argsL := []) (rest := []) (lenOf own_pd___V rfl) rfl (by show 2 * 0 + _ ≤ _; exact Nat.le_of_eq rfl) (hb hby at_105) (fun _ _ => ⟨rfl, rfl, (by decide : 3 + 2 ≤ _), (by decide : 35 + 32 ≤ _)⟩)
      dsimp only [Pt.U, Pt.locs, Pt.cells, Pt.slots] at X48 l48 y48 z48 st48 hQ48
      subst l48 y48 z48
      obtain ⟨r48_st2, r48_sk2, r48_ki2, r48_kj2, rfl, NQ48, K48, fq48_0, fq48_1, fq48_2, fq48_3, fq48_4, fq48_5, hq48_0, hq48_1, hq48_2, hq48_3, hq48_4⟩ := hQ48
      have N49 := Fr.app N16 NQ48
      refine own_st (fun t k => st48.trans k) ?_
      have f50 := fq15_0.keep K48
      have f51 := fq15_4.keep K48 (ninS (Ne.symm ne19) nin0)
      have f52 := fq15_5.keep K48 (ninS (Ne.symm ne20) nin0)
      have Z53 : n0 ≤ T48.heap.size := Nat.le_trans Z18 K48.1
      show own_Go _ _ _ _ T48 (mkF m 108 _ [])
      exact J108 T48 _ _ r48_st2 r48_sk2 _ _ X48 rfl N49 Z53 fq48_0 fq48_1 fq48_2 fq48_3 fq48_4 fq48_5 hq48_0 hq48_1 hq48_2 hq48_3 hq48_4
    · skip
      refine own_st (fun t k => XS.icmpNo X15.here hx rfl (hb hby at_89) rfl (flt c47).1 k) ?_
      show own_Go _ _ _ _ T15 (mkF m 92 _ [])
      refine own_st (fun t k => XS.aload X15.here hx rfl (hb hby at_92) rfl rfl k) ?_
      show own_Go _ _ _ _ T15 (mkF m 94 _ [(.ref b9)])
      refine own_st (fun t k => XS.iload X15.here hx rfl (hb hby at_94) rfl k) ?_
      show own_Go _ _ _ _ T15 (mkF m 96 _ [(.int v3), (.ref b9)])
      refine own_st (fun t k => XS.iload X15.here hx rfl (hb hby at_96) rfl k) ?_
      show own_Go _ _ _ _ T15 (mkF m 98 _ [(.int v4), (.int v3), (.ref b9)])
      refine own_st (fun t k => XS.iload X15.here hx rfl (hb hby at_98) rfl k) ?_
      show own_Go _ _ _ _ T15 (mkF m 100 _ [(.int v7), (.int v4), (.int v3), (.ref b9)])
      obtain ⟨cq54, kq54, q54a, q54b, q54c⟩ := isOf hZ rfl fq15_0
      obtain ⟨_, _, ⟨T54, L54, k54, n54⟩, -, X54, ⟨Lc54, hQ54, l54, y54, z54⟩, st54⟩ := X15.virtualBack hx (y := (⟨"com/example/premise/premise/store/Skips", "put", "(III)V"⟩ : MethodName)) (z := (⟨"com/example/premise/premise/store/Skips", "put", "(III)V"⟩ : MethodName)) hown (mvT hZ (hw _ (List.mem_of_getElem? (i := 20) rfl))) (mvT hZ (hw _ (List.mem_of_getElem? (i := 21) rfl))) (notFace_of_selects (args := #[]) (mvT hZ (hw _ (List.mem_of_getElem? (i := 23) rfl)))) (mvT hZ (hw _ (List.mem_of_getElem? (i := 23) rfl))) (mvT hZ (hw _ (List.mem_of_getElem? (i := 22) rfl))) (by decide) (backOf (W := 0) (rm7 l Z a0 hw [] b9 v3 v4 v7 b15_st b15_sk r15_ki r15_kj (fun _ => (0 : Int32)) (fun _ => (0 : Int64)) (0 : Int32) T15.heap n0 Z18 fq15_0 fq15_1 fq15_2 fq15_3 fq15_4 fq15_5 (own_piroom own_pi0 (by decide)) (own_pisz own_pi0 (by decide)) (Ne.symm ne19) (Ne.symm ne20) hq15_0 gx10 gx_b15_st gx_b15_sk) hZ (hw _ (List.mem_of_getElem? (i := 24) rfl)) (hw _ (List.mem_of_getElem? (i := 7) rfl)) (by decide) (by decide)) q54a q54c (g := (mkF m 100 #[.val (.int x0), .val (.int x1), .val (.int x2), .val (.int x3), .val (.int x4), .val (.int x5), .val (.int v1), .val (.int v2), .val (.int v3), .val (.int v4), .val (.int v7), .val (.int v8), .val (.ref b9), .unset, .unset] [(.int v7), (.int v4), (.int v3), (.ref b9)])) rfl (by rw [hml]; rfl) (Steps.refl _) (argsL := [(.int v3), (.int v4), (.int v7)]) (rest := []) (lenOf own_pd__III_V rfl) rfl (by show 2 * 0 + _ ≤ _; exact Nat.le_of_eq rfl) (hb hby at_100) (fun _ _ => ⟨rfl, rfl, (by decide : 3 + 0 ≤ _), (by decide : 35 + 0 ≤ _)⟩)
      dsimp only [Pt.U, Pt.locs, Pt.cells, Pt.slots] at X54 l54 y54 z54 st54 hQ54
      subst l54 y54 z54
      obtain ⟨r54_r, r54_g2, r54_w2, r54_s2, rfl, NQ54, K54, fq54_0, fq54_1, fq54_2, fq54_3, fq54_4, fq54_5, hq54_0, hq54_1⟩ := hQ54
      have N55 := Fr.app N16 NQ54
      refine own_st (fun t k => st54.trans k) ?_
      have f56 := fq15_0.keep K54
      have Z57 : n0 ≤ T54.heap.size := Nat.le_trans Z18 K54.1
      have pi54 := own_pi1 own_pi0 (by decide) hq54_1
      show own_Go _ _ _ _ T54 (mkF m 103 _ [])
      refine own_st (fun t k => XS.aload X54.here hx rfl (hb hby at_103) rfl rfl k) ?_
      show own_Go _ _ _ _ T54 (mkF m 105 _ [(.ref b9)])
      obtain ⟨cq58, kq58, q58a, q58b, q58c⟩ := isOf hZ rfl fq54_0
      obtain ⟨_, _, ⟨T58, L58, k58, n58⟩, -, X58, ⟨Lc58, hQ58, l58, y58, z58⟩, st58⟩ := X54.virtualBack hx (y := (⟨"com/example/premise/premise/store/Skips", "clear", "()V"⟩ : MethodName)) (z := (⟨"com/example/premise/premise/store/Skips", "clear", "()V"⟩ : MethodName)) hown (mvT hZ (hw _ (List.mem_of_getElem? (i := 37) rfl))) (mvT hZ (hw _ (List.mem_of_getElem? (i := 38) rfl))) (notFace_of_selects (args := #[]) (mvT hZ (hw _ (List.mem_of_getElem? (i := 40) rfl)))) (mvT hZ (hw _ (List.mem_of_getElem? (i := 40) rfl))) (mvT hZ (hw _ (List.mem_of_getElem? (i := 39) rfl))) (by decide) (backOf (W := 0) (rm8 l Z a0 hw [] b9 b15_st b15_sk r15_ki r15_kj r54_g2 r54_w2 r54_s2 T54.heap n0 Z57 fq54_0 fq54_1 fq54_2 fq54_3 fq54_4 fq54_5 (Ne.symm ne19) (Ne.symm ne20) hq15_0 gx_b15_st gx_b15_sk pi54.2.2.2 gx10) hZ (hw _ (List.mem_of_getElem? (i := 41) rfl)) (hw _ (List.mem_of_getElem? (i := 7) rfl)) (by decide) (by decide)) q58a q58c (g := (mkF m 105 #[.val (.int x0), .val (.int x1), .val (.int x2), .val (.int x3), .val (.int x4), .val (.int x5), .val (.int v1), .val (.int v2), .val (.int v3), .val (.int v4), .val (.int v7), .val (.int v8), .val (.ref b9), .unset, .unset] [(.ref b9)])) rfl (by rw [hml]; rfl) (Steps.refl _) (argsL := []) (rest := []) (lenOf own_pd___V rfl) rfl (by show 2 * 0 + _ ≤ _; exact Nat.le_of_eq rfl) (hb hby at_105) (fun _ _ => ⟨rfl, rfl, (by decide : 3 + 2 ≤ _), (by decide : 35 + 32 ≤ _)⟩)
      dsimp only [Pt.U, Pt.locs, Pt.cells, Pt.slots] at X58 l58 y58 z58 st58 hQ58
      subst l58 y58 z58
      obtain ⟨r58_st2, r58_sk2, r58_ki2, r58_kj2, rfl, NQ58, K58, fq58_0, fq58_1, fq58_2, fq58_3, fq58_4, fq58_5, hq58_0, hq58_1, hq58_2, hq58_3, hq58_4⟩ := hQ58
      have N59 := Fr.app N55 NQ58
      refine own_st (fun t k => st58.trans k) ?_
      have f60 := fq54_0.keep K58
      have f61 := fq54_4.keep K58 (ninS (Ne.symm ne19) nin0)
      have f62 := fq54_5.keep K58 (ninS (Ne.symm ne20) nin0)
      have Z63 : n0 ≤ T58.heap.size := Nat.le_trans Z57 K58.1
      show own_Go _ _ _ _ T58 (mkF m 108 _ [])
      exact J108 T58 _ _ r58_st2 r58_sk2 _ _ X58 rfl N59 Z63 fq58_0 fq58_1 fq58_2 fq58_3 fq58_4 fq58_5 hq58_0 hq58_1 hq58_2 hq58_3 hq58_4
  · skip
    refine own_st (fun t k => XS.icmpNo X15.here hx rfl (hb hby at_55) rfl (flt c46).1 k) ?_
    show own_Go _ _ _ _ T15 (mkF m 58 _ [])
    refine own_st (fun t k => XS.aload X15.here hx rfl (hb hby at_58) rfl rfl k) ?_
    show own_Go _ _ _ _ T15 (mkF m 60 _ [(.ref b9)])
    refine own_st (fun t k => XS.iload X15.here hx rfl (hb hby at_60) rfl k) ?_
    show own_Go _ _ _ _ T15 (mkF m 62 _ [(.int v1), (.ref b9)])
    refine own_st (fun t k => XS.iload X15.here hx rfl (hb hby at_62) rfl k) ?_
    show own_Go _ _ _ _ T15 (mkF m 64 _ [(.int v4), (.int v1), (.ref b9)])
    refine own_st (fun t k => XS.iload X15.here hx rfl (hb hby at_64) rfl k) ?_
    show own_Go _ _ _ _ T15 (mkF m 66 _ [(.int v7), (.int v4), (.int v1), (.ref b9)])
    obtain ⟨cq64, kq64, q64a, q64b, q64c⟩ := isOf hZ rfl fq15_0
    obtain ⟨_, _, ⟨T64, L64, k64, n64⟩, -, X64, ⟨Lc64, hQ64, l64, y64, z64⟩, st64⟩ := X15.virtualBack hx (y := (⟨"com/example/premise/premise/store/Skips", "put", "(III)V"⟩ : MethodName)) (z := (⟨"com/example/premise/premise/store/Skips", "put", "(III)V"⟩ : MethodName)) hown (mvT hZ (hw _ (List.mem_of_getElem? (i := 20) rfl))) (mvT hZ (hw _ (List.mem_of_getElem? (i := 21) rfl))) (notFace_of_selects (args := #[]) (mvT hZ (hw _ (List.mem_of_getElem? (i := 23) rfl)))) (mvT hZ (hw _ (List.mem_of_getElem? (i := 23) rfl))) (mvT hZ (hw _ (List.mem_of_getElem? (i := 22) rfl))) (by decide) (backOf (W := 0) (rm7 l Z a0 hw [] b9 v1 v4 v7 b15_st b15_sk r15_ki r15_kj (fun _ => (0 : Int32)) (fun _ => (0 : Int64)) (0 : Int32) T15.heap n0 Z18 fq15_0 fq15_1 fq15_2 fq15_3 fq15_4 fq15_5 (own_piroom own_pi0 (by decide)) (own_pisz own_pi0 (by decide)) (Ne.symm ne19) (Ne.symm ne20) hq15_0 gx10 gx_b15_st gx_b15_sk) hZ (hw _ (List.mem_of_getElem? (i := 24) rfl)) (hw _ (List.mem_of_getElem? (i := 7) rfl)) (by decide) (by decide)) q64a q64c (g := (mkF m 66 #[.val (.int x0), .val (.int x1), .val (.int x2), .val (.int x3), .val (.int x4), .val (.int x5), .val (.int v1), .val (.int v2), .val (.int v3), .val (.int v4), .val (.int v7), .val (.int v8), .val (.ref b9), .unset, .unset] [(.int v7), (.int v4), (.int v1), (.ref b9)])) rfl (by rw [hml]; rfl) (Steps.refl _) (argsL := [(.int v1), (.int v4), (.int v7)]) (rest := []) (lenOf own_pd__III_V rfl) rfl (by show 2 * 0 + _ ≤ _; exact Nat.le_of_eq rfl) (hb hby at_66) (fun _ _ => ⟨rfl, rfl, (by decide : 3 + 0 ≤ _), (by decide : 35 + 0 ≤ _)⟩)
    dsimp only [Pt.U, Pt.locs, Pt.cells, Pt.slots] at X64 l64 y64 z64 st64 hQ64
    subst l64 y64 z64
    obtain ⟨r64_r, r64_g2, r64_w2, r64_s2, rfl, NQ64, K64, fq64_0, fq64_1, fq64_2, fq64_3, fq64_4, fq64_5, hq64_0, hq64_1⟩ := hQ64
    have N65 := Fr.app N16 NQ64
    refine own_st (fun t k => st64.trans k) ?_
    have f66 := fq15_0.keep K64
    have Z67 : n0 ≤ T64.heap.size := Nat.le_trans Z18 K64.1
    have pi64 := own_pi1 own_pi0 (by decide) hq64_1
    show own_Go _ _ _ _ T64 (mkF m 69 _ [])
    refine own_st (fun t k => XS.iload X64.here hx rfl (hb hby at_69) rfl k) ?_
    show own_Go _ _ _ _ T64 (mkF m 71 _ [(.int v8)])
    refine own_st (fun t k => XS.iconst X64.here hx rfl (hb hby at_71) k) ?_
    show own_Go _ _ _ _ T64 (mkF m 72 _ [(.int (2 : Int32)), (.int v8)])
    by_cases c68 : v8 < (2 : Int32)
    · skip
      refine own_st (fun t k => XS.icmpYes X64.here hx rfl (pc0 := 72) (pc' := 86) rfl (hb hby at_72) rfl (tlt c68).1 (by decide) (by decide) k) ?_
      show own_Go _ _ _ _ T64 (mkF m 86 _ [])
      refine own_st (fun t k => XS.iload X64.here hx rfl (hb hby at_86) rfl k) ?_
      show own_Go _ _ _ _ T64 (mkF m 88 _ [(.int v8)])
      refine own_st (fun t k => XS.iconst X64.here hx rfl (hb hby at_88) k) ?_
      show own_Go _ _ _ _ T64 (mkF m 89 _ [(.int (3 : Int32)), (.int v8)])
      refine own_st (fun t k => XS.icmpYes X64.here hx rfl (pc0 := 89) (pc' := 103) rfl (hb hby at_89) rfl (tlt (own_lt23 c68)).1 (by decide) (by decide) k) ?_
      show own_Go _ _ _ _ T64 (mkF m 103 _ [])
      refine own_st (fun t k => XS.aload X64.here hx rfl (hb hby at_103) rfl rfl k) ?_
      show own_Go _ _ _ _ T64 (mkF m 105 _ [(.ref b9)])
      obtain ⟨cq69, kq69, q69a, q69b, q69c⟩ := isOf hZ rfl fq64_0
      obtain ⟨_, _, ⟨T69, L69, k69, n69⟩, -, X69, ⟨Lc69, hQ69, l69, y69, z69⟩, st69⟩ := X64.virtualBack hx (y := (⟨"com/example/premise/premise/store/Skips", "clear", "()V"⟩ : MethodName)) (z := (⟨"com/example/premise/premise/store/Skips", "clear", "()V"⟩ : MethodName)) hown (mvT hZ (hw _ (List.mem_of_getElem? (i := 37) rfl))) (mvT hZ (hw _ (List.mem_of_getElem? (i := 38) rfl))) (notFace_of_selects (args := #[]) (mvT hZ (hw _ (List.mem_of_getElem? (i := 40) rfl)))) (mvT hZ (hw _ (List.mem_of_getElem? (i := 40) rfl))) (mvT hZ (hw _ (List.mem_of_getElem? (i := 39) rfl))) (by decide) (backOf (W := 0) (rm8 l Z a0 hw [] b9 b15_st b15_sk r15_ki r15_kj r64_g2 r64_w2 r64_s2 T64.heap n0 Z67 fq64_0 fq64_1 fq64_2 fq64_3 fq64_4 fq64_5 (Ne.symm ne19) (Ne.symm ne20) hq15_0 gx_b15_st gx_b15_sk pi64.2.2.2 gx10) hZ (hw _ (List.mem_of_getElem? (i := 41) rfl)) (hw _ (List.mem_of_getElem? (i := 7) rfl)) (by decide) (by decide)) q69a q69c (g := (mkF m 105 #[.val (.int x0), .val (.int x1), .val (.int x2), .val (.int x3), .val (.int x4), .val (.int x5), .val (.int v1), .val (.int v2), .val (.int v3), .val (.int v4), .val (.int v7), .val (.int v8), .val (.ref b9), .unset, .unset] [(.ref b9)])) rfl (by rw [hml]; rfl) (Steps.refl _) (argsL := []) (rest := []) (lenOf own_pd___V rfl) rfl (by show 2 * 0 + _ ≤ _; exact Nat.le_of_eq rfl) (hb hby at_105) (fun _ _ => ⟨rfl, rfl, (by decide : 3 + 2 ≤ _), (by decide : 35 + 32 ≤ _)⟩)
      dsimp only [Pt.U, Pt.locs, Pt.cells, Pt.slots] at X69 l69 y69 z69 st69 hQ69
      subst l69 y69 z69
      obtain ⟨r69_st2, r69_sk2, r69_ki2, r69_kj2, rfl, NQ69, K69, fq69_0, fq69_1, fq69_2, fq69_3, fq69_4, fq69_5, hq69_0, hq69_1, hq69_2, hq69_3, hq69_4⟩ := hQ69
      have N70 := Fr.app N65 NQ69
      refine own_st (fun t k => st69.trans k) ?_
      have f71 := fq64_0.keep K69
      have f72 := fq64_4.keep K69 (ninS (Ne.symm ne19) nin0)
      have f73 := fq64_5.keep K69 (ninS (Ne.symm ne20) nin0)
      have Z74 : n0 ≤ T69.heap.size := Nat.le_trans Z67 K69.1
      show own_Go _ _ _ _ T69 (mkF m 108 _ [])
      exact J108 T69 _ _ r69_st2 r69_sk2 _ _ X69 rfl N70 Z74 fq69_0 fq69_1 fq69_2 fq69_3 fq69_4 fq69_5 hq69_0 hq69_1 hq69_2 hq69_3 hq69_4
    · skip
      refine own_st (fun t k => XS.icmpNo X64.here hx rfl (hb hby at_72) rfl (flt c68).1 k) ?_
      show own_Go _ _ _ _ T64 (mkF m 75 _ [])
      refine own_st (fun t k => XS.aload X64.here hx rfl (hb hby at_75) rfl rfl k) ?_
      show own_Go _ _ _ _ T64 (mkF m 77 _ [(.ref b9)])
      refine own_st (fun t k => XS.iload X64.here hx rfl (hb hby at_77) rfl k) ?_
      show own_Go _ _ _ _ T64 (mkF m 79 _ [(.int v2), (.ref b9)])
      refine own_st (fun t k => XS.iload X64.here hx rfl (hb hby at_79) rfl k) ?_
      show own_Go _ _ _ _ T64 (mkF m 81 _ [(.int v4), (.int v2), (.ref b9)])
      refine own_st (fun t k => XS.iload X64.here hx rfl (hb hby at_81) rfl k) ?_
      show own_Go _ _ _ _ T64 (mkF m 83 _ [(.int v7), (.int v4), (.int v2), (.ref b9)])
      obtain ⟨cq75, kq75, q75a, q75b, q75c⟩ := isOf hZ rfl fq64_0
      obtain ⟨_, _, ⟨T75, L75, k75, n75⟩, -, X75, ⟨Lc75, hQ75, l75, y75, z75⟩, st75⟩ := X64.virtualBack hx (y := (⟨"com/example/premise/premise/store/Skips", "put", "(III)V"⟩ : MethodName)) (z := (⟨"com/example/premise/premise/store/Skips", "put", "(III)V"⟩ : MethodName)) hown (mvT hZ (hw _ (List.mem_of_getElem? (i := 20) rfl))) (mvT hZ (hw _ (List.mem_of_getElem? (i := 21) rfl))) (notFace_of_selects (args := #[]) (mvT hZ (hw _ (List.mem_of_getElem? (i := 23) rfl)))) (mvT hZ (hw _ (List.mem_of_getElem? (i := 23) rfl))) (mvT hZ (hw _ (List.mem_of_getElem? (i := 22) rfl))) (by decide) (backOf (W := 0) (rm7 l Z a0 hw [] b9 v2 v4 v7 b15_st b15_sk r15_ki r15_kj r64_g2 r64_w2 r64_s2 T64.heap n0 Z67 fq64_0 fq64_1 fq64_2 fq64_3 fq64_4 fq64_5 (own_piroom pi64 (by decide)) (own_pisz pi64 (by decide)) (Ne.symm ne19) (Ne.symm ne20) hq15_0 gx10 gx_b15_st gx_b15_sk) hZ (hw _ (List.mem_of_getElem? (i := 24) rfl)) (hw _ (List.mem_of_getElem? (i := 7) rfl)) (by decide) (by decide)) q75a q75c (g := (mkF m 83 #[.val (.int x0), .val (.int x1), .val (.int x2), .val (.int x3), .val (.int x4), .val (.int x5), .val (.int v1), .val (.int v2), .val (.int v3), .val (.int v4), .val (.int v7), .val (.int v8), .val (.ref b9), .unset, .unset] [(.int v7), (.int v4), (.int v2), (.ref b9)])) rfl (by rw [hml]; rfl) (Steps.refl _) (argsL := [(.int v2), (.int v4), (.int v7)]) (rest := []) (lenOf own_pd__III_V rfl) rfl (by show 2 * 0 + _ ≤ _; exact Nat.le_of_eq rfl) (hb hby at_83) (fun _ _ => ⟨rfl, rfl, (by decide : 3 + 0 ≤ _), (by decide : 35 + 0 ≤ _)⟩)
      dsimp only [Pt.U, Pt.locs, Pt.cells, Pt.slots] at X75 l75 y75 z75 st75 hQ75
      subst l75 y75 z75
      obtain ⟨r75_r, r75_g2, r75_w2, r75_s2, rfl, NQ75, K75, fq75_0, fq75_1, fq75_2, fq75_3, fq75_4, fq75_5, hq75_0, hq75_1⟩ := hQ75
      have N76 := Fr.app N65 NQ75
      refine own_st (fun t k => st75.trans k) ?_
      have f77 := fq64_0.keep K75
      have Z78 : n0 ≤ T75.heap.size := Nat.le_trans Z67 K75.1
      have pi75 := own_pi1 pi64 (by decide) hq75_1
      show own_Go _ _ _ _ T75 (mkF m 86 _ [])
      refine own_st (fun t k => XS.iload X75.here hx rfl (hb hby at_86) rfl k) ?_
      show own_Go _ _ _ _ T75 (mkF m 88 _ [(.int v8)])
      refine own_st (fun t k => XS.iconst X75.here hx rfl (hb hby at_88) k) ?_
      show own_Go _ _ _ _ T75 (mkF m 89 _ [(.int (3 : Int32)), (.int v8)])
      by_cases c79 : v8 < (3 : Int32)
      · skip
        refine own_st (fun t k => XS.icmpYes X75.here hx rfl (pc0 := 89) (pc' := 103) rfl (hb hby at_89) rfl (tlt c79).1 (by decide) (by decide) k) ?_
        show own_Go _ _ _ _ T75 (mkF m 103 _ [])
        refine own_st (fun t k => XS.aload X75.here hx rfl (hb hby at_103) rfl rfl k) ?_
        show own_Go _ _ _ _ T75 (mkF m 105 _ [(.ref b9)])
        obtain ⟨cq80, kq80, q80a, q80b, q80c⟩ := isOf hZ rfl fq75_0
        obtain ⟨_, _, ⟨T80, L80, k80, n80⟩, -, X80, ⟨Lc80, hQ80, l80, y80, z80⟩, st80⟩ := X75.virtualBack hx (y := (⟨"com/example/premise/premise/store/Skips", "clear", "()V"⟩ : MethodName)) (z := (⟨"com/example/premise/premise/store/Skips", "clear", "()V"⟩ : MethodName)) hown (mvT hZ (hw _ (List.mem_of_getElem? (i := 37) rfl))) (mvT hZ (hw _ (List.mem_of_getElem? (i := 38) rfl))) (notFace_of_selects (args := #[]) (mvT hZ (hw _ (List.mem_of_getElem? (i := 40) rfl)))) (mvT hZ (hw _ (List.mem_of_getElem? (i := 40) rfl))) (mvT hZ (hw _ (List.mem_of_getElem? (i := 39) rfl))) (by decide) (backOf (W := 0) (rm8 l Z a0 hw [] b9 b15_st b15_sk r15_ki r15_kj r75_g2 r75_w2 r75_s2 T75.heap n0 Z78 fq75_0 fq75_1 fq75_2 fq75_3 fq75_4 fq75_5 (Ne.symm ne19) (Ne.symm ne20) hq15_0 gx_b15_st gx_b15_sk pi75.2.2.2 gx10) hZ (hw _ (List.mem_of_getElem? (i := 41) rfl)) (hw _ (List.mem_of_getElem? (i := 7) rfl)) (by decide) (by decide)) q80a q80c (g := (mkF m 105 #[.val (.int x0), .val (.int x1), .val (.int x2), .val (.int x3), .val (.int x4), .val (.int x5), .val (.int v1), .val (.int v2), .val (.int v3), .val (.int v4), .val (.int v7), .val (.int v8), .val (.ref b9), .unset, .unset] [(.ref b9)])) rfl (by rw [hml]; rfl) (Steps.refl _) (argsL := []) (rest := []) (lenOf own_pd___V rfl) rfl (by show 2 * 0 + _ ≤ _; exact Nat.le_of_eq rfl) (hb hby at_105) (fun _ _ => ⟨rfl, rfl, (by decide : 3 + 2 ≤ _), (by decide : 35 + 32 ≤ _)⟩)
        dsimp only [Pt.U, Pt.locs, Pt.cells, Pt.slots] at X80 l80 y80 z80 st80 hQ80
        subst l80 y80 z80
        obtain ⟨r80_st2, r80_sk2, r80_ki2, r80_kj2, rfl, NQ80, K80, fq80_0, fq80_1, fq80_2, fq80_3, fq80_4, fq80_5, hq80_0, hq80_1, hq80_2, hq80_3, hq80_4⟩ := hQ80
        have N81 := Fr.app N76 NQ80
        refine own_st (fun t k => st80.trans k) ?_
        have f82 := fq75_0.keep K80
        have f83 := fq75_4.keep K80 (ninS (Ne.symm ne19) nin0)
        have f84 := fq75_5.keep K80 (ninS (Ne.symm ne20) nin0)
        have Z85 : n0 ≤ T80.heap.size := Nat.le_trans Z78 K80.1
        show own_Go _ _ _ _ T80 (mkF m 108 _ [])
        exact J108 T80 _ _ r80_st2 r80_sk2 _ _ X80 rfl N81 Z85 fq80_0 fq80_1 fq80_2 fq80_3 fq80_4 fq80_5 hq80_0 hq80_1 hq80_2 hq80_3 hq80_4
      · skip
        refine own_st (fun t k => XS.icmpNo X75.here hx rfl (hb hby at_89) rfl (flt c79).1 k) ?_
        show own_Go _ _ _ _ T75 (mkF m 92 _ [])
        refine own_st (fun t k => XS.aload X75.here hx rfl (hb hby at_92) rfl rfl k) ?_
        show own_Go _ _ _ _ T75 (mkF m 94 _ [(.ref b9)])
        refine own_st (fun t k => XS.iload X75.here hx rfl (hb hby at_94) rfl k) ?_
        show own_Go _ _ _ _ T75 (mkF m 96 _ [(.int v3), (.ref b9)])
        refine own_st (fun t k => XS.iload X75.here hx rfl (hb hby at_96) rfl k) ?_
        show own_Go _ _ _ _ T75 (mkF m 98 _ [(.int v4), (.int v3), (.ref b9)])
        refine own_st (fun t k => XS.iload X75.here hx rfl (hb hby at_98) rfl k) ?_
        show own_Go _ _ _ _ T75 (mkF m 100 _ [(.int v7), (.int v4), (.int v3), (.ref b9)])
        obtain ⟨cq86, kq86, q86a, q86b, q86c⟩ := isOf hZ rfl fq75_0
        obtain ⟨_, _, ⟨T86, L86, k86, n86⟩, -, X86, ⟨Lc86, hQ86, l86, y86, z86⟩, st86⟩ := X75.virtualBack hx (y := (⟨"com/example/premise/premise/store/Skips", "put", "(III)V"⟩ : MethodName)) (z := (⟨"com/example/premise/premise/store/Skips", "put", "(III)V"⟩ : MethodName)) hown (mvT hZ (hw _ (List.mem_of_getElem? (i := 20) rfl))) (mvT hZ (hw _ (List.mem_of_getElem? (i := 21) rfl))) (notFace_of_selects (args := #[]) (mvT hZ (hw _ (List.mem_of_getElem? (i := 23) rfl)))) (mvT hZ (hw _ (List.mem_of_getElem? (i := 23) rfl))) (mvT hZ (hw _ (List.mem_of_getElem? (i := 22) rfl))) (by decide) (backOf (W := 0) (rm7 l Z a0 hw [] b9 v3 v4 v7 b15_st b15_sk r15_ki r15_kj r75_g2 r75_w2 r75_s2 T75.heap n0 Z78 fq75_0 fq75_1 fq75_2 fq75_3 fq75_4 fq75_5 (own_piroom pi75 (by decide)) (own_pisz pi75 (by decide)) (Ne.symm ne19) (Ne.symm ne20) hq15_0 gx10 gx_b15_st gx_b15_sk) hZ (hw _ (List.mem_of_getElem? (i := 24) rfl)) (hw _ (List.mem_of_getElem? (i := 7) rfl)) (by decide) (by decide)) q86a q86c (g := (mkF m 100 #[.val (.int x0), .val (.int x1), .val (.int x2), .val (.int x3), .val (.int x4), .val (.int x5), .val (.int v1), .val (.int v2), .val (.int v3), .val (.int v4), .val (.int v7), .val (.int v8), .val (.ref b9), .unset, .unset] [(.int v7), (.int v4), (.int v3), (.ref b9)])) rfl (by rw [hml]; rfl) (Steps.refl _) (argsL := [(.int v3), (.int v4), (.int v7)]) (rest := []) (lenOf own_pd__III_V rfl) rfl (by show 2 * 0 + _ ≤ _; exact Nat.le_of_eq rfl) (hb hby at_100) (fun _ _ => ⟨rfl, rfl, (by decide : 3 + 0 ≤ _), (by decide : 35 + 0 ≤ _)⟩)
        dsimp only [Pt.U, Pt.locs, Pt.cells, Pt.slots] at X86 l86 y86 z86 st86 hQ86
        subst l86 y86 z86
        obtain ⟨r86_r, r86_g2, r86_w2, r86_s2, rfl, NQ86, K86, fq86_0, fq86_1, fq86_2, fq86_3, fq86_4, fq86_5, hq86_0, hq86_1⟩ := hQ86
        have N87 := Fr.app N76 NQ86
        refine own_st (fun t k => st86.trans k) ?_
        have f88 := fq75_0.keep K86
        have Z89 : n0 ≤ T86.heap.size := Nat.le_trans Z78 K86.1
        have pi86 := own_pi1 pi75 (by decide) hq86_1
        show own_Go _ _ _ _ T86 (mkF m 103 _ [])
        refine own_st (fun t k => XS.aload X86.here hx rfl (hb hby at_103) rfl rfl k) ?_
        show own_Go _ _ _ _ T86 (mkF m 105 _ [(.ref b9)])
        obtain ⟨cq90, kq90, q90a, q90b, q90c⟩ := isOf hZ rfl fq86_0
        obtain ⟨_, _, ⟨T90, L90, k90, n90⟩, -, X90, ⟨Lc90, hQ90, l90, y90, z90⟩, st90⟩ := X86.virtualBack hx (y := (⟨"com/example/premise/premise/store/Skips", "clear", "()V"⟩ : MethodName)) (z := (⟨"com/example/premise/premise/store/Skips", "clear", "()V"⟩ : MethodName)) hown (mvT hZ (hw _ (List.mem_of_getElem? (i := 37) rfl))) (mvT hZ (hw _ (List.mem_of_getElem? (i := 38) rfl))) (notFace_of_selects (args := #[]) (mvT hZ (hw _ (List.mem_of_getElem? (i := 40) rfl)))) (mvT hZ (hw _ (List.mem_of_getElem? (i := 40) rfl))) (mvT hZ (hw _ (List.mem_of_getElem? (i := 39) rfl))) (by decide) (backOf (W := 0) (rm8 l Z a0 hw [] b9 b15_st b15_sk r15_ki r15_kj r86_g2 r86_w2 r86_s2 T86.heap n0 Z89 fq86_0 fq86_1 fq86_2 fq86_3 fq86_4 fq86_5 (Ne.symm ne19) (Ne.symm ne20) hq15_0 gx_b15_st gx_b15_sk pi86.2.2.2 gx10) hZ (hw _ (List.mem_of_getElem? (i := 41) rfl)) (hw _ (List.mem_of_getElem? (i := 7) rfl)) (by decide) (by decide)) q90a q90c (g := (mkF m 105 #[.val (.int x0), .val (.int x1), .val (.int x2), .val (.int x3), .val (.int x4), .val (.int x5), .val (.int v1), .val (.int v2), .val (.int v3), .val (.int v4), .val (.int v7), .val (.int v8), .val (.ref b9), .unset, .unset] [(.ref b9)])) rfl (by rw [hml]; rfl) (Steps.refl _) (argsL := []) (rest := []) (lenOf own_pd___V rfl) rfl (by show 2 * 0 + _ ≤ _; exact Nat.le_of_eq rfl) (hb hby at_105) (fun _ _ => ⟨rfl, rfl, (by decide : 3 + 2 ≤ _), (by decide : 35 + 32 ≤ _)⟩)
        dsimp only [Pt.U, Pt.locs, Pt.cells, Pt.slots] at X90 l90 y90 z90 st90 hQ90
        subst l90 y90 z90
        obtain ⟨r90_st2, r90_sk2, r90_ki2, r90_kj2, rfl, NQ90, K90, fq90_0, fq90_1, fq90_2, fq90_3, fq90_4, fq90_5, hq90_0, hq90_1, hq90_2, hq90_3, hq90_4⟩ := hQ90
        have N91 := Fr.app N87 NQ90
        refine own_st (fun t k => st90.trans k) ?_
        have f92 := fq86_0.keep K90
        have f93 := fq86_4.keep K90 (ninS (Ne.symm ne19) nin0)
        have f94 := fq86_5.keep K90 (ninS (Ne.symm ne20) nin0)
        have Z95 : n0 ≤ T90.heap.size := Nat.le_trans Z89 K90.1
        show own_Go _ _ _ _ T90 (mkF m 108 _ [])
        exact J108 T90 _ _ r90_st2 r90_sk2 _ _ X90 rfl N91 Z95 fq90_0 fq90_1 fq90_2 fq90_3 fq90_4 fq90_5 hq90_0 hq90_1 hq90_2 hq90_3 hq90_4
set_option maxRecDepth 65536 in
set_option maxHeartbeats 4000000 in
theorem own_comes {Post : Tables → Env → Array Value → State → Outcome → State → Prop} (hpost : ∀ tb e args s v u, (limb_1_1.after args s (.returned v) u = true ∧ limb_1_2.after args s (.returned v) u = true ∧ True) → FrameEnd s (.returned v) u (Jvm.fieldLocs frame_1_writes args s ++ Jvm.arrayLocs frame_1_arrays args s ++ Jvm.staticLocs frame_1_statics s) 24 256 → Post tb e args s (.returned v) u) :
    ArmFor flags0 classFile x code maxLocals ret World_1 tables_1 room_1 Calls_1 rest_1 Pre_1 Post := by
  intro l hfl _ _ p e ha hc hk s m args below hf hA hF happ hP
  obtain ⟨hcalls, hrest, hpre⟩ := hP
  obtain ⟨-, -, -, hnamed, -, -, -, hat⟩ := (Spec.applies_iff hf).mp happ
  obtain ⟨hg, hn⟩ := and_e (Cond.before_iff.mp (show (Jvm.Cond.and given_1 narrow_1).before args s = true from hpre))
  obtain ⟨g0, r0⟩ := and_e hg
  obtain ⟨g1, r1⟩ := and_e r0
  obtain ⟨g2, r2⟩ := and_e r1
  obtain ⟨g3, r3⟩ := and_e r2
  obtain ⟨g4, r4⟩ := and_e r3
  obtain ⟨g5, r5⟩ := and_e r4
  obtain ⟨w0, w1, w2, w3, w4, w5, rfl⟩ : ∃ w0 w1 w2 w3 w4 w5 : Value, args = #[w0, w1, w2, w3, w4, w5] := by
    have hs : args.size = 6 := by simpa [Cond.value, given_1] using g0
    obtain ⟨L⟩ := args
    match L, hs with
    | [w0, w1, w2, w3, w4, w5], _ => exact ⟨w0, w1, w2, w3, w4, w5, rfl⟩
  have hw := fun d (hd : d ∈ tables_1) => atoms_spec (ws := Jvm.Cond.code x code maxLocals ret :: tables_1) hat d (List.mem_cons_of_mem _ hd)
  obtain ⟨i0, ei0⟩ := is_v g1
  obtain rfl : w0 = (.int i0) := Option.some.inj ei0
  obtain ⟨i1, ei1⟩ := is_v g2
  obtain rfl : w1 = (.int i1) := Option.some.inj ei1
  obtain ⟨i2, ei2⟩ := is_v g3
  obtain rfl : w2 = (.int i2) := Option.some.inj ei2
  obtain ⟨i3, ei3⟩ := is_v g4
  obtain rfl : w3 = (.int i3) := Option.some.inj ei3
  obtain ⟨i4, ei4⟩ := is_v g5
  obtain rfl : w4 = (.int i4) := Option.some.inj ei4
  obtain ⟨i5, ei5⟩ := is_v r5
  obtain rfl : w5 = (.int i5) := Option.some.inj ei5
  obtain ⟨n, o, h1, h2, h3, _, L, rfl, ⟨rfl, N⟩, hq⟩ := rm0 l s _ hw tables_1 i0 i1 i2 i3 i4 i5 s.heap s.heap.size (Nat.le_refl _) p e ha hc hk s m _ below hf ((Spec.applies_iff_loose hf).mp happ).1 ⟨rfl, State.Warmed39.refl s, rfl⟩ trivial
  refine ⟨n, _, h1, h2, h3, hpost _ _ _ _ _ _ ⟨Cond.after_iff.mpr rfl, Cond.after_iff.mpr (eq_i res_at (Term.int_eval (1)) rfl), trivial⟩ ⟨hq.1, hq.2.1, (hq.2.2.sift fun y hy => Or.inr (N y hy)).mono (by decide) (by decide)⟩⟩
theorem main_1_1 : Claimed_1_1 := own_comes fun _ _ _ _ _ _ h hF => ⟨h.1, hF⟩
theorem main_1_2 : Claimed_1_2 := own_comes fun _ _ _ _ _ _ h hF => ⟨h.2.1, hF⟩
end Jvm.Pilot.@@N@@
namespace Jvm.Pilot.@@N@@
open Jvm Jvm.ClassFile Sem Op Lib Jvm.Free Jvm.Stand Jvm.Pilot.@@N@@.Jvm.D
/-! MADE BY PROGRAM (witnessworld.py) out of the Statement's table words and the real class files: 13 classes; the members and pool entries that the words name. The judged class is class 1, her method 1. -/
namespace start1
open Jvm.ClassFile
def u (s : String) : CpInfo := .utf8 (stringToUtf16 s)
/-- a pool by its gaps: so many unusable entries, then the entry; so many at the end -/
def gap : Nat → List CpInfo → List CpInfo
  | 0, r => r
  | n + 1, r => .unusable :: gap n r
def poolList (es : List (Nat × CpInfo)) (last : Nat) : List CpInfo := es.foldr (fun e r => gap e.1 (e.2 :: r)) (gap last [])
def pool (es : List (Nat × CpInfo)) (last : Nat) : Array CpInfo := ⟨poolList es last⟩
def fileOf (pool : Array CpInfo) (this : Nat) (attrs : Array Attribute := #[]) (ms : Array MethodInfo := #[]) (fl : Nat := 33) (sup : Nat := 0) (ifs : Array Nat := #[]) (fds : Array FieldInfo := #[]) : ClassFile where
  minorVersion := 0
  majorVersion := 65
  constantPool := pool
  accessFlags := fl
  thisClass := this
  superClass := sup
  interfaces := ifs
  fields := fds
  methods := ms
  attributes := attrs
def plain (name : String) (sup : Option ClassId) : Class where
  name := name
  kind := .ordinary
  loader := none
  accessFlags := 33
  super := sup
  interfaces := #[]
  cf := none
  fields := #[]
  methods := #[]
  instanceTypes := #[]
  staticTypes := #[]
  resolved := #[]
  callSites := []
  init := .initialized
  statics := none
  mirror := none

def pool0 : Array CpInfo := pool [(5, u "<init>"), (0, u "()V"), (1, .class_ 10), (1, u "java/lang/Object")] 113

def k0c0 : Code := { maxStack := 0, maxLocals := 1, code := object_method_1_code, exceptionTable := #[], attributes := #[] }
def k0m0 : Method := { name := "<init>", desc := "()V", sig := { parameters := [], returnType := none }, accessFlags := 1, code := some k0c0 }
/-- java/lang/Object -/
def k0 : Class := { plain "java/lang/Object" none with
  accessFlags := 33
  interfaces := #[]
  cf := some (fileOf pool0 8 #[] #[{ accessFlags := 1, nameIndex := 5, descriptorIndex := 6, attributes := #[] }] 33 0 #[] #[])
  fields := #[]
  methods := #[k0m0]
  instanceTypes := #[]
  staticTypes := #[]
  resolved := Array.replicate 124 none
  statics := none }

def pool1 : Array CpInfo := pool [(2, .class_ 4), (0, .nameAndType 5 6), (0, u "java/lang/Object"), (0, u "<init>"), (0, u "()V"), (0, .integer 2147483647), (0, .methodref 9 10), (0, .class_ 11), (0, .nameAndType 12 13), (0, u "java/lang/Math"), (0, u "max"), (0, u "(II)I"), (0, .class_ 15), (0, u "com/example/premise/premise/store/Skips"), (0, .methodref 14 3), (0, .methodref 14 18), (0, .nameAndType 19 20), (0, u "put"), (0, u "(III)V"), (0, .methodref 14 22), (0, .nameAndType 23 6), (0, u "clear"), (0, .methodref 14 25), (0, .nameAndType 26 27), (0, u "get"), (0, u "(I)J"), (0, .methodref 14 29), (0, .nameAndType 30 31), (0, u "to"), (0, u "(J)I"), (0, .methodref 14 33), (0, .nameAndType 34 31), (0, u "removal"), (0, .class_ 36), (0, u "com/example/premise/premise/store/SkipsClearPinLaw"), (2, u "law"), (0, u "(IIIIII)Z")] 3

def k1m0 : Method := { name := "<init>", desc := "()V", sig := { parameters := [], returnType := none }, accessFlags := 2, code := none }
def k1c1 : Code := { maxStack := 4, maxLocals := 15, code := code, exceptionTable := #[], attributes := #[] }
def k1m1 : Method := { name := "law", desc := "(IIIIII)Z", sig := { parameters := [.int, .int, .int, .int, .int, .int], returnType := some .boolean }, accessFlags := 9, code := some k1c1 }
/-- com/example/premise/premise/store/SkipsClearPinLaw -/
def k1 : Class := { plain "com/example/premise/premise/store/SkipsClearPinLaw" (some 0) with
  accessFlags := 49
  interfaces := #[]
  cf := some (fileOf pool1 35 #[] #[{ accessFlags := 2, nameIndex := 5, descriptorIndex := 6, attributes := #[] }, { accessFlags := 9, nameIndex := 39, descriptorIndex := 40, attributes := #[] }] 49 2 #[] #[])
  fields := #[]
  methods := #[k1m0, k1m1]
  instanceTypes := #[]
  staticTypes := #[]
  resolved := Array.replicate 44 none
  statics := none }

def pool2 : Array CpInfo := pool [(1, .class_ 2), (0, u "java/lang/Math"), (1, .class_ 6), (1, u "java/lang/Object"), (0, u "<init>"), (0, u "()V"), (89, .class_ 100), (1, u "java/lang/Math$RandomNumberGeneratorHolder"), (71, u "negativeZeroFloatBits"), (0, u "J"), (2, u "negativeZeroDoubleBits"), (21, u "max"), (46, u "$assertionsDisabled"), (0, u "Z"), (88, u "(II)I"), (2, u "twoToTheDoubleScaleDown"), (0, u "D"), (4, u "twoToTheDoubleScaleUp"), (9, u "E"), (3, u "PI"), (2, u "TAU"), (2, u "DEGREES_TO_RADIANS"), (0, u "RADIANS_TO_DEGREES")] 94

def k2m0 : Method := { name := "<init>", desc := "()V", sig := { parameters := [], returnType := none }, accessFlags := 2, code := none }
def k2c1 : Code := { maxStack := 2, maxLocals := 2, code := jdk_29_method_65_code, exceptionTable := #[], attributes := #[] }
def k2m1 : Method := { name := "max", desc := "(II)I", sig := { parameters := [.int, .int], returnType := some .int }, accessFlags := 9, code := some k2c1 }
/-- java/lang/Math -/
def k2 : Class := { plain "java/lang/Math" (some 0) with
  accessFlags := 49
  interfaces := #[]
  cf := some (fileOf pool2 1 #[.nestMembers #[98]] #[{ accessFlags := 2, nameIndex := 7, descriptorIndex := 8, attributes := #[] }, { accessFlags := 9, nameIndex := 198, descriptorIndex := 335, attributes := #[] }] 49 4 #[] #[{ accessFlags := 25, nameIndex := 354, descriptorIndex := 339, attributes := #[] }, { accessFlags := 25, nameIndex := 358, descriptorIndex := 339, attributes := #[] }, { accessFlags := 25, nameIndex := 361, descriptorIndex := 339, attributes := #[] }, { accessFlags := 26, nameIndex := 364, descriptorIndex := 339, attributes := #[] }, { accessFlags := 26, nameIndex := 365, descriptorIndex := 339, attributes := #[] }, { accessFlags := 26, nameIndex := 172, descriptorIndex := 173, attributes := #[] }, { accessFlags := 26, nameIndex := 176, descriptorIndex := 173, attributes := #[] }, { accessFlags := 8, nameIndex := 344, descriptorIndex := 339, attributes := #[] }, { accessFlags := 8, nameIndex := 338, descriptorIndex := 339, attributes := #[] }, { accessFlags := 4120, nameIndex := 245, descriptorIndex := 246, attributes := #[] }])
  fields := #[{ name := "E", type := .double, accessFlags := 25, slot := 0, constantValue := 0 }, { name := "PI", type := .double, accessFlags := 25, slot := 1, constantValue := 0 }, { name := "TAU", type := .double, accessFlags := 25, slot := 2, constantValue := 0 }, { name := "DEGREES_TO_RADIANS", type := .double, accessFlags := 26, slot := 3, constantValue := 0 }, { name := "RADIANS_TO_DEGREES", type := .double, accessFlags := 26, slot := 4, constantValue := 0 }, { name := "negativeZeroFloatBits", type := .long, accessFlags := 26, slot := 5, constantValue := 0 }, { name := "negativeZeroDoubleBits", type := .long, accessFlags := 26, slot := 6, constantValue := 0 }, { name := "twoToTheDoubleScaleUp", type := .double, accessFlags := 8, slot := 7, constantValue := 0 }, { name := "twoToTheDoubleScaleDown", type := .double, accessFlags := 8, slot := 8, constantValue := 0 }, { name := "$assertionsDisabled", type := .boolean, accessFlags := 4120, slot := 9, constantValue := 0 }]
  methods := #[k2m0, k2m1]
  instanceTypes := #[]
  staticTypes := #[.double, .double, .double, .double, .double, .long, .long, .double, .double, .boolean]
  resolved := Array.replicate 460 none
  statics := none }

def pool3 : Array CpInfo := pool [(1, .methodref 2 3), (0, .class_ 4), (0, .nameAndType 5 6), (0, u "java/lang/Object"), (0, u "<init>"), (0, u "()V"), (0, .fieldref 8 9), (0, .class_ 10), (0, .nameAndType 11 12), (0, u "com/example/premise/premise/store/Skips"), (0, u "statements"), (0, u "[I"), (0, .fieldref 8 14), (0, .nameAndType 15 16), (0, u "skips"), (0, u "[J"), (0, .fieldref 8 18), (0, .nameAndType 19 20), (0, u "size"), (0, u "I"), (0, .methodref 8 22), (0, .nameAndType 23 24), (0, u "slot"), (0, u "(I)I"), (5, .long 4294967295), (1, .methodref 33 34), (0, .class_ 35), (0, .nameAndType 23 36), (0, u "com/example/premise/premise/store/NumberSlots"), (0, u "([II)I"), (0, u "NONE"), (0, u "J"), (5, u "get"), (0, u "(I)J"), (1, u "put"), (0, u "(III)V"), (0, u "clear"), (0, u "to"), (0, u "(J)I"), (0, u "removal")] 4

def k3c0 : Code := { maxStack := 2, maxLocals := 1, code := prog_44_method_1_code, exceptionTable := #[], attributes := #[] }
def k3m0 : Method := { name := "<init>", desc := "()V", sig := { parameters := [], returnType := none }, accessFlags := 0, code := some k3c0 }
def k3c1 : Code := { maxStack := 3, maxLocals := 2, code := prog_44_method_2_code, exceptionTable := #[], attributes := #[] }
def k3m1 : Method := { name := "get", desc := "(I)J", sig := { parameters := [.int], returnType := some .long }, accessFlags := 0, code := some k3c1 }
def k3c2 : Code := { maxStack := 8, maxLocals := 5, code := prog_44_method_3_code, exceptionTable := #[], attributes := #[] }
def k3m2 : Method := { name := "put", desc := "(III)V", sig := { parameters := [.int, .int, .int], returnType := none }, accessFlags := 0, code := some k3c2 }
def k3c3 : Code := { maxStack := 2, maxLocals := 1, code := prog_44_method_4_code, exceptionTable := #[], attributes := #[] }
def k3m3 : Method := { name := "clear", desc := "()V", sig := { parameters := [], returnType := none }, accessFlags := 0, code := some k3c3 }
def k3c4 : Code := { maxStack := 2, maxLocals := 2, code := prog_44_method_5_code, exceptionTable := #[], attributes := #[] }
def k3m4 : Method := { name := "to", desc := "(J)I", sig := { parameters := [.long], returnType := some .int }, accessFlags := 8, code := some k3c4 }
def k3c5 : Code := { maxStack := 3, maxLocals := 2, code := prog_44_method_6_code, exceptionTable := #[], attributes := #[] }
def k3m5 : Method := { name := "removal", desc := "(J)I", sig := { parameters := [.long], returnType := some .int }, accessFlags := 8, code := some k3c5 }
def k3c6 : Code := { maxStack := 2, maxLocals := 2, code := prog_44_method_7_code, exceptionTable := #[], attributes := #[] }
def k3m6 : Method := { name := "slot", desc := "(I)I", sig := { parameters := [.int], returnType := some .int }, accessFlags := 2, code := some k3c6 }
/-- com/example/premise/premise/store/Skips -/
def k3 : Class := { plain "com/example/premise/premise/store/Skips" (some 0) with
  accessFlags := 48
  interfaces := #[]
  cf := some (fileOf pool3 8 #[] #[{ accessFlags := 0, nameIndex := 5, descriptorIndex := 6, attributes := #[] }, { accessFlags := 0, nameIndex := 44, descriptorIndex := 45, attributes := #[] }, { accessFlags := 0, nameIndex := 47, descriptorIndex := 48, attributes := #[] }, { accessFlags := 0, nameIndex := 49, descriptorIndex := 6, attributes := #[] }, { accessFlags := 8, nameIndex := 50, descriptorIndex := 51, attributes := #[] }, { accessFlags := 8, nameIndex := 52, descriptorIndex := 51, attributes := #[] }, { accessFlags := 2, nameIndex := 23, descriptorIndex := 24, attributes := #[] }] 48 2 #[] #[{ accessFlags := 24, nameIndex := 37, descriptorIndex := 38, attributes := #[] }, { accessFlags := 2, nameIndex := 11, descriptorIndex := 12, attributes := #[] }, { accessFlags := 2, nameIndex := 15, descriptorIndex := 16, attributes := #[] }, { accessFlags := 2, nameIndex := 19, descriptorIndex := 20, attributes := #[] }])
  fields := #[{ name := "NONE", type := .long, accessFlags := 24, slot := 0, constantValue := 0 }, { name := "statements", type := (.array .int), accessFlags := 2, slot := 0, constantValue := 0 }, { name := "skips", type := (.array .long), accessFlags := 2, slot := 1, constantValue := 0 }, { name := "size", type := .int, accessFlags := 2, slot := 2, constantValue := 0 }]
  methods := #[k3m0, k3m1, k3m2, k3m3, k3m4, k3m5, k3m6]
  instanceTypes := #[(.array .int), (.array .long), .int]
  staticTypes := #[.long]
  resolved := Array.replicate 57 none
  statics := none }

def pool4 : Array CpInfo := pool [(2, .class_ 4), (1, u "java/lang/Object"), (0, u "<init>"), (0, u "()V"), (0, .integer 2654435769), (0, .class_ 9), (0, u "com/example/premise/premise/store/NumberSlots"), (2, u "slot"), (0, u "([II)I")] 3

def k4m0 : Method := { name := "<init>", desc := "()V", sig := { parameters := [], returnType := none }, accessFlags := 2, code := none }
def k4c1 : Code := { maxStack := 3, maxLocals := 5, code := prog_43_method_2_code, exceptionTable := #[], attributes := #[] }
def k4m1 : Method := { name := "slot", desc := "([II)I", sig := { parameters := [(.array .int), .int], returnType := some .int }, accessFlags := 9, code := some k4c1 }
/-- com/example/premise/premise/store/NumberSlots -/
def k4 : Class := { plain "com/example/premise/premise/store/NumberSlots" (some 0) with
  accessFlags := 49
  interfaces := #[]
  cf := some (fileOf pool4 8 #[] #[{ accessFlags := 2, nameIndex := 5, descriptorIndex := 6, attributes := #[] }, { accessFlags := 9, nameIndex := 12, descriptorIndex := 13, attributes := #[] }] 49 2 #[] #[])
  fields := #[]
  methods := #[k4m0, k4m1]
  instanceTypes := #[]
  staticTypes := #[]
  resolved := Array.replicate 17 none
  statics := none }

def pool5 : Array CpInfo := pool [(1, u "java/lang/Cloneable"), (0, .class_ 1), (0, u "java/lang/Object"), (0, .class_ 3)] 3

/-- java/lang/Cloneable -/
def k5 : Class := { plain "java/lang/Cloneable" (some 0) with
  accessFlags := 1537
  interfaces := #[]
  cf := some (fileOf pool5 2 #[] #[] 1537 4 #[] #[])
  fields := #[]
  methods := #[]
  instanceTypes := #[]
  staticTypes := #[]
  resolved := Array.replicate 8 none
  statics := none }

def pool6 : Array CpInfo := pool [(1, u "java/io/Serializable"), (0, .class_ 1), (0, u "java/lang/Object"), (0, .class_ 3)] 3

/-- java/io/Serializable -/
def k6 : Class := { plain "java/io/Serializable" (some 0) with
  accessFlags := 1537
  interfaces := #[]
  cf := some (fileOf pool6 2 #[] #[] 1537 4 #[] #[])
  fields := #[]
  methods := #[]
  instanceTypes := #[]
  staticTypes := #[]
  resolved := Array.replicate 8 none
  statics := none }

/-- the primitive byte -/
def k7 : Class := { plain "byte" none with kind := .primitive 'B', accessFlags := 0x411 }
/-- [B -/
def k8 : Class := { plain "[B" (some 0) with kind := .array 7 .byte, interfaces := #[5, 6], accessFlags := 1041 }

/-- the primitive int -/
def k9 : Class := { plain "int" none with kind := .primitive 'I', accessFlags := 0x411 }
/-- [I -/
def k10 : Class := { plain "[I" (some 0) with kind := .array 9 .int, interfaces := #[5, 6], accessFlags := 1041 }

/-- the primitive long -/
def k11 : Class := { plain "long" none with kind := .primitive 'J', accessFlags := 0x411 }
/-- [J -/
def k12 : Class := { plain "[J" (some 0) with kind := .array 11 .long, interfaces := #[5, 6], accessFlags := 1041 }

def heap : Heap := #[]
def classes : Array Class := #[k0, k1, k2, k3, k4, k5, k6, k7, k8, k9, k10, k11, k12]
def interned : List (Array UInt16 × Addr) := []
def slotsUsed : Nat := 0
def theMethod : MethodId := ⟨1, 1⟩
def args0 : Array Value := #[.int 5, .int 5, .int 5, .int 5, .int 5, .int 5]
def aboutOver (below : List Frame) : State where
  vm := { classes := classes, interned := interned.toArray }
  heap := heap
  slotsUsed := slotsUsed
  threads := #[{ frames := .invoking theMethod args0 :: below }]
def below0 : List Frame := [.native { method := ⟨0, 0⟩, args := #[] }]
def about1 : State := aboutOver below0
def p0 : Program := .bare "" "" ""
def e0 : Env := launch0.env 0 0 0
theorem w_frames : about1.frames = Frame.invoking theMethod args0 :: below0 := rfl
set_option maxRecDepth 65536 in
theorem w_args : argsFit about1.vm theMethod args0 = true := by decide +kernel
set_option maxRecDepth 65536 in
theorem w_heap : heapFits about1 = true := by decide +kernel
set_option maxRecDepth 65536 in
theorem w_runnable : about1.curStatus? = some .runnable := by decide +kernel
set_option maxRecDepth 65536 in
theorem w_alone : about1.alone = true := by decide +kernel
set_option maxRecDepth 65536 in
theorem w_named : about1.methodNamed? x = some theMethod := by decide +kernel
set_option maxRecDepth 65536 in
theorem w_hears : about1.hears theMethod below0 = true := by decide +kernel
set_option maxRecDepth 65536 in
theorem w_ripe : about1.ripe theMethod args0 below0 = true := by decide +kernel
theorem w_running : about1.status = .running := rfl
set_option maxRecDepth 65536 in
theorem w_room : about1.hasRoom e0.platform room_1 = true :=
  launch0.hasRoom_least _ room_1 (by decide +kernel) (by decide +kernel) (by decide +kernel) (by decide +kernel) (by decide +kernel) (by decide +kernel)
theorem allAtoms_all (ts : List Jvm.Cond) (a : Array Jvm.Value) (st : Jvm.State) : (allAtoms ts).before a st = ts.all (fun c => c.before a st) := by
  induction ts with
  | nil => rfl
  | cons c t ih =>
    show (Jvm.Cond.and c (allAtoms t)).before a st = _
    rw [Jvm.Cond.before_and, ih, List.all_cons]
def words1 : List Jvm.Cond := Jvm.Cond.code x code maxLocals ret :: tables_1
/-- a 'code' word, met by the world's own term for the bytes: nothing is compared byte by byte -/
theorem code_word {y : MethodName} {bytes : ByteArray} {mx : Nat} {rt : Option FieldType} {a : Array Value} {s : State} {m : MethodId} {meth : Method} {c : Code} (h1 : s.methodNamed? y = some m) (h2 : s.vm.method? m = some meth) (h3 : meth.code = some c) (h4 : c.code = bytes)
    (h5 : (c.maxLocals == mx && c.exceptionTable.isEmpty && decide (c.maxStack ≤ mostOperands) && decide (meth.sig.returnType = rt) && !meth.locks && decide (parseMethodDescriptor y.desc = some meth.sig)) = true) : (Jvm.Cond.code y bytes mx rt).before a s = true := by
  simp only [Bool.and_eq_true, beq_iff_eq, Bool.not_eq_true', decide_eq_true_eq] at h5
  obtain ⟨⟨⟨⟨⟨g1, g2⟩, g3⟩, g4⟩, g5⟩, g6⟩ := h5
  simp [Cond.before, Cond.holds, Cond.value, h1, h2, h3, h4, g1, g2, g3, g4, g5, g6]
def isCode : Jvm.Cond → Bool
  | .code _ _ _ _ => true
  | _ => false
theorem all_split {L : List Jvm.Cond} {P : Jvm.Cond → Bool} (h1 : L.all (fun c => isCode c || P c) = true) (h2 : ∀ c ∈ L.filter isCode, P c = true) : L.all P = true := by
  refine List.all_eq_true.mpr fun c hc => ?_
  have h := List.all_eq_true.mp h1 c hc
  rcases Bool.eq_false_or_eq_true (isCode c) with hi | hi
  · exact h2 c (List.mem_filter.mpr ⟨hc, hi⟩)
  · simpa [hi] using h
set_option maxRecDepth 65536 in
theorem w_c0 : (Jvm.Cond.code x code maxLocals ret).before args0 about1 = true := code_word (m := ⟨1, 1⟩) (meth := k1m1) (c := k1c1) (by decide +kernel) rfl rfl rfl (by decide +kernel)
set_option maxRecDepth 65536 in
theorem w_c1 : (Jvm.Cond.code ({ cls := "java/lang/Math", name := "max", desc := "(II)I" } : Jvm.MethodName) jdk_29_method_65_code (2 : Nat) (Option.some Jvm.ClassFile.FieldType.int)).before args0 about1 = true := code_word (m := ⟨2, 1⟩) (meth := k2m1) (c := k2c1) (by decide +kernel) rfl rfl rfl (by decide +kernel)
set_option maxRecDepth 65536 in
theorem w_c2 : (Jvm.Cond.code ({ cls := "com/example/premise/premise/store/Skips", name := "<init>", desc := "()V" } : Jvm.MethodName) prog_44_method_1_code (1 : Nat) (Option.none : Option Jvm.ClassFile.FieldType)).before args0 about1 = true := code_word (m := ⟨3, 0⟩) (meth := k3m0) (c := k3c0) (by decide +kernel) rfl rfl rfl (by decide +kernel)
set_option maxRecDepth 65536 in
theorem w_c3 : (Jvm.Cond.code ({ cls := "java/lang/Object", name := "<init>", desc := "()V" } : Jvm.MethodName) object_method_1_code (1 : Nat) (Option.none : Option Jvm.ClassFile.FieldType)).before args0 about1 = true := code_word (m := ⟨0, 0⟩) (meth := k0m0) (c := k0c0) (by decide +kernel) rfl rfl rfl (by decide +kernel)
set_option maxRecDepth 65536 in
theorem w_c4 : (Jvm.Cond.code ({ cls := "com/example/premise/premise/store/Skips", name := "put", desc := "(III)V" } : Jvm.MethodName) prog_44_method_3_code (5 : Nat) (Option.none : Option Jvm.ClassFile.FieldType)).before args0 about1 = true := code_word (m := ⟨3, 2⟩) (meth := k3m2) (c := k3c2) (by decide +kernel) rfl rfl rfl (by decide +kernel)
set_option maxRecDepth 65536 in
theorem w_c5 : (Jvm.Cond.code ({ cls := "com/example/premise/premise/store/Skips", name := "slot", desc := "(I)I" } : Jvm.MethodName) prog_44_method_7_code (2 : Nat) (Option.some Jvm.ClassFile.FieldType.int)).before args0 about1 = true := code_word (m := ⟨3, 6⟩) (meth := k3m6) (c := k3c6) (by decide +kernel) rfl rfl rfl (by decide +kernel)
set_option maxRecDepth 65536 in
theorem w_c6 : (Jvm.Cond.code ({ cls := "com/example/premise/premise/store/NumberSlots", name := "slot", desc := "([II)I" } : Jvm.MethodName) prog_43_method_2_code (5 : Nat) (Option.some Jvm.ClassFile.FieldType.int)).before args0 about1 = true := code_word (m := ⟨4, 1⟩) (meth := k4m1) (c := k4c1) (by decide +kernel) rfl rfl rfl (by decide +kernel)
set_option maxRecDepth 65536 in
theorem w_c7 : (Jvm.Cond.code ({ cls := "com/example/premise/premise/store/Skips", name := "clear", desc := "()V" } : Jvm.MethodName) prog_44_method_4_code (1 : Nat) (Option.none : Option Jvm.ClassFile.FieldType)).before args0 about1 = true := code_word (m := ⟨3, 3⟩) (meth := k3m3) (c := k3c3) (by decide +kernel) rfl rfl rfl (by decide +kernel)
set_option maxRecDepth 65536 in
theorem w_c8 : (Jvm.Cond.code ({ cls := "com/example/premise/premise/store/Skips", name := "get", desc := "(I)J" } : Jvm.MethodName) prog_44_method_2_code (2 : Nat) (Option.some Jvm.ClassFile.FieldType.long)).before args0 about1 = true := code_word (m := ⟨3, 1⟩) (meth := k3m1) (c := k3c1) (by decide +kernel) rfl rfl rfl (by decide +kernel)
set_option maxRecDepth 65536 in
theorem w_c9 : (Jvm.Cond.code ({ cls := "com/example/premise/premise/store/Skips", name := "to", desc := "(J)I" } : Jvm.MethodName) prog_44_method_5_code (2 : Nat) (Option.some Jvm.ClassFile.FieldType.int)).before args0 about1 = true := code_word (m := ⟨3, 4⟩) (meth := k3m4) (c := k3c4) (by decide +kernel) rfl rfl rfl (by decide +kernel)
set_option maxRecDepth 65536 in
theorem w_c10 : (Jvm.Cond.code ({ cls := "com/example/premise/premise/store/Skips", name := "removal", desc := "(J)I" } : Jvm.MethodName) prog_44_method_6_code (2 : Nat) (Option.some Jvm.ClassFile.FieldType.int)).before args0 about1 = true := code_word (m := ⟨3, 5⟩) (meth := k3m5) (c := k3c5) (by decide +kernel) rfl rfl rfl (by decide +kernel)
def codes1 : List Jvm.Cond := [Jvm.Cond.code x code maxLocals ret, Jvm.Cond.code ({ cls := "java/lang/Math", name := "max", desc := "(II)I" } : Jvm.MethodName) jdk_29_method_65_code (2 : Nat) (Option.some Jvm.ClassFile.FieldType.int), Jvm.Cond.code ({ cls := "com/example/premise/premise/store/Skips", name := "<init>", desc := "()V" } : Jvm.MethodName) prog_44_method_1_code (1 : Nat) (Option.none : Option Jvm.ClassFile.FieldType), Jvm.Cond.code ({ cls := "java/lang/Object", name := "<init>", desc := "()V" } : Jvm.MethodName) object_method_1_code (1 : Nat) (Option.none : Option Jvm.ClassFile.FieldType), Jvm.Cond.code ({ cls := "com/example/premise/premise/store/Skips", name := "put", desc := "(III)V" } : Jvm.MethodName) prog_44_method_3_code (5 : Nat) (Option.none : Option Jvm.ClassFile.FieldType), Jvm.Cond.code ({ cls := "com/example/premise/premise/store/Skips", name := "slot", desc := "(I)I" } : Jvm.MethodName) prog_44_method_7_code (2 : Nat) (Option.some Jvm.ClassFile.FieldType.int), Jvm.Cond.code ({ cls := "com/example/premise/premise/store/NumberSlots", name := "slot", desc := "([II)I" } : Jvm.MethodName) prog_43_method_2_code (5 : Nat) (Option.some Jvm.ClassFile.FieldType.int), Jvm.Cond.code ({ cls := "com/example/premise/premise/store/Skips", name := "clear", desc := "()V" } : Jvm.MethodName) prog_44_method_4_code (1 : Nat) (Option.none : Option Jvm.ClassFile.FieldType), Jvm.Cond.code ({ cls := "com/example/premise/premise/store/Skips", name := "get", desc := "(I)J" } : Jvm.MethodName) prog_44_method_2_code (2 : Nat) (Option.some Jvm.ClassFile.FieldType.long), Jvm.Cond.code ({ cls := "com/example/premise/premise/store/Skips", name := "to", desc := "(J)I" } : Jvm.MethodName) prog_44_method_5_code (2 : Nat) (Option.some Jvm.ClassFile.FieldType.int), Jvm.Cond.code ({ cls := "com/example/premise/premise/store/Skips", name := "removal", desc := "(J)I" } : Jvm.MethodName) prog_44_method_6_code (2 : Nat) (Option.some Jvm.ClassFile.FieldType.int)]
set_option maxRecDepth 65536 in
theorem codes_eq : words1.filter isCode = codes1 := rfl
theorem w_codes : ∀ c ∈ words1.filter isCode, c.before args0 about1 = true := by
  rw [codes_eq]
  intro c hc
  simp only [codes1, List.mem_cons, List.not_mem_nil, or_false] at hc
  rcases hc with rfl | rfl | rfl | rfl | rfl | rfl | rfl | rfl | rfl | rfl | rfl
  · exact w_c0
  · exact w_c1
  · exact w_c2
  · exact w_c3
  · exact w_c4
  · exact w_c5
  · exact w_c6
  · exact w_c7
  · exact w_c8
  · exact w_c9
  · exact w_c10
set_option maxRecDepth 65536 in
theorem w_t1 : (words1.take 24).all (fun c => isCode c || c.before args0 about1) = true := by decide +kernel
set_option maxRecDepth 65536 in
theorem w_t2 : ((words1.drop 24).take 24).all (fun c => isCode c || c.before args0 about1) = true := by decide +kernel
set_option maxRecDepth 65536 in
theorem w_t3 : ((words1.drop 24).drop 24).all (fun c => isCode c || c.before args0 about1) = true := by decide +kernel
theorem w_tables : (allAtoms (Jvm.Cond.code x code maxLocals ret :: tables_1)).before args0 about1 = true := by
  rw [allAtoms_all]
  show words1.all (fun c => c.before args0 about1) = true
  refine all_split ?_ w_codes
  rw [← List.take_append_drop 24 words1, List.all_append, w_t1, ← List.take_append_drop 24 (words1.drop 24), List.all_append, w_t2, w_t3]
  rfl
set_option maxRecDepth 65536 in
theorem w_case : (Jvm.Cond.and given_1 narrow_1).before args0 about1 = true := by decide +kernel
theorem w_applies : (headSpec (Jvm.Cond.code x code maxLocals ret :: tables_1) room_1).applies x e0.platform about1 = true :=
  (Spec.applies_iff w_frames).mpr ⟨w_running, w_runnable, w_alone, w_named, w_hears, w_ripe, w_room, w_tables⟩
theorem atStart : AtStart classFile x code maxLocals ret World_1 tables_1 room_1 Calls_1 rest_1 Pre_1 launch0 p0 e0 about1 theMethod args0 below0 :=
  ⟨lists_1, trivial, launch0.admits_env _ _ _, launch0.least_env, fairChoices_fair.cas, fairChoices_fair.clock, w_frames, w_args, w_heap, w_applies, trivial, trivial, w_case⟩
end start1
theorem witness_1 : WitnessClaimed_1 := ⟨start1.p0, start1.e0, start1.about1, start1.theMethod, start1.args0, start1.below0, start1.atStart⟩
end Jvm.Pilot.@@N@@
