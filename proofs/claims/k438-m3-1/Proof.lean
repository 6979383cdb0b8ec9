import JvmDerived
import JvmDerived.Pilot.@@N@@Statement
import JvmDerived.Pilot.@@N@@Code
set_option linter.unusedVariables false
set_option linter.unusedSimpArgs false
@@BLOCK:NumsL.lean.txt@@
namespace Jvm.Pilot.@@N@@
open Jvm Jvm.ClassFile Sem Op Lib Jvm.Free Jvm.Stand Jvm.LawKit Jvm.RoadKit Bundle Jvm.Pilot.@@N@@.Jvm.D
/-- from here the run comes to a state of which P holds -/
def own_Go (tb : Tables) (e : Env) (below : List Frame) (P : State → Prop) (T : State) (g : JFrame) : Prop := ∃ t, Steps tb e below (T.setTop g) t ∧ P t
theorem own_st {tb : Tables} {e : Env} {below : List Frame} {P : State → Prop} {T T' : State} {g g' : JFrame} (h : ∀ t, Steps tb e below (T'.setTop g') t → Steps tb e below (T.setTop g) t) (k : own_Go tb e below P T' g') : own_Go tb e below P T g := by
  obtain ⟨t, a, b⟩ := k; exact ⟨t, h t a, b⟩
/-- what the end of a body must be -/
def own_P (s : State) (below : List Frame) (Q : Option Value → Heap → List Loc → Prop) (C S : Nat) (t : State) : Prop := t.status = .running ∧ ∃ o, Ended t below o ∧ ∃ v L, o = .returned v ∧ Q v t.heap L ∧ FrameEnd s o t L C S
/-- .. of a body that may have interned -/
def own_PW (s : State) (below : List Frame) (Q : Option Value → Heap → List Loc → Prop) (C S : Nat) (t : State) : Prop := t.status = .running ∧ ∃ o, Ended t below o ∧ ∃ v L, o = .returned v ∧ Q v t.heap L ∧ ReturnedEndW s o t L C S
section own
variable {p : Program} {l : Launch} {e : Env} {R : Room} {s : State} {m : MethodId} {args : Array Value} {below : List Frame} {meth : Method} {c : Code} {T : State} {locs : List Loc} {cells slots : Nat} {Qo : Option Value → Heap → List Loc → Prop} {C' S' : Nat}
theorem own_out (X : Stand p l e R s m args below meth c T locs cells slots) {v : Option Value} {g : JFrame} (hv : meth.sig.returnType = none → v = none) (hlocks : meth.locks = false)
    (hst : ∀ fs, (∀ (f : JFrame) (acts : List Action), f.method = m → f.locked = none → f.entered = [] → (doReturn e (T.setTop f) acts v).1 = T.setFrames fs) → Steps p.tables e below (T.setTop g) (T.setFrames fs))
    (hc : cells ≤ C') (hs : slots ≤ S') (hq : Qo v T.heap locs) : own_Go p.tables e below (own_P s below Qo C' S') T g := by
  obtain ⟨fs, hr, hrun, hended, hW, hsame⟩ := X.leave (v := v) hv hlocks
  exact ⟨_, hst fs hr, hrun, _, hended, _, _, rfl, hq, ⟨_, rfl⟩, hW, hsame.mono hc hs⟩
theorem own_outW {vm0 : Vm} (X : Stand p l e R (s.setVm vm0) m args below meth c T locs cells slots) {k0 : Nat} (hS : s.Since vm0 k0) (hk : k0 ≤ T.heap.size) {v : Option Value} {g : JFrame} (hv : meth.sig.returnType = none → v = none) (hlocks : meth.locks = false)
    (hst : ∀ fs, (∀ (f : JFrame) (acts : List Action), f.method = m → f.locked = none → f.entered = [] → (doReturn e (T.setTop f) acts v).1 = T.setFrames fs) → Steps p.tables e below (T.setTop g) (T.setFrames fs))
    (hc : cells ≤ C') (hs : slots ≤ S') (hq : Qo v T.heap locs) : own_Go p.tables e below (own_PW s below Qo C' S') T g := by
  obtain ⟨fs, hr, hrun, hended, hW⟩ := X.leaveW hS hk (v := v) hv hlocks
  exact ⟨_, hst fs hr, hrun, _, hended, _, _, rfl, hq, hW.1, hW.2.1, hW.2.2.1, hW.2.2.2.mono hc hs⟩
theorem own_retI (X : Stand p l e R s m args below meth c T locs cells slots) (hx : p.tables.exec = Jvm.exec) {pc : Nat} {Ls : Array Slot} {z : Int32} {rest : List Value} (hret : meth.sig.returnType = some .int) (hd : decode c.code pc = .ok (.ireturn, 1)) (fs : List Frame)
    (hl : ∀ (f : JFrame) (acts : List Action), f.method = m → f.locked = none → f.entered = [] → (doReturn e (T.setTop f) acts (some (.int z))).1 = T.setFrames fs) : Steps p.tables e below (T.setTop (mkF m pc Ls (.int z :: rest))) (T.setFrames fs) :=
  retOut X hx hret rfl (Or.inl ⟨rfl, Or.inl rfl, _, rfl⟩) hd hl
theorem own_retZ (X : Stand p l e R s m args below meth c T locs cells slots) (hx : p.tables.exec = Jvm.exec) {pc : Nat} {Ls : Array Slot} {z : Int32} {rest : List Value} (hret : meth.sig.returnType = some .boolean) (hd : decode c.code pc = .ok (.ireturn, 1)) (hb : z = 0 ∨ z = 1) (fs : List Frame)
    (hl : ∀ (f : JFrame) (acts : List Action), f.method = m → f.locked = none → f.entered = [] → (doReturn e (T.setTop f) acts (some (.int z))).1 = T.setFrames fs) : Steps p.tables e below (T.setTop (mkF m pc Ls (.int z :: rest))) (T.setFrames fs) := by
  have e1 : nar .boolean z = z := by rcases hb with rfl | rfl <;> decide
  exact retN X hx hret (Or.inl rfl) hd (by rw [e1]; exact hl)
theorem own_retJ (X : Stand p l e R s m args below meth c T locs cells slots) (hx : p.tables.exec = Jvm.exec) {pc : Nat} {Ls : Array Slot} {z : Int64} {rest : List Value} (hret : meth.sig.returnType = some .long) (hd : decode c.code pc = .ok (.lreturn, 1)) (fs : List Frame)
    (hl : ∀ (f : JFrame) (acts : List Action), f.method = m → f.locked = none → f.entered = [] → (doReturn e (T.setTop f) acts (some (.long z))).1 = T.setFrames fs) : Steps p.tables e below (T.setTop (mkF m pc Ls (.long z :: rest))) (T.setFrames fs) :=
  retOut X hx hret rfl (Or.inr (Or.inl ⟨rfl, rfl, _, rfl⟩)) hd hl
theorem own_retD (X : Stand p l e R s m args below meth c T locs cells slots) (hx : p.tables.exec = Jvm.exec) {pc : Nat} {Ls : Array Slot} {z : UInt64} {rest : List Value} (hret : meth.sig.returnType = some .double) (hd : decode c.code pc = .ok (.dreturn, 1)) (fs : List Frame)
    (hl : ∀ (f : JFrame) (acts : List Action), f.method = m → f.locked = none → f.entered = [] → (doReturn e (T.setTop f) acts (some (.double z))).1 = T.setFrames fs) : Steps p.tables e below (T.setTop (mkF m pc Ls (.double z :: rest))) (T.setFrames fs) :=
  retOut X hx hret rfl (Or.inr (Or.inr (Or.inl ⟨rfl, rfl, _, rfl⟩))) hd hl
theorem own_retR (X : Stand p l e R s m args below meth c T locs cells slots) (hx : p.tables.exec = Jvm.exec) {pc : Nat} {Ls : Array Slot} {w : Value} {t : FieldType} {rest : List Value} (hret : meth.sig.returnType = some t) (ht : t.isReference = true) (hw : w.isRef = true) (hn : narrow t w = w) (hd : decode c.code pc = .ok (.areturn, 1)) (fs : List Frame)
    (hl : ∀ (f : JFrame) (acts : List Action), f.method = m → f.locked = none → f.entered = [] → (doReturn e (T.setTop f) acts (some w)).1 = T.setFrames fs) : Steps p.tables e below (T.setTop (mkF m pc Ls (w :: rest))) (T.setFrames fs) :=
  retOut X hx hret hn (Or.inr (Or.inr (Or.inr (Or.inr ⟨rfl, ht, hw⟩)))) hd hl
end own
/-- a private method is the one that is picked -/
theorem own_selp {s : State} {args : Array Value} {y : MethodName} {n : Nat} (hi : (Jvm.Cond.instantiable y.cls n).before args s = true) (hp : s.PrivateAt y) (hm : (Jvm.Cond.instanceMethod y).before args s = true) (hy : y.cls ≠ "java/lang/invoke/MethodHandle" ∧ y.cls ≠ "java/lang/invoke/VarHandle") : (Jvm.Cond.selects y.cls y y).before args s = true := by
  obtain ⟨c, k, h1, h2, -, h4, -⟩ := Cond.instantiable_spec hi
  exact selects_self_of_private h1 h2 (Bool.or_eq_false_iff.mp h4).1 hp hm hy
theorem own_staK {Z : State} {h h' : Heap} {C n d : String} {v : Value} {ws : List Addr} (F : Sta Z h C n d v) (K : Keep h h' ws) (q : ∀ x ∈ ws, ∃ D, Exa Z h x D) : Sta Z h' C n d v := by
  obtain ⟨cf, i, k, f, st, cell, h1, h2, h3, h4, h5, h6, h7⟩ := F
  refine ⟨cf, i, k, f, st, cell, h1, h2, h3, h4, K.2.1 st cell h5 (fun hm => ?_), h6, h7⟩
  obtain ⟨D, c', k', e1, -, -, e4, -⟩ := q st hm
  cases h5.symm.trans e1
  rw [h6] at e4; cases e4
/-- a reference or null -/
theorem own_refOf {w : Value} (h : w.isRef = true) (c : ¬ w = Value.null) : ∃ a, w = .ref a := (ref_cases h).resolve_left c
theorem own_nW {t : FieldType} {w : Value} (ht : t.isReference = true) (h : w.isRef = true) : narrow t w = w := by
  rcases ref_cases h with rfl | ⟨a, rfl⟩ <;> cases t <;> first | rfl | simp [FieldType.isReference] at ht
theorem own_fW {t : FieldType} {w : Value} (ht : t.isReference = true) (h : w.isRef = true) : fits t w = true := by
  rcases ref_cases h with rfl | ⟨a, rfl⟩ <;> cases t <;> first | rfl | simp [FieldType.isReference] at ht
theorem own_nb {z : Int32} (h : z = 0 ∨ z = 1) : narrow .boolean (.int z) = .int z := by rcases h with rfl | rfl <;> rfl
theorem own_fb {z : Int32} (h : z = 0 ∨ z = 1) : fits .boolean (.int z) = true := by rcases h with rfl | rfl <;> rfl
/-- lcmp and a branch, in one -/
def own_lcv : ClassFile.Cond → Int64 → Int64 → Prop
  | .lt, x, y => x < y | .ge, x, y => ¬ x < y | .gt, x, y => y < x | .le, x, y => ¬ y < x | .eq, x, y => x = y | .ne, x, y => ¬ x = y
theorem own_lcT {cd : ClassFile.Cond} {x y : Int64} (h : own_lcv cd x y) : ifCond.holds cd (lcmpW x y) = true := by
  rw [if0]
  cases cd
  · exact (teq ((lw_eq x y).mpr h)).1
  · exact (feq (fun q => h ((lw_eq x y).mp q))).2
  · exact (tlt ((lw_lt x y).mpr h)).1
  · exact (flt (fun q => h ((lw_lt x y).mp q))).2.1
  · exact (tlt ((lw_gt x y).mpr h)).2.2.1
  · exact (flt (fun q => h ((lw_gt x y).mp q))).2.2.2
theorem own_lcF {cd : ClassFile.Cond} {x y : Int64} (h : ¬ own_lcv cd x y) : ifCond.holds cd (lcmpW x y) = false := by
  rw [if0]
  cases cd
  · exact (feq (fun q => h ((lw_eq x y).mp q))).1
  · exact (teq (Classical.byContradiction fun q => h (fun r => q ((lw_eq x y).mpr r)))).2
  · exact (flt (fun q => h ((lw_lt x y).mp q))).1
  · exact (tlt (Classical.byContradiction fun q => h (fun r => q ((lw_lt x y).mpr r)))).2.1
  · exact (flt (fun q => h ((lw_gt x y).mp q))).2.2.1
  · exact (tlt (Classical.byContradiction fun q => h (fun r => q ((lw_gt x y).mpr r)))).2.2.2

theorem own_pd___V : parseMethodDescriptor "()V" = some ⟨[], none⟩ := by decide +kernel
theorem own_pd__D_D : parseMethodDescriptor "(D)D" = some ⟨[.double], some .double⟩ := by decide +kernel
theorem own_pd__J_V : parseMethodDescriptor "(J)V" = some ⟨[.long], none⟩ := by decide +kernel
def own_updI (g : Nat → Int32) (j : Nat) (x : Int32) : Nat → Int32 := fun i => if i = j then x else g i
def own_updJ (g : Nat → Int64) (j : Nat) (x : Int64) : Nat → Int64 := fun i => if i = j then x else g i
theorem own_lt {c : Cell} {j : Int32} (q : ¬ (j < 0 ∨ c.slots.size ≤ j.toNatClampNeg)) : j.toNatClampNeg < c.slots.size := Nat.lt_of_not_le fun y => q (Or.inr y)
/-- an array of her own kind, its content as a function -/
def own_AI (Z : State) (h : Heap) (a : Addr) (k : ClassId) (z : Int32) (g : Nat → Int32) : Prop := ∃ c : Cell, Arr Z h a c .int ∧ c.cls = k ∧ c.slots.size = z.toNatClampNeg ∧ ¬ z < 0 ∧ ∀ i, i < c.slots.size → c.slots[i]? = some (.int (g i))
section own_AI
variable {Z : State} {h h' : Heap} {a b : Addr} {k : ClassId} {z j : Int32} {g : Nat → Int32} {sl : Nat} {v : Value} {ws : List Addr}
theorem own_AI.lt (F : own_AI Z h a k z g) : a < h.size := by obtain ⟨c, A, -⟩ := F; exact A.lt
theorem own_AI.ext (F : own_AI Z h a k z g) (E : Ext h h') : own_AI Z h' a k z g := by obtain ⟨c, A, r⟩ := F; exact ⟨c, A.ext E, r⟩
theorem own_AI.other (F : own_AI Z h b k z g) (W : Wr h h' a sl v) (q : b ≠ a) : own_AI Z h' b k z g := by obtain ⟨c, A, r⟩ := F; exact ⟨c, A.other W q, r⟩
theorem own_AI.keep (F : own_AI Z h a k z g) (K : Keep h h' ws) (q : a ∉ ws) : own_AI Z h' a k z g := by obtain ⟨c, A, r⟩ := F; exact ⟨c, ⟨K.2.1 a c A.1 q, A.2⟩, r⟩
theorem own_AI.new (A : Arr Z h a (newA k .int z) .int) (q : ¬ z < 0) : own_AI Z h a k z (fun _ => 0) := by
  obtain ⟨c, r1, r2, r3, r4, r5, -⟩ := Arv.new A q
  exact ⟨c, r1, r2, r3, r4, fun i hi => by rw [r5 i hi]; rfl⟩
theorem own_AI.set {x : Int32} (F : own_AI Z h a k z g) (W : Wr h h' a j.toNatClampNeg (.int x)) : own_AI Z h' a k z (own_updI g j.toNatClampNeg x) := by
  obtain ⟨c, r1, r2, r3, r4, r5⟩ := F
  refine ⟨_, r1.same W, r2, by rw [sz_set]; exact r3, r4, fun i hi => ?_⟩
  rw [sz_set] at hi
  unfold own_updI
  by_cases u : i = j.toNatClampNeg
  · subst u; simp [Cell.setSlot, hi]
  · rw [if_neg u]; have := r5 i hi; simp only [Cell.setSlot] at this ⊢; rw [Array.getElem?_setIfInBounds_ne (Ne.symm u)]; exact this
theorem own_fitI {c : Cell} (A : Arr Z h a c .int) (H : ∀ i, i < c.slots.size → c.slots[i]? = some (.int (g i))) : FitC Z c := fitC_of A fun i hi v hv => by rw [H i hi] at hv; cases hv; rfl
theorem own_AI.clone {c : Cell} (H : ∀ i, i < c.slots.size → c.slots[i]? = some (.int (g i))) (q : c.cls = k) (S : c.slots.size = z.toNatClampNeg) (N : ¬ z < 0) (A : Arr Z h' b (cloneOf c) .int) : own_AI Z h' b k z g := ⟨_, A, q, S, N, H⟩
end own_AI

/-- an array of her own kind, its content as a function -/
def own_AJ (Z : State) (h : Heap) (a : Addr) (k : ClassId) (z : Int32) (g : Nat → Int64) : Prop := ∃ c : Cell, Arr Z h a c .long ∧ c.cls = k ∧ c.slots.size = z.toNatClampNeg ∧ ¬ z < 0 ∧ ∀ i, i < c.slots.size → c.slots[i]? = some (.long (g i))
section own_AJ
variable {Z : State} {h h' : Heap} {a b : Addr} {k : ClassId} {z j : Int32} {g : Nat → Int64} {sl : Nat} {v : Value} {ws : List Addr}
theorem own_AJ.lt (F : own_AJ Z h a k z g) : a < h.size := by obtain ⟨c, A, -⟩ := F; exact A.lt
theorem own_AJ.ext (F : own_AJ Z h a k z g) (E : Ext h h') : own_AJ Z h' a k z g := by obtain ⟨c, A, r⟩ := F; exact ⟨c, A.ext E, r⟩
theorem own_AJ.other (F : own_AJ Z h b k z g) (W : Wr h h' a sl v) (q : b ≠ a) : own_AJ Z h' b k z g := by obtain ⟨c, A, r⟩ := F; exact ⟨c, A.other W q, r⟩
theorem own_AJ.keep (F : own_AJ Z h a k z g) (K : Keep h h' ws) (q : a ∉ ws) : own_AJ Z h' a k z g := by obtain ⟨c, A, r⟩ := F; exact ⟨c, ⟨K.2.1 a c A.1 q, A.2⟩, r⟩
theorem own_AJ.new (A : Arr Z h a (newA k .long z) .long) (q : ¬ z < 0) : own_AJ Z h a k z (fun _ => 0) := by
  obtain ⟨c, r1, r2, r3, r4, r5, -⟩ := Arv.new A q
  exact ⟨c, r1, r2, r3, r4, fun i hi => by rw [r5 i hi]; rfl⟩
theorem own_AJ.set {x : Int64} (F : own_AJ Z h a k z g) (W : Wr h h' a j.toNatClampNeg (.long x)) : own_AJ Z h' a k z (own_updJ g j.toNatClampNeg x) := by
  obtain ⟨c, r1, r2, r3, r4, r5⟩ := F
  refine ⟨_, r1.same W, r2, by rw [sz_set]; exact r3, r4, fun i hi => ?_⟩
  rw [sz_set] at hi
  unfold own_updJ
  by_cases u : i = j.toNatClampNeg
  · subst u; simp [Cell.setSlot, hi]
  · rw [if_neg u]; have := r5 i hi; simp only [Cell.setSlot] at this ⊢; rw [Array.getElem?_setIfInBounds_ne (Ne.symm u)]; exact this
theorem own_fitJ {c : Cell} (A : Arr Z h a c .long) (H : ∀ i, i < c.slots.size → c.slots[i]? = some (.long (g i))) : FitC Z c := fitC_of A fun i hi v hv => by rw [H i hi] at hv; cases hv; rfl
theorem own_AJ.clone {c : Cell} (H : ∀ i, i < c.slots.size → c.slots[i]? = some (.long (g i))) (q : c.cls = k) (S : c.slots.size = z.toNatClampNeg) (N : ¬ z < 0) (A : Arr Z h' b (cloneOf c) .long) : own_AJ Z h' b k z g := ⟨_, A, q, S, N, H⟩
end own_AJ

/-- a datum scaled down by a power of two -/
def own_shift : FP.Core.Datum → Nat → FP.Core.Datum
  | .fin s c q, k => .fin s c (q - k)
  | d, _ => d
theorem own_qlow {n : Int} {s : Bool} {c : Nat} {q : Int} (hn : n ≠ 0) (hw : FP.Core.Whole n (.fin s c q)) (hf : FP.Core.fits FP.Core.b64 (.fin s c q)) : -53 ≤ q := by
  have h := FP.Core.whole_natAbs hw
  have hc : c < 2 ^ 53 := hf.1
  refine Int.not_lt.mp fun hq => ?_
  have e1 : q.toNat = 0 := by omega
  have e2 : 53 ≤ (-q).toNat := by omega
  have p := Nat.pow_le_pow_right (n := 2) (by decide) e2
  have hp : 1 ≤ n.natAbs := by omega
  rw [e1, Nat.pow_zero, Nat.mul_one] at h
  have := Nat.mul_le_mul hp p
  omega
theorem own_fitshift {n : Int} {s : Bool} {c : Nat} {q : Int} {k : Nat} (hn : n ≠ 0) (hw : FP.Core.Whole n (.fin s c q)) (hf : FP.Core.fits FP.Core.b64 (.fin s c q)) (hk : k ≤ 1000) : FP.Core.fits FP.Core.b64 (.fin s c (q - k)) := by
  have h := own_qlow hn hw hf
  obtain ⟨h1, h2, h3, h4⟩ := hf
  have e1 : FP.Core.b64.qmin = -1074 := by decide
  rw [e1] at h2 h4
  refine ⟨h1, ?_, ?_, Or.inr ?_⟩
  · rw [e1]; omega
  · omega
  · rcases h4 with h4 | h4
    · omega
    · exact h4
def own_B : Nat := 1074
theorem own_B_eq : own_B = 1074 := rfl
/-- the double is the number n / 2^k -/
def own_is (x : UInt64) (n k : Nat) : Prop := ∃ c q, FP.Core.val64 x = .fin false c q ∧ c * 2 ^ (q + own_B).toNat * 2 ^ k = n * 2 ^ own_B
theorem own_qmin {s : Bool} {c : Nat} {q : Int} (hf : FP.Core.fits FP.Core.b64 (.fin s c q)) : -own_B ≤ q := by
  have h := hf.2.1
  rw [show FP.Core.b64.qmin = -1074 by decide] at h
  rw [own_B_eq]; omega
theorem own_pow2 (n : Nat) : 0 < 2 ^ n := Nat.two_pow_pos n
theorem own_scale {c n : Nat} {q : Int} (h : c * 2 ^ q.toNat = n * 2 ^ (-q).toNat) (hq : -own_B ≤ q) : c * 2 ^ (q + own_B).toNat = n * 2 ^ own_B := by
  by_cases hs : 0 ≤ q
  · rw [show (-q).toNat = 0 by omega, Nat.pow_zero, Nat.mul_one] at h
    rw [show (q + own_B).toNat = q.toNat + own_B by omega, Nat.pow_add, ← Nat.mul_assoc, h]
  · rw [show q.toNat = 0 by omega, Nat.pow_zero, Nat.mul_one] at h
    rw [h, Nat.mul_assoc, ← Nat.pow_add, show (-q).toNat + (q + own_B).toNat = own_B by omega]
/-- such a number is a double -/
theorem own_rep {n k : Nat} (h1 : 0 < n) (h2 : n < 2 ^ 53) (hk : k ≤ 900) : ∃ c q, FP.Core.fits FP.Core.b64 (.fin false c q) ∧ c * 2 ^ (q + own_B).toNat * 2 ^ k = n * 2 ^ own_B := by
  have hn : (n : Int) ≠ 0 := by omega
  have w := FP.Core.whole_round FP.Core.good_b64 FP.Core.wide_b64 (i := (n : Int)) (by rw [Int.natAbs_natCast]; exact Nat.le_of_lt h2) (FP.Core.whole_ofInt n)
  have f := FP.Core.round_fits FP.Core.good_b64 (FP.Core.ofInt n)
  cases hd : FP.Core.round FP.Core.b64 (FP.Core.ofInt n) with
  | nan => rw [hd] at w; exact w.elim
  | inf s => rw [hd] at w; exact w.elim
  | fin s c q =>
    rw [hd] at w f
    have hs : s = false := by rw [FP.Core.whole_sign w hn]; exact decide_eq_false (by omega)
    subst hs
    have lo := own_qlow hn w f
    have e := FP.Core.whole_natAbs w
    rw [Int.natAbs_natCast] at e
    refine ⟨c, q - k, own_fitshift hn w f (by omega), ?_⟩
    rw [Nat.mul_assoc, ← Nat.pow_add, show (q - (k : Int) + own_B).toNat + k = (q + own_B).toNat by rw [own_B_eq]; omega]
    exact own_scale e (own_qmin f)
theorem own_is_whole {x : UInt64} {n : Nat} (h : FP.Core.DInt n x) (hn : 0 < n) : own_is x n 0 := by
  have f := FP.Core.val64_fits x
  unfold FP.Core.DInt at h
  cases hd : FP.Core.val64 x with
  | nan => rw [hd] at h; exact h.elim
  | inf s => rw [hd] at h; exact h.elim
  | fin s c q =>
    rw [hd] at h f
    have hs : s = false := by rw [FP.Core.whole_sign h (by omega)]; exact decide_eq_false (by omega)
    subst hs
    have e := FP.Core.whole_natAbs h
    rw [Int.natAbs_natCast] at e
    exact ⟨c, q, hd, by rw [Nat.pow_zero, Nat.mul_one]; exact own_scale e (own_qmin f)⟩
theorem own_is_nn {x : UInt64} {n k : Nat} (h : own_is x n k) : Jvm.Free.Fl.NoNaN64 x := by
  obtain ⟨c, q, e, -⟩ := h
  exact Jvm.Free.Fl.val64_no.mpr fun g => by rw [e] at g; cases g
theorem own_is_cmp {x y : UInt64} {n k : Nat} (h : own_is x n k) (g : own_is y n k) (o : CmpOp) : cmpValue (FP.dcmp x y) o = 0 := by
  have fx := FP.Core.val64_fits x; have fy := FP.Core.val64_fits y
  obtain ⟨c, q, e, v⟩ := h
  obtain ⟨c', q', e', v'⟩ := g
  rw [e] at fx; rw [e'] at fy
  have ee : c * 2 ^ (q + own_B).toNat = c' * 2 ^ (q' + own_B).toNat := Nat.eq_of_mul_eq_mul_right (own_pow2 k) (v.trans v'.symm)
  have o1 : FP.dcmp x y = some (compare (FP.Core.zval FP.Core.b64 (.fin false c q)) (FP.Core.zval FP.Core.b64 (.fin false c' q'))) := by
    show FP.Core.order (FP.Core.val64 _) (FP.Core.val64 _) = _
    rw [e, e']
    exact FP.Core.order_zval FP.Core.good_b64 fx fy (fun h => nomatch h) (fun h => nomatch h)
  have z : FP.Core.zval FP.Core.b64 (.fin false c q) = FP.Core.zval FP.Core.b64 (.fin false c' q') := by
    show ((c * 2 ^ (q - FP.Core.b64.qmin).toNat : Nat) : Int) = ((c' * 2 ^ (q' - FP.Core.b64.qmin).toNat : Nat) : Int)
    rw [show FP.Core.b64.qmin = -own_B by decide, show q - -(own_B : Int) = q + own_B by omega, show q' - -(own_B : Int) = q' + own_B by omega, ee]
  rw [o1, z, (FP.Core.compare_eq_iff _ _).mpr rfl]
  cases o <;> rfl
/-- the last step of all three: the units -/
theorem own_units {A B c e1 e2 : Nat} {e q : Int} (h : A * 2 ^ e1 = c * B * 2 ^ e2) (hd : (e1 : Int) - e2 = e - q) : A * 2 ^ (e - q).toNat = c * B * 2 ^ (q - e).toNat := by
  by_cases hs : 0 ≤ e - q
  · rw [show (q - e).toNat = 0 by omega, Nat.pow_zero, Nat.mul_one]
    rw [show e1 = (e - q).toNat + e2 by omega, Nat.pow_add, ← Nat.mul_assoc] at h
    exact Nat.eq_of_mul_eq_mul_right (own_pow2 e2) h
  · rw [show (e - q).toNat = 0 by omega, Nat.pow_zero, Nat.mul_one]
    rw [show e2 = (q - e).toNat + e1 by omega, Nat.pow_add, ← Nat.mul_assoc] at h
    exact Nat.eq_of_mul_eq_mul_right (own_pow2 e1) h
theorem own_is_div {x y : UInt64} {n1 k1 n2 k2 n3 k3 : Nat} (hx : own_is x n1 k1) (hy : own_is y n2 k2) (h2 : 0 < n2) (h3 : 0 < n3) (h3' : n3 < 2 ^ 53) (hk : k3 ≤ 900) (h : n1 * (2 ^ k2 * 2 ^ k3) = n3 * n2 * 2 ^ k1) : own_is (FP.ddiv x y) n3 k3 := by
  have fx := FP.Core.val64_fits x; have fy := FP.Core.val64_fits y
  obtain ⟨c1, q1, e1, v1⟩ := hx
  obtain ⟨c2, q2, e2, v2⟩ := hy
  obtain ⟨c3, q3, f3, v3⟩ := own_rep h3 h3' hk
  rw [e1] at fx; rw [e2] at fy
  have m1 := own_qmin fx; have m2 := own_qmin fy; have m3 := own_qmin f3
  have p2 : c2 ≠ 0 := by
    intro g
    rw [g, Nat.zero_mul, Nat.zero_mul] at v2
    have := Nat.mul_pos h2 (own_pow2 own_B); omega
  refine ⟨c3, q3, ?_, v3⟩
  show FP.Core.val64 (FP.Core.ddiv x y) = _
  rw [FP.Core.val64_ddiv, e1, e2]
  simp only [FP.Core.quotient]
  rw [if_neg p2]
  refine FP.Core.roundRatio_exact FP.Core.good_b64 (by omega) f3 (own_units (e1 := (q1 + own_B).toNat + own_B) (e2 := (q2 + own_B).toNat + (q3 + own_B).toNat) ?_ (by omega))
  rw [Nat.pow_add, Nat.pow_add]
  generalize 2 ^ (q1 + own_B).toNat = A1 at *
  generalize 2 ^ (q2 + own_B).toNat = A2 at *
  generalize 2 ^ (q3 + own_B).toNat = A3 at *
  generalize 2 ^ own_B = P at *
  have K1 := own_pow2 k1; have K2 := own_pow2 k2; have K3 := own_pow2 k3
  generalize 2 ^ k1 = a at *
  generalize 2 ^ k2 = b at *
  generalize 2 ^ k3 = d at *
  refine Nat.eq_of_mul_eq_mul_right (Nat.mul_pos K1 (Nat.mul_pos K2 K3)) ?_
  calc c1 * (A1 * P) * (a * (b * d)) = (c1 * A1 * a) * P * (b * d) := by ac_rfl
    _ = (n1 * (b * d)) * P * P := by rw [v1]; ac_rfl
    _ = (n2 * P) * (n3 * P) * a := by rw [h]; ac_rfl
    _ = (c2 * A2 * b) * (c3 * A3 * d) * a := by rw [v2, v3]
    _ = c3 * c2 * (A2 * A3) * (a * (b * d)) := by ac_rfl
theorem own_is_mul {x y : UInt64} {n1 k1 n2 k2 n3 k3 : Nat} (hx : own_is x n1 k1) (hy : own_is y n2 k2) (h3 : 0 < n3) (h3' : n3 < 2 ^ 53) (hk : k3 ≤ 900) (h : n1 * n2 * 2 ^ k3 = n3 * (2 ^ k1 * 2 ^ k2)) : own_is (FP.dmul x y) n3 k3 := by
  have fx := FP.Core.val64_fits x; have fy := FP.Core.val64_fits y
  obtain ⟨c1, q1, e1, v1⟩ := hx
  obtain ⟨c2, q2, e2, v2⟩ := hy
  obtain ⟨c3, q3, f3, v3⟩ := own_rep h3 h3' hk
  rw [e1] at fx; rw [e2] at fy
  have m1 := own_qmin fx; have m2 := own_qmin fy; have m3 := own_qmin f3
  refine ⟨c3, q3, ?_, v3⟩
  show FP.Core.val64 (FP.Core.dmul x y) = _
  rw [FP.Core.val64_dmul, e1, e2]
  show FP.Core.roundRatio FP.Core.b64 false (c1 * c2) 1 (q1 + q2) = _
  refine FP.Core.roundRatio_exact FP.Core.good_b64 (by omega) f3 (own_units (e1 := (q1 + own_B).toNat + (q2 + own_B).toNat) (e2 := (q3 + own_B).toNat + own_B) ?_ (by omega))
  rw [Nat.pow_add, Nat.pow_add, Nat.mul_one]
  generalize 2 ^ (q1 + own_B).toNat = A1 at *
  generalize 2 ^ (q2 + own_B).toNat = A2 at *
  generalize 2 ^ (q3 + own_B).toNat = A3 at *
  generalize 2 ^ own_B = P at *
  have K1 := own_pow2 k1; have K2 := own_pow2 k2; have K3 := own_pow2 k3
  generalize 2 ^ k1 = a at *
  generalize 2 ^ k2 = b at *
  generalize 2 ^ k3 = d at *
  refine Nat.eq_of_mul_eq_mul_right (Nat.mul_pos K1 (Nat.mul_pos K2 K3)) ?_
  calc c1 * c2 * (A1 * A2) * (a * (b * d)) = (c1 * A1 * a) * (c2 * A2 * b) * d := by ac_rfl
    _ = (n1 * n2 * d) * P * P := by rw [v1, v2]; ac_rfl
    _ = (n3 * P) * (a * b) * P := by rw [h]; ac_rfl
    _ = (c3 * A3 * d) * (a * b) * P := by rw [v3]
    _ = c3 * (A3 * P) * (a * (b * d)) := by ac_rfl
theorem own_is_add {x y : UInt64} {n1 n2 n3 k k3 : Nat} (hx : own_is x n1 k) (hy : own_is y n2 k) (h3 : 0 < n3) (h3' : n3 < 2 ^ 53) (hk : k3 ≤ 900) (h : (n1 + n2) * 2 ^ k3 = n3 * 2 ^ k) : own_is (FP.dadd x y) n3 k3 := by
  have fx := FP.Core.val64_fits x; have fy := FP.Core.val64_fits y
  obtain ⟨c1, q1, e1, v1⟩ := hx
  obtain ⟨c2, q2, e2, v2⟩ := hy
  obtain ⟨c3, q3, f3, v3⟩ := own_rep h3 h3' hk
  rw [e1] at fx; rw [e2] at fy
  have m1 := own_qmin fx; have m2 := own_qmin fy; have m3 := own_qmin f3
  refine ⟨c3, q3, ?_, v3⟩
  show FP.Core.val64 (FP.Core.dadd x y) = _
  rw [FP.Core.val64_dadd, e1, e2]
  have s1 : FP.Core.sumUnits false c1 q1 false c2 q2 (min q1 q2) = ((c1 * 2 ^ (q1 - min q1 q2).toNat + c2 * 2 ^ (q2 - min q1 q2).toNat : Nat) : Int) := by
    show ((c1 * 2 ^ (q1 - min q1 q2).toNat : Nat) : Int) + ((c2 * 2 ^ (q2 - min q1 q2).toNat : Nat) : Int) = _
    exact (Int.natCast_add _ _).symm
  have s2 : FP.Core.sumSign false false (FP.Core.sumUnits false c1 q1 false c2 q2 (min q1 q2)) = false := by
    rw [s1]; unfold FP.Core.sumSign
    split
    · rfl
    · exact decide_eq_false (by omega)
  simp only [FP.Core.exactSum]
  rw [s2, s1, Int.natAbs_natCast]
  show FP.Core.roundRatio FP.Core.b64 false _ 1 (min q1 q2) = _
  refine FP.Core.roundRatio_exact FP.Core.good_b64 (by omega) f3 (own_units (e1 := (min q1 q2 + own_B).toNat) (e2 := (q3 + own_B).toNat) ?_ (by omega))
  have t1 : (q1 + own_B).toNat = (q1 - min q1 q2).toNat + (min q1 q2 + own_B).toNat := by omega
  have t2 : (q2 + own_B).toNat = (q2 - min q1 q2).toNat + (min q1 q2 + own_B).toNat := by omega
  rw [t1, Nat.pow_add] at v1
  rw [t2, Nat.pow_add] at v2
  generalize 2 ^ (q1 - min q1 q2).toNat = A1 at *
  generalize 2 ^ (q2 - min q1 q2).toNat = A2 at *
  generalize 2 ^ (min q1 q2 + own_B).toNat = M at *
  generalize 2 ^ (q3 + own_B).toNat = A3 at *
  generalize 2 ^ own_B = P at *
  have K1 := own_pow2 k; have K3 := own_pow2 k3
  generalize 2 ^ k = a at *
  generalize 2 ^ k3 = d at *
  refine Nat.eq_of_mul_eq_mul_right (Nat.mul_pos K1 K3) ?_
  calc (c1 * A1 + c2 * A2) * M * (a * d) = (c1 * (A1 * M) * a + c2 * (A2 * M) * a) * d := by
        rw [Nat.add_mul, Nat.add_mul, Nat.add_mul]; congr 1 <;> ac_rfl
    _ = ((n1 + n2) * d) * P := by rw [v1, v2, ← Nat.add_mul]; ac_rfl
    _ = (n3 * P) * a := by rw [h]; ac_rfl
    _ = (c3 * A3 * d) * a := by rw [v3]
    _ = c3 * 1 * A3 * (a * d) := by rw [Nat.mul_one]; ac_rfl
def own_int (r : UInt64) : UInt64 := FP.ddiv 4696837146684686336 r
def own_thr (w : Int64) (x : UInt64) : UInt64 := FP.ddiv (FP.dmul 4602678819172646912 (FP.l2d w)) x
def own_mpa (w : Int64) (x : UInt64) : UInt64 := FP.dadd (own_thr w x) (FP.ddiv (FP.dmul 4611686018427387904 (FP.l2d w)) (FP.dadd x (FP.dmul 4613937818241073152 x)))
def own_mp (w : Int64) (r : UInt64) : UInt64 := own_mpa w (own_int r)
def own_ref (w : Int64) (r : UInt64) : UInt64 := FP.ddiv (FP.l2d w) (own_mp w r)
def own_okT (w : Int64) (x : UInt64) : Prop := Jvm.Free.Fl.NoNaN64 (FP.dmul 4602678819172646912 (FP.l2d w)) ∧ Jvm.Free.Fl.NoNaN64 (own_thr w x)
def own_okA (w : Int64) (x : UInt64) : Prop := own_okT w x ∧ Jvm.Free.Fl.NoNaN64 (FP.dmul 4611686018427387904 (FP.l2d w)) ∧ Jvm.Free.Fl.NoNaN64 (FP.dmul 4613937818241073152 x) ∧ Jvm.Free.Fl.NoNaN64 (FP.dadd x (FP.dmul 4613937818241073152 x)) ∧ Jvm.Free.Fl.NoNaN64 (FP.ddiv (FP.dmul 4611686018427387904 (FP.l2d w)) (FP.dadd x (FP.dmul 4613937818241073152 x))) ∧ Jvm.Free.Fl.NoNaN64 (own_mpa w x)
def own_okM (w : Int64) (r : UInt64) : Prop := Jvm.Free.Fl.NoNaN64 (own_int r) ∧ own_okA w (own_int r)
def own_okR (w : Int64) (r : UInt64) : Prop := own_okM w r ∧ Jvm.Free.Fl.NoNaN64 (own_ref w r)
theorem own_half : own_is 4602678819172646912 1 1 := ⟨4503599627370496, -53, by decide +kernel, by decide +kernel⟩
theorem own_two : own_is 4611686018427387904 2 0 := ⟨4503599627370496, -51, by decide +kernel, by decide +kernel⟩
theorem own_three : own_is 4613937818241073152 3 0 := ⟨6755399441055744, -51, by decide +kernel, by decide +kernel⟩
theorem own_mega : own_is 4696837146684686336 1000000 0 := ⟨8589934592000000, -33, by decide +kernel, by decide +kernel⟩
theorem own_core {w : Int64} {r : UInt64} {n I k R : Nat} (hn : 0 < n) (hn' : n ≤ 1048576) (hI : 0 < I) (hI' : I ≤ 1000000) (hk : k ≤ 6) (hR : 0 < R) (W : own_is (FP.l2d w) (n * I) 0) (D : own_is r R 0) (h : 1000000 * 2 ^ k = I * R) : own_okR w r ∧ own_is (own_ref w r) I k := by
  have pk : 2 ^ k ≤ 64 := Nat.pow_le_pow_right (n := 2) (by decide) hk
  have pk0 := own_pow2 k
  have nI : n * I ≤ 1048576 * 1000000 := Nat.mul_le_mul hn' hI'
  have nI0 : 0 < n * I := Nat.mul_pos hn hI
  have nk : n * 2 ^ k ≤ 1048576 * 64 := Nat.mul_le_mul hn' pk
  have nk0 : 0 < n * 2 ^ k := Nat.mul_pos hn pk0
  have X : own_is (own_int r) I k := own_is_div own_mega D hR hI (by omega) (by omega) (by rw [Nat.pow_zero, Nat.one_mul, Nat.mul_one, h])
  have a1 : own_is (FP.dmul 4602678819172646912 (FP.l2d w)) (n * I) 1 := own_is_mul own_half W nI0 (by omega) (by decide) (by rw [Nat.pow_zero, Nat.mul_one, Nat.one_mul])
  have a2 : own_is (own_thr w (own_int r)) (n * 2 ^ k) 1 := own_is_div a1 X hI nk0 (by omega) (by decide) (by ac_rfl)
  have a3 : own_is (FP.dmul 4611686018427387904 (FP.l2d w)) (2 * (n * I)) 0 := own_is_mul own_two W (by omega) (by omega) (by decide) rfl
  have a4 : own_is (FP.dmul 4613937818241073152 (own_int r)) (3 * I) k := own_is_mul own_three X (by omega) (by omega) (by omega) (by rw [Nat.pow_zero, Nat.one_mul])
  have a5 : own_is (FP.dadd (own_int r) (FP.dmul 4613937818241073152 (own_int r))) (4 * I) k := own_is_add X a4 (by omega) (by omega) (by omega) (by congr 1; omega)
  have a6 : own_is (FP.ddiv (FP.dmul 4611686018427387904 (FP.l2d w)) (FP.dadd (own_int r) (FP.dmul 4613937818241073152 (own_int r)))) (n * 2 ^ k) 1 := own_is_div a3 a5 (by omega) nk0 (by omega) (by decide) (by
    rw [Nat.pow_zero, Nat.mul_one, Nat.pow_one]
    generalize 2 ^ k = z
    calc 2 * (n * I) * (z * 2) = n * z * (2 * 2 * I) := by ac_rfl
      _ = n * z * (4 * I) := rfl)
  have a7 : own_is (own_mpa w (own_int r)) (n * 2 ^ k) 0 := own_is_add a2 a6 nk0 (by omega) (by decide) (by rw [Nat.pow_zero, Nat.pow_one]; omega)
  have a8 : own_is (own_ref w r) I k := own_is_div W a7 nk0 hI (by omega) (by omega) (by rw [Nat.pow_zero, Nat.one_mul, Nat.mul_one]; ac_rfl)
  exact ⟨⟨⟨own_is_nn X, ⟨own_is_nn a1, own_is_nn a2⟩, own_is_nn a3, own_is_nn a4, own_is_nn a5, own_is_nn a6, own_is_nn a7⟩, own_is_nn a8⟩, a8⟩
theorem d1_0 : decode jdk_30_method_1_code 0 = .ok (.aload_n 0, 1) := by decide +kernel
theorem d1_1 : decode jdk_30_method_1_code 1 = .ok (.invokespecial 1, 3) := by decide +kernel
theorem d1_4 : decode jdk_30_method_1_code 4 = .ok (.return_, 1) := by decide +kernel
theorem own_pn1 : plainName "java/lang/Record" = true := by first | (simp [plainName, overriddenIn]; done) | decide +kernel
theorem own_ef1 (m : MethodId) (a : Addr) : entryFrame m #[(.ref a)] 1 = mkF m 0 #[.val (.ref a)] [] := by first | (simp [entryFrame, mkF, argsToLocals, Value.category]; done) | rfl
def Q1 (Z : State) (a : Addr) (h0 : Heap) (n0 : Nat) (v : Option Value) (h : Heap) (L : List Loc) : Prop := v = none ∧ Fr n0 L ∧ h = h0
set_option maxRecDepth 65536 in
set_option maxHeartbeats 4000000 in
theorem rm1 (l : Launch) (Z : State) (a0 : Array Value) (hw : ∀ d ∈ tables_1, d.before a0 Z = true) (ws : List Jvm.Cond) (a : Addr) (h0 : Heap) (n0 : Nat) (Z0 : n0 ≤ h0.size) :
    MetFree l (⟨"java/lang/Record", "<init>", "()V"⟩ : MethodName) (head1 (Jvm.Cond.code (⟨"java/lang/Record", "<init>", "()V"⟩ : MethodName) jdk_30_method_1_code 1 none :: ws) ({ frames := 1, cells := 0, slots := 0, locals := 12 } : Room)) (fun aW U => aW = #[(.ref a)] ∧ Z.Warmed39 U.vm ∧ U.heap = h0) (fun _ _ _ _ _ => True) (fun _ U o U' => ∃ v L, o = .returned v ∧ Q1 Z a h0 n0 v U'.heap L ∧ FrameEnd U o U' L ({ frames := 1, cells := 0, slots := 0, locals := 12 } : Room).cells ({ frames := 1, cells := 0, slots := 0, locals := 12 } : Room).slots) := by
  refine MetFree.of_bodySF (plainFor_of_name own_pn1) hisR ?_
  intro p e s m args below meth c s₁ Bd hml0 hP hK
  obtain ⟨rfl, hZ, hh⟩ := hP
  have hx := Bd.exec
  have hby := Bd.bytes
  have hml : c.maxLocals = 1 := hml0
  have hown : s.vm.findClass "java/lang/Record" = some m.cls := findClass_of_methodNamed Bd.named
  have hnm := (name_of_methodNamed Bd.named Bd.method).1
  have X0 : Stand p l e ({ frames := 1, cells := 0, slots := 0, locals := 12 } : Room) s m #[(.ref a)] below meth c s₁ [] 0 0 := Stand.of_body Bd
  have e0 : s₁.heap = h0 := by rw [← hh, Bd.state]; rfl
  have N0 := Fr.nil n0
  obtain ⟨Pq, hPq⟩ : ∃ P, P = own_P s below (fun v h L => Q1 Z a h0 n0 v h L) ({ frames := 1, cells := 0, slots := 0, locals := 12 } : Room).cells ({ frames := 1, cells := 0, slots := 0, locals := 12 } : Room).slots := ⟨_, rfl⟩
  suffices hgo : own_Go p.tables e below Pq s₁ (mkF m 0 #[.val (.ref a)] []) by
    subst hPq
    obtain ⟨t, k1, k2, o, k3, k4⟩ := hgo
    exact ⟨t, o, castTop (own_ef1 m a) k1, k2, k3, k4⟩
  show own_Go _ _ _ _ s₁ (mkF m 0 #[.val (.ref a)] [])
  refine own_st (fun t k => XS.aloadN X0.here hx rfl (hb hby d1_0) rfl rfl k) ?_
  show own_Go _ _ _ _ s₁ (mkF m 1 _ [(.ref a)])
  obtain ⟨T1, X1, e1, st1⟩ := initO X0 hx hZ hown (hw _ (List.mem_of_getElem? (i := 14) rfl)) (hw _ (List.mem_of_getElem? (i := 15) rfl)) (hw _ (List.mem_of_getElem? (i := 16) rfl)) e0 (g := (mkF m 1 #[.val (.ref a)] [(.ref a)])) rfl (by rw [hml]; rfl) rfl (hb hby d1_1) (by decide) (W := 0) (by show 2 * 0 + _ ≤ _; exact Nat.le_of_eq rfl) (by decide)
  refine own_st st1 ?_
  show own_Go _ _ _ _ T1 (mkF m 4 _ [])
  subst hPq
  refine own_out X1 (v := none) (fun _ => rfl) Bd.notSynchronized (fun fs hr => X1.returnOut hx Bd.returns (hb hby d1_4) hr) (by decide) (by decide) ?_
  show Q1 Z a h0 n0 _ T1.heap _
  rw [e1]
  exact ⟨rfl, N0, rfl⟩
theorem d2_0 : decode prog_4_method_1_code 0 = .ok (.aload_n 0, 1) := by decide +kernel
theorem d2_1 : decode prog_4_method_1_code 1 = .ok (.invokespecial 1, 3) := by decide +kernel
theorem d2_4 : decode prog_4_method_1_code 4 = .ok (.aload_n 0, 1) := by decide +kernel
theorem d2_5 : decode prog_4_method_1_code 5 = .ok (.lload_n 1, 1) := by decide +kernel
theorem d2_6 : decode prog_4_method_1_code 6 = .ok (.putfield 7, 3) := by decide +kernel
theorem d2_9 : decode prog_4_method_1_code 9 = .ok (.return_, 1) := by decide +kernel
theorem own_pn2 : plainName "com/example/refill/refill/BucketShape$WarmingUp" = true := by first | (simp [plainName, overriddenIn]; done) | decide +kernel
theorem own_ef2 (m : MethodId) (a : Addr) (x0 : Int64) : entryFrame m #[(.ref a), (.long x0)] 3 = mkF m 0 #[.val (.ref a), .val (.long x0), .second] [] := by first | (simp [entryFrame, mkF, argsToLocals, Value.category]; done) | rfl
def Q2 (Z : State) (a : Addr) (x0 : Int64) (u0 : Value) (h0 : Heap) (n0 : Nat) (v : Option Value) (h : Heap) (L : List Loc) : Prop := v = none ∧ Fr n0 L ∧ Keep h0 h [a] ∧ Exa Z h a "com/example/refill/refill/BucketShape$WarmingUp" ∧ Fld Z h a "com/example/refill/refill/BucketShape$WarmingUp" "warmupMicros" "J" (.long x0)
set_option maxRecDepth 65536 in
set_option maxHeartbeats 4000000 in
theorem rm2 (l : Launch) (Z : State) (a0 : Array Value) (hw : ∀ d ∈ tables_1, d.before a0 Z = true) (ws : List Jvm.Cond) (a : Addr) (x0 : Int64) (u0 : Value) (h0 : Heap) (n0 : Nat) (Z0 : n0 ≤ h0.size) (F0 : Exa Z h0 a "com/example/refill/refill/BucketShape$WarmingUp") (F1 : Fld Z h0 a "com/example/refill/refill/BucketShape$WarmingUp" "warmupMicros" "J" u0) (g_a : n0 ≤ a) :
    MetFree l (⟨"com/example/refill/refill/BucketShape$WarmingUp", "<init>", "(J)V"⟩ : MethodName) (head1 (Jvm.Cond.code (⟨"com/example/refill/refill/BucketShape$WarmingUp", "<init>", "(J)V"⟩ : MethodName) prog_4_method_1_code 3 none :: ws) ({ frames := 2, cells := 0, slots := 0, locals := 24 } : Room)) (fun aW U => aW = #[(.ref a), (.long x0)] ∧ Z.Warmed39 U.vm ∧ U.heap = h0) (fun _ _ _ _ _ => True) (fun _ U o U' => ∃ v L, o = .returned v ∧ Q2 Z a x0 u0 h0 n0 v U'.heap L ∧ FrameEnd U o U' L ({ frames := 2, cells := 0, slots := 0, locals := 24 } : Room).cells ({ frames := 2, cells := 0, slots := 0, locals := 24 } : Room).slots) := by
  refine MetFree.of_bodySF (plainFor_of_name own_pn2) hisR ?_
  intro p e s m args below meth c s₁ Bd hml0 hP hK
  obtain ⟨rfl, hZ, hh⟩ := hP
  have hx := Bd.exec
  have hby := Bd.bytes
  have hml : c.maxLocals = 3 := hml0
  have hown : s.vm.findClass "com/example/refill/refill/BucketShape$WarmingUp" = some m.cls := findClass_of_methodNamed Bd.named
  have hnm := (name_of_methodNamed Bd.named Bd.method).1
  have X0 : Stand p l e ({ frames := 2, cells := 0, slots := 0, locals := 24 } : Room) s m #[(.ref a), (.long x0)] below meth c s₁ [] 0 0 := Stand.of_body Bd
  have e0 : s₁.heap = h0 := by rw [← hh, Bd.state]; rfl
  have N0 := Fr.nil n0
  have K0 : Keep h0 h0 [a] := Keep.refl _ _
  obtain ⟨Pq, hPq⟩ : ∃ P, P = own_P s below (fun v h L => Q2 Z a x0 u0 h0 n0 v h L) ({ frames := 2, cells := 0, slots := 0, locals := 24 } : Room).cells ({ frames := 2, cells := 0, slots := 0, locals := 24 } : Room).slots := ⟨_, rfl⟩
  suffices hgo : own_Go p.tables e below Pq s₁ (mkF m 0 #[.val (.ref a), .val (.long x0), .second] []) by
    subst hPq
    obtain ⟨t, k1, k2, o, k3, k4⟩ := hgo
    exact ⟨t, o, castTop (own_ef2 m a x0) k1, k2, k3, k4⟩
  show own_Go _ _ _ _ s₁ (mkF m 0 #[.val (.ref a), .val (.long x0), .second] [])
  refine own_st (fun t k => XS.aloadN X0.here hx rfl (hb hby d2_0) rfl rfl k) ?_
  show own_Go _ _ _ _ s₁ (mkF m 1 _ [(.ref a)])
  obtain ⟨_, _, ⟨T1, L1, k1, n1⟩, -, X1, ⟨Lc1, hQ1, l1, y1, z1⟩, st1⟩ := X0.specialBack hx (y := (⟨"java/lang/Record", "<init>", "()V"⟩ : MethodName)) rfl hown (mvT hZ (hw _ (List.mem_of_getElem? (i := 9) rfl))) (mvT hZ (hw _ (List.mem_of_getElem? (i := 10) rfl))) (mvT hZ (hw _ (List.mem_of_getElem? (i := 13) rfl))) (by decide) (backOf (W := 0) (rm1 l Z a0 hw [] a h0 n0 Z0 ) hZ (hw _ (List.mem_of_getElem? (i := 13) rfl)) (hw _ (List.mem_of_getElem? (i := 12) rfl)) (by decide) (by decide)) (g := (mkF m 1 #[.val (.ref a), .val (.long x0), .second] [(.ref a)])) rfl (by rw [hml]; rfl) (Steps.refl _) (a := a) (argsL := []) (rest := []) (lenOf own_pd___V rfl) rfl (by show 2 * 0 + _ ≤ _; exact Nat.le_of_eq rfl) (hb hby d2_1) (fun _ _ => ⟨rfl, e0, (by decide : 0 + 0 ≤ _), (by decide : 0 + 0 ≤ _)⟩)
  dsimp only [Pt.U, Pt.locs, Pt.cells, Pt.slots] at X1 l1 y1 z1 st1 hQ1
  subst l1 y1 z1
  obtain ⟨rfl, NQ1, eq1⟩ := hQ1
  have N2 := Fr.app N0 NQ1
  refine own_st (fun t k => st1.trans k) ?_
  show own_Go _ _ _ _ T1 (mkF m 4 _ [])
  refine own_st (fun t k => XS.aloadN X1.here hx rfl (hb hby d2_4) rfl rfl k) ?_
  show own_Go _ _ _ _ T1 (mkF m 5 _ [(.ref a)])
  refine own_st (fun t k => XS.lloadN X1.here hx rfl (hb hby d2_5) rfl k) ?_
  show own_Go _ _ _ _ T1 (mkF m 6 _ [(.long x0), (.ref a)])
  obtain ⟨T3, h3, X3, e3, W3, st3⟩ := putF X1 hx hZ hown (host := "") (Or.inl (hw _ (List.mem_of_getElem? (i := 17) rfl))) Via.refl eq1 F1 F0 (Or.inr ⟨(hw _ (List.mem_of_getElem? (i := 18) rfl)), rfl, hnm⟩) (hw _ (List.mem_of_getElem? (i := 4) rfl)) (ty := .long) (by decide) rfl rfl (g := (mkF m 6 #[.val (.ref a), .val (.long x0), .second] [(.long x0), (.ref a)])) rfl rfl (hb hby d2_6)
  refine own_st st3 ?_
  have f4 := F0.wr W3
  have N5 := Fr.snoc X3 N2 g_a
  have Z6 : n0 ≤ h3.size := Nat.le_trans Z0 (Nat.le_of_eq W3.size.symm)
  have K7 : Keep h0 h3 [a] := K0.wr W3 (Or.inl (List.mem_of_getElem? (i := 0) rfl))
  have f8 := F1.same W3
  show own_Go _ _ _ _ T3 (mkF m 9 _ [])
  subst hPq
  refine own_out X3 (v := none) (fun _ => rfl) Bd.notSynchronized (fun fs hr => X3.returnOut hx Bd.returns (hb hby d2_9) hr) (by decide) (by decide) ?_
  show Q2 Z a x0 u0 h0 n0 _ T3.heap _
  rw [e3]
  exact ⟨rfl, N5, K7, f4, f8⟩
theorem d3_0 : decode prog_2_method_1_code 0 = .ok (.ldc2_w 1, 3) := by decide +kernel
theorem d3_3 : decode prog_2_method_1_code 3 = .ok (.dload_n 0, 1) := by decide +kernel
theorem d3_4 : decode prog_2_method_1_code 4 = .ok (.ddiv, 1) := by decide +kernel
theorem d3_5 : decode prog_2_method_1_code 5 = .ok (.dreturn, 1) := by decide +kernel
theorem own_pn3 : plainName "com/example/refill/refill/BucketShape" = true := by first | (simp [plainName, overriddenIn]; done) | decide +kernel
theorem own_ef3 (m : MethodId) (x0 : UInt64) : entryFrame m #[(.double x0)] 2 = mkF m 0 #[.val (.double x0), .second] [] := by first | (simp [entryFrame, mkF, argsToLocals, Value.category]; done) | rfl
def Q3 (Z : State) (x0 : UInt64) (h0 : Heap) (n0 : Nat) (v : Option Value) (h : Heap) (L : List Loc) : Prop := v = some (.double (own_int x0)) ∧ Fr n0 L ∧ h = h0
set_option maxRecDepth 65536 in
set_option maxHeartbeats 4000000 in
theorem rm3 (l : Launch) (Z : State) (a0 : Array Value) (hw : ∀ d ∈ tables_1, d.before a0 Z = true) (ws : List Jvm.Cond) (x0 : UInt64) (h0 : Heap) (n0 : Nat) (Z0 : n0 ≤ h0.size) (hk : Jvm.Free.Fl.NoNaN64 (own_int x0)) :
    MetFree l (⟨"com/example/refill/refill/BucketShape", "intervalMicros", "(D)D"⟩ : MethodName) (head1 (Jvm.Cond.code (⟨"com/example/refill/refill/BucketShape", "intervalMicros", "(D)D"⟩ : MethodName) prog_2_method_1_code 2 (some .double) :: ws) ({ frames := 0, cells := 0, slots := 0, locals := 0 } : Room)) (fun aW U => aW = #[(.double x0)] ∧ Z.Warmed39 U.vm ∧ U.heap = h0) (fun _ _ _ _ _ => True) (fun _ U o U' => ∃ v L, o = .returned v ∧ Q3 Z x0 h0 n0 v U'.heap L ∧ FrameEnd U o U' L ({ frames := 0, cells := 0, slots := 0, locals := 0 } : Room).cells ({ frames := 0, cells := 0, slots := 0, locals := 0 } : Room).slots) := by
  refine MetFree.of_bodySF (plainFor_of_name own_pn3) hisR ?_
  intro p e s m args below meth c s₁ Bd hml0 hP hK
  obtain ⟨rfl, hZ, hh⟩ := hP
  have hx := Bd.exec
  have hby := Bd.bytes
  have hml : c.maxLocals = 2 := hml0
  have hown : s.vm.findClass "com/example/refill/refill/BucketShape" = some m.cls := findClass_of_methodNamed Bd.named
  have hnm := (name_of_methodNamed Bd.named Bd.method).1
  have X0 : Stand p l e ({ frames := 0, cells := 0, slots := 0, locals := 0 } : Room) s m #[(.double x0)] below meth c s₁ [] 0 0 := Stand.of_body Bd
  have e0 : s₁.heap = h0 := by rw [← hh, Bd.state]; rfl
  have N0 := Fr.nil n0
  obtain ⟨Pq, hPq⟩ : ∃ P, P = own_P s below (fun v h L => Q3 Z x0 h0 n0 v h L) ({ frames := 0, cells := 0, slots := 0, locals := 0 } : Room).cells ({ frames := 0, cells := 0, slots := 0, locals := 0 } : Room).slots := ⟨_, rfl⟩
  suffices hgo : own_Go p.tables e below Pq s₁ (mkF m 0 #[.val (.double x0), .second] []) by
    subst hPq
    obtain ⟨t, k1, k2, o, k3, k4⟩ := hgo
    exact ⟨t, o, castTop (own_ef3 m x0) k1, k2, k3, k4⟩
  show own_Go _ _ _ _ s₁ (mkF m 0 #[.val (.double x0), .second] [])
  refine own_st (fun t k => X0.ldc2DoubleC hx hown (mvT hZ (hw _ (List.mem_of_getElem? (i := 33) rfl))) (g := (mkF m 0 #[.val (.double x0), .second] [])) rfl (hb hby d3_0) _ k) ?_
  show own_Go _ _ _ _ s₁ (mkF m 3 _ [(.double (4696837146684686336 : UInt64))])
  refine own_st (fun t k => XS.dloadN X0.here hx rfl (hb hby d3_3) rfl k) ?_
  show own_Go _ _ _ _ s₁ (mkF m 4 _ [(.double x0), (.double (4696837146684686336 : UInt64))])
  refine own_st (fun t k => XS.ddivS X0.here hx rfl (hb hby d3_4) rfl hk rfl k) ?_
  show own_Go _ _ _ _ s₁ (mkF m 5 _ [(.double (FP.ddiv (4696837146684686336 : UInt64) x0))])
  subst hPq
  refine own_out X0 (v := some (.double (FP.ddiv (4696837146684686336 : UInt64) x0))) (fun h => by rw [Bd.returns] at h; cases h) Bd.notSynchronized (own_retD X0 hx Bd.returns (hb hby d3_5)) (by decide) (by decide) ?_
  show Q3 Z x0 h0 n0 _ s₁.heap _
  rw [e0]
  exact ⟨rfl, N0, rfl⟩
theorem d4_0 : decode prog_4_method_7_code 0 = .ok (.ldc2_w 38, 3) := by decide +kernel
theorem d4_3 : decode prog_4_method_7_code 3 = .ok (.aload_n 0, 1) := by decide +kernel
theorem d4_4 : decode prog_4_method_7_code 4 = .ok (.getfield 7, 3) := by decide +kernel
theorem d4_7 : decode prog_4_method_7_code 7 = .ok (.l2d, 1) := by decide +kernel
theorem d4_8 : decode prog_4_method_7_code 8 = .ok (.dmul, 1) := by decide +kernel
theorem d4_9 : decode prog_4_method_7_code 9 = .ok (.dload_n 1, 1) := by decide +kernel
theorem d4_10 : decode prog_4_method_7_code 10 = .ok (.ddiv, 1) := by decide +kernel
theorem d4_11 : decode prog_4_method_7_code 11 = .ok (.dreturn, 1) := by decide +kernel
theorem own_pn4 : plainName "com/example/refill/refill/BucketShape$WarmingUp" = true := by first | (simp [plainName, overriddenIn]; done) | decide +kernel
theorem own_ef4 (m : MethodId) (a : Addr) (x0 : UInt64) : entryFrame m #[(.ref a), (.double x0)] 3 = mkF m 0 #[.val (.ref a), .val (.double x0), .second] [] := by first | (simp [entryFrame, mkF, argsToLocals, Value.category]; done) | rfl
def Q4 (Z : State) (a : Addr) (x0 : UInt64) (w : Int64) (h0 : Heap) (n0 : Nat) (v : Option Value) (h : Heap) (L : List Loc) : Prop := v = some (.double (own_thr w x0)) ∧ Fr n0 L ∧ h = h0
set_option maxRecDepth 65536 in
set_option maxHeartbeats 4000000 in
theorem rm4 (l : Launch) (Z : State) (a0 : Array Value) (hw : ∀ d ∈ tables_1, d.before a0 Z = true) (ws : List Jvm.Cond) (a : Addr) (x0 : UInt64) (w : Int64) (h0 : Heap) (n0 : Nat) (Z0 : n0 ≤ h0.size) (F0 : Exa Z h0 a "com/example/refill/refill/BucketShape$WarmingUp") (F1 : Fld Z h0 a "com/example/refill/refill/BucketShape$WarmingUp" "warmupMicros" "J" (.long w)) (hk : own_okT w x0) :
    MetFree l (⟨"com/example/refill/refill/BucketShape$WarmingUp", "threshold", "(D)D"⟩ : MethodName) (head1 (Jvm.Cond.code (⟨"com/example/refill/refill/BucketShape$WarmingUp", "threshold", "(D)D"⟩ : MethodName) prog_4_method_7_code 3 (some .double) :: ws) ({ frames := 0, cells := 0, slots := 0, locals := 0 } : Room)) (fun aW U => aW = #[(.ref a), (.double x0)] ∧ Z.Warmed39 U.vm ∧ U.heap = h0) (fun _ _ _ _ _ => True) (fun _ U o U' => ∃ v L, o = .returned v ∧ Q4 Z a x0 w h0 n0 v U'.heap L ∧ FrameEnd U o U' L ({ frames := 0, cells := 0, slots := 0, locals := 0 } : Room).cells ({ frames := 0, cells := 0, slots := 0, locals := 0 } : Room).slots) := by
  refine MetFree.of_bodySF (plainFor_of_name own_pn4) hisR ?_
  intro p e s m args below meth c s₁ Bd hml0 hP hK
  obtain ⟨rfl, hZ, hh⟩ := hP
  have hx := Bd.exec
  have hby := Bd.bytes
  have hml : c.maxLocals = 3 := hml0
  have hown : s.vm.findClass "com/example/refill/refill/BucketShape$WarmingUp" = some m.cls := findClass_of_methodNamed Bd.named
  have hnm := (name_of_methodNamed Bd.named Bd.method).1
  have X0 : Stand p l e ({ frames := 0, cells := 0, slots := 0, locals := 0 } : Room) s m #[(.ref a), (.double x0)] below meth c s₁ [] 0 0 := Stand.of_body Bd
  have e0 : s₁.heap = h0 := by rw [← hh, Bd.state]; rfl
  have N0 := Fr.nil n0
  obtain ⟨Pq, hPq⟩ : ∃ P, P = own_P s below (fun v h L => Q4 Z a x0 w h0 n0 v h L) ({ frames := 0, cells := 0, slots := 0, locals := 0 } : Room).cells ({ frames := 0, cells := 0, slots := 0, locals := 0 } : Room).slots := ⟨_, rfl⟩
  suffices hgo : own_Go p.tables e below Pq s₁ (mkF m 0 #[.val (.ref a), .val (.double x0), .second] []) by
    subst hPq
    obtain ⟨t, k1, k2, o, k3, k4⟩ := hgo
    exact ⟨t, o, castTop (own_ef4 m a x0) k1, k2, k3, k4⟩
  show own_Go _ _ _ _ s₁ (mkF m 0 #[.val (.ref a), .val (.double x0), .second] [])
  refine own_st (fun t k => X0.ldc2DoubleC hx hown (mvT hZ (hw _ (List.mem_of_getElem? (i := 42) rfl))) (g := (mkF m 0 #[.val (.ref a), .val (.double x0), .second] [])) rfl (hb hby d4_0) _ k) ?_
  show own_Go _ _ _ _ s₁ (mkF m 3 _ [(.double (4602678819172646912 : UInt64))])
  refine own_st (fun t k => XS.aloadN X0.here hx rfl (hb hby d4_3) rfl rfl k) ?_
  show own_Go _ _ _ _ s₁ (mkF m 4 _ [(.ref a), (.double (4602678819172646912 : UInt64))])
  obtain ⟨T1, X1, e1, st1⟩ := getF X0 hx hZ hown (host := "") (Or.inl (hw _ (List.mem_of_getElem? (i := 17) rfl))) Via.refl e0 F1 (g := (mkF m 4 #[.val (.ref a), .val (.double x0), .second] [(.ref a), (.double (4602678819172646912 : UInt64))])) rfl rfl (hb hby d4_4)
  refine own_st st1 ?_
  show own_Go _ _ _ _ T1 (mkF m 7 _ [(.long w), (.double (4602678819172646912 : UInt64))])
  refine own_st (fun t k => XS.l2dS X1.here hx rfl (hb hby d4_7) rfl rfl k) ?_
  show own_Go _ _ _ _ T1 (mkF m 8 _ [(.double (FP.l2d w)), (.double (4602678819172646912 : UInt64))])
  refine own_st (fun t k => XS.dmulS X1.here hx rfl (hb hby d4_8) rfl hk.1 rfl k) ?_
  show own_Go _ _ _ _ T1 (mkF m 9 _ [(.double (FP.dmul (4602678819172646912 : UInt64) (FP.l2d w)))])
  refine own_st (fun t k => XS.dloadN X1.here hx rfl (hb hby d4_9) rfl k) ?_
  show own_Go _ _ _ _ T1 (mkF m 10 _ [(.double x0), (.double (FP.dmul (4602678819172646912 : UInt64) (FP.l2d w)))])
  refine own_st (fun t k => XS.ddivS X1.here hx rfl (hb hby d4_10) rfl hk.2 rfl k) ?_
  show own_Go _ _ _ _ T1 (mkF m 11 _ [(.double (FP.ddiv (FP.dmul (4602678819172646912 : UInt64) (FP.l2d w)) x0))])
  subst hPq
  refine own_out X1 (v := some (.double (FP.ddiv (FP.dmul (4602678819172646912 : UInt64) (FP.l2d w)) x0))) (fun h => by rw [Bd.returns] at h; cases h) Bd.notSynchronized (own_retD X1 hx Bd.returns (hb hby d4_11)) (by decide) (by decide) ?_
  show Q4 Z a x0 w h0 n0 _ T1.heap _
  rw [e1]
  exact ⟨rfl, N0, rfl⟩
theorem d5_0 : decode prog_4_method_6_code 0 = .ok (.aload_n 0, 1) := by decide +kernel
theorem d5_1 : decode prog_4_method_6_code 1 = .ok (.dload_n 1, 1) := by decide +kernel
theorem d5_2 : decode prog_4_method_6_code 2 = .ok (.invokevirtual 25, 3) := by decide +kernel
theorem d5_5 : decode prog_4_method_6_code 5 = .ok (.ldc2_w 36, 3) := by decide +kernel
theorem d5_8 : decode prog_4_method_6_code 8 = .ok (.aload_n 0, 1) := by decide +kernel
theorem d5_9 : decode prog_4_method_6_code 9 = .ok (.getfield 7, 3) := by decide +kernel
theorem d5_12 : decode prog_4_method_6_code 12 = .ok (.l2d, 1) := by decide +kernel
theorem d5_13 : decode prog_4_method_6_code 13 = .ok (.dmul, 1) := by decide +kernel
theorem d5_14 : decode prog_4_method_6_code 14 = .ok (.dload_n 1, 1) := by decide +kernel
theorem d5_15 : decode prog_4_method_6_code 15 = .ok (.ldc2_w 34, 3) := by decide +kernel
theorem d5_18 : decode prog_4_method_6_code 18 = .ok (.dload_n 1, 1) := by decide +kernel
theorem d5_19 : decode prog_4_method_6_code 19 = .ok (.dmul, 1) := by decide +kernel
theorem d5_20 : decode prog_4_method_6_code 20 = .ok (.dadd, 1) := by decide +kernel
theorem d5_21 : decode prog_4_method_6_code 21 = .ok (.ddiv, 1) := by decide +kernel
theorem d5_22 : decode prog_4_method_6_code 22 = .ok (.dadd, 1) := by decide +kernel
theorem d5_23 : decode prog_4_method_6_code 23 = .ok (.dreturn, 1) := by decide +kernel
theorem own_pn5 : plainName "com/example/refill/refill/BucketShape$WarmingUp" = true := by first | (simp [plainName, overriddenIn]; done) | decide +kernel
theorem own_ef5 (m : MethodId) (a : Addr) (x0 : UInt64) : entryFrame m #[(.ref a), (.double x0)] 3 = mkF m 0 #[.val (.ref a), .val (.double x0), .second] [] := by first | (simp [entryFrame, mkF, argsToLocals, Value.category]; done) | rfl
def Q5 (Z : State) (a : Addr) (x0 : UInt64) (w : Int64) (h0 : Heap) (n0 : Nat) (v : Option Value) (h : Heap) (L : List Loc) : Prop := v = some (.double (own_mpa w x0)) ∧ Fr n0 L ∧ h = h0
set_option maxRecDepth 65536 in
set_option maxHeartbeats 4000000 in
theorem rm5 (l : Launch) (Z : State) (a0 : Array Value) (hw : ∀ d ∈ tables_1, d.before a0 Z = true) (ws : List Jvm.Cond) (a : Addr) (x0 : UInt64) (w : Int64) (h0 : Heap) (n0 : Nat) (Z0 : n0 ≤ h0.size) (F0 : Exa Z h0 a "com/example/refill/refill/BucketShape$WarmingUp") (F1 : Fld Z h0 a "com/example/refill/refill/BucketShape$WarmingUp" "warmupMicros" "J" (.long w)) (hk : own_okA w x0) :
    MetFree l (⟨"com/example/refill/refill/BucketShape$WarmingUp", "maxPermitsAt", "(D)D"⟩ : MethodName) (head1 (Jvm.Cond.code (⟨"com/example/refill/refill/BucketShape$WarmingUp", "maxPermitsAt", "(D)D"⟩ : MethodName) prog_4_method_6_code 3 (some .double) :: ws) ({ frames := 1, cells := 0, slots := 0, locals := 14 } : Room)) (fun aW U => aW = #[(.ref a), (.double x0)] ∧ Z.Warmed39 U.vm ∧ U.heap = h0) (fun _ _ _ _ _ => True) (fun _ U o U' => ∃ v L, o = .returned v ∧ Q5 Z a x0 w h0 n0 v U'.heap L ∧ FrameEnd U o U' L ({ frames := 1, cells := 0, slots := 0, locals := 14 } : Room).cells ({ frames := 1, cells := 0, slots := 0, locals := 14 } : Room).slots) := by
  refine MetFree.of_bodySF (plainFor_of_name own_pn5) hisR ?_
  intro p e s m args below meth c s₁ Bd hml0 hP hK
  obtain ⟨rfl, hZ, hh⟩ := hP
  have hx := Bd.exec
  have hby := Bd.bytes
  have hml : c.maxLocals = 3 := hml0
  have hown : s.vm.findClass "com/example/refill/refill/BucketShape$WarmingUp" = some m.cls := findClass_of_methodNamed Bd.named
  have hnm := (name_of_methodNamed Bd.named Bd.method).1
  have X0 : Stand p l e ({ frames := 1, cells := 0, slots := 0, locals := 14 } : Room) s m #[(.ref a), (.double x0)] below meth c s₁ [] 0 0 := Stand.of_body Bd
  have e0 : s₁.heap = h0 := by rw [← hh, Bd.state]; rfl
  have N0 := Fr.nil n0
  obtain ⟨Pq, hPq⟩ : ∃ P, P = own_P s below (fun v h L => Q5 Z a x0 w h0 n0 v h L) ({ frames := 1, cells := 0, slots := 0, locals := 14 } : Room).cells ({ frames := 1, cells := 0, slots := 0, locals := 14 } : Room).slots := ⟨_, rfl⟩
  suffices hgo : own_Go p.tables e below Pq s₁ (mkF m 0 #[.val (.ref a), .val (.double x0), .second] []) by
    subst hPq
    obtain ⟨t, k1, k2, o, k3, k4⟩ := hgo
    exact ⟨t, o, castTop (own_ef5 m a x0) k1, k2, k3, k4⟩
  show own_Go _ _ _ _ s₁ (mkF m 0 #[.val (.ref a), .val (.double x0), .second] [])
  refine own_st (fun t k => XS.aloadN X0.here hx rfl (hb hby d5_0) rfl rfl k) ?_
  show own_Go _ _ _ _ s₁ (mkF m 1 _ [(.ref a)])
  refine own_st (fun t k => XS.dloadN X0.here hx rfl (hb hby d5_1) rfl k) ?_
  show own_Go _ _ _ _ s₁ (mkF m 2 _ [(.double x0), (.ref a)])
  obtain ⟨cq1, q1, q1'⟩ := F0.cell
  obtain ⟨_, _, ⟨T1, L1, k1, n1⟩, -, X1, ⟨Lc1, hQ1, l1, y1, z1⟩, st1⟩ := X0.privateBack hx (y := (⟨"com/example/refill/refill/BucketShape$WarmingUp", "threshold", "(D)D"⟩ : MethodName)) hown (mvT hZ (hw _ (List.mem_of_getElem? (i := 38) rfl))) (mvT hZ (hw _ (List.mem_of_getElem? (i := 39) rfl))) (own_selp (y := (⟨"com/example/refill/refill/BucketShape$WarmingUp", "threshold", "(D)D"⟩ : MethodName)) (mvT hZ (hw _ (List.mem_of_getElem? (i := 4) rfl))) (Cond.privateMethod_at (mvP hZ (hw _ (List.mem_of_getElem? (i := 40) rfl)) (args := #[]))) (mvT hZ (hw _ (List.mem_of_getElem? (i := 39) rfl))) (by decide)) (Cond.privateMethod_at (mvP hZ (hw _ (List.mem_of_getElem? (i := 40) rfl)) (args := #[]))) (mvT hZ (hw _ (List.mem_of_getElem? (i := 41) rfl))) (by decide) (backOf (W := 0) (rm4 l Z a0 hw [] a x0 w h0 n0 Z0 F0 F1 hk.1) hZ (hw _ (List.mem_of_getElem? (i := 41) rfl)) (hw _ (List.mem_of_getElem? (i := 5) rfl)) (by decide) (by decide)) (g := (mkF m 2 #[.val (.ref a), .val (.double x0), .second] [(.double x0), (.ref a)])) rfl (by rw [hml]; rfl) (Steps.refl _) (a := a) (by rw [e0]; exact q1) q1' (argsL := [(.double x0)]) (rest := []) (lenOf own_pd__D_D rfl) rfl (by show 2 * 0 + _ ≤ _; exact Nat.le_of_eq rfl) (hb hby d5_2) (fun _ _ => ⟨rfl, e0, (by decide : 0 + 0 ≤ _), (by decide : 0 + 0 ≤ _)⟩)
  dsimp only [Pt.U, Pt.locs, Pt.cells, Pt.slots] at X1 l1 y1 z1 st1 hQ1
  subst l1 y1 z1
  obtain ⟨rfl, NQ1, eq1⟩ := hQ1
  have N2 := Fr.app N0 NQ1
  refine own_st (fun t k => st1.trans k) ?_
  show own_Go _ _ _ _ T1 (mkF m 5 _ [(.double (own_thr w x0))])
  refine own_st (fun t k => X1.ldc2DoubleC hx hown (mvT hZ (hw _ (List.mem_of_getElem? (i := 43) rfl))) (g := (mkF m 5 #[.val (.ref a), .val (.double x0), .second] [(.double (own_thr w x0))])) rfl (hb hby d5_5) _ k) ?_
  show own_Go _ _ _ _ T1 (mkF m 8 _ [(.double (4611686018427387904 : UInt64)), (.double (own_thr w x0))])
  refine own_st (fun t k => XS.aloadN X1.here hx rfl (hb hby d5_8) rfl rfl k) ?_
  show own_Go _ _ _ _ T1 (mkF m 9 _ [(.ref a), (.double (4611686018427387904 : UInt64)), (.double (own_thr w x0))])
  obtain ⟨T3, X3, e3, st3⟩ := getF X1 hx hZ hown (host := "") (Or.inl (hw _ (List.mem_of_getElem? (i := 17) rfl))) Via.refl eq1 F1 (g := (mkF m 9 #[.val (.ref a), .val (.double x0), .second] [(.ref a), (.double (4611686018427387904 : UInt64)), (.double (own_thr w x0))])) rfl rfl (hb hby d5_9)
  refine own_st st3 ?_
  show own_Go _ _ _ _ T3 (mkF m 12 _ [(.long w), (.double (4611686018427387904 : UInt64)), (.double (own_thr w x0))])
  refine own_st (fun t k => XS.l2dS X3.here hx rfl (hb hby d5_12) rfl rfl k) ?_
  show own_Go _ _ _ _ T3 (mkF m 13 _ [(.double (FP.l2d w)), (.double (4611686018427387904 : UInt64)), (.double (own_thr w x0))])
  refine own_st (fun t k => XS.dmulS X3.here hx rfl (hb hby d5_13) rfl hk.2.1 rfl k) ?_
  show own_Go _ _ _ _ T3 (mkF m 14 _ [(.double (FP.dmul (4611686018427387904 : UInt64) (FP.l2d w))), (.double (own_thr w x0))])
  refine own_st (fun t k => XS.dloadN X3.here hx rfl (hb hby d5_14) rfl k) ?_
  show own_Go _ _ _ _ T3 (mkF m 15 _ [(.double x0), (.double (FP.dmul (4611686018427387904 : UInt64) (FP.l2d w))), (.double (own_thr w x0))])
  refine own_st (fun t k => X3.ldc2DoubleC hx hown (mvT hZ (hw _ (List.mem_of_getElem? (i := 44) rfl))) (g := (mkF m 15 #[.val (.ref a), .val (.double x0), .second] [(.double x0), (.double (FP.dmul (4611686018427387904 : UInt64) (FP.l2d w))), (.double (own_thr w x0))])) rfl (hb hby d5_15) _ k) ?_
  show own_Go _ _ _ _ T3 (mkF m 18 _ [(.double (4613937818241073152 : UInt64)), (.double x0), (.double (FP.dmul (4611686018427387904 : UInt64) (FP.l2d w))), (.double (own_thr w x0))])
  refine own_st (fun t k => XS.dloadN X3.here hx rfl (hb hby d5_18) rfl k) ?_
  show own_Go _ _ _ _ T3 (mkF m 19 _ [(.double x0), (.double (4613937818241073152 : UInt64)), (.double x0), (.double (FP.dmul (4611686018427387904 : UInt64) (FP.l2d w))), (.double (own_thr w x0))])
  refine own_st (fun t k => XS.dmulS X3.here hx rfl (hb hby d5_19) rfl hk.2.2.1 rfl k) ?_
  show own_Go _ _ _ _ T3 (mkF m 20 _ [(.double (FP.dmul (4613937818241073152 : UInt64) x0)), (.double x0), (.double (FP.dmul (4611686018427387904 : UInt64) (FP.l2d w))), (.double (own_thr w x0))])
  refine own_st (fun t k => XS.daddS X3.here hx rfl (hb hby d5_20) rfl hk.2.2.2.1 rfl k) ?_
  show own_Go _ _ _ _ T3 (mkF m 21 _ [(.double (FP.dadd x0 (FP.dmul (4613937818241073152 : UInt64) x0))), (.double (FP.dmul (4611686018427387904 : UInt64) (FP.l2d w))), (.double (own_thr w x0))])
  refine own_st (fun t k => XS.ddivS X3.here hx rfl (hb hby d5_21) rfl hk.2.2.2.2.1 rfl k) ?_
  show own_Go _ _ _ _ T3 (mkF m 22 _ [(.double (FP.ddiv (FP.dmul (4611686018427387904 : UInt64) (FP.l2d w)) (FP.dadd x0 (FP.dmul (4613937818241073152 : UInt64) x0)))), (.double (own_thr w x0))])
  refine own_st (fun t k => XS.daddS X3.here hx rfl (hb hby d5_22) rfl hk.2.2.2.2.2 rfl k) ?_
  show own_Go _ _ _ _ T3 (mkF m 23 _ [(.double (FP.dadd (own_thr w x0) (FP.ddiv (FP.dmul (4611686018427387904 : UInt64) (FP.l2d w)) (FP.dadd x0 (FP.dmul (4613937818241073152 : UInt64) x0)))))])
  subst hPq
  refine own_out X3 (v := some (.double (FP.dadd (own_thr w x0) (FP.ddiv (FP.dmul (4611686018427387904 : UInt64) (FP.l2d w)) (FP.dadd x0 (FP.dmul (4613937818241073152 : UInt64) x0)))))) (fun h => by rw [Bd.returns] at h; cases h) Bd.notSynchronized (own_retD X3 hx Bd.returns (hb hby d5_23)) (by decide) (by decide) ?_
  show Q5 Z a x0 w h0 n0 _ T3.heap _
  rw [e3]
  exact ⟨rfl, N2, rfl⟩
theorem d6_0 : decode prog_4_method_2_code 0 = .ok (.aload_n 0, 1) := by decide +kernel
theorem d6_1 : decode prog_4_method_2_code 1 = .ok (.dload_n 1, 1) := by decide +kernel
theorem d6_2 : decode prog_4_method_2_code 2 = .ok (.invokestatic 13, 3) := by decide +kernel
theorem d6_5 : decode prog_4_method_2_code 5 = .ok (.invokevirtual 19, 3) := by decide +kernel
theorem d6_8 : decode prog_4_method_2_code 8 = .ok (.dreturn, 1) := by decide +kernel
theorem own_pn6 : plainName "com/example/refill/refill/BucketShape$WarmingUp" = true := by first | (simp [plainName, overriddenIn]; done) | decide +kernel
theorem own_ef6 (m : MethodId) (a : Addr) (x0 : UInt64) : entryFrame m #[(.ref a), (.double x0)] 3 = mkF m 0 #[.val (.ref a), .val (.double x0), .second] [] := by first | (simp [entryFrame, mkF, argsToLocals, Value.category]; done) | rfl
def Q6 (Z : State) (a : Addr) (x0 : UInt64) (w : Int64) (h0 : Heap) (n0 : Nat) (v : Option Value) (h : Heap) (L : List Loc) : Prop := v = some (.double (own_mp w x0)) ∧ Fr n0 L ∧ h = h0
set_option maxRecDepth 65536 in
set_option maxHeartbeats 4000000 in
theorem rm6 (l : Launch) (Z : State) (a0 : Array Value) (hw : ∀ d ∈ tables_1, d.before a0 Z = true) (ws : List Jvm.Cond) (a : Addr) (x0 : UInt64) (w : Int64) (h0 : Heap) (n0 : Nat) (Z0 : n0 ≤ h0.size) (F0 : Exa Z h0 a "com/example/refill/refill/BucketShape$WarmingUp") (F1 : Fld Z h0 a "com/example/refill/refill/BucketShape$WarmingUp" "warmupMicros" "J" (.long w)) (hk : own_okM w x0) :
    MetFree l (⟨"com/example/refill/refill/BucketShape$WarmingUp", "maxPermits", "(D)D"⟩ : MethodName) (head1 (Jvm.Cond.code (⟨"com/example/refill/refill/BucketShape$WarmingUp", "maxPermits", "(D)D"⟩ : MethodName) prog_4_method_2_code 3 (some .double) :: ws) ({ frames := 2, cells := 0, slots := 0, locals := 28 } : Room)) (fun aW U => aW = #[(.ref a), (.double x0)] ∧ Z.Warmed39 U.vm ∧ U.heap = h0) (fun _ _ _ _ _ => True) (fun _ U o U' => ∃ v L, o = .returned v ∧ Q6 Z a x0 w h0 n0 v U'.heap L ∧ FrameEnd U o U' L ({ frames := 2, cells := 0, slots := 0, locals := 28 } : Room).cells ({ frames := 2, cells := 0, slots := 0, locals := 28 } : Room).slots) := by
  refine MetFree.of_bodySF (plainFor_of_name own_pn6) hisR ?_
  intro p e s m args below meth c s₁ Bd hml0 hP hK
  obtain ⟨rfl, hZ, hh⟩ := hP
  have hx := Bd.exec
  have hby := Bd.bytes
  have hml : c.maxLocals = 3 := hml0
  have hown : s.vm.findClass "com/example/refill/refill/BucketShape$WarmingUp" = some m.cls := findClass_of_methodNamed Bd.named
  have hnm := (name_of_methodNamed Bd.named Bd.method).1
  have X0 : Stand p l e ({ frames := 2, cells := 0, slots := 0, locals := 28 } : Room) s m #[(.ref a), (.double x0)] below meth c s₁ [] 0 0 := Stand.of_body Bd
  have e0 : s₁.heap = h0 := by rw [← hh, Bd.state]; rfl
  have N0 := Fr.nil n0
  obtain ⟨Pq, hPq⟩ : ∃ P, P = own_P s below (fun v h L => Q6 Z a x0 w h0 n0 v h L) ({ frames := 2, cells := 0, slots := 0, locals := 28 } : Room).cells ({ frames := 2, cells := 0, slots := 0, locals := 28 } : Room).slots := ⟨_, rfl⟩
  suffices hgo : own_Go p.tables e below Pq s₁ (mkF m 0 #[.val (.ref a), .val (.double x0), .second] []) by
    subst hPq
    obtain ⟨t, k1, k2, o, k3, k4⟩ := hgo
    exact ⟨t, o, castTop (own_ef6 m a x0) k1, k2, k3, k4⟩
  show own_Go _ _ _ _ s₁ (mkF m 0 #[.val (.ref a), .val (.double x0), .second] [])
  refine own_st (fun t k => XS.aloadN X0.here hx rfl (hb hby d6_0) rfl rfl k) ?_
  show own_Go _ _ _ _ s₁ (mkF m 1 _ [(.ref a)])
  refine own_st (fun t k => XS.dloadN X0.here hx rfl (hb hby d6_1) rfl k) ?_
  show own_Go _ _ _ _ s₁ (mkF m 2 _ [(.double x0), (.ref a)])
  obtain ⟨_, _, ⟨T1, L1, k1, n1⟩, -, X1, ⟨Lc1, hQ1, l1, y1, z1⟩, st1⟩ := Jvm.LawKit.callS X0 hx (y := (⟨"com/example/refill/refill/BucketShape", "intervalMicros", "(D)D"⟩ : MethodName)) hown (mvT hZ (hw _ (List.mem_of_getElem? (i := 29) rfl))) (mvT hZ (hw _ (List.mem_of_getElem? (i := 30) rfl))) (mvT hZ (hw _ (List.mem_of_getElem? (i := 31) rfl))) (mvT hZ (hw _ (List.mem_of_getElem? (i := 32) rfl))) (by decide) (backOf (W := 1) (rm3 l Z a0 hw [] x0 h0 n0 Z0 hk.1) hZ (hw _ (List.mem_of_getElem? (i := 32) rfl)) (hw _ (List.mem_of_getElem? (i := 31) rfl)) (by decide) (by decide)) (g := (mkF m 2 #[.val (.ref a), .val (.double x0), .second] [(.double x0), (.ref a)])) rfl (by rw [hml]; rfl) (argsL := [(.double x0)]) (rest := [(.ref a)]) (lenOf own_pd__D_D rfl) rfl (by show 2 * 0 + _ ≤ _; exact Nat.le_of_eq rfl) (hb hby d6_2) (fun _ _ => ⟨rfl, e0, (by decide : 0 + 0 ≤ _), (by decide : 0 + 0 ≤ _)⟩)
  dsimp only [Pt.U, Pt.locs, Pt.cells, Pt.slots] at X1 l1 y1 z1 st1 hQ1
  subst l1 y1 z1
  obtain ⟨rfl, NQ1, eq1⟩ := hQ1
  have N2 := Fr.app N0 NQ1
  refine own_st st1 ?_
  show own_Go _ _ _ _ T1 (mkF m 5 _ [(.double (own_int x0)), (.ref a)])
  obtain ⟨cq3, q3, q3'⟩ := F0.cell
  obtain ⟨_, _, ⟨T3, L3, k3, n3⟩, -, X3, ⟨Lc3, hQ3, l3, y3, z3⟩, st3⟩ := X1.privateBack hx (y := (⟨"com/example/refill/refill/BucketShape$WarmingUp", "maxPermitsAt", "(D)D"⟩ : MethodName)) hown (mvT hZ (hw _ (List.mem_of_getElem? (i := 34) rfl))) (mvT hZ (hw _ (List.mem_of_getElem? (i := 35) rfl))) (own_selp (y := (⟨"com/example/refill/refill/BucketShape$WarmingUp", "maxPermitsAt", "(D)D"⟩ : MethodName)) (mvT hZ (hw _ (List.mem_of_getElem? (i := 4) rfl))) (Cond.privateMethod_at (mvP hZ (hw _ (List.mem_of_getElem? (i := 36) rfl)) (args := #[]))) (mvT hZ (hw _ (List.mem_of_getElem? (i := 35) rfl))) (by decide)) (Cond.privateMethod_at (mvP hZ (hw _ (List.mem_of_getElem? (i := 36) rfl)) (args := #[]))) (mvT hZ (hw _ (List.mem_of_getElem? (i := 37) rfl))) (by decide) (backOf (W := 0) (rm5 l Z a0 hw [] a (own_int x0) w h0 n0 Z0 F0 F1 hk.2) hZ (hw _ (List.mem_of_getElem? (i := 37) rfl)) (hw _ (List.mem_of_getElem? (i := 5) rfl)) (by decide) (by decide)) (g := (mkF m 5 #[.val (.ref a), .val (.double x0), .second] [(.double (own_int x0)), (.ref a)])) rfl (by rw [hml]; rfl) (Steps.refl _) (a := a) (by rw [eq1]; exact q3) q3' (argsL := [(.double (own_int x0))]) (rest := []) (lenOf own_pd__D_D rfl) rfl (by show 2 * 0 + _ ≤ _; exact Nat.le_of_eq rfl) (hb hby d6_5) (fun _ _ => ⟨rfl, eq1, (by decide : 0 + 0 ≤ _), (by decide : 0 + 0 ≤ _)⟩)
  dsimp only [Pt.U, Pt.locs, Pt.cells, Pt.slots] at X3 l3 y3 z3 st3 hQ3
  subst l3 y3 z3
  obtain ⟨rfl, NQ3, eq3⟩ := hQ3
  have N4 := Fr.app N2 NQ3
  refine own_st (fun t k => st3.trans k) ?_
  show own_Go _ _ _ _ T3 (mkF m 8 _ [(.double (own_mpa w (own_int x0)))])
  subst hPq
  refine own_out X3 (v := some (.double (own_mpa w (own_int x0)))) (fun h => by rw [Bd.returns] at h; cases h) Bd.notSynchronized (own_retD X3 hx Bd.returns (hb hby d6_8)) (by decide) (by decide) ?_
  show Q6 Z a x0 w h0 n0 _ T3.heap _
  rw [eq3]
  exact ⟨rfl, N4, rfl⟩
theorem d7_0 : decode prog_4_method_4_code 0 = .ok (.aload_n 0, 1) := by decide +kernel
theorem d7_1 : decode prog_4_method_4_code 1 = .ok (.getfield 7, 3) := by decide +kernel
theorem d7_4 : decode prog_4_method_4_code 4 = .ok (.l2d, 1) := by decide +kernel
theorem d7_5 : decode prog_4_method_4_code 5 = .ok (.aload_n 0, 1) := by decide +kernel
theorem d7_6 : decode prog_4_method_4_code 6 = .ok (.dload_n 1, 1) := by decide +kernel
theorem d7_7 : decode prog_4_method_4_code 7 = .ok (.invokevirtual 22, 3) := by decide +kernel
theorem d7_10 : decode prog_4_method_4_code 10 = .ok (.ddiv, 1) := by decide +kernel
theorem d7_11 : decode prog_4_method_4_code 11 = .ok (.dreturn, 1) := by decide +kernel
theorem own_pn7 : plainName "com/example/refill/refill/BucketShape$WarmingUp" = true := by first | (simp [plainName, overriddenIn]; done) | decide +kernel
theorem own_ef7 (m : MethodId) (a : Addr) (x0 : UInt64) : entryFrame m #[(.ref a), (.double x0)] 3 = mkF m 0 #[.val (.ref a), .val (.double x0), .second] [] := by first | (simp [entryFrame, mkF, argsToLocals, Value.category]; done) | rfl
def Q7 (Z : State) (a : Addr) (x0 : UInt64) (w : Int64) (h0 : Heap) (n0 : Nat) (v : Option Value) (h : Heap) (L : List Loc) : Prop := v = some (.double (own_ref w x0)) ∧ Fr n0 L ∧ h = h0
set_option maxRecDepth 65536 in
set_option maxHeartbeats 4000000 in
theorem rm7 (l : Launch) (Z : State) (a0 : Array Value) (hw : ∀ d ∈ tables_1, d.before a0 Z = true) (ws : List Jvm.Cond) (a : Addr) (x0 : UInt64) (w : Int64) (h0 : Heap) (n0 : Nat) (Z0 : n0 ≤ h0.size) (F0 : Exa Z h0 a "com/example/refill/refill/BucketShape$WarmingUp") (F1 : Fld Z h0 a "com/example/refill/refill/BucketShape$WarmingUp" "warmupMicros" "J" (.long w)) (hk : own_okR w x0) :
    MetFree l (⟨"com/example/refill/refill/BucketShape$WarmingUp", "refillMicros", "(D)D"⟩ : MethodName) (head1 (Jvm.Cond.code (⟨"com/example/refill/refill/BucketShape$WarmingUp", "refillMicros", "(D)D"⟩ : MethodName) prog_4_method_4_code 3 (some .double) :: ws) ({ frames := 3, cells := 0, slots := 0, locals := 44 } : Room)) (fun aW U => aW = #[(.ref a), (.double x0)] ∧ Z.Warmed39 U.vm ∧ U.heap = h0) (fun _ _ _ _ _ => True) (fun _ U o U' => ∃ v L, o = .returned v ∧ Q7 Z a x0 w h0 n0 v U'.heap L ∧ FrameEnd U o U' L ({ frames := 3, cells := 0, slots := 0, locals := 44 } : Room).cells ({ frames := 3, cells := 0, slots := 0, locals := 44 } : Room).slots) := by
  refine MetFree.of_bodySF (plainFor_of_name own_pn7) hisR ?_
  intro p e s m args below meth c s₁ Bd hml0 hP hK
  obtain ⟨rfl, hZ, hh⟩ := hP
  have hx := Bd.exec
  have hby := Bd.bytes
  have hml : c.maxLocals = 3 := hml0
  have hown : s.vm.findClass "com/example/refill/refill/BucketShape$WarmingUp" = some m.cls := findClass_of_methodNamed Bd.named
  have hnm := (name_of_methodNamed Bd.named Bd.method).1
  have X0 : Stand p l e ({ frames := 3, cells := 0, slots := 0, locals := 44 } : Room) s m #[(.ref a), (.double x0)] below meth c s₁ [] 0 0 := Stand.of_body Bd
  have e0 : s₁.heap = h0 := by rw [← hh, Bd.state]; rfl
  have N0 := Fr.nil n0
  obtain ⟨Pq, hPq⟩ : ∃ P, P = own_P s below (fun v h L => Q7 Z a x0 w h0 n0 v h L) ({ frames := 3, cells := 0, slots := 0, locals := 44 } : Room).cells ({ frames := 3, cells := 0, slots := 0, locals := 44 } : Room).slots := ⟨_, rfl⟩
  suffices hgo : own_Go p.tables e below Pq s₁ (mkF m 0 #[.val (.ref a), .val (.double x0), .second] []) by
    subst hPq
    obtain ⟨t, k1, k2, o, k3, k4⟩ := hgo
    exact ⟨t, o, castTop (own_ef7 m a x0) k1, k2, k3, k4⟩
  show own_Go _ _ _ _ s₁ (mkF m 0 #[.val (.ref a), .val (.double x0), .second] [])
  refine own_st (fun t k => XS.aloadN X0.here hx rfl (hb hby d7_0) rfl rfl k) ?_
  show own_Go _ _ _ _ s₁ (mkF m 1 _ [(.ref a)])
  obtain ⟨T1, X1, e1, st1⟩ := getF X0 hx hZ hown (host := "") (Or.inl (hw _ (List.mem_of_getElem? (i := 17) rfl))) Via.refl e0 F1 (g := (mkF m 1 #[.val (.ref a), .val (.double x0), .second] [(.ref a)])) rfl rfl (hb hby d7_1)
  refine own_st st1 ?_
  show own_Go _ _ _ _ T1 (mkF m 4 _ [(.long w)])
  refine own_st (fun t k => XS.l2dS X1.here hx rfl (hb hby d7_4) rfl rfl k) ?_
  show own_Go _ _ _ _ T1 (mkF m 5 _ [(.double (FP.l2d w))])
  refine own_st (fun t k => XS.aloadN X1.here hx rfl (hb hby d7_5) rfl rfl k) ?_
  show own_Go _ _ _ _ T1 (mkF m 6 _ [(.ref a), (.double (FP.l2d w))])
  refine own_st (fun t k => XS.dloadN X1.here hx rfl (hb hby d7_6) rfl k) ?_
  show own_Go _ _ _ _ T1 (mkF m 7 _ [(.double x0), (.ref a), (.double (FP.l2d w))])
  obtain ⟨cq2, kq2, q2a, q2b, q2c⟩ := isOf hZ e1 F0
  obtain ⟨_, _, ⟨T2, L2, k2, n2⟩, -, X2, ⟨Lc2, hQ2, l2, y2, z2⟩, st2⟩ := X1.virtualBack hx (y := (⟨"com/example/refill/refill/BucketShape$WarmingUp", "maxPermits", "(D)D"⟩ : MethodName)) (z := (⟨"com/example/refill/refill/BucketShape$WarmingUp", "maxPermits", "(D)D"⟩ : MethodName)) hown (mvT hZ (hw _ (List.mem_of_getElem? (i := 24) rfl))) (mvT hZ (hw _ (List.mem_of_getElem? (i := 25) rfl))) (notFace_of_selects (args := #[]) (mvT hZ (hw _ (List.mem_of_getElem? (i := 27) rfl)))) (mvT hZ (hw _ (List.mem_of_getElem? (i := 27) rfl))) (mvT hZ (hw _ (List.mem_of_getElem? (i := 26) rfl))) (by decide) (backOf (W := 2) (rm6 l Z a0 hw [] a x0 w h0 n0 Z0 F0 F1 hk.1) hZ (hw _ (List.mem_of_getElem? (i := 28) rfl)) (hw _ (List.mem_of_getElem? (i := 5) rfl)) (by decide) (by decide)) q2a q2c (g := (mkF m 7 #[.val (.ref a), .val (.double x0), .second] [(.double x0), (.ref a), (.double (FP.l2d w))])) rfl (by rw [hml]; rfl) (Steps.refl _) (argsL := [(.double x0)]) (rest := [(.double (FP.l2d w))]) (lenOf own_pd__D_D rfl) rfl (by show 2 * 0 + _ ≤ _; exact Nat.le_of_eq rfl) (hb hby d7_7) (fun _ _ => ⟨rfl, e1, (by decide : 0 + 0 ≤ _), (by decide : 0 + 0 ≤ _)⟩)
  dsimp only [Pt.U, Pt.locs, Pt.cells, Pt.slots] at X2 l2 y2 z2 st2 hQ2
  subst l2 y2 z2
  obtain ⟨rfl, NQ2, eq2⟩ := hQ2
  have N3 := Fr.app N0 NQ2
  refine own_st (fun t k => st2.trans k) ?_
  show own_Go _ _ _ _ T2 (mkF m 10 _ [(.double (own_mp w x0)), (.double (FP.l2d w))])
  refine own_st (fun t k => XS.ddivS X2.here hx rfl (hb hby d7_10) rfl hk.2 rfl k) ?_
  show own_Go _ _ _ _ T2 (mkF m 11 _ [(.double (FP.ddiv (FP.l2d w) (own_mp w x0)))])
  subst hPq
  refine own_out X2 (v := some (.double (FP.ddiv (FP.l2d w) (own_mp w x0)))) (fun h => by rw [Bd.returns] at h; cases h) Bd.notSynchronized (own_retD X2 hx Bd.returns (hb hby d7_11)) (by decide) (by decide) ?_
  show Q7 Z a x0 w h0 n0 _ T2.heap _
  rw [eq2]
  exact ⟨rfl, N3, rfl⟩
theorem own_l2dw {a : Int64} {n : Nat} (h : a.toInt = n) (h0 : 0 < n) (h1 : n ≤ 9007199254740992) : own_is (FP.l2d a) n 0 := by
  have q : FP.Core.DInt a.toInt (FP.Core.l2d a) := FP.Core.l2d_int (by rw [h, Int.natAbs_natCast]; exact h1)
  rw [h] at q
  exact own_is_whole q h0
theorem own_i2dw {a : Int32} {n : Nat} (h : a.toInt = n) (h0 : 0 < n) : own_is (FP.i2d a) n 0 := by
  have q : FP.Core.DInt a.toInt (FP.Core.i2d a) := FP.Core.i2d_int a
  rw [h] at q
  exact own_is_whole q h0
theorem own_w {v J U z : Int64} {n j u : Nat} (hJ : J.toInt = j) (hU : U.toInt = u) (hv : v.toInt = n) (hn : n ≤ 1048576) (hju : j * u ≤ 1000000) (hj : j ≤ 15625) (h : (v * J) * U = z) : z.toInt = ((n * (j * u) : Nat) : Int) := by
  have e1 := c_lmul v J
  have e2 := c_lmul (v * J) U
  rw [h] at e2
  have r1 := rng64 (v * J); have r2 := rng64 z
  rw [hv, hJ] at e1
  have b1 : n * j ≤ 1048576 * 15625 := Nat.mul_le_mul hn hj
  have f1 : (v * J).toInt = ((n * j : Nat) : Int) := by
    have : ((n * j : Nat) : Int) = (n : Int) * (j : Int) := Int.natCast_mul n j
    rw [← this] at e1
    omega
  rw [f1, hU, ← Int.natCast_mul, Nat.mul_assoc] at e2
  have b2 : n * (j * u) ≤ 1048576 * 1000000 := Nat.mul_le_mul hn hju
  omega
theorem own_n {x : Int32} {v : Int64} (h : ((1 : Int64) + (x &&& (1048575 : Int32)).toInt64) = v) : ∃ n : Nat, v.toInt = n ∧ 0 < n ∧ n ≤ 1048576 := by
  have e := c_mask x 1048575 20 (by decide) (by decide)
  have e1 := c_i2l (x &&& 1048575)
  have e2 := c_ladd 1 (x &&& 1048575).toInt64
  rw [h, show (1 : Int64).toInt = 1 from rfl] at e2
  have r := rng64 v
  exact ⟨v.toInt.toNat, by omega, by omega, by omega⟩
theorem own_hi {v z : Int64} {fj fr fd : Int32} {n j R dd k : Nat} (hv : v.toInt = n) (hn : 0 < n) (hn' : n ≤ 1048576) (hz : (v * fj.toInt64) * (1 : Int64) = z) (hj : fj.toInt = j) (hr : fr.toInt = R) (hd : fd.toInt = dd) (hdk : dd = 2 ^ k) (j0 : 0 < j) (j1 : j ≤ 15625) (hk : k ≤ 6) (R0 : 0 < R) (h : 1000000 * 2 ^ k = j * R) :
    own_okR z (FP.i2d fr) ∧ cmpValue (FP.dcmp (own_ref z (FP.i2d fr)) (FP.ddiv (FP.i2d fj) (FP.i2d fd))) .l = 0 := by
  have e := own_w (n := n) (j := j) (u := 1) (by rw [c_i2l, hj]) rfl hv hn' (by omega) j1 hz
  rw [Nat.mul_one] at e
  have b := Nat.mul_le_mul hn' j1
  have W := own_l2dw e (Nat.mul_pos hn j0) (by omega)
  obtain ⟨o1, o2⟩ := own_core hn hn' j0 (by omega) hk R0 W (own_i2dw hr R0) h
  have p := own_pow2 k
  have X : own_is (FP.ddiv (FP.i2d fj) (FP.i2d fd)) j k := own_is_div (own_i2dw hj j0) (own_i2dw hd (by omega)) (by omega) j0 (by omega) (by omega) (by rw [Nat.pow_zero, Nat.one_mul, Nat.mul_one, hdk])
  exact ⟨o1, own_is_cmp o2 X .l⟩
theorem own_lo {v z : Int64} {fj fr fu fe : Int32} {n j R u : Nat} (hv : v.toInt = n) (hn : 0 < n) (hn' : n ≤ 1048576) (hz : (v * fj.toInt64) * fu.toInt64 = z) (hj : fj.toInt = j) (hr : fr.toInt = R) (hu : fu.toInt = u) (he : fe.toInt = ((j * u : Nat) : Int)) (j0 : 0 < j) (j1 : j ≤ 15625) (u0 : 0 < u) (ju : j * u ≤ 1000000) (R0 : 0 < R) (h : 1000000 * 2 ^ 0 = j * u * R) :
    own_okR z (FP.i2d fr) ∧ cmpValue (FP.dcmp (own_ref z (FP.i2d fr)) (FP.i2d fe)) .l = 0 := by
  have e := own_w (n := n) (j := j) (u := u) (by rw [c_i2l, hj]) (by rw [c_i2l, hu]) hv hn' ju j1 hz
  have b := Nat.mul_le_mul hn' ju
  have p := Nat.mul_pos j0 u0
  have W := own_l2dw e (Nat.mul_pos hn p) (by omega)
  obtain ⟨o1, o2⟩ := own_core hn hn' p ju (by decide) R0 W (own_i2dw hr R0) h
  exact ⟨o1, own_is_cmp o2 (own_i2dw he p) .l⟩
theorem own_r13 {x v : Int32} (h : ((x &&& (2147483647 : Int32)) % (13 : Int32)) = v) : v = 0 ∨ v = 1 ∨ v = 2 ∨ v = 3 ∨ v = 4 ∨ v = 5 ∨ v = 6 ∨ v = 7 ∨ v = 8 ∨ v = 9 ∨ v = 10 ∨ v = 11 ∨ v = 12 := by
  have e1 := c_mask x 2147483647 31 (by decide) (by decide)
  have e2 := (c_irem (x &&& 2147483647) 13 13 rfl).1 (by omega)
  rw [h] at e2
  simp only [← Int32.toInt_inj, show (0 : Int32).toInt = 0 from rfl, show (1 : Int32).toInt = 1 from rfl, show (2 : Int32).toInt = 2 from rfl, show (3 : Int32).toInt = 3 from rfl, show (4 : Int32).toInt = 4 from rfl, show (5 : Int32).toInt = 5 from rfl, show (6 : Int32).toInt = 6 from rfl, show (7 : Int32).toInt = 7 from rfl, show (8 : Int32).toInt = 8 from rfl, show (9 : Int32).toInt = 9 from rfl, show (10 : Int32).toInt = 10 from rfl, show (11 : Int32).toInt = 11 from rfl, show (12 : Int32).toInt = 12 from rfl]
  omega
theorem own_r7 {x v : Int32} (h : ((x &&& (2147483647 : Int32)) % (7 : Int32)) = v) : v = 0 ∨ v = 1 ∨ v = 2 ∨ v = 3 ∨ v = 4 ∨ v = 5 ∨ v = 6 := by
  have e1 := c_mask x 2147483647 31 (by decide) (by decide)
  have e2 := (c_irem (x &&& 2147483647) 7 7 rfl).1 (by omega)
  rw [h] at e2
  simp only [← Int32.toInt_inj, show (0 : Int32).toInt = 0 from rfl, show (1 : Int32).toInt = 1 from rfl, show (2 : Int32).toInt = 2 from rfl, show (3 : Int32).toInt = 3 from rfl, show (4 : Int32).toInt = 4 from rfl, show (5 : Int32).toInt = 5 from rfl, show (6 : Int32).toInt = 6 from rfl]
  omega
theorem own_pn0 : plainName "com/example/refill/refill/WarmingUpRefillMicrosPinLaw" = true := by first | (simp [plainName, overriddenIn]; done) | decide +kernel
theorem own_ef0 (m : MethodId) (x0 : Int32) (x1 : Int32) (x2 : Int32) : entryFrame m #[(.int x0), (.int x1), (.int x2)] maxLocals = mkF m 0 #[.val (.int x0), .val (.int x1), .val (.int x2), .unset, .unset, .unset, .unset, .unset, .unset, .unset, .unset, .unset, .unset, .unset, .unset, .unset, .unset, .unset, .unset] [] := by first | (simp [entryFrame, mkF, argsToLocals, Value.category, maxLocals]; done) | rfl
def Q0 (Z : State) (x0 : Int32) (x1 : Int32) (x2 : Int32) (h0 : Heap) (n0 : Nat) (v : Option Value) (h : Heap) (L : List Loc) : Prop := v = some (.int 1) ∧ Fr n0 L
theorem own_i153 (x0 : Int32) (x1 : Int32) (x2 : Int32) (g8v : Nat → Int32) (g13v : Nat → Int32) (g18v : Nat → Int32) (g23v : Nat → Int32) (g28v : Nat → Int32) (g33v : Nat → Int32) (g38v : Nat → Int32) (g43v : Nat → Int32) (g48v : Nat → Int32) (g53v : Nat → Int32) (g58v : Nat → Int32) (g63v : Nat → Int32) (g68v : Nat → Int32) (g79v : Nat → Int32) (g85v : Nat → Int32) (g91v : Nat → Int32) (g97v : Nat → Int32) (g103v : Nat → Int32) (g109v : Nat → Int32) (g115v : Nat → Int32) (v116 : Int32) (v117 : Int32) (v118 : Int64) (hgg8v : (own_updI (fun _ => (0 : Int32)) 0 (1 : Int32)) = g8v) (hgg13v : (own_updI g8v 1 (2 : Int32)) = g13v) (hgg18v : (own_updI g13v 2 (4 : Int32)) = g18v) (hgg23v : (own_updI g18v 3 (8 : Int32)) = g23v) (hgg28v : (own_updI g23v 4 (16 : Int32)) = g28v) (hgg33v : (own_updI g28v 5 (32 : Int32)) = g33v) (hgg38v : (own_updI g33v 6 (64 : Int32)) = g38v) (hgg43v : (own_updI g38v 7 (128 : Int32)) = g43v) (hgg48v : (own_updI g43v 8 (256 : Int32)) = g48v) (hgg53v : (own_updI g48v 9 (512 : Int32)) = g53v) (hgg58v : (own_updI g53v 10 (1024 : Int32)) = g58v) (hgg63v : (own_updI g58v 11 (2048 : Int32)) = g63v) (hgg68v : (own_updI g63v 12 (4096 : Int32)) = g68v) (hgg79v : (own_updI (fun _ => (0 : Int32)) 0 (1 : Int32)) = g79v) (hgg85v : (own_updI g79v 1 (5 : Int32)) = g85v) (hgg91v : (own_updI g85v 2 (25 : Int32)) = g91v) (hgg97v : (own_updI g91v 3 (125 : Int32)) = g97v) (hgg103v : (own_updI g97v 4 (625 : Int32)) = g103v) (hgg109v : (own_updI g103v 5 (3125 : Int32)) = g109v) (hgg115v : (own_updI g109v 6 (15625 : Int32)) = g115v) (hv116 : ((x0 &&& (2147483647 : Int32)) % (13 : Int32)) = v116) (hv117 : ((x1 &&& (2147483647 : Int32)) % (7 : Int32)) = v117) (hv118 : ((1 : Int64) + (x2 &&& (1048575 : Int32)).toInt64) = v118) : ¬ v116 < 0 ∧ v116 < (13 : Int32) := by
  rcases own_r13 hv116 with rfl | rfl | rfl | rfl | rfl | rfl | rfl | rfl | rfl | rfl | rfl | rfl | rfl <;> decide
theorem own_i158 (x0 : Int32) (x1 : Int32) (x2 : Int32) (g8v : Nat → Int32) (g13v : Nat → Int32) (g18v : Nat → Int32) (g23v : Nat → Int32) (g28v : Nat → Int32) (g33v : Nat → Int32) (g38v : Nat → Int32) (g43v : Nat → Int32) (g48v : Nat → Int32) (g53v : Nat → Int32) (g58v : Nat → Int32) (g63v : Nat → Int32) (g68v : Nat → Int32) (g79v : Nat → Int32) (g85v : Nat → Int32) (g91v : Nat → Int32) (g97v : Nat → Int32) (g103v : Nat → Int32) (g109v : Nat → Int32) (g115v : Nat → Int32) (v116 : Int32) (v117 : Int32) (v118 : Int64) (hgg8v : (own_updI (fun _ => (0 : Int32)) 0 (1 : Int32)) = g8v) (hgg13v : (own_updI g8v 1 (2 : Int32)) = g13v) (hgg18v : (own_updI g13v 2 (4 : Int32)) = g18v) (hgg23v : (own_updI g18v 3 (8 : Int32)) = g23v) (hgg28v : (own_updI g23v 4 (16 : Int32)) = g28v) (hgg33v : (own_updI g28v 5 (32 : Int32)) = g33v) (hgg38v : (own_updI g33v 6 (64 : Int32)) = g38v) (hgg43v : (own_updI g38v 7 (128 : Int32)) = g43v) (hgg48v : (own_updI g43v 8 (256 : Int32)) = g48v) (hgg53v : (own_updI g48v 9 (512 : Int32)) = g53v) (hgg58v : (own_updI g53v 10 (1024 : Int32)) = g58v) (hgg63v : (own_updI g58v 11 (2048 : Int32)) = g63v) (hgg68v : (own_updI g63v 12 (4096 : Int32)) = g68v) (hgg79v : (own_updI (fun _ => (0 : Int32)) 0 (1 : Int32)) = g79v) (hgg85v : (own_updI g79v 1 (5 : Int32)) = g85v) (hgg91v : (own_updI g85v 2 (25 : Int32)) = g91v) (hgg97v : (own_updI g91v 3 (125 : Int32)) = g97v) (hgg103v : (own_updI g97v 4 (625 : Int32)) = g103v) (hgg109v : (own_updI g103v 5 (3125 : Int32)) = g109v) (hgg115v : (own_updI g109v 6 (15625 : Int32)) = g115v) (hv116 : ((x0 &&& (2147483647 : Int32)) % (13 : Int32)) = v116) (hv117 : ((x1 &&& (2147483647 : Int32)) % (7 : Int32)) = v117) (hv118 : ((1 : Int64) + (x2 &&& (1048575 : Int32)).toInt64) = v118) : ¬ v117 < 0 ∧ v117 < (7 : Int32) := by
  rcases own_r7 hv117 with rfl | rfl | rfl | rfl | rfl | rfl | rfl <;> decide
theorem own_i213 (x0 : Int32) (x1 : Int32) (x2 : Int32) (g8v : Nat → Int32) (g13v : Nat → Int32) (g18v : Nat → Int32) (g23v : Nat → Int32) (g28v : Nat → Int32) (g33v : Nat → Int32) (g38v : Nat → Int32) (g43v : Nat → Int32) (g48v : Nat → Int32) (g53v : Nat → Int32) (g58v : Nat → Int32) (g63v : Nat → Int32) (g68v : Nat → Int32) (g79v : Nat → Int32) (g85v : Nat → Int32) (g91v : Nat → Int32) (g97v : Nat → Int32) (g103v : Nat → Int32) (g109v : Nat → Int32) (g115v : Nat → Int32) (v116 : Int32) (v117 : Int32) (v118 : Int64) (v121 : Int32) (v122 : UInt64) (hgg8v : (own_updI (fun _ => (0 : Int32)) 0 (1 : Int32)) = g8v) (hgg13v : (own_updI g8v 1 (2 : Int32)) = g13v) (hgg18v : (own_updI g13v 2 (4 : Int32)) = g18v) (hgg23v : (own_updI g18v 3 (8 : Int32)) = g23v) (hgg28v : (own_updI g23v 4 (16 : Int32)) = g28v) (hgg33v : (own_updI g28v 5 (32 : Int32)) = g33v) (hgg38v : (own_updI g33v 6 (64 : Int32)) = g38v) (hgg43v : (own_updI g38v 7 (128 : Int32)) = g43v) (hgg48v : (own_updI g43v 8 (256 : Int32)) = g48v) (hgg53v : (own_updI g48v 9 (512 : Int32)) = g53v) (hgg58v : (own_updI g53v 10 (1024 : Int32)) = g58v) (hgg63v : (own_updI g58v 11 (2048 : Int32)) = g63v) (hgg68v : (own_updI g63v 12 (4096 : Int32)) = g68v) (hgg79v : (own_updI (fun _ => (0 : Int32)) 0 (1 : Int32)) = g79v) (hgg85v : (own_updI g79v 1 (5 : Int32)) = g85v) (hgg91v : (own_updI g85v 2 (25 : Int32)) = g91v) (hgg97v : (own_updI g91v 3 (125 : Int32)) = g97v) (hgg103v : (own_updI g97v 4 (625 : Int32)) = g103v) (hgg109v : (own_updI g103v 5 (3125 : Int32)) = g109v) (hgg115v : (own_updI g109v 6 (15625 : Int32)) = g115v) (hv116 : ((x0 &&& (2147483647 : Int32)) % (13 : Int32)) = v116) (hv117 : ((x1 &&& (2147483647 : Int32)) % (7 : Int32)) = v117) (hv118 : ((1 : Int64) + (x2 &&& (1048575 : Int32)).toInt64) = v118) (hv121 : ((g68v v116.toNatClampNeg) * (g115v v117.toNatClampNeg)) = v121) (hv122 : (FP.i2d v121) = v122) (c123 : (6 : Int32) < v116) : ¬ ((6 : Int32) - v117) < 0 ∧ ((6 : Int32) - v117) < (7 : Int32) := by
  rcases own_r7 hv117 with rfl | rfl | rfl | rfl | rfl | rfl | rfl <;> decide
theorem own_i221 (x0 : Int32) (x1 : Int32) (x2 : Int32) (g8v : Nat → Int32) (g13v : Nat → Int32) (g18v : Nat → Int32) (g23v : Nat → Int32) (g28v : Nat → Int32) (g33v : Nat → Int32) (g38v : Nat → Int32) (g43v : Nat → Int32) (g48v : Nat → Int32) (g53v : Nat → Int32) (g58v : Nat → Int32) (g63v : Nat → Int32) (g68v : Nat → Int32) (g79v : Nat → Int32) (g85v : Nat → Int32) (g91v : Nat → Int32) (g97v : Nat → Int32) (g103v : Nat → Int32) (g109v : Nat → Int32) (g115v : Nat → Int32) (v116 : Int32) (v117 : Int32) (v118 : Int64) (v121 : Int32) (v122 : UInt64) (hgg8v : (own_updI (fun _ => (0 : Int32)) 0 (1 : Int32)) = g8v) (hgg13v : (own_updI g8v 1 (2 : Int32)) = g13v) (hgg18v : (own_updI g13v 2 (4 : Int32)) = g18v) (hgg23v : (own_updI g18v 3 (8 : Int32)) = g23v) (hgg28v : (own_updI g23v 4 (16 : Int32)) = g28v) (hgg33v : (own_updI g28v 5 (32 : Int32)) = g33v) (hgg38v : (own_updI g33v 6 (64 : Int32)) = g38v) (hgg43v : (own_updI g38v 7 (128 : Int32)) = g43v) (hgg48v : (own_updI g43v 8 (256 : Int32)) = g48v) (hgg53v : (own_updI g48v 9 (512 : Int32)) = g53v) (hgg58v : (own_updI g53v 10 (1024 : Int32)) = g58v) (hgg63v : (own_updI g58v 11 (2048 : Int32)) = g63v) (hgg68v : (own_updI g63v 12 (4096 : Int32)) = g68v) (hgg79v : (own_updI (fun _ => (0 : Int32)) 0 (1 : Int32)) = g79v) (hgg85v : (own_updI g79v 1 (5 : Int32)) = g85v) (hgg91v : (own_updI g85v 2 (25 : Int32)) = g91v) (hgg97v : (own_updI g91v 3 (125 : Int32)) = g97v) (hgg103v : (own_updI g97v 4 (625 : Int32)) = g103v) (hgg109v : (own_updI g103v 5 (3125 : Int32)) = g109v) (hgg115v : (own_updI g109v 6 (15625 : Int32)) = g115v) (hv116 : ((x0 &&& (2147483647 : Int32)) % (13 : Int32)) = v116) (hv117 : ((x1 &&& (2147483647 : Int32)) % (7 : Int32)) = v117) (hv118 : ((1 : Int64) + (x2 &&& (1048575 : Int32)).toInt64) = v118) (hv121 : ((g68v v116.toNatClampNeg) * (g115v v117.toNatClampNeg)) = v121) (hv122 : (FP.i2d v121) = v122) (c123 : (6 : Int32) < v116) : ¬ (v116 - (6 : Int32)) < 0 ∧ (v116 - (6 : Int32)) < (13 : Int32) := by
  rcases own_r13 hv116 with rfl | rfl | rfl | rfl | rfl | rfl | rfl | rfl | rfl | rfl | rfl | rfl | rfl <;> first | decide | exact absurd (show (6 : Int32) < _ by assumption) (by decide)
theorem own_nn (x0 : Int32) (x1 : Int32) (x2 : Int32) (g8v : Nat → Int32) (g13v : Nat → Int32) (g18v : Nat → Int32) (g23v : Nat → Int32) (g28v : Nat → Int32) (g33v : Nat → Int32) (g38v : Nat → Int32) (g43v : Nat → Int32) (g48v : Nat → Int32) (g53v : Nat → Int32) (g58v : Nat → Int32) (g63v : Nat → Int32) (g68v : Nat → Int32) (g79v : Nat → Int32) (g85v : Nat → Int32) (g91v : Nat → Int32) (g97v : Nat → Int32) (g103v : Nat → Int32) (g109v : Nat → Int32) (g115v : Nat → Int32) (v116 : Int32) (v117 : Int32) (v118 : Int64) (v121 : Int32) (v122 : UInt64) (hgg8v : (own_updI (fun _ => (0 : Int32)) 0 (1 : Int32)) = g8v) (hgg13v : (own_updI g8v 1 (2 : Int32)) = g13v) (hgg18v : (own_updI g13v 2 (4 : Int32)) = g18v) (hgg23v : (own_updI g18v 3 (8 : Int32)) = g23v) (hgg28v : (own_updI g23v 4 (16 : Int32)) = g28v) (hgg33v : (own_updI g28v 5 (32 : Int32)) = g33v) (hgg38v : (own_updI g33v 6 (64 : Int32)) = g38v) (hgg43v : (own_updI g38v 7 (128 : Int32)) = g43v) (hgg48v : (own_updI g43v 8 (256 : Int32)) = g48v) (hgg53v : (own_updI g48v 9 (512 : Int32)) = g53v) (hgg58v : (own_updI g53v 10 (1024 : Int32)) = g58v) (hgg63v : (own_updI g58v 11 (2048 : Int32)) = g63v) (hgg68v : (own_updI g63v 12 (4096 : Int32)) = g68v) (hgg79v : (own_updI (fun _ => (0 : Int32)) 0 (1 : Int32)) = g79v) (hgg85v : (own_updI g79v 1 (5 : Int32)) = g85v) (hgg91v : (own_updI g85v 2 (25 : Int32)) = g91v) (hgg97v : (own_updI g91v 3 (125 : Int32)) = g97v) (hgg103v : (own_updI g97v 4 (625 : Int32)) = g103v) (hgg109v : (own_updI g103v 5 (3125 : Int32)) = g109v) (hgg115v : (own_updI g109v 6 (15625 : Int32)) = g115v) (hv116 : ((x0 &&& (2147483647 : Int32)) % (13 : Int32)) = v116) (hv117 : ((x1 &&& (2147483647 : Int32)) % (7 : Int32)) = v117) (hv118 : ((1 : Int64) + (x2 &&& (1048575 : Int32)).toInt64) = v118) (hv121 : ((g68v v116.toNatClampNeg) * (g115v v117.toNatClampNeg)) = v121) (hv122 : (FP.i2d v121) = v122) (c123 : (6 : Int32) < v116) : Jvm.Free.Fl.NoNaN64 (FP.ddiv (FP.i2d (g115v ((6 : Int32) - v117).toNatClampNeg)) (FP.i2d (g68v (v116 - (6 : Int32)).toNatClampNeg))) := by
  have g2_0 : g68v 0 = 1 := by rw [← hgg68v, ← hgg63v, ← hgg58v, ← hgg53v, ← hgg48v, ← hgg43v, ← hgg38v, ← hgg33v, ← hgg28v, ← hgg23v, ← hgg18v, ← hgg13v, ← hgg8v]; rfl
  have g2_1 : g68v 1 = 2 := by rw [← hgg68v, ← hgg63v, ← hgg58v, ← hgg53v, ← hgg48v, ← hgg43v, ← hgg38v, ← hgg33v, ← hgg28v, ← hgg23v, ← hgg18v, ← hgg13v]; rfl
  have g2_2 : g68v 2 = 4 := by rw [← hgg68v, ← hgg63v, ← hgg58v, ← hgg53v, ← hgg48v, ← hgg43v, ← hgg38v, ← hgg33v, ← hgg28v, ← hgg23v, ← hgg18v]; rfl
  have g2_3 : g68v 3 = 8 := by rw [← hgg68v, ← hgg63v, ← hgg58v, ← hgg53v, ← hgg48v, ← hgg43v, ← hgg38v, ← hgg33v, ← hgg28v, ← hgg23v]; rfl
  have g2_4 : g68v 4 = 16 := by rw [← hgg68v, ← hgg63v, ← hgg58v, ← hgg53v, ← hgg48v, ← hgg43v, ← hgg38v, ← hgg33v, ← hgg28v]; rfl
  have g2_5 : g68v 5 = 32 := by rw [← hgg68v, ← hgg63v, ← hgg58v, ← hgg53v, ← hgg48v, ← hgg43v, ← hgg38v, ← hgg33v]; rfl
  have g2_6 : g68v 6 = 64 := by rw [← hgg68v, ← hgg63v, ← hgg58v, ← hgg53v, ← hgg48v, ← hgg43v, ← hgg38v]; rfl
  have g2_7 : g68v 7 = 128 := by rw [← hgg68v, ← hgg63v, ← hgg58v, ← hgg53v, ← hgg48v, ← hgg43v]; rfl
  have g2_8 : g68v 8 = 256 := by rw [← hgg68v, ← hgg63v, ← hgg58v, ← hgg53v, ← hgg48v]; rfl
  have g2_9 : g68v 9 = 512 := by rw [← hgg68v, ← hgg63v, ← hgg58v, ← hgg53v]; rfl
  have g2_10 : g68v 10 = 1024 := by rw [← hgg68v, ← hgg63v, ← hgg58v]; rfl
  have g2_11 : g68v 11 = 2048 := by rw [← hgg68v, ← hgg63v]; rfl
  have g2_12 : g68v 12 = 4096 := by rw [← hgg68v]; rfl
  refine Jvm.Free.Fl.ddiv_out (Jvm.Free.Fl.i2d_fin _).noNaN (Jvm.Free.Fl.i2d_fin _) (Jvm.Free.Fl.i2d_nz ?_)
  rcases own_r13 hv116 with rfl | rfl | rfl | rfl | rfl | rfl | rfl | rfl | rfl | rfl | rfl | rfl | rfl
  · exact absurd (show (6 : Int32) < _ by assumption) (by decide)
  · exact absurd (show (6 : Int32) < _ by assumption) (by decide)
  · exact absurd (show (6 : Int32) < _ by assumption) (by decide)
  · exact absurd (show (6 : Int32) < _ by assumption) (by decide)
  · exact absurd (show (6 : Int32) < _ by assumption) (by decide)
  · exact absurd (show (6 : Int32) < _ by assumption) (by decide)
  · exact absurd (show (6 : Int32) < _ by assumption) (by decide)
  · rw [show ((7 : Int32) - (6 : Int32)).toNatClampNeg = 1 by decide, g2_1]; decide
  · rw [show ((8 : Int32) - (6 : Int32)).toNatClampNeg = 2 by decide, g2_2]; decide
  · rw [show ((9 : Int32) - (6 : Int32)).toNatClampNeg = 3 by decide, g2_3]; decide
  · rw [show ((10 : Int32) - (6 : Int32)).toNatClampNeg = 4 by decide, g2_4]; decide
  · rw [show ((11 : Int32) - (6 : Int32)).toNatClampNeg = 5 by decide, g2_5]; decide
  · rw [show ((12 : Int32) - (6 : Int32)).toNatClampNeg = 6 by decide, g2_6]; decide
theorem own_i180 (x0 : Int32) (x1 : Int32) (x2 : Int32) (g8v : Nat → Int32) (g13v : Nat → Int32) (g18v : Nat → Int32) (g23v : Nat → Int32) (g28v : Nat → Int32) (g33v : Nat → Int32) (g38v : Nat → Int32) (g43v : Nat → Int32) (g48v : Nat → Int32) (g53v : Nat → Int32) (g58v : Nat → Int32) (g63v : Nat → Int32) (g68v : Nat → Int32) (g79v : Nat → Int32) (g85v : Nat → Int32) (g91v : Nat → Int32) (g97v : Nat → Int32) (g103v : Nat → Int32) (g109v : Nat → Int32) (g115v : Nat → Int32) (v116 : Int32) (v117 : Int32) (v118 : Int64) (v121 : Int32) (v122 : UInt64) (hgg8v : (own_updI (fun _ => (0 : Int32)) 0 (1 : Int32)) = g8v) (hgg13v : (own_updI g8v 1 (2 : Int32)) = g13v) (hgg18v : (own_updI g13v 2 (4 : Int32)) = g18v) (hgg23v : (own_updI g18v 3 (8 : Int32)) = g23v) (hgg28v : (own_updI g23v 4 (16 : Int32)) = g28v) (hgg33v : (own_updI g28v 5 (32 : Int32)) = g33v) (hgg38v : (own_updI g33v 6 (64 : Int32)) = g38v) (hgg43v : (own_updI g38v 7 (128 : Int32)) = g43v) (hgg48v : (own_updI g43v 8 (256 : Int32)) = g48v) (hgg53v : (own_updI g48v 9 (512 : Int32)) = g53v) (hgg58v : (own_updI g53v 10 (1024 : Int32)) = g58v) (hgg63v : (own_updI g58v 11 (2048 : Int32)) = g63v) (hgg68v : (own_updI g63v 12 (4096 : Int32)) = g68v) (hgg79v : (own_updI (fun _ => (0 : Int32)) 0 (1 : Int32)) = g79v) (hgg85v : (own_updI g79v 1 (5 : Int32)) = g85v) (hgg91v : (own_updI g85v 2 (25 : Int32)) = g91v) (hgg97v : (own_updI g91v 3 (125 : Int32)) = g97v) (hgg103v : (own_updI g97v 4 (625 : Int32)) = g103v) (hgg109v : (own_updI g103v 5 (3125 : Int32)) = g109v) (hgg115v : (own_updI g109v 6 (15625 : Int32)) = g115v) (hv116 : ((x0 &&& (2147483647 : Int32)) % (13 : Int32)) = v116) (hv117 : ((x1 &&& (2147483647 : Int32)) % (7 : Int32)) = v117) (hv118 : ((1 : Int64) + (x2 &&& (1048575 : Int32)).toInt64) = v118) (hv121 : ((g68v v116.toNatClampNeg) * (g115v v117.toNatClampNeg)) = v121) (hv122 : (FP.i2d v121) = v122) (c123 : ¬ ((6 : Int32) < v116)) : ¬ ((6 : Int32) - v116) < 0 ∧ ((6 : Int32) - v116) < (13 : Int32) := by
  rcases own_r13 hv116 with rfl | rfl | rfl | rfl | rfl | rfl | rfl | rfl | rfl | rfl | rfl | rfl | rfl
  · decide
  · decide
  · decide
  · decide
  · decide
  · decide
  · decide
  · exact absurd (show (6 : Int32) < (7 : Int32) by decide) (by assumption)
  · exact absurd (show (6 : Int32) < (8 : Int32) by decide) (by assumption)
  · exact absurd (show (6 : Int32) < (9 : Int32) by decide) (by assumption)
  · exact absurd (show (6 : Int32) < (10 : Int32) by decide) (by assumption)
  · exact absurd (show (6 : Int32) < (11 : Int32) by decide) (by assumption)
  · exact absurd (show (6 : Int32) < (12 : Int32) by decide) (by assumption)
theorem own_i188 (x0 : Int32) (x1 : Int32) (x2 : Int32) (g8v : Nat → Int32) (g13v : Nat → Int32) (g18v : Nat → Int32) (g23v : Nat → Int32) (g28v : Nat → Int32) (g33v : Nat → Int32) (g38v : Nat → Int32) (g43v : Nat → Int32) (g48v : Nat → Int32) (g53v : Nat → Int32) (g58v : Nat → Int32) (g63v : Nat → Int32) (g68v : Nat → Int32) (g79v : Nat → Int32) (g85v : Nat → Int32) (g91v : Nat → Int32) (g97v : Nat → Int32) (g103v : Nat → Int32) (g109v : Nat → Int32) (g115v : Nat → Int32) (v116 : Int32) (v117 : Int32) (v118 : Int64) (v121 : Int32) (v122 : UInt64) (hgg8v : (own_updI (fun _ => (0 : Int32)) 0 (1 : Int32)) = g8v) (hgg13v : (own_updI g8v 1 (2 : Int32)) = g13v) (hgg18v : (own_updI g13v 2 (4 : Int32)) = g18v) (hgg23v : (own_updI g18v 3 (8 : Int32)) = g23v) (hgg28v : (own_updI g23v 4 (16 : Int32)) = g28v) (hgg33v : (own_updI g28v 5 (32 : Int32)) = g33v) (hgg38v : (own_updI g33v 6 (64 : Int32)) = g38v) (hgg43v : (own_updI g38v 7 (128 : Int32)) = g43v) (hgg48v : (own_updI g43v 8 (256 : Int32)) = g48v) (hgg53v : (own_updI g48v 9 (512 : Int32)) = g53v) (hgg58v : (own_updI g53v 10 (1024 : Int32)) = g58v) (hgg63v : (own_updI g58v 11 (2048 : Int32)) = g63v) (hgg68v : (own_updI g63v 12 (4096 : Int32)) = g68v) (hgg79v : (own_updI (fun _ => (0 : Int32)) 0 (1 : Int32)) = g79v) (hgg85v : (own_updI g79v 1 (5 : Int32)) = g85v) (hgg91v : (own_updI g85v 2 (25 : Int32)) = g91v) (hgg97v : (own_updI g91v 3 (125 : Int32)) = g97v) (hgg103v : (own_updI g97v 4 (625 : Int32)) = g103v) (hgg109v : (own_updI g103v 5 (3125 : Int32)) = g109v) (hgg115v : (own_updI g109v 6 (15625 : Int32)) = g115v) (hv116 : ((x0 &&& (2147483647 : Int32)) % (13 : Int32)) = v116) (hv117 : ((x1 &&& (2147483647 : Int32)) % (7 : Int32)) = v117) (hv118 : ((1 : Int64) + (x2 &&& (1048575 : Int32)).toInt64) = v118) (hv121 : ((g68v v116.toNatClampNeg) * (g115v v117.toNatClampNeg)) = v121) (hv122 : (FP.i2d v121) = v122) (c123 : ¬ ((6 : Int32) < v116)) : ¬ ((6 : Int32) - v117) < 0 ∧ ((6 : Int32) - v117) < (7 : Int32) := by
  rcases own_r7 hv117 with rfl | rfl | rfl | rfl | rfl | rfl | rfl <;> decide
theorem own_i199 (x0 : Int32) (x1 : Int32) (x2 : Int32) (g8v : Nat → Int32) (g13v : Nat → Int32) (g18v : Nat → Int32) (g23v : Nat → Int32) (g28v : Nat → Int32) (g33v : Nat → Int32) (g38v : Nat → Int32) (g43v : Nat → Int32) (g48v : Nat → Int32) (g53v : Nat → Int32) (g58v : Nat → Int32) (g63v : Nat → Int32) (g68v : Nat → Int32) (g79v : Nat → Int32) (g85v : Nat → Int32) (g91v : Nat → Int32) (g97v : Nat → Int32) (g103v : Nat → Int32) (g109v : Nat → Int32) (g115v : Nat → Int32) (v116 : Int32) (v117 : Int32) (v118 : Int64) (v121 : Int32) (v122 : UInt64) (hgg8v : (own_updI (fun _ => (0 : Int32)) 0 (1 : Int32)) = g8v) (hgg13v : (own_updI g8v 1 (2 : Int32)) = g13v) (hgg18v : (own_updI g13v 2 (4 : Int32)) = g18v) (hgg23v : (own_updI g18v 3 (8 : Int32)) = g23v) (hgg28v : (own_updI g23v 4 (16 : Int32)) = g28v) (hgg33v : (own_updI g28v 5 (32 : Int32)) = g33v) (hgg38v : (own_updI g33v 6 (64 : Int32)) = g38v) (hgg43v : (own_updI g38v 7 (128 : Int32)) = g43v) (hgg48v : (own_updI g43v 8 (256 : Int32)) = g48v) (hgg53v : (own_updI g48v 9 (512 : Int32)) = g53v) (hgg58v : (own_updI g53v 10 (1024 : Int32)) = g58v) (hgg63v : (own_updI g58v 11 (2048 : Int32)) = g63v) (hgg68v : (own_updI g63v 12 (4096 : Int32)) = g68v) (hgg79v : (own_updI (fun _ => (0 : Int32)) 0 (1 : Int32)) = g79v) (hgg85v : (own_updI g79v 1 (5 : Int32)) = g85v) (hgg91v : (own_updI g85v 2 (25 : Int32)) = g91v) (hgg97v : (own_updI g91v 3 (125 : Int32)) = g97v) (hgg103v : (own_updI g97v 4 (625 : Int32)) = g103v) (hgg109v : (own_updI g103v 5 (3125 : Int32)) = g109v) (hgg115v : (own_updI g109v 6 (15625 : Int32)) = g115v) (hv116 : ((x0 &&& (2147483647 : Int32)) % (13 : Int32)) = v116) (hv117 : ((x1 &&& (2147483647 : Int32)) % (7 : Int32)) = v117) (hv118 : ((1 : Int64) + (x2 &&& (1048575 : Int32)).toInt64) = v118) (hv121 : ((g68v v116.toNatClampNeg) * (g115v v117.toNatClampNeg)) = v121) (hv122 : (FP.i2d v121) = v122) (c123 : ¬ ((6 : Int32) < v116)) : ¬ ((6 : Int32) - v116) < 0 ∧ ((6 : Int32) - v116) < (13 : Int32) := by
  rcases own_r13 hv116 with rfl | rfl | rfl | rfl | rfl | rfl | rfl | rfl | rfl | rfl | rfl | rfl | rfl
  · decide
  · decide
  · decide
  · decide
  · decide
  · decide
  · decide
  · exact absurd (show (6 : Int32) < (7 : Int32) by decide) (by assumption)
  · exact absurd (show (6 : Int32) < (8 : Int32) by decide) (by assumption)
  · exact absurd (show (6 : Int32) < (9 : Int32) by decide) (by assumption)
  · exact absurd (show (6 : Int32) < (10 : Int32) by decide) (by assumption)
  · exact absurd (show (6 : Int32) < (11 : Int32) by decide) (by assumption)
  · exact absurd (show (6 : Int32) < (12 : Int32) by decide) (by assumption)
theorem own_i238 (x0 : Int32) (x1 : Int32) (x2 : Int32) (g8v : Nat → Int32) (g13v : Nat → Int32) (g18v : Nat → Int32) (g23v : Nat → Int32) (g28v : Nat → Int32) (g33v : Nat → Int32) (g38v : Nat → Int32) (g43v : Nat → Int32) (g48v : Nat → Int32) (g53v : Nat → Int32) (g58v : Nat → Int32) (g63v : Nat → Int32) (g68v : Nat → Int32) (g79v : Nat → Int32) (g85v : Nat → Int32) (g91v : Nat → Int32) (g97v : Nat → Int32) (g103v : Nat → Int32) (g109v : Nat → Int32) (g115v : Nat → Int32) (v116 : Int32) (v117 : Int32) (v118 : Int64) (v121 : Int32) (v122 : UInt64) (p132 : UInt64) (p133 : Int64) (hgg8v : (own_updI (fun _ => (0 : Int32)) 0 (1 : Int32)) = g8v) (hgg13v : (own_updI g8v 1 (2 : Int32)) = g13v) (hgg18v : (own_updI g13v 2 (4 : Int32)) = g18v) (hgg23v : (own_updI g18v 3 (8 : Int32)) = g23v) (hgg28v : (own_updI g23v 4 (16 : Int32)) = g28v) (hgg33v : (own_updI g28v 5 (32 : Int32)) = g33v) (hgg38v : (own_updI g33v 6 (64 : Int32)) = g38v) (hgg43v : (own_updI g38v 7 (128 : Int32)) = g43v) (hgg48v : (own_updI g43v 8 (256 : Int32)) = g48v) (hgg53v : (own_updI g48v 9 (512 : Int32)) = g53v) (hgg58v : (own_updI g53v 10 (1024 : Int32)) = g58v) (hgg63v : (own_updI g58v 11 (2048 : Int32)) = g63v) (hgg68v : (own_updI g63v 12 (4096 : Int32)) = g68v) (hgg79v : (own_updI (fun _ => (0 : Int32)) 0 (1 : Int32)) = g79v) (hgg85v : (own_updI g79v 1 (5 : Int32)) = g85v) (hgg91v : (own_updI g85v 2 (25 : Int32)) = g91v) (hgg97v : (own_updI g91v 3 (125 : Int32)) = g97v) (hgg103v : (own_updI g97v 4 (625 : Int32)) = g103v) (hgg109v : (own_updI g103v 5 (3125 : Int32)) = g109v) (hgg115v : (own_updI g109v 6 (15625 : Int32)) = g115v) (hv116 : ((x0 &&& (2147483647 : Int32)) % (13 : Int32)) = v116) (hv117 : ((x1 &&& (2147483647 : Int32)) % (7 : Int32)) = v117) (hv118 : ((1 : Int64) + (x2 &&& (1048575 : Int32)).toInt64) = v118) (hv121 : ((g68v v116.toNatClampNeg) * (g115v v117.toNatClampNeg)) = v121) (hv122 : (FP.i2d v121) = v122) (qp132 : p132 = (if (6 : Int32) < v116 then (FP.ddiv (FP.i2d (g115v ((6 : Int32) - v117).toNatClampNeg)) (FP.i2d (g68v (v116 - (6 : Int32)).toNatClampNeg))) else (FP.i2d ((g68v ((6 : Int32) - v116).toNatClampNeg) * (g115v ((6 : Int32) - v117).toNatClampNeg))))) (qp133 : p133 = (if (6 : Int32) < v116 then (1 : Int64) else (g68v ((6 : Int32) - v116).toNatClampNeg).toInt64)) : ¬ ((6 : Int32) - v117) < 0 ∧ ((6 : Int32) - v117) < (7 : Int32) := by
  rcases own_r7 hv117 with rfl | rfl | rfl | rfl | rfl | rfl | rfl <;> decide
theorem own_main (x0 : Int32) (x1 : Int32) (x2 : Int32) (g8v : Nat → Int32) (g13v : Nat → Int32) (g18v : Nat → Int32) (g23v : Nat → Int32) (g28v : Nat → Int32) (g33v : Nat → Int32) (g38v : Nat → Int32) (g43v : Nat → Int32) (g48v : Nat → Int32) (g53v : Nat → Int32) (g58v : Nat → Int32) (g63v : Nat → Int32) (g68v : Nat → Int32) (g79v : Nat → Int32) (g85v : Nat → Int32) (g91v : Nat → Int32) (g97v : Nat → Int32) (g103v : Nat → Int32) (g109v : Nat → Int32) (g115v : Nat → Int32) (v116 : Int32) (v117 : Int32) (v118 : Int64) (v121 : Int32) (v122 : UInt64) (p132 : UInt64) (p133 : Int64) (v135 : Int64) (hgg8v : (own_updI (fun _ => (0 : Int32)) 0 (1 : Int32)) = g8v) (hgg13v : (own_updI g8v 1 (2 : Int32)) = g13v) (hgg18v : (own_updI g13v 2 (4 : Int32)) = g18v) (hgg23v : (own_updI g18v 3 (8 : Int32)) = g23v) (hgg28v : (own_updI g23v 4 (16 : Int32)) = g28v) (hgg33v : (own_updI g28v 5 (32 : Int32)) = g33v) (hgg38v : (own_updI g33v 6 (64 : Int32)) = g38v) (hgg43v : (own_updI g38v 7 (128 : Int32)) = g43v) (hgg48v : (own_updI g43v 8 (256 : Int32)) = g48v) (hgg53v : (own_updI g48v 9 (512 : Int32)) = g53v) (hgg58v : (own_updI g53v 10 (1024 : Int32)) = g58v) (hgg63v : (own_updI g58v 11 (2048 : Int32)) = g63v) (hgg68v : (own_updI g63v 12 (4096 : Int32)) = g68v) (hgg79v : (own_updI (fun _ => (0 : Int32)) 0 (1 : Int32)) = g79v) (hgg85v : (own_updI g79v 1 (5 : Int32)) = g85v) (hgg91v : (own_updI g85v 2 (25 : Int32)) = g91v) (hgg97v : (own_updI g91v 3 (125 : Int32)) = g97v) (hgg103v : (own_updI g97v 4 (625 : Int32)) = g103v) (hgg109v : (own_updI g103v 5 (3125 : Int32)) = g109v) (hgg115v : (own_updI g109v 6 (15625 : Int32)) = g115v) (hv116 : ((x0 &&& (2147483647 : Int32)) % (13 : Int32)) = v116) (hv117 : ((x1 &&& (2147483647 : Int32)) % (7 : Int32)) = v117) (hv118 : ((1 : Int64) + (x2 &&& (1048575 : Int32)).toInt64) = v118) (hv121 : ((g68v v116.toNatClampNeg) * (g115v v117.toNatClampNeg)) = v121) (hv122 : (FP.i2d v121) = v122) (qp132 : p132 = (if (6 : Int32) < v116 then (FP.ddiv (FP.i2d (g115v ((6 : Int32) - v117).toNatClampNeg)) (FP.i2d (g68v (v116 - (6 : Int32)).toNatClampNeg))) else (FP.i2d ((g68v ((6 : Int32) - v116).toNatClampNeg) * (g115v ((6 : Int32) - v117).toNatClampNeg))))) (qp133 : p133 = (if (6 : Int32) < v116 then (1 : Int64) else (g68v ((6 : Int32) - v116).toNatClampNeg).toInt64)) (hv135 : ((v118 * (g115v ((6 : Int32) - v117).toNatClampNeg).toInt64) * p133) = v135) : own_okR v135 v122 ∧ (cmpValue (FP.dcmp (own_ref v135 v122) p132) .l) = (0 : Int32) := by
  have g2_0 : g68v 0 = 1 := by rw [← hgg68v, ← hgg63v, ← hgg58v, ← hgg53v, ← hgg48v, ← hgg43v, ← hgg38v, ← hgg33v, ← hgg28v, ← hgg23v, ← hgg18v, ← hgg13v, ← hgg8v]; rfl
  have g2_1 : g68v 1 = 2 := by rw [← hgg68v, ← hgg63v, ← hgg58v, ← hgg53v, ← hgg48v, ← hgg43v, ← hgg38v, ← hgg33v, ← hgg28v, ← hgg23v, ← hgg18v, ← hgg13v]; rfl
  have g2_2 : g68v 2 = 4 := by rw [← hgg68v, ← hgg63v, ← hgg58v, ← hgg53v, ← hgg48v, ← hgg43v, ← hgg38v, ← hgg33v, ← hgg28v, ← hgg23v, ← hgg18v]; rfl
  have g2_3 : g68v 3 = 8 := by rw [← hgg68v, ← hgg63v, ← hgg58v, ← hgg53v, ← hgg48v, ← hgg43v, ← hgg38v, ← hgg33v, ← hgg28v, ← hgg23v]; rfl
  have g2_4 : g68v 4 = 16 := by rw [← hgg68v, ← hgg63v, ← hgg58v, ← hgg53v, ← hgg48v, ← hgg43v, ← hgg38v, ← hgg33v, ← hgg28v]; rfl
  have g2_5 : g68v 5 = 32 := by rw [← hgg68v, ← hgg63v, ← hgg58v, ← hgg53v, ← hgg48v, ← hgg43v, ← hgg38v, ← hgg33v]; rfl
  have g2_6 : g68v 6 = 64 := by rw [← hgg68v, ← hgg63v, ← hgg58v, ← hgg53v, ← hgg48v, ← hgg43v, ← hgg38v]; rfl
  have g2_7 : g68v 7 = 128 := by rw [← hgg68v, ← hgg63v, ← hgg58v, ← hgg53v, ← hgg48v, ← hgg43v]; rfl
  have g2_8 : g68v 8 = 256 := by rw [← hgg68v, ← hgg63v, ← hgg58v, ← hgg53v, ← hgg48v]; rfl
  have g2_9 : g68v 9 = 512 := by rw [← hgg68v, ← hgg63v, ← hgg58v, ← hgg53v]; rfl
  have g2_10 : g68v 10 = 1024 := by rw [← hgg68v, ← hgg63v, ← hgg58v]; rfl
  have g2_11 : g68v 11 = 2048 := by rw [← hgg68v, ← hgg63v]; rfl
  have g2_12 : g68v 12 = 4096 := by rw [← hgg68v]; rfl
  have g5_0 : g115v 0 = 1 := by rw [← hgg115v, ← hgg109v, ← hgg103v, ← hgg97v, ← hgg91v, ← hgg85v, ← hgg79v]; rfl
  have g5_1 : g115v 1 = 5 := by rw [← hgg115v, ← hgg109v, ← hgg103v, ← hgg97v, ← hgg91v, ← hgg85v]; rfl
  have g5_2 : g115v 2 = 25 := by rw [← hgg115v, ← hgg109v, ← hgg103v, ← hgg97v, ← hgg91v]; rfl
  have g5_3 : g115v 3 = 125 := by rw [← hgg115v, ← hgg109v, ← hgg103v, ← hgg97v]; rfl
  have g5_4 : g115v 4 = 625 := by rw [← hgg115v, ← hgg109v, ← hgg103v]; rfl
  have g5_5 : g115v 5 = 3125 := by rw [← hgg115v, ← hgg109v]; rfl
  have g5_6 : g115v 6 = 15625 := by rw [← hgg115v]; rfl
  obtain ⟨n, hn1, hn2, hn3⟩ := own_n hv118
  rw [← hv122]
  rcases own_r13 hv116 with rfl | rfl | rfl | rfl | rfl | rfl | rfl | rfl | rfl | rfl | rfl | rfl | rfl
  · rw [if_neg (by decide)] at qp132 qp133
    rw [qp133] at hv135
    rw [qp132]
    rw [show (0 : Int32).toNatClampNeg = 0 by decide, g2_0] at hv121
    rw [show ((6 : Int32) - (0 : Int32)).toNatClampNeg = 6 by decide, g2_6] at hv135 ⊢
    rcases own_r7 hv117 with rfl | rfl | rfl | rfl | rfl | rfl | rfl
    · rw [show (0 : Int32).toNatClampNeg = 0 by decide, g5_0] at hv121
      rw [show ((6 : Int32) - (0 : Int32)).toNatClampNeg = 6 by decide, g5_6] at hv135 ⊢
      rw [← hv121]
      exact own_lo (j := 15625) (R := 1) (u := 64) hn1 hn2 hn3 hv135 (by decide) (by decide) (by decide) (by decide) (by decide) (by decide) (by decide) (by decide) (by decide) (by decide)
    · rw [show (1 : Int32).toNatClampNeg = 1 by decide, g5_1] at hv121
      rw [show ((6 : Int32) - (1 : Int32)).toNatClampNeg = 5 by decide, g5_5] at hv135 ⊢
      rw [← hv121]
      exact own_lo (j := 3125) (R := 5) (u := 64) hn1 hn2 hn3 hv135 (by decide) (by decide) (by decide) (by decide) (by decide) (by decide) (by decide) (by decide) (by decide) (by decide)
    · rw [show (2 : Int32).toNatClampNeg = 2 by decide, g5_2] at hv121
      rw [show ((6 : Int32) - (2 : Int32)).toNatClampNeg = 4 by decide, g5_4] at hv135 ⊢
      rw [← hv121]
      exact own_lo (j := 625) (R := 25) (u := 64) hn1 hn2 hn3 hv135 (by decide) (by decide) (by decide) (by decide) (by decide) (by decide) (by decide) (by decide) (by decide) (by decide)
    · rw [show (3 : Int32).toNatClampNeg = 3 by decide, g5_3] at hv121
      rw [show ((6 : Int32) - (3 : Int32)).toNatClampNeg = 3 by decide, g5_3] at hv135 ⊢
      rw [← hv121]
      exact own_lo (j := 125) (R := 125) (u := 64) hn1 hn2 hn3 hv135 (by decide) (by decide) (by decide) (by decide) (by decide) (by decide) (by decide) (by decide) (by decide) (by decide)
    · rw [show (4 : Int32).toNatClampNeg = 4 by decide, g5_4] at hv121
      rw [show ((6 : Int32) - (4 : Int32)).toNatClampNeg = 2 by decide, g5_2] at hv135 ⊢
      rw [← hv121]
      exact own_lo (j := 25) (R := 625) (u := 64) hn1 hn2 hn3 hv135 (by decide) (by decide) (by decide) (by decide) (by decide) (by decide) (by decide) (by decide) (by decide) (by decide)
    · rw [show (5 : Int32).toNatClampNeg = 5 by decide, g5_5] at hv121
      rw [show ((6 : Int32) - (5 : Int32)).toNatClampNeg = 1 by decide, g5_1] at hv135 ⊢
      rw [← hv121]
      exact own_lo (j := 5) (R := 3125) (u := 64) hn1 hn2 hn3 hv135 (by decide) (by decide) (by decide) (by decide) (by decide) (by decide) (by decide) (by decide) (by decide) (by decide)
    · rw [show (6 : Int32).toNatClampNeg = 6 by decide, g5_6] at hv121
      rw [show ((6 : Int32) - (6 : Int32)).toNatClampNeg = 0 by decide, g5_0] at hv135 ⊢
      rw [← hv121]
      exact own_lo (j := 1) (R := 15625) (u := 64) hn1 hn2 hn3 hv135 (by decide) (by decide) (by decide) (by decide) (by decide) (by decide) (by decide) (by decide) (by decide) (by decide)
  · rw [if_neg (by decide)] at qp132 qp133
    rw [qp133] at hv135
    rw [qp132]
    rw [show (1 : Int32).toNatClampNeg = 1 by decide, g2_1] at hv121
    rw [show ((6 : Int32) - (1 : Int32)).toNatClampNeg = 5 by decide, g2_5] at hv135 ⊢
    rcases own_r7 hv117 with rfl | rfl | rfl | rfl | rfl | rfl | rfl
    · rw [show (0 : Int32).toNatClampNeg = 0 by decide, g5_0] at hv121
      rw [show ((6 : Int32) - (0 : Int32)).toNatClampNeg = 6 by decide, g5_6] at hv135 ⊢
      rw [← hv121]
      exact own_lo (j := 15625) (R := 2) (u := 32) hn1 hn2 hn3 hv135 (by decide) (by decide) (by decide) (by decide) (by decide) (by decide) (by decide) (by decide) (by decide) (by decide)
    · rw [show (1 : Int32).toNatClampNeg = 1 by decide, g5_1] at hv121
      rw [show ((6 : Int32) - (1 : Int32)).toNatClampNeg = 5 by decide, g5_5] at hv135 ⊢
      rw [← hv121]
      exact own_lo (j := 3125) (R := 10) (u := 32) hn1 hn2 hn3 hv135 (by decide) (by decide) (by decide) (by decide) (by decide) (by decide) (by decide) (by decide) (by decide) (by decide)
    · rw [show (2 : Int32).toNatClampNeg = 2 by decide, g5_2] at hv121
      rw [show ((6 : Int32) - (2 : Int32)).toNatClampNeg = 4 by decide, g5_4] at hv135 ⊢
      rw [← hv121]
      exact own_lo (j := 625) (R := 50) (u := 32) hn1 hn2 hn3 hv135 (by decide) (by decide) (by decide) (by decide) (by decide) (by decide) (by decide) (by decide) (by decide) (by decide)
    · rw [show (3 : Int32).toNatClampNeg = 3 by decide, g5_3] at hv121
      rw [show ((6 : Int32) - (3 : Int32)).toNatClampNeg = 3 by decide, g5_3] at hv135 ⊢
      rw [← hv121]
      exact own_lo (j := 125) (R := 250) (u := 32) hn1 hn2 hn3 hv135 (by decide) (by decide) (by decide) (by decide) (by decide) (by decide) (by decide) (by decide) (by decide) (by decide)
    · rw [show (4 : Int32).toNatClampNeg = 4 by decide, g5_4] at hv121
      rw [show ((6 : Int32) - (4 : Int32)).toNatClampNeg = 2 by decide, g5_2] at hv135 ⊢
      rw [← hv121]
      exact own_lo (j := 25) (R := 1250) (u := 32) hn1 hn2 hn3 hv135 (by decide) (by decide) (by decide) (by decide) (by decide) (by decide) (by decide) (by decide) (by decide) (by decide)
    · rw [show (5 : Int32).toNatClampNeg = 5 by decide, g5_5] at hv121
      rw [show ((6 : Int32) - (5 : Int32)).toNatClampNeg = 1 by decide, g5_1] at hv135 ⊢
      rw [← hv121]
      exact own_lo (j := 5) (R := 6250) (u := 32) hn1 hn2 hn3 hv135 (by decide) (by decide) (by decide) (by decide) (by decide) (by decide) (by decide) (by decide) (by decide) (by decide)
    · rw [show (6 : Int32).toNatClampNeg = 6 by decide, g5_6] at hv121
      rw [show ((6 : Int32) - (6 : Int32)).toNatClampNeg = 0 by decide, g5_0] at hv135 ⊢
      rw [← hv121]
      exact own_lo (j := 1) (R := 31250) (u := 32) hn1 hn2 hn3 hv135 (by decide) (by decide) (by decide) (by decide) (by decide) (by decide) (by decide) (by decide) (by decide) (by decide)
  · rw [if_neg (by decide)] at qp132 qp133
    rw [qp133] at hv135
    rw [qp132]
    rw [show (2 : Int32).toNatClampNeg = 2 by decide, g2_2] at hv121
    rw [show ((6 : Int32) - (2 : Int32)).toNatClampNeg = 4 by decide, g2_4] at hv135 ⊢
    rcases own_r7 hv117 with rfl | rfl | rfl | rfl | rfl | rfl | rfl
    · rw [show (0 : Int32).toNatClampNeg = 0 by decide, g5_0] at hv121
      rw [show ((6 : Int32) - (0 : Int32)).toNatClampNeg = 6 by decide, g5_6] at hv135 ⊢
      rw [← hv121]
      exact own_lo (j := 15625) (R := 4) (u := 16) hn1 hn2 hn3 hv135 (by decide) (by decide) (by decide) (by decide) (by decide) (by decide) (by decide) (by decide) (by decide) (by decide)
    · rw [show (1 : Int32).toNatClampNeg = 1 by decide, g5_1] at hv121
      rw [show ((6 : Int32) - (1 : Int32)).toNatClampNeg = 5 by decide, g5_5] at hv135 ⊢
      rw [← hv121]
      exact own_lo (j := 3125) (R := 20) (u := 16) hn1 hn2 hn3 hv135 (by decide) (by decide) (by decide) (by decide) (by decide) (by decide) (by decide) (by decide) (by decide) (by decide)
    · rw [show (2 : Int32).toNatClampNeg = 2 by decide, g5_2] at hv121
      rw [show ((6 : Int32) - (2 : Int32)).toNatClampNeg = 4 by decide, g5_4] at hv135 ⊢
      rw [← hv121]
      exact own_lo (j := 625) (R := 100) (u := 16) hn1 hn2 hn3 hv135 (by decide) (by decide) (by decide) (by decide) (by decide) (by decide) (by decide) (by decide) (by decide) (by decide)
    · rw [show (3 : Int32).toNatClampNeg = 3 by decide, g5_3] at hv121
      rw [show ((6 : Int32) - (3 : Int32)).toNatClampNeg = 3 by decide, g5_3] at hv135 ⊢
      rw [← hv121]
      exact own_lo (j := 125) (R := 500) (u := 16) hn1 hn2 hn3 hv135 (by decide) (by decide) (by decide) (by decide) (by decide) (by decide) (by decide) (by decide) (by decide) (by decide)
    · rw [show (4 : Int32).toNatClampNeg = 4 by decide, g5_4] at hv121
      rw [show ((6 : Int32) - (4 : Int32)).toNatClampNeg = 2 by decide, g5_2] at hv135 ⊢
      rw [← hv121]
      exact own_lo (j := 25) (R := 2500) (u := 16) hn1 hn2 hn3 hv135 (by decide) (by decide) (by decide) (by decide) (by decide) (by decide) (by decide) (by decide) (by decide) (by decide)
    · rw [show (5 : Int32).toNatClampNeg = 5 by decide, g5_5] at hv121
      rw [show ((6 : Int32) - (5 : Int32)).toNatClampNeg = 1 by decide, g5_1] at hv135 ⊢
      rw [← hv121]
      exact own_lo (j := 5) (R := 12500) (u := 16) hn1 hn2 hn3 hv135 (by decide) (by decide) (by decide) (by decide) (by decide) (by decide) (by decide) (by decide) (by decide) (by decide)
    · rw [show (6 : Int32).toNatClampNeg = 6 by decide, g5_6] at hv121
      rw [show ((6 : Int32) - (6 : Int32)).toNatClampNeg = 0 by decide, g5_0] at hv135 ⊢
      rw [← hv121]
      exact own_lo (j := 1) (R := 62500) (u := 16) hn1 hn2 hn3 hv135 (by decide) (by decide) (by decide) (by decide) (by decide) (by decide) (by decide) (by decide) (by decide) (by decide)
  · rw [if_neg (by decide)] at qp132 qp133
    rw [qp133] at hv135
    rw [qp132]
    rw [show (3 : Int32).toNatClampNeg = 3 by decide, g2_3] at hv121
    rw [show ((6 : Int32) - (3 : Int32)).toNatClampNeg = 3 by decide, g2_3] at hv135 ⊢
    rcases own_r7 hv117 with rfl | rfl | rfl | rfl | rfl | rfl | rfl
    · rw [show (0 : Int32).toNatClampNeg = 0 by decide, g5_0] at hv121
      rw [show ((6 : Int32) - (0 : Int32)).toNatClampNeg = 6 by decide, g5_6] at hv135 ⊢
      rw [← hv121]
      exact own_lo (j := 15625) (R := 8) (u := 8) hn1 hn2 hn3 hv135 (by decide) (by decide) (by decide) (by decide) (by decide) (by decide) (by decide) (by decide) (by decide) (by decide)
    · rw [show (1 : Int32).toNatClampNeg = 1 by decide, g5_1] at hv121
      rw [show ((6 : Int32) - (1 : Int32)).toNatClampNeg = 5 by decide, g5_5] at hv135 ⊢
      rw [← hv121]
      exact own_lo (j := 3125) (R := 40) (u := 8) hn1 hn2 hn3 hv135 (by decide) (by decide) (by decide) (by decide) (by decide) (by decide) (by decide) (by decide) (by decide) (by decide)
    · rw [show (2 : Int32).toNatClampNeg = 2 by decide, g5_2] at hv121
      rw [show ((6 : Int32) - (2 : Int32)).toNatClampNeg = 4 by decide, g5_4] at hv135 ⊢
      rw [← hv121]
      exact own_lo (j := 625) (R := 200) (u := 8) hn1 hn2 hn3 hv135 (by decide) (by decide) (by decide) (by decide) (by decide) (by decide) (by decide) (by decide) (by decide) (by decide)
    · rw [show (3 : Int32).toNatClampNeg = 3 by decide, g5_3] at hv121
      rw [show ((6 : Int32) - (3 : Int32)).toNatClampNeg = 3 by decide, g5_3] at hv135 ⊢
      rw [← hv121]
      exact own_lo (j := 125) (R := 1000) (u := 8) hn1 hn2 hn3 hv135 (by decide) (by decide) (by decide) (by decide) (by decide) (by decide) (by decide) (by decide) (by decide) (by decide)
    · rw [show (4 : Int32).toNatClampNeg = 4 by decide, g5_4] at hv121
      rw [show ((6 : Int32) - (4 : Int32)).toNatClampNeg = 2 by decide, g5_2] at hv135 ⊢
      rw [← hv121]
      exact own_lo (j := 25) (R := 5000) (u := 8) hn1 hn2 hn3 hv135 (by decide) (by decide) (by decide) (by decide) (by decide) (by decide) (by decide) (by decide) (by decide) (by decide)
    · rw [show (5 : Int32).toNatClampNeg = 5 by decide, g5_5] at hv121
      rw [show ((6 : Int32) - (5 : Int32)).toNatClampNeg = 1 by decide, g5_1] at hv135 ⊢
      rw [← hv121]
      exact own_lo (j := 5) (R := 25000) (u := 8) hn1 hn2 hn3 hv135 (by decide) (by decide) (by decide) (by decide) (by decide) (by decide) (by decide) (by decide) (by decide) (by decide)
    · rw [show (6 : Int32).toNatClampNeg = 6 by decide, g5_6] at hv121
      rw [show ((6 : Int32) - (6 : Int32)).toNatClampNeg = 0 by decide, g5_0] at hv135 ⊢
      rw [← hv121]
      exact own_lo (j := 1) (R := 125000) (u := 8) hn1 hn2 hn3 hv135 (by decide) (by decide) (by decide) (by decide) (by decide) (by decide) (by decide) (by decide) (by decide) (by decide)
  · rw [if_neg (by decide)] at qp132 qp133
    rw [qp133] at hv135
    rw [qp132]
    rw [show (4 : Int32).toNatClampNeg = 4 by decide, g2_4] at hv121
    rw [show ((6 : Int32) - (4 : Int32)).toNatClampNeg = 2 by decide, g2_2] at hv135 ⊢
    rcases own_r7 hv117 with rfl | rfl | rfl | rfl | rfl | rfl | rfl
    · rw [show (0 : Int32).toNatClampNeg = 0 by decide, g5_0] at hv121
      rw [show ((6 : Int32) - (0 : Int32)).toNatClampNeg = 6 by decide, g5_6] at hv135 ⊢
      rw [← hv121]
      exact own_lo (j := 15625) (R := 16) (u := 4) hn1 hn2 hn3 hv135 (by decide) (by decide) (by decide) (by decide) (by decide) (by decide) (by decide) (by decide) (by decide) (by decide)
    · rw [show (1 : Int32).toNatClampNeg = 1 by decide, g5_1] at hv121
      rw [show ((6 : Int32) - (1 : Int32)).toNatClampNeg = 5 by decide, g5_5] at hv135 ⊢
      rw [← hv121]
      exact own_lo (j := 3125) (R := 80) (u := 4) hn1 hn2 hn3 hv135 (by decide) (by decide) (by decide) (by decide) (by decide) (by decide) (by decide) (by decide) (by decide) (by decide)
    · rw [show (2 : Int32).toNatClampNeg = 2 by decide, g5_2] at hv121
      rw [show ((6 : Int32) - (2 : Int32)).toNatClampNeg = 4 by decide, g5_4] at hv135 ⊢
      rw [← hv121]
      exact own_lo (j := 625) (R := 400) (u := 4) hn1 hn2 hn3 hv135 (by decide) (by decide) (by decide) (by decide) (by decide) (by decide) (by decide) (by decide) (by decide) (by decide)
    · rw [show (3 : Int32).toNatClampNeg = 3 by decide, g5_3] at hv121
      rw [show ((6 : Int32) - (3 : Int32)).toNatClampNeg = 3 by decide, g5_3] at hv135 ⊢
      rw [← hv121]
      exact own_lo (j := 125) (R := 2000) (u := 4) hn1 hn2 hn3 hv135 (by decide) (by decide) (by decide) (by decide) (by decide) (by decide) (by decide) (by decide) (by decide) (by decide)
    · rw [show (4 : Int32).toNatClampNeg = 4 by decide, g5_4] at hv121
      rw [show ((6 : Int32) - (4 : Int32)).toNatClampNeg = 2 by decide, g5_2] at hv135 ⊢
      rw [← hv121]
      exact own_lo (j := 25) (R := 10000) (u := 4) hn1 hn2 hn3 hv135 (by decide) (by decide) (by decide) (by decide) (by decide) (by decide) (by decide) (by decide) (by decide) (by decide)
    · rw [show (5 : Int32).toNatClampNeg = 5 by decide, g5_5] at hv121
      rw [show ((6 : Int32) - (5 : Int32)).toNatClampNeg = 1 by decide, g5_1] at hv135 ⊢
      rw [← hv121]
      exact own_lo (j := 5) (R := 50000) (u := 4) hn1 hn2 hn3 hv135 (by decide) (by decide) (by decide) (by decide) (by decide) (by decide) (by decide) (by decide) (by decide) (by decide)
    · rw [show (6 : Int32).toNatClampNeg = 6 by decide, g5_6] at hv121
      rw [show ((6 : Int32) - (6 : Int32)).toNatClampNeg = 0 by decide, g5_0] at hv135 ⊢
      rw [← hv121]
      exact own_lo (j := 1) (R := 250000) (u := 4) hn1 hn2 hn3 hv135 (by decide) (by decide) (by decide) (by decide) (by decide) (by decide) (by decide) (by decide) (by decide) (by decide)
  · rw [if_neg (by decide)] at qp132 qp133
    rw [qp133] at hv135
    rw [qp132]
    rw [show (5 : Int32).toNatClampNeg = 5 by decide, g2_5] at hv121
    rw [show ((6 : Int32) - (5 : Int32)).toNatClampNeg = 1 by decide, g2_1] at hv135 ⊢
    rcases own_r7 hv117 with rfl | rfl | rfl | rfl | rfl | rfl | rfl
    · rw [show (0 : Int32).toNatClampNeg = 0 by decide, g5_0] at hv121
      rw [show ((6 : Int32) - (0 : Int32)).toNatClampNeg = 6 by decide, g5_6] at hv135 ⊢
      rw [← hv121]
      exact own_lo (j := 15625) (R := 32) (u := 2) hn1 hn2 hn3 hv135 (by decide) (by decide) (by decide) (by decide) (by decide) (by decide) (by decide) (by decide) (by decide) (by decide)
    · rw [show (1 : Int32).toNatClampNeg = 1 by decide, g5_1] at hv121
      rw [show ((6 : Int32) - (1 : Int32)).toNatClampNeg = 5 by decide, g5_5] at hv135 ⊢
      rw [← hv121]
      exact own_lo (j := 3125) (R := 160) (u := 2) hn1 hn2 hn3 hv135 (by decide) (by decide) (by decide) (by decide) (by decide) (by decide) (by decide) (by decide) (by decide) (by decide)
    · rw [show (2 : Int32).toNatClampNeg = 2 by decide, g5_2] at hv121
      rw [show ((6 : Int32) - (2 : Int32)).toNatClampNeg = 4 by decide, g5_4] at hv135 ⊢
      rw [← hv121]
      exact own_lo (j := 625) (R := 800) (u := 2) hn1 hn2 hn3 hv135 (by decide) (by decide) (by decide) (by decide) (by decide) (by decide) (by decide) (by decide) (by decide) (by decide)
    · rw [show (3 : Int32).toNatClampNeg = 3 by decide, g5_3] at hv121
      rw [show ((6 : Int32) - (3 : Int32)).toNatClampNeg = 3 by decide, g5_3] at hv135 ⊢
      rw [← hv121]
      exact own_lo (j := 125) (R := 4000) (u := 2) hn1 hn2 hn3 hv135 (by decide) (by decide) (by decide) (by decide) (by decide) (by decide) (by decide) (by decide) (by decide) (by decide)
    · rw [show (4 : Int32).toNatClampNeg = 4 by decide, g5_4] at hv121
      rw [show ((6 : Int32) - (4 : Int32)).toNatClampNeg = 2 by decide, g5_2] at hv135 ⊢
      rw [← hv121]
      exact own_lo (j := 25) (R := 20000) (u := 2) hn1 hn2 hn3 hv135 (by decide) (by decide) (by decide) (by decide) (by decide) (by decide) (by decide) (by decide) (by decide) (by decide)
    · rw [show (5 : Int32).toNatClampNeg = 5 by decide, g5_5] at hv121
      rw [show ((6 : Int32) - (5 : Int32)).toNatClampNeg = 1 by decide, g5_1] at hv135 ⊢
      rw [← hv121]
      exact own_lo (j := 5) (R := 100000) (u := 2) hn1 hn2 hn3 hv135 (by decide) (by decide) (by decide) (by decide) (by decide) (by decide) (by decide) (by decide) (by decide) (by decide)
    · rw [show (6 : Int32).toNatClampNeg = 6 by decide, g5_6] at hv121
      rw [show ((6 : Int32) - (6 : Int32)).toNatClampNeg = 0 by decide, g5_0] at hv135 ⊢
      rw [← hv121]
      exact own_lo (j := 1) (R := 500000) (u := 2) hn1 hn2 hn3 hv135 (by decide) (by decide) (by decide) (by decide) (by decide) (by decide) (by decide) (by decide) (by decide) (by decide)
  · rw [if_neg (by decide)] at qp132 qp133
    rw [qp133] at hv135
    rw [qp132]
    rw [show (6 : Int32).toNatClampNeg = 6 by decide, g2_6] at hv121
    rw [show ((6 : Int32) - (6 : Int32)).toNatClampNeg = 0 by decide, g2_0] at hv135 ⊢
    rcases own_r7 hv117 with rfl | rfl | rfl | rfl | rfl | rfl | rfl
    · rw [show (0 : Int32).toNatClampNeg = 0 by decide, g5_0] at hv121
      rw [show ((6 : Int32) - (0 : Int32)).toNatClampNeg = 6 by decide, g5_6] at hv135 ⊢
      rw [← hv121]
      exact own_lo (j := 15625) (R := 64) (u := 1) hn1 hn2 hn3 hv135 (by decide) (by decide) (by decide) (by decide) (by decide) (by decide) (by decide) (by decide) (by decide) (by decide)
    · rw [show (1 : Int32).toNatClampNeg = 1 by decide, g5_1] at hv121
      rw [show ((6 : Int32) - (1 : Int32)).toNatClampNeg = 5 by decide, g5_5] at hv135 ⊢
      rw [← hv121]
      exact own_lo (j := 3125) (R := 320) (u := 1) hn1 hn2 hn3 hv135 (by decide) (by decide) (by decide) (by decide) (by decide) (by decide) (by decide) (by decide) (by decide) (by decide)
    · rw [show (2 : Int32).toNatClampNeg = 2 by decide, g5_2] at hv121
      rw [show ((6 : Int32) - (2 : Int32)).toNatClampNeg = 4 by decide, g5_4] at hv135 ⊢
      rw [← hv121]
      exact own_lo (j := 625) (R := 1600) (u := 1) hn1 hn2 hn3 hv135 (by decide) (by decide) (by decide) (by decide) (by decide) (by decide) (by decide) (by decide) (by decide) (by decide)
    · rw [show (3 : Int32).toNatClampNeg = 3 by decide, g5_3] at hv121
      rw [show ((6 : Int32) - (3 : Int32)).toNatClampNeg = 3 by decide, g5_3] at hv135 ⊢
      rw [← hv121]
      exact own_lo (j := 125) (R := 8000) (u := 1) hn1 hn2 hn3 hv135 (by decide) (by decide) (by decide) (by decide) (by decide) (by decide) (by decide) (by decide) (by decide) (by decide)
    · rw [show (4 : Int32).toNatClampNeg = 4 by decide, g5_4] at hv121
      rw [show ((6 : Int32) - (4 : Int32)).toNatClampNeg = 2 by decide, g5_2] at hv135 ⊢
      rw [← hv121]
      exact own_lo (j := 25) (R := 40000) (u := 1) hn1 hn2 hn3 hv135 (by decide) (by decide) (by decide) (by decide) (by decide) (by decide) (by decide) (by decide) (by decide) (by decide)
    · rw [show (5 : Int32).toNatClampNeg = 5 by decide, g5_5] at hv121
      rw [show ((6 : Int32) - (5 : Int32)).toNatClampNeg = 1 by decide, g5_1] at hv135 ⊢
      rw [← hv121]
      exact own_lo (j := 5) (R := 200000) (u := 1) hn1 hn2 hn3 hv135 (by decide) (by decide) (by decide) (by decide) (by decide) (by decide) (by decide) (by decide) (by decide) (by decide)
    · rw [show (6 : Int32).toNatClampNeg = 6 by decide, g5_6] at hv121
      rw [show ((6 : Int32) - (6 : Int32)).toNatClampNeg = 0 by decide, g5_0] at hv135 ⊢
      rw [← hv121]
      exact own_lo (j := 1) (R := 1000000) (u := 1) hn1 hn2 hn3 hv135 (by decide) (by decide) (by decide) (by decide) (by decide) (by decide) (by decide) (by decide) (by decide) (by decide)
  · rw [if_pos (by decide)] at qp132 qp133
    rw [qp133] at hv135
    rw [qp132]
    rw [show (7 : Int32).toNatClampNeg = 7 by decide, g2_7] at hv121
    rw [show ((7 : Int32) - (6 : Int32)).toNatClampNeg = 1 by decide, g2_1]
    rcases own_r7 hv117 with rfl | rfl | rfl | rfl | rfl | rfl | rfl
    · rw [show (0 : Int32).toNatClampNeg = 0 by decide, g5_0] at hv121
      rw [show ((6 : Int32) - (0 : Int32)).toNatClampNeg = 6 by decide, g5_6] at hv135 ⊢
      rw [← hv121]
      exact own_hi (j := 15625) (R := 128) (dd := 2) (k := 1) hn1 hn2 hn3 hv135 (by decide) (by decide) (by decide) (by decide) (by decide) (by decide) (by decide) (by decide) (by decide)
    · rw [show (1 : Int32).toNatClampNeg = 1 by decide, g5_1] at hv121
      rw [show ((6 : Int32) - (1 : Int32)).toNatClampNeg = 5 by decide, g5_5] at hv135 ⊢
      rw [← hv121]
      exact own_hi (j := 3125) (R := 640) (dd := 2) (k := 1) hn1 hn2 hn3 hv135 (by decide) (by decide) (by decide) (by decide) (by decide) (by decide) (by decide) (by decide) (by decide)
    · rw [show (2 : Int32).toNatClampNeg = 2 by decide, g5_2] at hv121
      rw [show ((6 : Int32) - (2 : Int32)).toNatClampNeg = 4 by decide, g5_4] at hv135 ⊢
      rw [← hv121]
      exact own_hi (j := 625) (R := 3200) (dd := 2) (k := 1) hn1 hn2 hn3 hv135 (by decide) (by decide) (by decide) (by decide) (by decide) (by decide) (by decide) (by decide) (by decide)
    · rw [show (3 : Int32).toNatClampNeg = 3 by decide, g5_3] at hv121
      rw [show ((6 : Int32) - (3 : Int32)).toNatClampNeg = 3 by decide, g5_3] at hv135 ⊢
      rw [← hv121]
      exact own_hi (j := 125) (R := 16000) (dd := 2) (k := 1) hn1 hn2 hn3 hv135 (by decide) (by decide) (by decide) (by decide) (by decide) (by decide) (by decide) (by decide) (by decide)
    · rw [show (4 : Int32).toNatClampNeg = 4 by decide, g5_4] at hv121
      rw [show ((6 : Int32) - (4 : Int32)).toNatClampNeg = 2 by decide, g5_2] at hv135 ⊢
      rw [← hv121]
      exact own_hi (j := 25) (R := 80000) (dd := 2) (k := 1) hn1 hn2 hn3 hv135 (by decide) (by decide) (by decide) (by decide) (by decide) (by decide) (by decide) (by decide) (by decide)
    · rw [show (5 : Int32).toNatClampNeg = 5 by decide, g5_5] at hv121
      rw [show ((6 : Int32) - (5 : Int32)).toNatClampNeg = 1 by decide, g5_1] at hv135 ⊢
      rw [← hv121]
      exact own_hi (j := 5) (R := 400000) (dd := 2) (k := 1) hn1 hn2 hn3 hv135 (by decide) (by decide) (by decide) (by decide) (by decide) (by decide) (by decide) (by decide) (by decide)
    · rw [show (6 : Int32).toNatClampNeg = 6 by decide, g5_6] at hv121
      rw [show ((6 : Int32) - (6 : Int32)).toNatClampNeg = 0 by decide, g5_0] at hv135 ⊢
      rw [← hv121]
      exact own_hi (j := 1) (R := 2000000) (dd := 2) (k := 1) hn1 hn2 hn3 hv135 (by decide) (by decide) (by decide) (by decide) (by decide) (by decide) (by decide) (by decide) (by decide)
  · rw [if_pos (by decide)] at qp132 qp133
    rw [qp133] at hv135
    rw [qp132]
    rw [show (8 : Int32).toNatClampNeg = 8 by decide, g2_8] at hv121
    rw [show ((8 : Int32) - (6 : Int32)).toNatClampNeg = 2 by decide, g2_2]
    rcases own_r7 hv117 with rfl | rfl | rfl | rfl | rfl | rfl | rfl
    · rw [show (0 : Int32).toNatClampNeg = 0 by decide, g5_0] at hv121
      rw [show ((6 : Int32) - (0 : Int32)).toNatClampNeg = 6 by decide, g5_6] at hv135 ⊢
      rw [← hv121]
      exact own_hi (j := 15625) (R := 256) (dd := 4) (k := 2) hn1 hn2 hn3 hv135 (by decide) (by decide) (by decide) (by decide) (by decide) (by decide) (by decide) (by decide) (by decide)
    · rw [show (1 : Int32).toNatClampNeg = 1 by decide, g5_1] at hv121
      rw [show ((6 : Int32) - (1 : Int32)).toNatClampNeg = 5 by decide, g5_5] at hv135 ⊢
      rw [← hv121]
      exact own_hi (j := 3125) (R := 1280) (dd := 4) (k := 2) hn1 hn2 hn3 hv135 (by decide) (by decide) (by decide) (by decide) (by decide) (by decide) (by decide) (by decide) (by decide)
    · rw [show (2 : Int32).toNatClampNeg = 2 by decide, g5_2] at hv121
      rw [show ((6 : Int32) - (2 : Int32)).toNatClampNeg = 4 by decide, g5_4] at hv135 ⊢
      rw [← hv121]
      exact own_hi (j := 625) (R := 6400) (dd := 4) (k := 2) hn1 hn2 hn3 hv135 (by decide) (by decide) (by decide) (by decide) (by decide) (by decide) (by decide) (by decide) (by decide)
    · rw [show (3 : Int32).toNatClampNeg = 3 by decide, g5_3] at hv121
      rw [show ((6 : Int32) - (3 : Int32)).toNatClampNeg = 3 by decide, g5_3] at hv135 ⊢
      rw [← hv121]
      exact own_hi (j := 125) (R := 32000) (dd := 4) (k := 2) hn1 hn2 hn3 hv135 (by decide) (by decide) (by decide) (by decide) (by decide) (by decide) (by decide) (by decide) (by decide)
    · rw [show (4 : Int32).toNatClampNeg = 4 by decide, g5_4] at hv121
      rw [show ((6 : Int32) - (4 : Int32)).toNatClampNeg = 2 by decide, g5_2] at hv135 ⊢
      rw [← hv121]
      exact own_hi (j := 25) (R := 160000) (dd := 4) (k := 2) hn1 hn2 hn3 hv135 (by decide) (by decide) (by decide) (by decide) (by decide) (by decide) (by decide) (by decide) (by decide)
    · rw [show (5 : Int32).toNatClampNeg = 5 by decide, g5_5] at hv121
      rw [show ((6 : Int32) - (5 : Int32)).toNatClampNeg = 1 by decide, g5_1] at hv135 ⊢
      rw [← hv121]
      exact own_hi (j := 5) (R := 800000) (dd := 4) (k := 2) hn1 hn2 hn3 hv135 (by decide) (by decide) (by decide) (by decide) (by decide) (by decide) (by decide) (by decide) (by decide)
    · rw [show (6 : Int32).toNatClampNeg = 6 by decide, g5_6] at hv121
      rw [show ((6 : Int32) - (6 : Int32)).toNatClampNeg = 0 by decide, g5_0] at hv135 ⊢
      rw [← hv121]
      exact own_hi (j := 1) (R := 4000000) (dd := 4) (k := 2) hn1 hn2 hn3 hv135 (by decide) (by decide) (by decide) (by decide) (by decide) (by decide) (by decide) (by decide) (by decide)
  · rw [if_pos (by decide)] at qp132 qp133
    rw [qp133] at hv135
    rw [qp132]
    rw [show (9 : Int32).toNatClampNeg = 9 by decide, g2_9] at hv121
    rw [show ((9 : Int32) - (6 : Int32)).toNatClampNeg = 3 by decide, g2_3]
    rcases own_r7 hv117 with rfl | rfl | rfl | rfl | rfl | rfl | rfl
    · rw [show (0 : Int32).toNatClampNeg = 0 by decide, g5_0] at hv121
      rw [show ((6 : Int32) - (0 : Int32)).toNatClampNeg = 6 by decide, g5_6] at hv135 ⊢
      rw [← hv121]
      exact own_hi (j := 15625) (R := 512) (dd := 8) (k := 3) hn1 hn2 hn3 hv135 (by decide) (by decide) (by decide) (by decide) (by decide) (by decide) (by decide) (by decide) (by decide)
    · rw [show (1 : Int32).toNatClampNeg = 1 by decide, g5_1] at hv121
      rw [show ((6 : Int32) - (1 : Int32)).toNatClampNeg = 5 by decide, g5_5] at hv135 ⊢
      rw [← hv121]
      exact own_hi (j := 3125) (R := 2560) (dd := 8) (k := 3) hn1 hn2 hn3 hv135 (by decide) (by decide) (by decide) (by decide) (by decide) (by decide) (by decide) (by decide) (by decide)
    · rw [show (2 : Int32).toNatClampNeg = 2 by decide, g5_2] at hv121
      rw [show ((6 : Int32) - (2 : Int32)).toNatClampNeg = 4 by decide, g5_4] at hv135 ⊢
      rw [← hv121]
      exact own_hi (j := 625) (R := 12800) (dd := 8) (k := 3) hn1 hn2 hn3 hv135 (by decide) (by decide) (by decide) (by decide) (by decide) (by decide) (by decide) (by decide) (by decide)
    · rw [show (3 : Int32).toNatClampNeg = 3 by decide, g5_3] at hv121
      rw [show ((6 : Int32) - (3 : Int32)).toNatClampNeg = 3 by decide, g5_3] at hv135 ⊢
      rw [← hv121]
      exact own_hi (j := 125) (R := 64000) (dd := 8) (k := 3) hn1 hn2 hn3 hv135 (by decide) (by decide) (by decide) (by decide) (by decide) (by decide) (by decide) (by decide) (by decide)
    · rw [show (4 : Int32).toNatClampNeg = 4 by decide, g5_4] at hv121
      rw [show ((6 : Int32) - (4 : Int32)).toNatClampNeg = 2 by decide, g5_2] at hv135 ⊢
      rw [← hv121]
      exact own_hi (j := 25) (R := 320000) (dd := 8) (k := 3) hn1 hn2 hn3 hv135 (by decide) (by decide) (by decide) (by decide) (by decide) (by decide) (by decide) (by decide) (by decide)
    · rw [show (5 : Int32).toNatClampNeg = 5 by decide, g5_5] at hv121
      rw [show ((6 : Int32) - (5 : Int32)).toNatClampNeg = 1 by decide, g5_1] at hv135 ⊢
      rw [← hv121]
      exact own_hi (j := 5) (R := 1600000) (dd := 8) (k := 3) hn1 hn2 hn3 hv135 (by decide) (by decide) (by decide) (by decide) (by decide) (by decide) (by decide) (by decide) (by decide)
    · rw [show (6 : Int32).toNatClampNeg = 6 by decide, g5_6] at hv121
      rw [show ((6 : Int32) - (6 : Int32)).toNatClampNeg = 0 by decide, g5_0] at hv135 ⊢
      rw [← hv121]
      exact own_hi (j := 1) (R := 8000000) (dd := 8) (k := 3) hn1 hn2 hn3 hv135 (by decide) (by decide) (by decide) (by decide) (by decide) (by decide) (by decide) (by decide) (by decide)
  · rw [if_pos (by decide)] at qp132 qp133
    rw [qp133] at hv135
    rw [qp132]
    rw [show (10 : Int32).toNatClampNeg = 10 by decide, g2_10] at hv121
    rw [show ((10 : Int32) - (6 : Int32)).toNatClampNeg = 4 by decide, g2_4]
    rcases own_r7 hv117 with rfl | rfl | rfl | rfl | rfl | rfl | rfl
    · rw [show (0 : Int32).toNatClampNeg = 0 by decide, g5_0] at hv121
      rw [show ((6 : Int32) - (0 : Int32)).toNatClampNeg = 6 by decide, g5_6] at hv135 ⊢
      rw [← hv121]
      exact own_hi (j := 15625) (R := 1024) (dd := 16) (k := 4) hn1 hn2 hn3 hv135 (by decide) (by decide) (by decide) (by decide) (by decide) (by decide) (by decide) (by decide) (by decide)
    · rw [show (1 : Int32).toNatClampNeg = 1 by decide, g5_1] at hv121
      rw [show ((6 : Int32) - (1 : Int32)).toNatClampNeg = 5 by decide, g5_5] at hv135 ⊢
      rw [← hv121]
      exact own_hi (j := 3125) (R := 5120) (dd := 16) (k := 4) hn1 hn2 hn3 hv135 (by decide) (by decide) (by decide) (by decide) (by decide) (by decide) (by decide) (by decide) (by decide)
    · rw [show (2 : Int32).toNatClampNeg = 2 by decide, g5_2] at hv121
      rw [show ((6 : Int32) - (2 : Int32)).toNatClampNeg = 4 by decide, g5_4] at hv135 ⊢
      rw [← hv121]
      exact own_hi (j := 625) (R := 25600) (dd := 16) (k := 4) hn1 hn2 hn3 hv135 (by decide) (by decide) (by decide) (by decide) (by decide) (by decide) (by decide) (by decide) (by decide)
    · rw [show (3 : Int32).toNatClampNeg = 3 by decide, g5_3] at hv121
      rw [show ((6 : Int32) - (3 : Int32)).toNatClampNeg = 3 by decide, g5_3] at hv135 ⊢
      rw [← hv121]
      exact own_hi (j := 125) (R := 128000) (dd := 16) (k := 4) hn1 hn2 hn3 hv135 (by decide) (by decide) (by decide) (by decide) (by decide) (by decide) (by decide) (by decide) (by decide)
    · rw [show (4 : Int32).toNatClampNeg = 4 by decide, g5_4] at hv121
      rw [show ((6 : Int32) - (4 : Int32)).toNatClampNeg = 2 by decide, g5_2] at hv135 ⊢
      rw [← hv121]
      exact own_hi (j := 25) (R := 640000) (dd := 16) (k := 4) hn1 hn2 hn3 hv135 (by decide) (by decide) (by decide) (by decide) (by decide) (by decide) (by decide) (by decide) (by decide)
    · rw [show (5 : Int32).toNatClampNeg = 5 by decide, g5_5] at hv121
      rw [show ((6 : Int32) - (5 : Int32)).toNatClampNeg = 1 by decide, g5_1] at hv135 ⊢
      rw [← hv121]
      exact own_hi (j := 5) (R := 3200000) (dd := 16) (k := 4) hn1 hn2 hn3 hv135 (by decide) (by decide) (by decide) (by decide) (by decide) (by decide) (by decide) (by decide) (by decide)
    · rw [show (6 : Int32).toNatClampNeg = 6 by decide, g5_6] at hv121
      rw [show ((6 : Int32) - (6 : Int32)).toNatClampNeg = 0 by decide, g5_0] at hv135 ⊢
      rw [← hv121]
      exact own_hi (j := 1) (R := 16000000) (dd := 16) (k := 4) hn1 hn2 hn3 hv135 (by decide) (by decide) (by decide) (by decide) (by decide) (by decide) (by decide) (by decide) (by decide)
  · rw [if_pos (by decide)] at qp132 qp133
    rw [qp133] at hv135
    rw [qp132]
    rw [show (11 : Int32).toNatClampNeg = 11 by decide, g2_11] at hv121
    rw [show ((11 : Int32) - (6 : Int32)).toNatClampNeg = 5 by decide, g2_5]
    rcases own_r7 hv117 with rfl | rfl | rfl | rfl | rfl | rfl | rfl
    · rw [show (0 : Int32).toNatClampNeg = 0 by decide, g5_0] at hv121
      rw [show ((6 : Int32) - (0 : Int32)).toNatClampNeg = 6 by decide, g5_6] at hv135 ⊢
      rw [← hv121]
      exact own_hi (j := 15625) (R := 2048) (dd := 32) (k := 5) hn1 hn2 hn3 hv135 (by decide) (by decide) (by decide) (by decide) (by decide) (by decide) (by decide) (by decide) (by decide)
    · rw [show (1 : Int32).toNatClampNeg = 1 by decide, g5_1] at hv121
      rw [show ((6 : Int32) - (1 : Int32)).toNatClampNeg = 5 by decide, g5_5] at hv135 ⊢
      rw [← hv121]
      exact own_hi (j := 3125) (R := 10240) (dd := 32) (k := 5) hn1 hn2 hn3 hv135 (by decide) (by decide) (by decide) (by decide) (by decide) (by decide) (by decide) (by decide) (by decide)
    · rw [show (2 : Int32).toNatClampNeg = 2 by decide, g5_2] at hv121
      rw [show ((6 : Int32) - (2 : Int32)).toNatClampNeg = 4 by decide, g5_4] at hv135 ⊢
      rw [← hv121]
      exact own_hi (j := 625) (R := 51200) (dd := 32) (k := 5) hn1 hn2 hn3 hv135 (by decide) (by decide) (by decide) (by decide) (by decide) (by decide) (by decide) (by decide) (by decide)
    · rw [show (3 : Int32).toNatClampNeg = 3 by decide, g5_3] at hv121
      rw [show ((6 : Int32) - (3 : Int32)).toNatClampNeg = 3 by decide, g5_3] at hv135 ⊢
      rw [← hv121]
      exact own_hi (j := 125) (R := 256000) (dd := 32) (k := 5) hn1 hn2 hn3 hv135 (by decide) (by decide) (by decide) (by decide) (by decide) (by decide) (by decide) (by decide) (by decide)
    · rw [show (4 : Int32).toNatClampNeg = 4 by decide, g5_4] at hv121
      rw [show ((6 : Int32) - (4 : Int32)).toNatClampNeg = 2 by decide, g5_2] at hv135 ⊢
      rw [← hv121]
      exact own_hi (j := 25) (R := 1280000) (dd := 32) (k := 5) hn1 hn2 hn3 hv135 (by decide) (by decide) (by decide) (by decide) (by decide) (by decide) (by decide) (by decide) (by decide)
    · rw [show (5 : Int32).toNatClampNeg = 5 by decide, g5_5] at hv121
      rw [show ((6 : Int32) - (5 : Int32)).toNatClampNeg = 1 by decide, g5_1] at hv135 ⊢
      rw [← hv121]
      exact own_hi (j := 5) (R := 6400000) (dd := 32) (k := 5) hn1 hn2 hn3 hv135 (by decide) (by decide) (by decide) (by decide) (by decide) (by decide) (by decide) (by decide) (by decide)
    · rw [show (6 : Int32).toNatClampNeg = 6 by decide, g5_6] at hv121
      rw [show ((6 : Int32) - (6 : Int32)).toNatClampNeg = 0 by decide, g5_0] at hv135 ⊢
      rw [← hv121]
      exact own_hi (j := 1) (R := 32000000) (dd := 32) (k := 5) hn1 hn2 hn3 hv135 (by decide) (by decide) (by decide) (by decide) (by decide) (by decide) (by decide) (by decide) (by decide)
  · rw [if_pos (by decide)] at qp132 qp133
    rw [qp133] at hv135
    rw [qp132]
    rw [show (12 : Int32).toNatClampNeg = 12 by decide, g2_12] at hv121
    rw [show ((12 : Int32) - (6 : Int32)).toNatClampNeg = 6 by decide, g2_6]
    rcases own_r7 hv117 with rfl | rfl | rfl | rfl | rfl | rfl | rfl
    · rw [show (0 : Int32).toNatClampNeg = 0 by decide, g5_0] at hv121
      rw [show ((6 : Int32) - (0 : Int32)).toNatClampNeg = 6 by decide, g5_6] at hv135 ⊢
      rw [← hv121]
      exact own_hi (j := 15625) (R := 4096) (dd := 64) (k := 6) hn1 hn2 hn3 hv135 (by decide) (by decide) (by decide) (by decide) (by decide) (by decide) (by decide) (by decide) (by decide)
    · rw [show (1 : Int32).toNatClampNeg = 1 by decide, g5_1] at hv121
      rw [show ((6 : Int32) - (1 : Int32)).toNatClampNeg = 5 by decide, g5_5] at hv135 ⊢
      rw [← hv121]
      exact own_hi (j := 3125) (R := 20480) (dd := 64) (k := 6) hn1 hn2 hn3 hv135 (by decide) (by decide) (by decide) (by decide) (by decide) (by decide) (by decide) (by decide) (by decide)
    · rw [show (2 : Int32).toNatClampNeg = 2 by decide, g5_2] at hv121
      rw [show ((6 : Int32) - (2 : Int32)).toNatClampNeg = 4 by decide, g5_4] at hv135 ⊢
      rw [← hv121]
      exact own_hi (j := 625) (R := 102400) (dd := 64) (k := 6) hn1 hn2 hn3 hv135 (by decide) (by decide) (by decide) (by decide) (by decide) (by decide) (by decide) (by decide) (by decide)
    · rw [show (3 : Int32).toNatClampNeg = 3 by decide, g5_3] at hv121
      rw [show ((6 : Int32) - (3 : Int32)).toNatClampNeg = 3 by decide, g5_3] at hv135 ⊢
      rw [← hv121]
      exact own_hi (j := 125) (R := 512000) (dd := 64) (k := 6) hn1 hn2 hn3 hv135 (by decide) (by decide) (by decide) (by decide) (by decide) (by decide) (by decide) (by decide) (by decide)
    · rw [show (4 : Int32).toNatClampNeg = 4 by decide, g5_4] at hv121
      rw [show ((6 : Int32) - (4 : Int32)).toNatClampNeg = 2 by decide, g5_2] at hv135 ⊢
      rw [← hv121]
      exact own_hi (j := 25) (R := 2560000) (dd := 64) (k := 6) hn1 hn2 hn3 hv135 (by decide) (by decide) (by decide) (by decide) (by decide) (by decide) (by decide) (by decide) (by decide)
    · rw [show (5 : Int32).toNatClampNeg = 5 by decide, g5_5] at hv121
      rw [show ((6 : Int32) - (5 : Int32)).toNatClampNeg = 1 by decide, g5_1] at hv135 ⊢
      rw [← hv121]
      exact own_hi (j := 5) (R := 12800000) (dd := 64) (k := 6) hn1 hn2 hn3 hv135 (by decide) (by decide) (by decide) (by decide) (by decide) (by decide) (by decide) (by decide) (by decide)
    · rw [show (6 : Int32).toNatClampNeg = 6 by decide, g5_6] at hv121
      rw [show ((6 : Int32) - (6 : Int32)).toNatClampNeg = 0 by decide, g5_0] at hv135 ⊢
      rw [← hv121]
      exact own_hi (j := 1) (R := 64000000) (dd := 64) (k := 6) hn1 hn2 hn3 hv135 (by decide) (by decide) (by decide) (by decide) (by decide) (by decide) (by decide) (by decide) (by decide)
theorem own_law (x0 : Int32) (x1 : Int32) (x2 : Int32) (g8v : Nat → Int32) (g13v : Nat → Int32) (g18v : Nat → Int32) (g23v : Nat → Int32) (g28v : Nat → Int32) (g33v : Nat → Int32) (g38v : Nat → Int32) (g43v : Nat → Int32) (g48v : Nat → Int32) (g53v : Nat → Int32) (g58v : Nat → Int32) (g63v : Nat → Int32) (g68v : Nat → Int32) (g79v : Nat → Int32) (g85v : Nat → Int32) (g91v : Nat → Int32) (g97v : Nat → Int32) (g103v : Nat → Int32) (g109v : Nat → Int32) (g115v : Nat → Int32) (v116 : Int32) (v117 : Int32) (v118 : Int64) (v121 : Int32) (v122 : UInt64) (p132 : UInt64) (p133 : Int64) (v135 : Int64) (hgg8v : (own_updI (fun _ => (0 : Int32)) 0 (1 : Int32)) = g8v) (hgg13v : (own_updI g8v 1 (2 : Int32)) = g13v) (hgg18v : (own_updI g13v 2 (4 : Int32)) = g18v) (hgg23v : (own_updI g18v 3 (8 : Int32)) = g23v) (hgg28v : (own_updI g23v 4 (16 : Int32)) = g28v) (hgg33v : (own_updI g28v 5 (32 : Int32)) = g33v) (hgg38v : (own_updI g33v 6 (64 : Int32)) = g38v) (hgg43v : (own_updI g38v 7 (128 : Int32)) = g43v) (hgg48v : (own_updI g43v 8 (256 : Int32)) = g48v) (hgg53v : (own_updI g48v 9 (512 : Int32)) = g53v) (hgg58v : (own_updI g53v 10 (1024 : Int32)) = g58v) (hgg63v : (own_updI g58v 11 (2048 : Int32)) = g63v) (hgg68v : (own_updI g63v 12 (4096 : Int32)) = g68v) (hgg79v : (own_updI (fun _ => (0 : Int32)) 0 (1 : Int32)) = g79v) (hgg85v : (own_updI g79v 1 (5 : Int32)) = g85v) (hgg91v : (own_updI g85v 2 (25 : Int32)) = g91v) (hgg97v : (own_updI g91v 3 (125 : Int32)) = g97v) (hgg103v : (own_updI g97v 4 (625 : Int32)) = g103v) (hgg109v : (own_updI g103v 5 (3125 : Int32)) = g109v) (hgg115v : (own_updI g109v 6 (15625 : Int32)) = g115v) (hv116 : ((x0 &&& (2147483647 : Int32)) % (13 : Int32)) = v116) (hv117 : ((x1 &&& (2147483647 : Int32)) % (7 : Int32)) = v117) (hv118 : ((1 : Int64) + (x2 &&& (1048575 : Int32)).toInt64) = v118) (hv121 : ((g68v v116.toNatClampNeg) * (g115v v117.toNatClampNeg)) = v121) (hv122 : (FP.i2d v121) = v122) (qp132 : p132 = (if (6 : Int32) < v116 then (FP.ddiv (FP.i2d (g115v ((6 : Int32) - v117).toNatClampNeg)) (FP.i2d (g68v (v116 - (6 : Int32)).toNatClampNeg))) else (FP.i2d ((g68v ((6 : Int32) - v116).toNatClampNeg) * (g115v ((6 : Int32) - v117).toNatClampNeg))))) (qp133 : p133 = (if (6 : Int32) < v116 then (1 : Int64) else (g68v ((6 : Int32) - v116).toNatClampNeg).toInt64)) (hv135 : ((v118 * (g115v ((6 : Int32) - v117).toNatClampNeg).toInt64) * p133) = v135) : (1 : Int32) = 1 := by
  rfl
set_option maxRecDepth 65536 in
set_option maxHeartbeats 4000000 in
theorem rm0 (l : Launch) (Z : State) (a0 : Array Value) (hw : ∀ d ∈ tables_1, d.before a0 Z = true) (ws : List Jvm.Cond) (x0 : Int32) (x1 : Int32) (x2 : Int32) (h0 : Heap) (n0 : Nat) (Z0 : n0 ≤ h0.size) :
    MetFree l x (head1 (Jvm.Cond.code x code maxLocals ret :: ws) room_1) (fun aW U => aW = #[(.int x0), (.int x1), (.int x2)] ∧ Z.Warmed39 U.vm ∧ U.heap = h0) (fun _ _ _ _ _ => True) (fun _ U o U' => ∃ v L, o = .returned v ∧ Q0 Z x0 x1 x2 h0 n0 v U'.heap L ∧ FrameEnd U o U' L 16 128) := by
  refine MetFree.of_bodySF (plainFor_of_name own_pn0) hisR ?_
  intro p e s m args below meth c s₁ Bd hml0 hP hK
  obtain ⟨rfl, hZ, hh⟩ := hP
  have hx := Bd.exec
  have hby := Bd.bytes
  have hml : c.maxLocals = 19 := hml0
  have hown : s.vm.findClass "com/example/refill/refill/WarmingUpRefillMicrosPinLaw" = some m.cls := findClass_of_methodNamed Bd.named
  have hnm := (name_of_methodNamed Bd.named Bd.method).1
  have X0 : Stand p l e room_1 s m #[(.int x0), (.int x1), (.int x2)] below meth c s₁ [] 0 0 := Stand.of_body Bd
  have e0 : s₁.heap = h0 := by rw [← hh, Bd.state]; rfl
  have N0 := Fr.nil n0
  obtain ⟨Pq, hPq⟩ : ∃ P, P = own_P s below (fun v h L => Q0 Z x0 x1 x2 h0 n0 v h L) 16 128 := ⟨_, rfl⟩
  suffices hgo : own_Go p.tables e below Pq s₁ (mkF m 0 #[.val (.int x0), .val (.int x1), .val (.int x2), .unset, .unset, .unset, .unset, .unset, .unset, .unset, .unset, .unset, .unset, .unset, .unset, .unset, .unset, .unset, .unset] []) by
    subst hPq
    obtain ⟨t, k1, k2, o, k3, k4⟩ := hgo
    exact ⟨t, o, castTop (own_ef0 m x0 x1 x2) k1, k2, k3, k4⟩
  show own_Go _ _ _ _ s₁ (mkF m 0 #[.val (.int x0), .val (.int x1), .val (.int x2), .unset, .unset, .unset, .unset, .unset, .unset, .unset, .unset, .unset, .unset, .unset, .unset, .unset, .unset, .unset, .unset] [])
  refine own_st (fun t k => XS.bipush X0.here hx rfl (hb hby at_0) k) ?_
  show own_Go _ _ _ _ s₁ (mkF m 2 _ [(.int (13 : Int32))])
  obtain ⟨T1, h1, k1, X1, e1, E1, A1, st1⟩ := newP X0 hx hZ (hw _ (List.mem_of_getElem? (i := 0) rfl)) e0 (g := (mkF m 2 #[.val (.int x0), .val (.int x1), .val (.int x2), .unset, .unset, .unset, .unset, .unset, .unset, .unset, .unset, .unset, .unset, .unset, .unset, .unset, .unset, .unset, .unset] [(.int (13 : Int32))])) rfl (hb hby at_2) rfl (by decide) (cap := 13) (by decide) (by decide) (by decide) (by decide)
  obtain ⟨b1, g1⟩ : ∃ z, z = h0.size := ⟨_, rfl⟩
  rw [← g1] at A1 st1
  refine own_st st1 ?_
  have gx2 : n0 ≤ b1 := Nat.le_trans Z0 (Nat.le_of_eq g1.symm)
  have Z3 : n0 ≤ h1.size := Nat.le_trans Z0 E1.1
  have V1 : own_AI Z h1 b1 k1 (13 : Int32) (fun _ => (0 : Int32)) := own_AI.new A1 (by decide)
  show own_Go _ _ _ _ T1 (mkF m 4 _ [(.ref b1)])
  refine own_st (fun t k => XS.dup X1.here hx rfl (hb hby at_4) rfl rfl k) ?_
  show own_Go _ _ _ _ T1 (mkF m 5 _ [(.ref b1), (.ref b1)])
  refine own_st (fun t k => XS.iconst X1.here hx rfl (hb hby at_5) k) ?_
  show own_Go _ _ _ _ T1 (mkF m 6 _ [(.int (0 : Int32)), (.ref b1), (.ref b1)])
  refine own_st (fun t k => XS.iconst X1.here hx rfl (hb hby at_6) k) ?_
  show own_Go _ _ _ _ T1 (mkF m 7 _ [(.int (1 : Int32)), (.int (0 : Int32)), (.ref b1), (.ref b1)])
  obtain ⟨c4, Ar4, q4, S4, N4, H4⟩ := id V1
  obtain ⟨T4, h4, X4, e4, W4, st4⟩ := stI X1 hx hZ e1 Ar4 (j := (0 : Int32)) (inb_of S4 ⟨by decide, by decide⟩) (g := (mkF m 7 #[.val (.int x0), .val (.int x1), .val (.int x2), .unset, .unset, .unset, .unset, .unset, .unset, .unset, .unset, .unset, .unset, .unset, .unset, .unset, .unset, .unset, .unset] [(.int (1 : Int32)), (.int (0 : Int32)), (.ref b1), (.ref b1)])) rfl rfl (hb hby at_7)
  refine own_st st4 ?_
  have f5 : own_AI Z h4 b1 k1 (13 : Int32) (own_updI (fun _ => (0 : Int32)) 0 (1 : Int32)) := own_AI.set V1 W4
  have N6 := Fr.snoc X4 N0 gx2
  have Z7 : n0 ≤ h4.size := Nat.le_trans Z3 (Nat.le_of_eq W4.size.symm)
  show own_Go _ _ _ _ T4 (mkF m 8 _ [(.ref b1)])
  generalize hgg8v : (own_updI (fun _ => (0 : Int32)) 0 (1 : Int32)) = g8v at f5
  refine own_st (fun t k => XS.dup X4.here hx rfl (hb hby at_8) rfl rfl k) ?_
  show own_Go _ _ _ _ T4 (mkF m 9 _ [(.ref b1), (.ref b1)])
  refine own_st (fun t k => XS.iconst X4.here hx rfl (hb hby at_9) k) ?_
  show own_Go _ _ _ _ T4 (mkF m 10 _ [(.int (1 : Int32)), (.ref b1), (.ref b1)])
  refine own_st (fun t k => XS.iconst X4.here hx rfl (hb hby at_10) k) ?_
  show own_Go _ _ _ _ T4 (mkF m 11 _ [(.int (2 : Int32)), (.int (1 : Int32)), (.ref b1), (.ref b1)])
  obtain ⟨c9, Ar9, q9, S9, N9, H9⟩ := id f5
  obtain ⟨T9, h9, X9, e9, W9, st9⟩ := stI X4 hx hZ e4 Ar9 (j := (1 : Int32)) (inb_of S9 ⟨by decide, by decide⟩) (g := (mkF m 11 #[.val (.int x0), .val (.int x1), .val (.int x2), .unset, .unset, .unset, .unset, .unset, .unset, .unset, .unset, .unset, .unset, .unset, .unset, .unset, .unset, .unset, .unset] [(.int (2 : Int32)), (.int (1 : Int32)), (.ref b1), (.ref b1)])) rfl rfl (hb hby at_11)
  refine own_st st9 ?_
  have f10 : own_AI Z h9 b1 k1 (13 : Int32) (own_updI g8v 1 (2 : Int32)) := own_AI.set f5 W9
  have N11 := Fr.snoc X9 N6 gx2
  have Z12 : n0 ≤ h9.size := Nat.le_trans Z7 (Nat.le_of_eq W9.size.symm)
  show own_Go _ _ _ _ T9 (mkF m 12 _ [(.ref b1)])
  generalize hgg13v : (own_updI g8v 1 (2 : Int32)) = g13v at f10
  refine own_st (fun t k => XS.dup X9.here hx rfl (hb hby at_12) rfl rfl k) ?_
  show own_Go _ _ _ _ T9 (mkF m 13 _ [(.ref b1), (.ref b1)])
  refine own_st (fun t k => XS.iconst X9.here hx rfl (hb hby at_13) k) ?_
  show own_Go _ _ _ _ T9 (mkF m 14 _ [(.int (2 : Int32)), (.ref b1), (.ref b1)])
  refine own_st (fun t k => XS.iconst X9.here hx rfl (hb hby at_14) k) ?_
  show own_Go _ _ _ _ T9 (mkF m 15 _ [(.int (4 : Int32)), (.int (2 : Int32)), (.ref b1), (.ref b1)])
  obtain ⟨c14, Ar14, q14, S14, N14, H14⟩ := id f10
  obtain ⟨T14, h14, X14, e14, W14, st14⟩ := stI X9 hx hZ e9 Ar14 (j := (2 : Int32)) (inb_of S14 ⟨by decide, by decide⟩) (g := (mkF m 15 #[.val (.int x0), .val (.int x1), .val (.int x2), .unset, .unset, .unset, .unset, .unset, .unset, .unset, .unset, .unset, .unset, .unset, .unset, .unset, .unset, .unset, .unset] [(.int (4 : Int32)), (.int (2 : Int32)), (.ref b1), (.ref b1)])) rfl rfl (hb hby at_15)
  refine own_st st14 ?_
  have f15 : own_AI Z h14 b1 k1 (13 : Int32) (own_updI g13v 2 (4 : Int32)) := own_AI.set f10 W14
  have N16 := Fr.snoc X14 N11 gx2
  have Z17 : n0 ≤ h14.size := Nat.le_trans Z12 (Nat.le_of_eq W14.size.symm)
  show own_Go _ _ _ _ T14 (mkF m 16 _ [(.ref b1)])
  generalize hgg18v : (own_updI g13v 2 (4 : Int32)) = g18v at f15
  refine own_st (fun t k => XS.dup X14.here hx rfl (hb hby at_16) rfl rfl k) ?_
  show own_Go _ _ _ _ T14 (mkF m 17 _ [(.ref b1), (.ref b1)])
  refine own_st (fun t k => XS.iconst X14.here hx rfl (hb hby at_17) k) ?_
  show own_Go _ _ _ _ T14 (mkF m 18 _ [(.int (3 : Int32)), (.ref b1), (.ref b1)])
  refine own_st (fun t k => XS.bipush X14.here hx rfl (hb hby at_18) k) ?_
  show own_Go _ _ _ _ T14 (mkF m 20 _ [(.int (8 : Int32)), (.int (3 : Int32)), (.ref b1), (.ref b1)])
  obtain ⟨c19, Ar19, q19, S19, N19, H19⟩ := id f15
  obtain ⟨T19, h19, X19, e19, W19, st19⟩ := stI X14 hx hZ e14 Ar19 (j := (3 : Int32)) (inb_of S19 ⟨by decide, by decide⟩) (g := (mkF m 20 #[.val (.int x0), .val (.int x1), .val (.int x2), .unset, .unset, .unset, .unset, .unset, .unset, .unset, .unset, .unset, .unset, .unset, .unset, .unset, .unset, .unset, .unset] [(.int (8 : Int32)), (.int (3 : Int32)), (.ref b1), (.ref b1)])) rfl rfl (hb hby at_20)
  refine own_st st19 ?_
  have f20 : own_AI Z h19 b1 k1 (13 : Int32) (own_updI g18v 3 (8 : Int32)) := own_AI.set f15 W19
  have N21 := Fr.snoc X19 N16 gx2
  have Z22 : n0 ≤ h19.size := Nat.le_trans Z17 (Nat.le_of_eq W19.size.symm)
  show own_Go _ _ _ _ T19 (mkF m 21 _ [(.ref b1)])
  generalize hgg23v : (own_updI g18v 3 (8 : Int32)) = g23v at f20
  refine own_st (fun t k => XS.dup X19.here hx rfl (hb hby at_21) rfl rfl k) ?_
  show own_Go _ _ _ _ T19 (mkF m 22 _ [(.ref b1), (.ref b1)])
  refine own_st (fun t k => XS.iconst X19.here hx rfl (hb hby at_22) k) ?_
  show own_Go _ _ _ _ T19 (mkF m 23 _ [(.int (4 : Int32)), (.ref b1), (.ref b1)])
  refine own_st (fun t k => XS.bipush X19.here hx rfl (hb hby at_23) k) ?_
  show own_Go _ _ _ _ T19 (mkF m 25 _ [(.int (16 : Int32)), (.int (4 : Int32)), (.ref b1), (.ref b1)])
  obtain ⟨c24, Ar24, q24, S24, N24, H24⟩ := id f20
  obtain ⟨T24, h24, X24, e24, W24, st24⟩ := stI X19 hx hZ e19 Ar24 (j := (4 : Int32)) (inb_of S24 ⟨by decide, by decide⟩) (g := (mkF m 25 #[.val (.int x0), .val (.int x1), .val (.int x2), .unset, .unset, .unset, .unset, .unset, .unset, .unset, .unset, .unset, .unset, .unset, .unset, .unset, .unset, .unset, .unset] [(.int (16 : Int32)), (.int (4 : Int32)), (.ref b1), (.ref b1)])) rfl rfl (hb hby at_25)
  refine own_st st24 ?_
  have f25 : own_AI Z h24 b1 k1 (13 : Int32) (own_updI g23v 4 (16 : Int32)) := own_AI.set f20 W24
  have N26 := Fr.snoc X24 N21 gx2
  have Z27 : n0 ≤ h24.size := Nat.le_trans Z22 (Nat.le_of_eq W24.size.symm)
  show own_Go _ _ _ _ T24 (mkF m 26 _ [(.ref b1)])
  generalize hgg28v : (own_updI g23v 4 (16 : Int32)) = g28v at f25
  refine own_st (fun t k => XS.dup X24.here hx rfl (hb hby at_26) rfl rfl k) ?_
  show own_Go _ _ _ _ T24 (mkF m 27 _ [(.ref b1), (.ref b1)])
  refine own_st (fun t k => XS.iconst X24.here hx rfl (hb hby at_27) k) ?_
  show own_Go _ _ _ _ T24 (mkF m 28 _ [(.int (5 : Int32)), (.ref b1), (.ref b1)])
  refine own_st (fun t k => XS.bipush X24.here hx rfl (hb hby at_28) k) ?_
  show own_Go _ _ _ _ T24 (mkF m 30 _ [(.int (32 : Int32)), (.int (5 : Int32)), (.ref b1), (.ref b1)])
  obtain ⟨c29, Ar29, q29, S29, N29, H29⟩ := id f25
  obtain ⟨T29, h29, X29, e29, W29, st29⟩ := stI X24 hx hZ e24 Ar29 (j := (5 : Int32)) (inb_of S29 ⟨by decide, by decide⟩) (g := (mkF m 30 #[.val (.int x0), .val (.int x1), .val (.int x2), .unset, .unset, .unset, .unset, .unset, .unset, .unset, .unset, .unset, .unset, .unset, .unset, .unset, .unset, .unset, .unset] [(.int (32 : Int32)), (.int (5 : Int32)), (.ref b1), (.ref b1)])) rfl rfl (hb hby at_30)
  refine own_st st29 ?_
  have f30 : own_AI Z h29 b1 k1 (13 : Int32) (own_updI g28v 5 (32 : Int32)) := own_AI.set f25 W29
  have N31 := Fr.snoc X29 N26 gx2
  have Z32 : n0 ≤ h29.size := Nat.le_trans Z27 (Nat.le_of_eq W29.size.symm)
  show own_Go _ _ _ _ T29 (mkF m 31 _ [(.ref b1)])
  generalize hgg33v : (own_updI g28v 5 (32 : Int32)) = g33v at f30
  refine own_st (fun t k => XS.dup X29.here hx rfl (hb hby at_31) rfl rfl k) ?_
  show own_Go _ _ _ _ T29 (mkF m 32 _ [(.ref b1), (.ref b1)])
  refine own_st (fun t k => XS.bipush X29.here hx rfl (hb hby at_32) k) ?_
  show own_Go _ _ _ _ T29 (mkF m 34 _ [(.int (6 : Int32)), (.ref b1), (.ref b1)])
  refine own_st (fun t k => XS.bipush X29.here hx rfl (hb hby at_34) k) ?_
  show own_Go _ _ _ _ T29 (mkF m 36 _ [(.int (64 : Int32)), (.int (6 : Int32)), (.ref b1), (.ref b1)])
  obtain ⟨c34, Ar34, q34, S34, N34, H34⟩ := id f30
  obtain ⟨T34, h34, X34, e34, W34, st34⟩ := stI X29 hx hZ e29 Ar34 (j := (6 : Int32)) (inb_of S34 ⟨by decide, by decide⟩) (g := (mkF m 36 #[.val (.int x0), .val (.int x1), .val (.int x2), .unset, .unset, .unset, .unset, .unset, .unset, .unset, .unset, .unset, .unset, .unset, .unset, .unset, .unset, .unset, .unset] [(.int (64 : Int32)), (.int (6 : Int32)), (.ref b1), (.ref b1)])) rfl rfl (hb hby at_36)
  refine own_st st34 ?_
  have f35 : own_AI Z h34 b1 k1 (13 : Int32) (own_updI g33v 6 (64 : Int32)) := own_AI.set f30 W34
  have N36 := Fr.snoc X34 N31 gx2
  have Z37 : n0 ≤ h34.size := Nat.le_trans Z32 (Nat.le_of_eq W34.size.symm)
  show own_Go _ _ _ _ T34 (mkF m 37 _ [(.ref b1)])
  generalize hgg38v : (own_updI g33v 6 (64 : Int32)) = g38v at f35
  refine own_st (fun t k => XS.dup X34.here hx rfl (hb hby at_37) rfl rfl k) ?_
  show own_Go _ _ _ _ T34 (mkF m 38 _ [(.ref b1), (.ref b1)])
  refine own_st (fun t k => XS.bipush X34.here hx rfl (hb hby at_38) k) ?_
  show own_Go _ _ _ _ T34 (mkF m 40 _ [(.int (7 : Int32)), (.ref b1), (.ref b1)])
  refine own_st (fun t k => XS.sipush X34.here hx rfl (hb hby at_40) k) ?_
  show own_Go _ _ _ _ T34 (mkF m 43 _ [(.int (128 : Int32)), (.int (7 : Int32)), (.ref b1), (.ref b1)])
  obtain ⟨c39, Ar39, q39, S39, N39, H39⟩ := id f35
  obtain ⟨T39, h39, X39, e39, W39, st39⟩ := stI X34 hx hZ e34 Ar39 (j := (7 : Int32)) (inb_of S39 ⟨by decide, by decide⟩) (g := (mkF m 43 #[.val (.int x0), .val (.int x1), .val (.int x2), .unset, .unset, .unset, .unset, .unset, .unset, .unset, .unset, .unset, .unset, .unset, .unset, .unset, .unset, .unset, .unset] [(.int (128 : Int32)), (.int (7 : Int32)), (.ref b1), (.ref b1)])) rfl rfl (hb hby at_43)
  refine own_st st39 ?_
  have f40 : own_AI Z h39 b1 k1 (13 : Int32) (own_updI g38v 7 (128 : Int32)) := own_AI.set f35 W39
  have N41 := Fr.snoc X39 N36 gx2
  have Z42 : n0 ≤ h39.size := Nat.le_trans Z37 (Nat.le_of_eq W39.size.symm)
  show own_Go _ _ _ _ T39 (mkF m 44 _ [(.ref b1)])
  generalize hgg43v : (own_updI g38v 7 (128 : Int32)) = g43v at f40
  refine own_st (fun t k => XS.dup X39.here hx rfl (hb hby at_44) rfl rfl k) ?_
  show own_Go _ _ _ _ T39 (mkF m 45 _ [(.ref b1), (.ref b1)])
  refine own_st (fun t k => XS.bipush X39.here hx rfl (hb hby at_45) k) ?_
  show own_Go _ _ _ _ T39 (mkF m 47 _ [(.int (8 : Int32)), (.ref b1), (.ref b1)])
  refine own_st (fun t k => XS.sipush X39.here hx rfl (hb hby at_47) k) ?_
  show own_Go _ _ _ _ T39 (mkF m 50 _ [(.int (256 : Int32)), (.int (8 : Int32)), (.ref b1), (.ref b1)])
  obtain ⟨c44, Ar44, q44, S44, N44, H44⟩ := id f40
  obtain ⟨T44, h44, X44, e44, W44, st44⟩ := stI X39 hx hZ e39 Ar44 (j := (8 : Int32)) (inb_of S44 ⟨by decide, by decide⟩) (g := (mkF m 50 #[.val (.int x0), .val (.int x1), .val (.int x2), .unset, .unset, .unset, .unset, .unset, .unset, .unset, .unset, .unset, .unset, .unset, .unset, .unset, .unset, .unset, .unset] [(.int (256 : Int32)), (.int (8 : Int32)), (.ref b1), (.ref b1)])) rfl rfl (hb hby at_50)
  refine own_st st44 ?_
  have f45 : own_AI Z h44 b1 k1 (13 : Int32) (own_updI g43v 8 (256 : Int32)) := own_AI.set f40 W44
  have N46 := Fr.snoc X44 N41 gx2
  have Z47 : n0 ≤ h44.size := Nat.le_trans Z42 (Nat.le_of_eq W44.size.symm)
  show own_Go _ _ _ _ T44 (mkF m 51 _ [(.ref b1)])
  generalize hgg48v : (own_updI g43v 8 (256 : Int32)) = g48v at f45
  refine own_st (fun t k => XS.dup X44.here hx rfl (hb hby at_51) rfl rfl k) ?_
  show own_Go _ _ _ _ T44 (mkF m 52 _ [(.ref b1), (.ref b1)])
  refine own_st (fun t k => XS.bipush X44.here hx rfl (hb hby at_52) k) ?_
  show own_Go _ _ _ _ T44 (mkF m 54 _ [(.int (9 : Int32)), (.ref b1), (.ref b1)])
  refine own_st (fun t k => XS.sipush X44.here hx rfl (hb hby at_54) k) ?_
  show own_Go _ _ _ _ T44 (mkF m 57 _ [(.int (512 : Int32)), (.int (9 : Int32)), (.ref b1), (.ref b1)])
  obtain ⟨c49, Ar49, q49, S49, N49, H49⟩ := id f45
  obtain ⟨T49, h49, X49, e49, W49, st49⟩ := stI X44 hx hZ e44 Ar49 (j := (9 : Int32)) (inb_of S49 ⟨by decide, by decide⟩) (g := (mkF m 57 #[.val (.int x0), .val (.int x1), .val (.int x2), .unset, .unset, .unset, .unset, .unset, .unset, .unset, .unset, .unset, .unset, .unset, .unset, .unset, .unset, .unset, .unset] [(.int (512 : Int32)), (.int (9 : Int32)), (.ref b1), (.ref b1)])) rfl rfl (hb hby at_57)
  refine own_st st49 ?_
  have f50 : own_AI Z h49 b1 k1 (13 : Int32) (own_updI g48v 9 (512 : Int32)) := own_AI.set f45 W49
  have N51 := Fr.snoc X49 N46 gx2
  have Z52 : n0 ≤ h49.size := Nat.le_trans Z47 (Nat.le_of_eq W49.size.symm)
  show own_Go _ _ _ _ T49 (mkF m 58 _ [(.ref b1)])
  generalize hgg53v : (own_updI g48v 9 (512 : Int32)) = g53v at f50
  refine own_st (fun t k => XS.dup X49.here hx rfl (hb hby at_58) rfl rfl k) ?_
  show own_Go _ _ _ _ T49 (mkF m 59 _ [(.ref b1), (.ref b1)])
  refine own_st (fun t k => XS.bipush X49.here hx rfl (hb hby at_59) k) ?_
  show own_Go _ _ _ _ T49 (mkF m 61 _ [(.int (10 : Int32)), (.ref b1), (.ref b1)])
  refine own_st (fun t k => XS.sipush X49.here hx rfl (hb hby at_61) k) ?_
  show own_Go _ _ _ _ T49 (mkF m 64 _ [(.int (1024 : Int32)), (.int (10 : Int32)), (.ref b1), (.ref b1)])
  obtain ⟨c54, Ar54, q54, S54, N54, H54⟩ := id f50
  obtain ⟨T54, h54, X54, e54, W54, st54⟩ := stI X49 hx hZ e49 Ar54 (j := (10 : Int32)) (inb_of S54 ⟨by decide, by decide⟩) (g := (mkF m 64 #[.val (.int x0), .val (.int x1), .val (.int x2), .unset, .unset, .unset, .unset, .unset, .unset, .unset, .unset, .unset, .unset, .unset, .unset, .unset, .unset, .unset, .unset] [(.int (1024 : Int32)), (.int (10 : Int32)), (.ref b1), (.ref b1)])) rfl rfl (hb hby at_64)
  refine own_st st54 ?_
  have f55 : own_AI Z h54 b1 k1 (13 : Int32) (own_updI g53v 10 (1024 : Int32)) := own_AI.set f50 W54
  have N56 := Fr.snoc X54 N51 gx2
  have Z57 : n0 ≤ h54.size := Nat.le_trans Z52 (Nat.le_of_eq W54.size.symm)
  show own_Go _ _ _ _ T54 (mkF m 65 _ [(.ref b1)])
  generalize hgg58v : (own_updI g53v 10 (1024 : Int32)) = g58v at f55
  refine own_st (fun t k => XS.dup X54.here hx rfl (hb hby at_65) rfl rfl k) ?_
  show own_Go _ _ _ _ T54 (mkF m 66 _ [(.ref b1), (.ref b1)])
  refine own_st (fun t k => XS.bipush X54.here hx rfl (hb hby at_66) k) ?_
  show own_Go _ _ _ _ T54 (mkF m 68 _ [(.int (11 : Int32)), (.ref b1), (.ref b1)])
  refine own_st (fun t k => XS.sipush X54.here hx rfl (hb hby at_68) k) ?_
  show own_Go _ _ _ _ T54 (mkF m 71 _ [(.int (2048 : Int32)), (.int (11 : Int32)), (.ref b1), (.ref b1)])
  obtain ⟨c59, Ar59, q59, S59, N59, H59⟩ := id f55
  obtain ⟨T59, h59, X59, e59, W59, st59⟩ := stI X54 hx hZ e54 Ar59 (j := (11 : Int32)) (inb_of S59 ⟨by decide, by decide⟩) (g := (mkF m 71 #[.val (.int x0), .val (.int x1), .val (.int x2), .unset, .unset, .unset, .unset, .unset, .unset, .unset, .unset, .unset, .unset, .unset, .unset, .unset, .unset, .unset, .unset] [(.int (2048 : Int32)), (.int (11 : Int32)), (.ref b1), (.ref b1)])) rfl rfl (hb hby at_71)
  refine own_st st59 ?_
  have f60 : own_AI Z h59 b1 k1 (13 : Int32) (own_updI g58v 11 (2048 : Int32)) := own_AI.set f55 W59
  have N61 := Fr.snoc X59 N56 gx2
  have Z62 : n0 ≤ h59.size := Nat.le_trans Z57 (Nat.le_of_eq W59.size.symm)
  show own_Go _ _ _ _ T59 (mkF m 72 _ [(.ref b1)])
  generalize hgg63v : (own_updI g58v 11 (2048 : Int32)) = g63v at f60
  refine own_st (fun t k => XS.dup X59.here hx rfl (hb hby at_72) rfl rfl k) ?_
  show own_Go _ _ _ _ T59 (mkF m 73 _ [(.ref b1), (.ref b1)])
  refine own_st (fun t k => XS.bipush X59.here hx rfl (hb hby at_73) k) ?_
  show own_Go _ _ _ _ T59 (mkF m 75 _ [(.int (12 : Int32)), (.ref b1), (.ref b1)])
  refine own_st (fun t k => XS.sipush X59.here hx rfl (hb hby at_75) k) ?_
  show own_Go _ _ _ _ T59 (mkF m 78 _ [(.int (4096 : Int32)), (.int (12 : Int32)), (.ref b1), (.ref b1)])
  obtain ⟨c64, Ar64, q64, S64, N64, H64⟩ := id f60
  obtain ⟨T64, h64, X64, e64, W64, st64⟩ := stI X59 hx hZ e59 Ar64 (j := (12 : Int32)) (inb_of S64 ⟨by decide, by decide⟩) (g := (mkF m 78 #[.val (.int x0), .val (.int x1), .val (.int x2), .unset, .unset, .unset, .unset, .unset, .unset, .unset, .unset, .unset, .unset, .unset, .unset, .unset, .unset, .unset, .unset] [(.int (4096 : Int32)), (.int (12 : Int32)), (.ref b1), (.ref b1)])) rfl rfl (hb hby at_78)
  refine own_st st64 ?_
  have f65 : own_AI Z h64 b1 k1 (13 : Int32) (own_updI g63v 12 (4096 : Int32)) := own_AI.set f60 W64
  have N66 := Fr.snoc X64 N61 gx2
  have Z67 : n0 ≤ h64.size := Nat.le_trans Z62 (Nat.le_of_eq W64.size.symm)
  show own_Go _ _ _ _ T64 (mkF m 79 _ [(.ref b1)])
  generalize hgg68v : (own_updI g63v 12 (4096 : Int32)) = g68v at f65
  refine own_st (fun t k => XS.astoreN X64.here hx rfl (hb hby at_79) rfl rfl (l' := #[.val (.int x0), .val (.int x1), .val (.int x2), .val (.ref b1), .unset, .unset, .unset, .unset, .unset, .unset, .unset, .unset, .unset, .unset, .unset, .unset, .unset, .unset, .unset]) rfl k) ?_
  show own_Go _ _ _ _ T64 (mkF m 80 #[.val (.int x0), .val (.int x1), .val (.int x2), .val (.ref b1), .unset, .unset, .unset, .unset, .unset, .unset, .unset, .unset, .unset, .unset, .unset, .unset, .unset, .unset, .unset] [])
  refine own_st (fun t k => XS.bipush X64.here hx rfl (hb hby at_80) k) ?_
  show own_Go _ _ _ _ T64 (mkF m 82 _ [(.int (7 : Int32))])
  obtain ⟨T69, h69, k69, X69, e69, E69, A69, st69⟩ := newP X64 hx hZ (hw _ (List.mem_of_getElem? (i := 0) rfl)) e64 (g := (mkF m 82 #[.val (.int x0), .val (.int x1), .val (.int x2), .val (.ref b1), .unset, .unset, .unset, .unset, .unset, .unset, .unset, .unset, .unset, .unset, .unset, .unset, .unset, .unset, .unset] [(.int (7 : Int32))])) rfl (hb hby at_82) rfl (by decide) (cap := 7) (by decide) (by decide) (by decide) (by decide)
  obtain ⟨b69, g69⟩ : ∃ z, z = h64.size := ⟨_, rfl⟩
  rw [← g69] at A69 st69
  refine own_st st69 ?_
  have ne70 : b1 ≠ b69 := Nat.ne_of_lt (Nat.lt_of_lt_of_le f65.lt (Nat.le_of_eq g69.symm))
  have f71 := f65.ext E69
  have gx72 : n0 ≤ b69 := Nat.le_trans Z67 (Nat.le_of_eq g69.symm)
  have Z73 : n0 ≤ h69.size := Nat.le_trans Z67 E69.1
  have V69 : own_AI Z h69 b69 k69 (7 : Int32) (fun _ => (0 : Int32)) := own_AI.new A69 (by decide)
  show own_Go _ _ _ _ T69 (mkF m 84 _ [(.ref b69)])
  refine own_st (fun t k => XS.dup X69.here hx rfl (hb hby at_84) rfl rfl k) ?_
  show own_Go _ _ _ _ T69 (mkF m 85 _ [(.ref b69), (.ref b69)])
  refine own_st (fun t k => XS.iconst X69.here hx rfl (hb hby at_85) k) ?_
  show own_Go _ _ _ _ T69 (mkF m 86 _ [(.int (0 : Int32)), (.ref b69), (.ref b69)])
  refine own_st (fun t k => XS.iconst X69.here hx rfl (hb hby at_86) k) ?_
  show own_Go _ _ _ _ T69 (mkF m 87 _ [(.int (1 : Int32)), (.int (0 : Int32)), (.ref b69), (.ref b69)])
  obtain ⟨c74, Ar74, q74, S74, N74, H74⟩ := id V69
  obtain ⟨T74, h74, X74, e74, W74, st74⟩ := stI X69 hx hZ e69 Ar74 (j := (0 : Int32)) (inb_of S74 ⟨by decide, by decide⟩) (g := (mkF m 87 #[.val (.int x0), .val (.int x1), .val (.int x2), .val (.ref b1), .unset, .unset, .unset, .unset, .unset, .unset, .unset, .unset, .unset, .unset, .unset, .unset, .unset, .unset, .unset] [(.int (1 : Int32)), (.int (0 : Int32)), (.ref b69), (.ref b69)])) rfl rfl (hb hby at_87)
  refine own_st st74 ?_
  have f75 : own_AI Z h74 b69 k69 (7 : Int32) (own_updI (fun _ => (0 : Int32)) 0 (1 : Int32)) := own_AI.set V69 W74
  have f76 := f71.other W74 ne70
  have N77 := Fr.snoc X74 N66 gx72
  have Z78 : n0 ≤ h74.size := Nat.le_trans Z73 (Nat.le_of_eq W74.size.symm)
  show own_Go _ _ _ _ T74 (mkF m 88 _ [(.ref b69)])
  generalize hgg79v : (own_updI (fun _ => (0 : Int32)) 0 (1 : Int32)) = g79v at f75
  refine own_st (fun t k => XS.dup X74.here hx rfl (hb hby at_88) rfl rfl k) ?_
  show own_Go _ _ _ _ T74 (mkF m 89 _ [(.ref b69), (.ref b69)])
  refine own_st (fun t k => XS.iconst X74.here hx rfl (hb hby at_89) k) ?_
  show own_Go _ _ _ _ T74 (mkF m 90 _ [(.int (1 : Int32)), (.ref b69), (.ref b69)])
  refine own_st (fun t k => XS.iconst X74.here hx rfl (hb hby at_90) k) ?_
  show own_Go _ _ _ _ T74 (mkF m 91 _ [(.int (5 : Int32)), (.int (1 : Int32)), (.ref b69), (.ref b69)])
  obtain ⟨c80, Ar80, q80, S80, N80, H80⟩ := id f75
  obtain ⟨T80, h80, X80, e80, W80, st80⟩ := stI X74 hx hZ e74 Ar80 (j := (1 : Int32)) (inb_of S80 ⟨by decide, by decide⟩) (g := (mkF m 91 #[.val (.int x0), .val (.int x1), .val (.int x2), .val (.ref b1), .unset, .unset, .unset, .unset, .unset, .unset, .unset, .unset, .unset, .unset, .unset, .unset, .unset, .unset, .unset] [(.int (5 : Int32)), (.int (1 : Int32)), (.ref b69), (.ref b69)])) rfl rfl (hb hby at_91)
  refine own_st st80 ?_
  have f81 : own_AI Z h80 b69 k69 (7 : Int32) (own_updI g79v 1 (5 : Int32)) := own_AI.set f75 W80
  have f82 := f76.other W80 ne70
  have N83 := Fr.snoc X80 N77 gx72
  have Z84 : n0 ≤ h80.size := Nat.le_trans Z78 (Nat.le_of_eq W80.size.symm)
  show own_Go _ _ _ _ T80 (mkF m 92 _ [(.ref b69)])
  generalize hgg85v : (own_updI g79v 1 (5 : Int32)) = g85v at f81
  refine own_st (fun t k => XS.dup X80.here hx rfl (hb hby at_92) rfl rfl k) ?_
  show own_Go _ _ _ _ T80 (mkF m 93 _ [(.ref b69), (.ref b69)])
  refine own_st (fun t k => XS.iconst X80.here hx rfl (hb hby at_93) k) ?_
  show own_Go _ _ _ _ T80 (mkF m 94 _ [(.int (2 : Int32)), (.ref b69), (.ref b69)])
  refine own_st (fun t k => XS.bipush X80.here hx rfl (hb hby at_94) k) ?_
  show own_Go _ _ _ _ T80 (mkF m 96 _ [(.int (25 : Int32)), (.int (2 : Int32)), (.ref b69), (.ref b69)])
  obtain ⟨c86, Ar86, q86, S86, N86, H86⟩ := id f81
  obtain ⟨T86, h86, X86, e86, W86, st86⟩ := stI X80 hx hZ e80 Ar86 (j := (2 : Int32)) (inb_of S86 ⟨by decide, by decide⟩) (g := (mkF m 96 #[.val (.int x0), .val (.int x1), .val (.int x2), .val (.ref b1), .unset, .unset, .unset, .unset, .unset, .unset, .unset, .unset, .unset, .unset, .unset, .unset, .unset, .unset, .unset] [(.int (25 : Int32)), (.int (2 : Int32)), (.ref b69), (.ref b69)])) rfl rfl (hb hby at_96)
  refine own_st st86 ?_
  have f87 : own_AI Z h86 b69 k69 (7 : Int32) (own_updI g85v 2 (25 : Int32)) := own_AI.set f81 W86
  have f88 := f82.other W86 ne70
  have N89 := Fr.snoc X86 N83 gx72
  have Z90 : n0 ≤ h86.size := Nat.le_trans Z84 (Nat.le_of_eq W86.size.symm)
  show own_Go _ _ _ _ T86 (mkF m 97 _ [(.ref b69)])
  generalize hgg91v : (own_updI g85v 2 (25 : Int32)) = g91v at f87
  refine own_st (fun t k => XS.dup X86.here hx rfl (hb hby at_97) rfl rfl k) ?_
  show own_Go _ _ _ _ T86 (mkF m 98 _ [(.ref b69), (.ref b69)])
  refine own_st (fun t k => XS.iconst X86.here hx rfl (hb hby at_98) k) ?_
  show own_Go _ _ _ _ T86 (mkF m 99 _ [(.int (3 : Int32)), (.ref b69), (.ref b69)])
  refine own_st (fun t k => XS.bipush X86.here hx rfl (hb hby at_99) k) ?_
  show own_Go _ _ _ _ T86 (mkF m 101 _ [(.int (125 : Int32)), (.int (3 : Int32)), (.ref b69), (.ref b69)])
  obtain ⟨c92, Ar92, q92, S92, N92, H92⟩ := id f87
  obtain ⟨T92, h92, X92, e92, W92, st92⟩ := stI X86 hx hZ e86 Ar92 (j := (3 : Int32)) (inb_of S92 ⟨by decide, by decide⟩) (g := (mkF m 101 #[.val (.int x0), .val (.int x1), .val (.int x2), .val (.ref b1), .unset, .unset, .unset, .unset, .unset, .unset, .unset, .unset, .unset, .unset, .unset, .unset, .unset, .unset, .unset] [(.int (125 : Int32)), (.int (3 : Int32)), (.ref b69), (.ref b69)])) rfl rfl (hb hby at_101)
  refine own_st st92 ?_
  have f93 : own_AI Z h92 b69 k69 (7 : Int32) (own_updI g91v 3 (125 : Int32)) := own_AI.set f87 W92
  have f94 := f88.other W92 ne70
  have N95 := Fr.snoc X92 N89 gx72
  have Z96 : n0 ≤ h92.size := Nat.le_trans Z90 (Nat.le_of_eq W92.size.symm)
  show own_Go _ _ _ _ T92 (mkF m 102 _ [(.ref b69)])
  generalize hgg97v : (own_updI g91v 3 (125 : Int32)) = g97v at f93
  refine own_st (fun t k => XS.dup X92.here hx rfl (hb hby at_102) rfl rfl k) ?_
  show own_Go _ _ _ _ T92 (mkF m 103 _ [(.ref b69), (.ref b69)])
  refine own_st (fun t k => XS.iconst X92.here hx rfl (hb hby at_103) k) ?_
  show own_Go _ _ _ _ T92 (mkF m 104 _ [(.int (4 : Int32)), (.ref b69), (.ref b69)])
  refine own_st (fun t k => XS.sipush X92.here hx rfl (hb hby at_104) k) ?_
  show own_Go _ _ _ _ T92 (mkF m 107 _ [(.int (625 : Int32)), (.int (4 : Int32)), (.ref b69), (.ref b69)])
  obtain ⟨c98, Ar98, q98, S98, N98, H98⟩ := id f93
  obtain ⟨T98, h98, X98, e98, W98, st98⟩ := stI X92 hx hZ e92 Ar98 (j := (4 : Int32)) (inb_of S98 ⟨by decide, by decide⟩) (g := (mkF m 107 #[.val (.int x0), .val (.int x1), .val (.int x2), .val (.ref b1), .unset, .unset, .unset, .unset, .unset, .unset, .unset, .unset, .unset, .unset, .unset, .unset, .unset, .unset, .unset] [(.int (625 : Int32)), (.int (4 : Int32)), (.ref b69), (.ref b69)])) rfl rfl (hb hby at_107)
  refine own_st st98 ?_
  have f99 : own_AI Z h98 b69 k69 (7 : Int32) (own_updI g97v 4 (625 : Int32)) := own_AI.set f93 W98
  have f100 := f94.other W98 ne70
  have N101 := Fr.snoc X98 N95 gx72
  have Z102 : n0 ≤ h98.size := Nat.le_trans Z96 (Nat.le_of_eq W98.size.symm)
  show own_Go _ _ _ _ T98 (mkF m 108 _ [(.ref b69)])
  generalize hgg103v : (own_updI g97v 4 (625 : Int32)) = g103v at f99
  refine own_st (fun t k => XS.dup X98.here hx rfl (hb hby at_108) rfl rfl k) ?_
  show own_Go _ _ _ _ T98 (mkF m 109 _ [(.ref b69), (.ref b69)])
  refine own_st (fun t k => XS.iconst X98.here hx rfl (hb hby at_109) k) ?_
  show own_Go _ _ _ _ T98 (mkF m 110 _ [(.int (5 : Int32)), (.ref b69), (.ref b69)])
  refine own_st (fun t k => XS.sipush X98.here hx rfl (hb hby at_110) k) ?_
  show own_Go _ _ _ _ T98 (mkF m 113 _ [(.int (3125 : Int32)), (.int (5 : Int32)), (.ref b69), (.ref b69)])
  obtain ⟨c104, Ar104, q104, S104, N104, H104⟩ := id f99
  obtain ⟨T104, h104, X104, e104, W104, st104⟩ := stI X98 hx hZ e98 Ar104 (j := (5 : Int32)) (inb_of S104 ⟨by decide, by decide⟩) (g := (mkF m 113 #[.val (.int x0), .val (.int x1), .val (.int x2), .val (.ref b1), .unset, .unset, .unset, .unset, .unset, .unset, .unset, .unset, .unset, .unset, .unset, .unset, .unset, .unset, .unset] [(.int (3125 : Int32)), (.int (5 : Int32)), (.ref b69), (.ref b69)])) rfl rfl (hb hby at_113)
  refine own_st st104 ?_
  have f105 : own_AI Z h104 b69 k69 (7 : Int32) (own_updI g103v 5 (3125 : Int32)) := own_AI.set f99 W104
  have f106 := f100.other W104 ne70
  have N107 := Fr.snoc X104 N101 gx72
  have Z108 : n0 ≤ h104.size := Nat.le_trans Z102 (Nat.le_of_eq W104.size.symm)
  show own_Go _ _ _ _ T104 (mkF m 114 _ [(.ref b69)])
  generalize hgg109v : (own_updI g103v 5 (3125 : Int32)) = g109v at f105
  refine own_st (fun t k => XS.dup X104.here hx rfl (hb hby at_114) rfl rfl k) ?_
  show own_Go _ _ _ _ T104 (mkF m 115 _ [(.ref b69), (.ref b69)])
  refine own_st (fun t k => XS.bipush X104.here hx rfl (hb hby at_115) k) ?_
  show own_Go _ _ _ _ T104 (mkF m 117 _ [(.int (6 : Int32)), (.ref b69), (.ref b69)])
  refine own_st (fun t k => XS.sipush X104.here hx rfl (hb hby at_117) k) ?_
  show own_Go _ _ _ _ T104 (mkF m 120 _ [(.int (15625 : Int32)), (.int (6 : Int32)), (.ref b69), (.ref b69)])
  obtain ⟨c110, Ar110, q110, S110, N110, H110⟩ := id f105
  obtain ⟨T110, h110, X110, e110, W110, st110⟩ := stI X104 hx hZ e104 Ar110 (j := (6 : Int32)) (inb_of S110 ⟨by decide, by decide⟩) (g := (mkF m 120 #[.val (.int x0), .val (.int x1), .val (.int x2), .val (.ref b1), .unset, .unset, .unset, .unset, .unset, .unset, .unset, .unset, .unset, .unset, .unset, .unset, .unset, .unset, .unset] [(.int (15625 : Int32)), (.int (6 : Int32)), (.ref b69), (.ref b69)])) rfl rfl (hb hby at_120)
  refine own_st st110 ?_
  have f111 : own_AI Z h110 b69 k69 (7 : Int32) (own_updI g109v 6 (15625 : Int32)) := own_AI.set f105 W110
  have f112 := f106.other W110 ne70
  have N113 := Fr.snoc X110 N107 gx72
  have Z114 : n0 ≤ h110.size := Nat.le_trans Z108 (Nat.le_of_eq W110.size.symm)
  show own_Go _ _ _ _ T110 (mkF m 121 _ [(.ref b69)])
  generalize hgg115v : (own_updI g109v 6 (15625 : Int32)) = g115v at f111
  refine own_st (fun t k => XS.astore X110.here hx rfl (hb hby at_121) rfl rfl (l' := #[.val (.int x0), .val (.int x1), .val (.int x2), .val (.ref b1), .val (.ref b69), .unset, .unset, .unset, .unset, .unset, .unset, .unset, .unset, .unset, .unset, .unset, .unset, .unset, .unset]) rfl k) ?_
  show own_Go _ _ _ _ T110 (mkF m 123 #[.val (.int x0), .val (.int x1), .val (.int x2), .val (.ref b1), .val (.ref b69), .unset, .unset, .unset, .unset, .unset, .unset, .unset, .unset, .unset, .unset, .unset, .unset, .unset, .unset] [])
  refine own_st (fun t k => XS.iloadN X110.here hx rfl (hb hby at_123) rfl k) ?_
  show own_Go _ _ _ _ T110 (mkF m 124 _ [(.int x0)])
  refine own_st (fun t k => X110.ldcInt hx hown (mvT hZ (hw _ (List.mem_of_getElem? (i := 1) rfl))) (g := (mkF m 124 #[.val (.int x0), .val (.int x1), .val (.int x2), .val (.ref b1), .val (.ref b69), .unset, .unset, .unset, .unset, .unset, .unset, .unset, .unset, .unset, .unset, .unset, .unset, .unset, .unset] [(.int x0)])) rfl (hb hby at_124) _ k) ?_
  show own_Go _ _ _ _ T110 (mkF m 126 _ [(.int (2147483647 : Int32)), (.int x0)])
  refine own_st (fun t k => XS.iand X110.here hx rfl (hb hby at_126) rfl k) ?_
  show own_Go _ _ _ _ T110 (mkF m 127 _ [(.int (x0 &&& (2147483647 : Int32)))])
  refine own_st (fun t k => XS.bipush X110.here hx rfl (hb hby at_127) k) ?_
  show own_Go _ _ _ _ T110 (mkF m 129 _ [(.int (13 : Int32)), (.int (x0 &&& (2147483647 : Int32)))])
  refine own_st (fun t k => iremM X110 hx rfl (hb hby at_129) rfl (by decide) k) ?_
  show own_Go _ _ _ _ T110 (mkF m 130 _ [(.int ((x0 &&& (2147483647 : Int32)) % (13 : Int32)))])
  generalize hv116 : ((x0 &&& (2147483647 : Int32)) % (13 : Int32)) = v116
  refine own_st (fun t k => XS.istore X110.here hx rfl (hb hby at_130) rfl (l' := #[.val (.int x0), .val (.int x1), .val (.int x2), .val (.ref b1), .val (.ref b69), .val (.int v116), .unset, .unset, .unset, .unset, .unset, .unset, .unset, .unset, .unset, .unset, .unset, .unset, .unset]) rfl k) ?_
  show own_Go _ _ _ _ T110 (mkF m 132 #[.val (.int x0), .val (.int x1), .val (.int x2), .val (.ref b1), .val (.ref b69), .val (.int v116), .unset, .unset, .unset, .unset, .unset, .unset, .unset, .unset, .unset, .unset, .unset, .unset, .unset] [])
  refine own_st (fun t k => XS.iloadN X110.here hx rfl (hb hby at_132) rfl k) ?_
  show own_Go _ _ _ _ T110 (mkF m 133 _ [(.int x1)])
  refine own_st (fun t k => X110.ldcInt hx hown (mvT hZ (hw _ (List.mem_of_getElem? (i := 1) rfl))) (g := (mkF m 133 #[.val (.int x0), .val (.int x1), .val (.int x2), .val (.ref b1), .val (.ref b69), .val (.int v116), .unset, .unset, .unset, .unset, .unset, .unset, .unset, .unset, .unset, .unset, .unset, .unset, .unset] [(.int x1)])) rfl (hb hby at_133) _ k) ?_
  show own_Go _ _ _ _ T110 (mkF m 135 _ [(.int (2147483647 : Int32)), (.int x1)])
  refine own_st (fun t k => XS.iand X110.here hx rfl (hb hby at_135) rfl k) ?_
  show own_Go _ _ _ _ T110 (mkF m 136 _ [(.int (x1 &&& (2147483647 : Int32)))])
  refine own_st (fun t k => XS.bipush X110.here hx rfl (hb hby at_136) k) ?_
  show own_Go _ _ _ _ T110 (mkF m 138 _ [(.int (7 : Int32)), (.int (x1 &&& (2147483647 : Int32)))])
  refine own_st (fun t k => iremM X110 hx rfl (hb hby at_138) rfl (by decide) k) ?_
  show own_Go _ _ _ _ T110 (mkF m 139 _ [(.int ((x1 &&& (2147483647 : Int32)) % (7 : Int32)))])
  generalize hv117 : ((x1 &&& (2147483647 : Int32)) % (7 : Int32)) = v117
  refine own_st (fun t k => XS.istore X110.here hx rfl (hb hby at_139) rfl (l' := #[.val (.int x0), .val (.int x1), .val (.int x2), .val (.ref b1), .val (.ref b69), .val (.int v116), .val (.int v117), .unset, .unset, .unset, .unset, .unset, .unset, .unset, .unset, .unset, .unset, .unset, .unset]) rfl k) ?_
  show own_Go _ _ _ _ T110 (mkF m 141 #[.val (.int x0), .val (.int x1), .val (.int x2), .val (.ref b1), .val (.ref b69), .val (.int v116), .val (.int v117), .unset, .unset, .unset, .unset, .unset, .unset, .unset, .unset, .unset, .unset, .unset, .unset] [])
  refine own_st (fun t k => XS.lconst X110.here hx rfl (hb hby at_141) k) ?_
  show own_Go _ _ _ _ T110 (mkF m 142 _ [(.long (1 : Int64))])
  refine own_st (fun t k => XS.iloadN X110.here hx rfl (hb hby at_142) rfl k) ?_
  show own_Go _ _ _ _ T110 (mkF m 143 _ [(.int x2), (.long (1 : Int64))])
  refine own_st (fun t k => X110.ldcInt hx hown (mvT hZ (hw _ (List.mem_of_getElem? (i := 2) rfl))) (g := (mkF m 143 #[.val (.int x0), .val (.int x1), .val (.int x2), .val (.ref b1), .val (.ref b69), .val (.int v116), .val (.int v117), .unset, .unset, .unset, .unset, .unset, .unset, .unset, .unset, .unset, .unset, .unset, .unset] [(.int x2), (.long (1 : Int64))])) rfl (hb hby at_143) _ k) ?_
  show own_Go _ _ _ _ T110 (mkF m 145 _ [(.int (1048575 : Int32)), (.int x2), (.long (1 : Int64))])
  refine own_st (fun t k => XS.iand X110.here hx rfl (hb hby at_145) rfl k) ?_
  show own_Go _ _ _ _ T110 (mkF m 146 _ [(.int (x2 &&& (1048575 : Int32))), (.long (1 : Int64))])
  refine own_st (fun t k => XS.i2l X110.here hx rfl (hb hby at_146) rfl k) ?_
  show own_Go _ _ _ _ T110 (mkF m 147 _ [(.long (x2 &&& (1048575 : Int32)).toInt64), (.long (1 : Int64))])
  refine own_st (fun t k => XS.ladd X110.here hx rfl (hb hby at_147) rfl k) ?_
  show own_Go _ _ _ _ T110 (mkF m 148 _ [(.long ((1 : Int64) + (x2 &&& (1048575 : Int32)).toInt64))])
  generalize hv118 : ((1 : Int64) + (x2 &&& (1048575 : Int32)).toInt64) = v118
  refine own_st (fun t k => XS.lstore X110.here hx rfl (hb hby at_148) rfl (l' := #[.val (.int x0), .val (.int x1), .val (.int x2), .val (.ref b1), .val (.ref b69), .val (.int v116), .val (.int v117), .val (.long v118), .second, .unset, .unset, .unset, .unset, .unset, .unset, .unset, .unset, .unset, .unset]) rfl k) ?_
  show own_Go _ _ _ _ T110 (mkF m 150 #[.val (.int x0), .val (.int x1), .val (.int x2), .val (.ref b1), .val (.ref b69), .val (.int v116), .val (.int v117), .val (.long v118), .second, .unset, .unset, .unset, .unset, .unset, .unset, .unset, .unset, .unset, .unset] [])
  refine own_st (fun t k => XS.aloadN X110.here hx rfl (hb hby at_150) rfl rfl k) ?_
  show own_Go _ _ _ _ T110 (mkF m 151 _ [(.ref b1)])
  refine own_st (fun t k => XS.iload X110.here hx rfl (hb hby at_151) rfl k) ?_
  show own_Go _ _ _ _ T110 (mkF m 153 _ [(.int v116), (.ref b1)])
  obtain ⟨c119, Ar119, q119, S119, N119, H119⟩ := id f112
  refine own_st (fun t k => X110.iaload hx (j := v116) (v := (.int (g68v v116.toNatClampNeg))) (by rw [e110]; exact Ar119.1) (State.isArrayOf_alike hZ.alike Ar119.2.1) Ar119.2.2 (inb_of S119 (own_i153 x0 x1 x2 g8v g13v g18v g23v g28v g33v g38v g43v g48v g53v g58v g63v g68v g79v g85v g91v g97v g103v g109v g115v v116 v117 v118 hgg8v hgg13v hgg18v hgg23v hgg28v hgg33v hgg38v hgg43v hgg48v hgg53v hgg58v hgg63v hgg68v hgg79v hgg85v hgg91v hgg97v hgg103v hgg109v hgg115v hv116 hv117 hv118)) (H119 _ (own_lt (inb_of S119 (own_i153 x0 x1 x2 g8v g13v g18v g23v g28v g33v g38v g43v g48v g53v g58v g63v g68v g79v g85v g91v g97v g103v g109v g115v v116 v117 v118 hgg8v hgg13v hgg18v hgg23v hgg28v hgg33v hgg38v hgg43v hgg48v hgg53v hgg58v hgg63v hgg68v hgg79v hgg85v hgg91v hgg97v hgg103v hgg109v hgg115v hv116 hv117 hv118)))) (g := (mkF m 153 #[.val (.int x0), .val (.int x1), .val (.int x2), .val (.ref b1), .val (.ref b69), .val (.int v116), .val (.int v117), .val (.long v118), .second, .unset, .unset, .unset, .unset, .unset, .unset, .unset, .unset, .unset, .unset] [(.int v116), (.ref b1)])) rfl rfl (hb hby at_153) _ k) ?_
  show own_Go _ _ _ _ T110 (mkF m 154 _ [(.int (g68v v116.toNatClampNeg))])
  refine own_st (fun t k => XS.aload X110.here hx rfl (hb hby at_154) rfl rfl k) ?_
  show own_Go _ _ _ _ T110 (mkF m 156 _ [(.ref b69), (.int (g68v v116.toNatClampNeg))])
  refine own_st (fun t k => XS.iload X110.here hx rfl (hb hby at_156) rfl k) ?_
  show own_Go _ _ _ _ T110 (mkF m 158 _ [(.int v117), (.ref b69), (.int (g68v v116.toNatClampNeg))])
  obtain ⟨c120, Ar120, q120, S120, N120, H120⟩ := id f111
  refine own_st (fun t k => X110.iaload hx (j := v117) (v := (.int (g115v v117.toNatClampNeg))) (by rw [e110]; exact Ar120.1) (State.isArrayOf_alike hZ.alike Ar120.2.1) Ar120.2.2 (inb_of S120 (own_i158 x0 x1 x2 g8v g13v g18v g23v g28v g33v g38v g43v g48v g53v g58v g63v g68v g79v g85v g91v g97v g103v g109v g115v v116 v117 v118 hgg8v hgg13v hgg18v hgg23v hgg28v hgg33v hgg38v hgg43v hgg48v hgg53v hgg58v hgg63v hgg68v hgg79v hgg85v hgg91v hgg97v hgg103v hgg109v hgg115v hv116 hv117 hv118)) (H120 _ (own_lt (inb_of S120 (own_i158 x0 x1 x2 g8v g13v g18v g23v g28v g33v g38v g43v g48v g53v g58v g63v g68v g79v g85v g91v g97v g103v g109v g115v v116 v117 v118 hgg8v hgg13v hgg18v hgg23v hgg28v hgg33v hgg38v hgg43v hgg48v hgg53v hgg58v hgg63v hgg68v hgg79v hgg85v hgg91v hgg97v hgg103v hgg109v hgg115v hv116 hv117 hv118)))) (g := (mkF m 158 #[.val (.int x0), .val (.int x1), .val (.int x2), .val (.ref b1), .val (.ref b69), .val (.int v116), .val (.int v117), .val (.long v118), .second, .unset, .unset, .unset, .unset, .unset, .unset, .unset, .unset, .unset, .unset] [(.int v117), (.ref b69), (.int (g68v v116.toNatClampNeg))])) rfl rfl (hb hby at_158) _ k) ?_
  show own_Go _ _ _ _ T110 (mkF m 159 _ [(.int (g115v v117.toNatClampNeg)), (.int (g68v v116.toNatClampNeg))])
  refine own_st (fun t k => XS.imul X110.here hx rfl (hb hby at_159) rfl k) ?_
  show own_Go _ _ _ _ T110 (mkF m 160 _ [(.int ((g68v v116.toNatClampNeg) * (g115v v117.toNatClampNeg)))])
  generalize hv121 : ((g68v v116.toNatClampNeg) * (g115v v117.toNatClampNeg)) = v121
  refine own_st (fun t k => XS.istore X110.here hx rfl (hb hby at_160) rfl (l' := #[.val (.int x0), .val (.int x1), .val (.int x2), .val (.ref b1), .val (.ref b69), .val (.int v116), .val (.int v117), .val (.long v118), .second, .val (.int v121), .unset, .unset, .unset, .unset, .unset, .unset, .unset, .unset, .unset]) rfl k) ?_
  show own_Go _ _ _ _ T110 (mkF m 162 #[.val (.int x0), .val (.int x1), .val (.int x2), .val (.ref b1), .val (.ref b69), .val (.int v116), .val (.int v117), .val (.long v118), .second, .val (.int v121), .unset, .unset, .unset, .unset, .unset, .unset, .unset, .unset, .unset] [])
  refine own_st (fun t k => XS.iload X110.here hx rfl (hb hby at_162) rfl k) ?_
  show own_Go _ _ _ _ T110 (mkF m 164 _ [(.int v121)])
  refine own_st (fun t k => XS.i2dS X110.here hx rfl (hb hby at_164) rfl rfl k) ?_
  show own_Go _ _ _ _ T110 (mkF m 165 _ [(.double (FP.i2d v121))])
  generalize hv122 : (FP.i2d v121) = v122
  refine own_st (fun t k => XS.dstore X110.here hx rfl (hb hby at_165) rfl (l' := #[.val (.int x0), .val (.int x1), .val (.int x2), .val (.ref b1), .val (.ref b69), .val (.int v116), .val (.int v117), .val (.long v118), .second, .val (.int v121), .val (.double v122), .second, .unset, .unset, .unset, .unset, .unset, .unset, .unset]) rfl k) ?_
  show own_Go _ _ _ _ T110 (mkF m 167 #[.val (.int x0), .val (.int x1), .val (.int x2), .val (.ref b1), .val (.ref b69), .val (.int v116), .val (.int v117), .val (.long v118), .second, .val (.int v121), .val (.double v122), .second, .unset, .unset, .unset, .unset, .unset, .unset, .unset] [])
  refine own_st (fun t k => XS.iload X110.here hx rfl (hb hby at_167) rfl k) ?_
  show own_Go _ _ _ _ T110 (mkF m 169 _ [(.int v116)])
  refine own_st (fun t k => XS.bipush X110.here hx rfl (hb hby at_169) k) ?_
  show own_Go _ _ _ _ T110 (mkF m 171 _ [(.int (6 : Int32)), (.int v116)])
  have J131 : ∀ (Tj131 : State) (Lj131 : List Loc) (p132 : UInt64) (p133 : Int64), Stand p l e room_1 s m #[(.int x0), (.int x1), (.int x2)] below meth c Tj131 Lj131 2 20 → Tj131.heap = h110 → Fr n0 Lj131 → p132 = (if (6 : Int32) < v116 then (FP.ddiv (FP.i2d (g115v ((6 : Int32) - v117).toNatClampNeg)) (FP.i2d (g68v (v116 - (6 : Int32)).toNatClampNeg))) else (FP.i2d ((g68v ((6 : Int32) - v116).toNatClampNeg) * (g115v ((6 : Int32) - v117).toNatClampNeg)))) → p133 = (if (6 : Int32) < v116 then (1 : Int64) else (g68v ((6 : Int32) - v116).toNatClampNeg).toInt64) → own_Go p.tables e below Pq Tj131 (mkF m 229 #[.val (.int x0), .val (.int x1), .val (.int x2), .val (.ref b1), .val (.ref b69), .val (.int v116), .val (.int v117), .val (.long v118), .second, .val (.int v121), .val (.double v122), .second, .val (.double p132), .second, .val (.long p133), .second, .unset, .unset, .unset] []) := by
    intro Tj131 Lj131 p132 p133 Xj131 ej131 Nj131 qp132 qp133
    show own_Go _ _ _ _ Tj131 (mkF m 229 #[.val (.int x0), .val (.int x1), .val (.int x2), .val (.ref b1), .val (.ref b69), .val (.int v116), .val (.int v117), .val (.long v118), .second, .val (.int v121), .val (.double v122), .second, .val (.double p132), .second, .val (.long p133), .second, .unset, .unset, .unset] [])
    refine own_st (fun t k => XS.lload Xj131.here hx rfl (hb hby at_229) rfl k) ?_
    show own_Go _ _ _ _ Tj131 (mkF m 231 _ [(.long v118)])
    refine own_st (fun t k => XS.aload Xj131.here hx rfl (hb hby at_231) rfl rfl k) ?_
    show own_Go _ _ _ _ Tj131 (mkF m 233 _ [(.ref b69), (.long v118)])
    refine own_st (fun t k => XS.bipush Xj131.here hx rfl (hb hby at_233) k) ?_
    show own_Go _ _ _ _ Tj131 (mkF m 235 _ [(.int (6 : Int32)), (.ref b69), (.long v118)])
    refine own_st (fun t k => XS.iload Xj131.here hx rfl (hb hby at_235) rfl k) ?_
    show own_Go _ _ _ _ Tj131 (mkF m 237 _ [(.int v117), (.int (6 : Int32)), (.ref b69), (.long v118)])
    refine own_st (fun t k => XS.isub Xj131.here hx rfl (hb hby at_237) rfl k) ?_
    show own_Go _ _ _ _ Tj131 (mkF m 238 _ [(.int ((6 : Int32) - v117)), (.ref b69), (.long v118)])
    obtain ⟨c134, Ar134, q134, S134, N134, H134⟩ := id f111
    refine own_st (fun t k => Xj131.iaload hx (j := ((6 : Int32) - v117)) (v := (.int (g115v ((6 : Int32) - v117).toNatClampNeg))) (by rw [ej131]; exact Ar134.1) (State.isArrayOf_alike hZ.alike Ar134.2.1) Ar134.2.2 (inb_of S134 (own_i238 x0 x1 x2 g8v g13v g18v g23v g28v g33v g38v g43v g48v g53v g58v g63v g68v g79v g85v g91v g97v g103v g109v g115v v116 v117 v118 v121 v122 p132 p133 hgg8v hgg13v hgg18v hgg23v hgg28v hgg33v hgg38v hgg43v hgg48v hgg53v hgg58v hgg63v hgg68v hgg79v hgg85v hgg91v hgg97v hgg103v hgg109v hgg115v hv116 hv117 hv118 hv121 hv122 qp132 qp133)) (H134 _ (own_lt (inb_of S134 (own_i238 x0 x1 x2 g8v g13v g18v g23v g28v g33v g38v g43v g48v g53v g58v g63v g68v g79v g85v g91v g97v g103v g109v g115v v116 v117 v118 v121 v122 p132 p133 hgg8v hgg13v hgg18v hgg23v hgg28v hgg33v hgg38v hgg43v hgg48v hgg53v hgg58v hgg63v hgg68v hgg79v hgg85v hgg91v hgg97v hgg103v hgg109v hgg115v hv116 hv117 hv118 hv121 hv122 qp132 qp133)))) (g := (mkF m 238 #[.val (.int x0), .val (.int x1), .val (.int x2), .val (.ref b1), .val (.ref b69), .val (.int v116), .val (.int v117), .val (.long v118), .second, .val (.int v121), .val (.double v122), .second, .val (.double p132), .second, .val (.long p133), .second, .unset, .unset, .unset] [(.int ((6 : Int32) - v117)), (.ref b69), (.long v118)])) rfl rfl (hb hby at_238) _ k) ?_
    show own_Go _ _ _ _ Tj131 (mkF m 239 _ [(.int (g115v ((6 : Int32) - v117).toNatClampNeg)), (.long v118)])
    refine own_st (fun t k => XS.i2l Xj131.here hx rfl (hb hby at_239) rfl k) ?_
    show own_Go _ _ _ _ Tj131 (mkF m 240 _ [(.long (g115v ((6 : Int32) - v117).toNatClampNeg).toInt64), (.long v118)])
    refine own_st (fun t k => XS.lmul Xj131.here hx rfl (hb hby at_240) rfl k) ?_
    show own_Go _ _ _ _ Tj131 (mkF m 241 _ [(.long (v118 * (g115v ((6 : Int32) - v117).toNatClampNeg).toInt64))])
    refine own_st (fun t k => XS.lload Xj131.here hx rfl (hb hby at_241) rfl k) ?_
    show own_Go _ _ _ _ Tj131 (mkF m 243 _ [(.long p133), (.long (v118 * (g115v ((6 : Int32) - v117).toNatClampNeg).toInt64))])
    refine own_st (fun t k => XS.lmul Xj131.here hx rfl (hb hby at_243) rfl k) ?_
    show own_Go _ _ _ _ Tj131 (mkF m 244 _ [(.long ((v118 * (g115v ((6 : Int32) - v117).toNatClampNeg).toInt64) * p133))])
    generalize hv135 : ((v118 * (g115v ((6 : Int32) - v117).toNatClampNeg).toInt64) * p133) = v135
    refine own_st (fun t k => XS.lstore Xj131.here hx rfl (hb hby at_244) rfl (l' := #[.val (.int x0), .val (.int x1), .val (.int x2), .val (.ref b1), .val (.ref b69), .val (.int v116), .val (.int v117), .val (.long v118), .second, .val (.int v121), .val (.double v122), .second, .val (.double p132), .second, .val (.long p133), .second, .val (.long v135), .second, .unset]) rfl k) ?_
    show own_Go _ _ _ _ Tj131 (mkF m 246 #[.val (.int x0), .val (.int x1), .val (.int x2), .val (.ref b1), .val (.ref b69), .val (.int v116), .val (.int v117), .val (.long v118), .second, .val (.int v121), .val (.double v122), .second, .val (.double p132), .second, .val (.long p133), .second, .val (.long v135), .second, .unset] [])
    obtain ⟨T136, h136, X136, e136, E136, A136, D136, -, st136⟩ := newO Xj131 hx hZ hown (hw _ (List.mem_of_getElem? (i := 3) rfl)) (hw _ (List.mem_of_getElem? (i := 4) rfl)) (hw _ (List.mem_of_getElem? (i := 5) rfl)) ej131 (g := (mkF m 246 #[.val (.int x0), .val (.int x1), .val (.int x2), .val (.ref b1), .val (.ref b69), .val (.int v116), .val (.int v117), .val (.long v118), .second, .val (.int v121), .val (.double v122), .second, .val (.double p132), .second, .val (.long p133), .second, .val (.long v135), .second, .unset] [])) rfl (hb hby at_246) (by decide) (by decide)
    obtain ⟨b136, g136⟩ : ∃ z, z = h110.size := ⟨_, rfl⟩
    rw [← g136] at A136 D136 st136
    refine own_st st136 ?_
    have ne137 : b1 ≠ b136 := Nat.ne_of_lt (Nat.lt_of_lt_of_le f112.lt (Nat.le_of_eq g136.symm))
    have ne138 : b69 ≠ b136 := Nat.ne_of_lt (Nat.lt_of_lt_of_le f111.lt (Nat.le_of_eq g136.symm))
    have f139 := f112.ext E136
    have f140 := f111.ext E136
    have gx141 : n0 ≤ b136 := Nat.le_trans Z114 (Nat.le_of_eq g136.symm)
    have Z142 : n0 ≤ h136.size := Nat.le_trans Z114 E136.1
    have f143 : Fld Z h136 b136 "com/example/refill/refill/BucketShape$WarmingUp" "warmupMicros" "J" (.long (0 : Int64)) := D136 (Or.inr (hw _ (List.mem_of_getElem? (i := 18) rfl))) (ty := .long) (by decide)
    show own_Go _ _ _ _ T136 (mkF m 249 _ [(.ref b136)])
    refine own_st (fun t k => XS.dup X136.here hx rfl (hb hby at_249) rfl rfl k) ?_
    show own_Go _ _ _ _ T136 (mkF m 250 _ [(.ref b136), (.ref b136)])
    refine own_st (fun t k => XS.lload X136.here hx rfl (hb hby at_250) rfl k) ?_
    show own_Go _ _ _ _ T136 (mkF m 252 _ [(.long v135), (.ref b136), (.ref b136)])
    obtain ⟨_, _, ⟨T144, L144, k144, n144⟩, -, X144, ⟨Lc144, hQ144, l144, y144, z144⟩, st144⟩ := X136.specialBack hx (y := (⟨"com/example/refill/refill/BucketShape$WarmingUp", "<init>", "(J)V"⟩ : MethodName)) rfl hown (mvT hZ (hw _ (List.mem_of_getElem? (i := 6) rfl))) (mvT hZ (hw _ (List.mem_of_getElem? (i := 7) rfl))) (mvT hZ (hw _ (List.mem_of_getElem? (i := 8) rfl))) (by decide) (backOf (W := 1) (rm2 l Z a0 hw [] b136 v135 (.long (0 : Int64)) h136 n0 Z142 A136 f143 gx141) hZ (hw _ (List.mem_of_getElem? (i := 8) rfl)) (hw _ (List.mem_of_getElem? (i := 5) rfl)) (by decide) (by decide)) (g := (mkF m 252 #[.val (.int x0), .val (.int x1), .val (.int x2), .val (.ref b1), .val (.ref b69), .val (.int v116), .val (.int v117), .val (.long v118), .second, .val (.int v121), .val (.double v122), .second, .val (.double p132), .second, .val (.long p133), .second, .val (.long v135), .second, .unset] [(.long v135), (.ref b136), (.ref b136)])) rfl (by rw [hml]; rfl) (Steps.refl _) (a := b136) (argsL := [(.long v135)]) (rest := [(.ref b136)]) (lenOf own_pd__J_V rfl) rfl (by show 2 * 0 + _ ≤ _; exact Nat.le_of_eq rfl) (hb hby at_252) (fun _ _ => ⟨rfl, e136, (by decide : 3 + 0 ≤ _), (by decide : 21 + 0 ≤ _)⟩)
    dsimp only [Pt.U, Pt.locs, Pt.cells, Pt.slots] at X144 l144 y144 z144 st144 hQ144
    subst l144 y144 z144
    obtain ⟨rfl, NQ144, K144, fq144_0, fq144_1⟩ := hQ144
    have N145 := Fr.app Nj131 NQ144
    refine own_st (fun t k => st144.trans k) ?_
    have f146 := f139.keep K144 (ninS ne137 nin0)
    have f147 := f140.keep K144 (ninS ne138 nin0)
    have f148 := A136.keep K144
    have Z149 : n0 ≤ T144.heap.size := Nat.le_trans Z142 K144.1
    show own_Go _ _ _ _ T144 (mkF m 255 _ [(.ref b136)])
    refine own_st (fun t k => XS.astore X144.here hx rfl (hb hby at_255) rfl rfl (l' := #[.val (.int x0), .val (.int x1), .val (.int x2), .val (.ref b1), .val (.ref b69), .val (.int v116), .val (.int v117), .val (.long v118), .second, .val (.int v121), .val (.double v122), .second, .val (.double p132), .second, .val (.long p133), .second, .val (.long v135), .second, .val (.ref b136)]) rfl k) ?_
    show own_Go _ _ _ _ T144 (mkF m 257 #[.val (.int x0), .val (.int x1), .val (.int x2), .val (.ref b1), .val (.ref b69), .val (.int v116), .val (.int v117), .val (.long v118), .second, .val (.int v121), .val (.double v122), .second, .val (.double p132), .second, .val (.long p133), .second, .val (.long v135), .second, .val (.ref b136)] [])
    refine own_st (fun t k => XS.aload X144.here hx rfl (hb hby at_257) rfl rfl k) ?_
    show own_Go _ _ _ _ T144 (mkF m 259 _ [(.ref b136)])
    refine own_st (fun t k => XS.dload X144.here hx rfl (hb hby at_259) rfl k) ?_
    show own_Go _ _ _ _ T144 (mkF m 261 _ [(.double v122), (.ref b136)])
    have MM := (own_main x0 x1 x2 g8v g13v g18v g23v g28v g33v g38v g43v g48v g53v g58v g63v g68v g79v g85v g91v g97v g103v g109v g115v v116 v117 v118 v121 v122 p132 p133 v135 hgg8v hgg13v hgg18v hgg23v hgg28v hgg33v hgg38v hgg43v hgg48v hgg53v hgg58v hgg63v hgg68v hgg79v hgg85v hgg91v hgg97v hgg103v hgg109v hgg115v hv116 hv117 hv118 hv121 hv122 qp132 qp133 hv135)
    obtain ⟨cq150, kq150, q150a, q150b, q150c⟩ := isOf hZ rfl fq144_0
    obtain ⟨_, _, ⟨T150, L150, k150, n150⟩, -, X150, ⟨Lc150, hQ150, l150, y150, z150⟩, st150⟩ := X144.virtualBack hx (y := (⟨"com/example/refill/refill/BucketShape$WarmingUp", "refillMicros", "(D)D"⟩ : MethodName)) (z := (⟨"com/example/refill/refill/BucketShape$WarmingUp", "refillMicros", "(D)D"⟩ : MethodName)) hown (mvT hZ (hw _ (List.mem_of_getElem? (i := 19) rfl))) (mvT hZ (hw _ (List.mem_of_getElem? (i := 20) rfl))) (notFace_of_selects (args := #[]) (mvT hZ (hw _ (List.mem_of_getElem? (i := 22) rfl)))) (mvT hZ (hw _ (List.mem_of_getElem? (i := 22) rfl))) (mvT hZ (hw _ (List.mem_of_getElem? (i := 21) rfl))) (by decide) (backOf (W := 0) (rm7 l Z a0 hw [] b136 v122 v135 T144.heap n0 Z149 fq144_0 fq144_1 MM.1) hZ (hw _ (List.mem_of_getElem? (i := 23) rfl)) (hw _ (List.mem_of_getElem? (i := 5) rfl)) (by decide) (by decide)) q150a q150c (g := (mkF m 261 #[.val (.int x0), .val (.int x1), .val (.int x2), .val (.ref b1), .val (.ref b69), .val (.int v116), .val (.int v117), .val (.long v118), .second, .val (.int v121), .val (.double v122), .second, .val (.double p132), .second, .val (.long p133), .second, .val (.long v135), .second, .val (.ref b136)] [(.double v122), (.ref b136)])) rfl (by rw [hml]; rfl) (Steps.refl _) (argsL := [(.double v122)]) (rest := []) (lenOf own_pd__D_D rfl) rfl (by show 2 * 0 + _ ≤ _; exact Nat.le_of_eq rfl) (hb hby at_261) (fun _ _ => ⟨rfl, rfl, (by decide : 3 + 0 ≤ _), (by decide : 21 + 0 ≤ _)⟩)
    dsimp only [Pt.U, Pt.locs, Pt.cells, Pt.slots] at X150 l150 y150 z150 st150 hQ150
    subst l150 y150 z150
    obtain ⟨rfl, NQ150, eq150⟩ := hQ150
    have N151 := Fr.app N145 NQ150
    refine own_st (fun t k => st150.trans k) ?_
    show own_Go _ _ _ _ T150 (mkF m 264 _ [(.double (own_ref v135 v122))])
    refine own_st (fun t k => XS.dload X150.here hx rfl (hb hby at_264) rfl k) ?_
    show own_Go _ _ _ _ T150 (mkF m 266 _ [(.double p132), (.double (own_ref v135 v122))])
    refine own_st (fun t k => XS.dcmpS X150.here hx rfl (hb hby at_266) rfl rfl k) ?_
    show own_Go _ _ _ _ T150 (mkF m 267 _ [(.int (cmpValue (FP.dcmp (own_ref v135 v122) p132) .l))])
    refine own_st (fun t k => XS.ifNo X150.here hx rfl (hb hby at_267) rfl ((if0 _ _).trans (teq MM.2).2) k) ?_
    show own_Go _ _ _ _ T150 (mkF m 270 _ [])
    refine own_st (fun t k => XS.iconst X150.here hx rfl (hb hby at_270) k) ?_
    show own_Go _ _ _ _ T150 (mkF m 271 _ [(.int (1 : Int32))])
    refine own_st (fun t k => XS.goto X150.here hx rfl (pc0 := 271) (pc' := 275) rfl (hb hby at_271) (by decide) (by decide) k) ?_
    show own_Go _ _ _ _ T150 (mkF m 275 _ [(.int (1 : Int32))])
    subst hPq
    refine own_out X150 (v := some (.int (nar .boolean (1 : Int32)))) (fun h => by rw [Bd.returns] at h; cases h) Bd.notSynchronized (fun fs hr => retN X150 hx (t := .boolean) Bd.returns (by simp) (hb hby at_275) hr) (by decide) (by decide) ?_
    show Q0 Z x0 x1 x2 h0 n0 _ T150.heap _
    rw [eq150]
    exact ⟨congrArg (fun z => some (Value.int (nar .boolean z))) (own_law x0 x1 x2 g8v g13v g18v g23v g28v g33v g38v g43v g48v g53v g58v g63v g68v g79v g85v g91v g97v g103v g109v g115v v116 v117 v118 v121 v122 p132 p133 v135 hgg8v hgg13v hgg18v hgg23v hgg28v hgg33v hgg38v hgg43v hgg48v hgg53v hgg58v hgg63v hgg68v hgg79v hgg85v hgg91v hgg97v hgg103v hgg109v hgg115v hv116 hv117 hv118 hv121 hv122 qp132 qp133 hv135), N151⟩
  by_cases c123 : (6 : Int32) < v116
  · skip
    refine own_st (fun t k => XS.icmpYes X110.here hx rfl (pc0 := 171) (pc' := 206) rfl (hb hby at_171) rfl (tlt c123).2.2.1 (by decide) (by decide) k) ?_
    show own_Go _ _ _ _ T110 (mkF m 206 _ [])
    refine own_st (fun t k => XS.aload X110.here hx rfl (hb hby at_206) rfl rfl k) ?_
    show own_Go _ _ _ _ T110 (mkF m 208 _ [(.ref b69)])
    refine own_st (fun t k => XS.bipush X110.here hx rfl (hb hby at_208) k) ?_
    show own_Go _ _ _ _ T110 (mkF m 210 _ [(.int (6 : Int32)), (.ref b69)])
    refine own_st (fun t k => XS.iload X110.here hx rfl (hb hby at_210) rfl k) ?_
    show own_Go _ _ _ _ T110 (mkF m 212 _ [(.int v117), (.int (6 : Int32)), (.ref b69)])
    refine own_st (fun t k => XS.isub X110.here hx rfl (hb hby at_212) rfl k) ?_
    show own_Go _ _ _ _ T110 (mkF m 213 _ [(.int ((6 : Int32) - v117)), (.ref b69)])
    obtain ⟨c124, Ar124, q124, S124, N124, H124⟩ := id f111
    refine own_st (fun t k => X110.iaload hx (j := ((6 : Int32) - v117)) (v := (.int (g115v ((6 : Int32) - v117).toNatClampNeg))) (by rw [e110]; exact Ar124.1) (State.isArrayOf_alike hZ.alike Ar124.2.1) Ar124.2.2 (inb_of S124 (own_i213 x0 x1 x2 g8v g13v g18v g23v g28v g33v g38v g43v g48v g53v g58v g63v g68v g79v g85v g91v g97v g103v g109v g115v v116 v117 v118 v121 v122 hgg8v hgg13v hgg18v hgg23v hgg28v hgg33v hgg38v hgg43v hgg48v hgg53v hgg58v hgg63v hgg68v hgg79v hgg85v hgg91v hgg97v hgg103v hgg109v hgg115v hv116 hv117 hv118 hv121 hv122 c123)) (H124 _ (own_lt (inb_of S124 (own_i213 x0 x1 x2 g8v g13v g18v g23v g28v g33v g38v g43v g48v g53v g58v g63v g68v g79v g85v g91v g97v g103v g109v g115v v116 v117 v118 v121 v122 hgg8v hgg13v hgg18v hgg23v hgg28v hgg33v hgg38v hgg43v hgg48v hgg53v hgg58v hgg63v hgg68v hgg79v hgg85v hgg91v hgg97v hgg103v hgg109v hgg115v hv116 hv117 hv118 hv121 hv122 c123)))) (g := (mkF m 213 #[.val (.int x0), .val (.int x1), .val (.int x2), .val (.ref b1), .val (.ref b69), .val (.int v116), .val (.int v117), .val (.long v118), .second, .val (.int v121), .val (.double v122), .second, .unset, .unset, .unset, .unset, .unset, .unset, .unset] [(.int ((6 : Int32) - v117)), (.ref b69)])) rfl rfl (hb hby at_213) _ k) ?_
    show own_Go _ _ _ _ T110 (mkF m 214 _ [(.int (g115v ((6 : Int32) - v117).toNatClampNeg))])
    refine own_st (fun t k => XS.i2dS X110.here hx rfl (hb hby at_214) rfl rfl k) ?_
    show own_Go _ _ _ _ T110 (mkF m 215 _ [(.double (FP.i2d (g115v ((6 : Int32) - v117).toNatClampNeg)))])
    refine own_st (fun t k => XS.aloadN X110.here hx rfl (hb hby at_215) rfl rfl k) ?_
    show own_Go _ _ _ _ T110 (mkF m 216 _ [(.ref b1), (.double (FP.i2d (g115v ((6 : Int32) - v117).toNatClampNeg)))])
    refine own_st (fun t k => XS.iload X110.here hx rfl (hb hby at_216) rfl k) ?_
    show own_Go _ _ _ _ T110 (mkF m 218 _ [(.int v116), (.ref b1), (.double (FP.i2d (g115v ((6 : Int32) - v117).toNatClampNeg)))])
    refine own_st (fun t k => XS.bipush X110.here hx rfl (hb hby at_218) k) ?_
    show own_Go _ _ _ _ T110 (mkF m 220 _ [(.int (6 : Int32)), (.int v116), (.ref b1), (.double (FP.i2d (g115v ((6 : Int32) - v117).toNatClampNeg)))])
    refine own_st (fun t k => XS.isub X110.here hx rfl (hb hby at_220) rfl k) ?_
    show own_Go _ _ _ _ T110 (mkF m 221 _ [(.int (v116 - (6 : Int32))), (.ref b1), (.double (FP.i2d (g115v ((6 : Int32) - v117).toNatClampNeg)))])
    obtain ⟨c125, Ar125, q125, S125, N125, H125⟩ := id f112
    refine own_st (fun t k => X110.iaload hx (j := (v116 - (6 : Int32))) (v := (.int (g68v (v116 - (6 : Int32)).toNatClampNeg))) (by rw [e110]; exact Ar125.1) (State.isArrayOf_alike hZ.alike Ar125.2.1) Ar125.2.2 (inb_of S125 (own_i221 x0 x1 x2 g8v g13v g18v g23v g28v g33v g38v g43v g48v g53v g58v g63v g68v g79v g85v g91v g97v g103v g109v g115v v116 v117 v118 v121 v122 hgg8v hgg13v hgg18v hgg23v hgg28v hgg33v hgg38v hgg43v hgg48v hgg53v hgg58v hgg63v hgg68v hgg79v hgg85v hgg91v hgg97v hgg103v hgg109v hgg115v hv116 hv117 hv118 hv121 hv122 c123)) (H125 _ (own_lt (inb_of S125 (own_i221 x0 x1 x2 g8v g13v g18v g23v g28v g33v g38v g43v g48v g53v g58v g63v g68v g79v g85v g91v g97v g103v g109v g115v v116 v117 v118 v121 v122 hgg8v hgg13v hgg18v hgg23v hgg28v hgg33v hgg38v hgg43v hgg48v hgg53v hgg58v hgg63v hgg68v hgg79v hgg85v hgg91v hgg97v hgg103v hgg109v hgg115v hv116 hv117 hv118 hv121 hv122 c123)))) (g := (mkF m 221 #[.val (.int x0), .val (.int x1), .val (.int x2), .val (.ref b1), .val (.ref b69), .val (.int v116), .val (.int v117), .val (.long v118), .second, .val (.int v121), .val (.double v122), .second, .unset, .unset, .unset, .unset, .unset, .unset, .unset] [(.int (v116 - (6 : Int32))), (.ref b1), (.double (FP.i2d (g115v ((6 : Int32) - v117).toNatClampNeg)))])) rfl rfl (hb hby at_221) _ k) ?_
    show own_Go _ _ _ _ T110 (mkF m 222 _ [(.int (g68v (v116 - (6 : Int32)).toNatClampNeg)), (.double (FP.i2d (g115v ((6 : Int32) - v117).toNatClampNeg)))])
    refine own_st (fun t k => XS.i2dS X110.here hx rfl (hb hby at_222) rfl rfl k) ?_
    show own_Go _ _ _ _ T110 (mkF m 223 _ [(.double (FP.i2d (g68v (v116 - (6 : Int32)).toNatClampNeg))), (.double (FP.i2d (g115v ((6 : Int32) - v117).toNatClampNeg)))])
    refine own_st (fun t k => XS.ddivS X110.here hx rfl (hb hby at_223) rfl (own_nn x0 x1 x2 g8v g13v g18v g23v g28v g33v g38v g43v g48v g53v g58v g63v g68v g79v g85v g91v g97v g103v g109v g115v v116 v117 v118 v121 v122 hgg8v hgg13v hgg18v hgg23v hgg28v hgg33v hgg38v hgg43v hgg48v hgg53v hgg58v hgg63v hgg68v hgg79v hgg85v hgg91v hgg97v hgg103v hgg109v hgg115v hv116 hv117 hv118 hv121 hv122 c123) rfl k) ?_
    show own_Go _ _ _ _ T110 (mkF m 224 _ [(.double (FP.ddiv (FP.i2d (g115v ((6 : Int32) - v117).toNatClampNeg)) (FP.i2d (g68v (v116 - (6 : Int32)).toNatClampNeg))))])
    refine own_st (fun t k => XS.dstore X110.here hx rfl (hb hby at_224) rfl (l' := #[.val (.int x0), .val (.int x1), .val (.int x2), .val (.ref b1), .val (.ref b69), .val (.int v116), .val (.int v117), .val (.long v118), .second, .val (.int v121), .val (.double v122), .second, .val (.double (FP.ddiv (FP.i2d (g115v ((6 : Int32) - v117).toNatClampNeg)) (FP.i2d (g68v (v116 - (6 : Int32)).toNatClampNeg)))), .second, .unset, .unset, .unset, .unset, .unset]) rfl k) ?_
    show own_Go _ _ _ _ T110 (mkF m 226 #[.val (.int x0), .val (.int x1), .val (.int x2), .val (.ref b1), .val (.ref b69), .val (.int v116), .val (.int v117), .val (.long v118), .second, .val (.int v121), .val (.double v122), .second, .val (.double (FP.ddiv (FP.i2d (g115v ((6 : Int32) - v117).toNatClampNeg)) (FP.i2d (g68v (v116 - (6 : Int32)).toNatClampNeg)))), .second, .unset, .unset, .unset, .unset, .unset] [])
    refine own_st (fun t k => XS.lconst X110.here hx rfl (hb hby at_226) k) ?_
    show own_Go _ _ _ _ T110 (mkF m 227 _ [(.long (1 : Int64))])
    refine own_st (fun t k => XS.lstore X110.here hx rfl (hb hby at_227) rfl (l' := #[.val (.int x0), .val (.int x1), .val (.int x2), .val (.ref b1), .val (.ref b69), .val (.int v116), .val (.int v117), .val (.long v118), .second, .val (.int v121), .val (.double v122), .second, .val (.double (FP.ddiv (FP.i2d (g115v ((6 : Int32) - v117).toNatClampNeg)) (FP.i2d (g68v (v116 - (6 : Int32)).toNatClampNeg)))), .second, .val (.long (1 : Int64)), .second, .unset, .unset, .unset]) rfl k) ?_
    show own_Go _ _ _ _ T110 (mkF m 229 #[.val (.int x0), .val (.int x1), .val (.int x2), .val (.ref b1), .val (.ref b69), .val (.int v116), .val (.int v117), .val (.long v118), .second, .val (.int v121), .val (.double v122), .second, .val (.double (FP.ddiv (FP.i2d (g115v ((6 : Int32) - v117).toNatClampNeg)) (FP.i2d (g68v (v116 - (6 : Int32)).toNatClampNeg)))), .second, .val (.long (1 : Int64)), .second, .unset, .unset, .unset] [])
    exact J131 T110 _ _ _ (X110.mono (by decide) (by decide)) e110 N113 (by simp only [if_pos c123]) (by simp only [if_pos c123])
  · skip
    refine own_st (fun t k => XS.icmpNo X110.here hx rfl (hb hby at_171) rfl (flt c123).2.2.1 k) ?_
    show own_Go _ _ _ _ T110 (mkF m 174 _ [])
    refine own_st (fun t k => XS.aloadN X110.here hx rfl (hb hby at_174) rfl rfl k) ?_
    show own_Go _ _ _ _ T110 (mkF m 175 _ [(.ref b1)])
    refine own_st (fun t k => XS.bipush X110.here hx rfl (hb hby at_175) k) ?_
    show own_Go _ _ _ _ T110 (mkF m 177 _ [(.int (6 : Int32)), (.ref b1)])
    refine own_st (fun t k => XS.iload X110.here hx rfl (hb hby at_177) rfl k) ?_
    show own_Go _ _ _ _ T110 (mkF m 179 _ [(.int v116), (.int (6 : Int32)), (.ref b1)])
    refine own_st (fun t k => XS.isub X110.here hx rfl (hb hby at_179) rfl k) ?_
    show own_Go _ _ _ _ T110 (mkF m 180 _ [(.int ((6 : Int32) - v116)), (.ref b1)])
    obtain ⟨c127, Ar127, q127, S127, N127, H127⟩ := id f112
    refine own_st (fun t k => X110.iaload hx (j := ((6 : Int32) - v116)) (v := (.int (g68v ((6 : Int32) - v116).toNatClampNeg))) (by rw [e110]; exact Ar127.1) (State.isArrayOf_alike hZ.alike Ar127.2.1) Ar127.2.2 (inb_of S127 (own_i180 x0 x1 x2 g8v g13v g18v g23v g28v g33v g38v g43v g48v g53v g58v g63v g68v g79v g85v g91v g97v g103v g109v g115v v116 v117 v118 v121 v122 hgg8v hgg13v hgg18v hgg23v hgg28v hgg33v hgg38v hgg43v hgg48v hgg53v hgg58v hgg63v hgg68v hgg79v hgg85v hgg91v hgg97v hgg103v hgg109v hgg115v hv116 hv117 hv118 hv121 hv122 c123)) (H127 _ (own_lt (inb_of S127 (own_i180 x0 x1 x2 g8v g13v g18v g23v g28v g33v g38v g43v g48v g53v g58v g63v g68v g79v g85v g91v g97v g103v g109v g115v v116 v117 v118 v121 v122 hgg8v hgg13v hgg18v hgg23v hgg28v hgg33v hgg38v hgg43v hgg48v hgg53v hgg58v hgg63v hgg68v hgg79v hgg85v hgg91v hgg97v hgg103v hgg109v hgg115v hv116 hv117 hv118 hv121 hv122 c123)))) (g := (mkF m 180 #[.val (.int x0), .val (.int x1), .val (.int x2), .val (.ref b1), .val (.ref b69), .val (.int v116), .val (.int v117), .val (.long v118), .second, .val (.int v121), .val (.double v122), .second, .unset, .unset, .unset, .unset, .unset, .unset, .unset] [(.int ((6 : Int32) - v116)), (.ref b1)])) rfl rfl (hb hby at_180) _ k) ?_
    show own_Go _ _ _ _ T110 (mkF m 181 _ [(.int (g68v ((6 : Int32) - v116).toNatClampNeg))])
    refine own_st (fun t k => XS.aload X110.here hx rfl (hb hby at_181) rfl rfl k) ?_
    show own_Go _ _ _ _ T110 (mkF m 183 _ [(.ref b69), (.int (g68v ((6 : Int32) - v116).toNatClampNeg))])
    refine own_st (fun t k => XS.bipush X110.here hx rfl (hb hby at_183) k) ?_
    show own_Go _ _ _ _ T110 (mkF m 185 _ [(.int (6 : Int32)), (.ref b69), (.int (g68v ((6 : Int32) - v116).toNatClampNeg))])
    refine own_st (fun t k => XS.iload X110.here hx rfl (hb hby at_185) rfl k) ?_
    show own_Go _ _ _ _ T110 (mkF m 187 _ [(.int v117), (.int (6 : Int32)), (.ref b69), (.int (g68v ((6 : Int32) - v116).toNatClampNeg))])
    refine own_st (fun t k => XS.isub X110.here hx rfl (hb hby at_187) rfl k) ?_
    show own_Go _ _ _ _ T110 (mkF m 188 _ [(.int ((6 : Int32) - v117)), (.ref b69), (.int (g68v ((6 : Int32) - v116).toNatClampNeg))])
    obtain ⟨c128, Ar128, q128, S128, N128, H128⟩ := id f111
    refine own_st (fun t k => X110.iaload hx (j := ((6 : Int32) - v117)) (v := (.int (g115v ((6 : Int32) - v117).toNatClampNeg))) (by rw [e110]; exact Ar128.1) (State.isArrayOf_alike hZ.alike Ar128.2.1) Ar128.2.2 (inb_of S128 (own_i188 x0 x1 x2 g8v g13v g18v g23v g28v g33v g38v g43v g48v g53v g58v g63v g68v g79v g85v g91v g97v g103v g109v g115v v116 v117 v118 v121 v122 hgg8v hgg13v hgg18v hgg23v hgg28v hgg33v hgg38v hgg43v hgg48v hgg53v hgg58v hgg63v hgg68v hgg79v hgg85v hgg91v hgg97v hgg103v hgg109v hgg115v hv116 hv117 hv118 hv121 hv122 c123)) (H128 _ (own_lt (inb_of S128 (own_i188 x0 x1 x2 g8v g13v g18v g23v g28v g33v g38v g43v g48v g53v g58v g63v g68v g79v g85v g91v g97v g103v g109v g115v v116 v117 v118 v121 v122 hgg8v hgg13v hgg18v hgg23v hgg28v hgg33v hgg38v hgg43v hgg48v hgg53v hgg58v hgg63v hgg68v hgg79v hgg85v hgg91v hgg97v hgg103v hgg109v hgg115v hv116 hv117 hv118 hv121 hv122 c123)))) (g := (mkF m 188 #[.val (.int x0), .val (.int x1), .val (.int x2), .val (.ref b1), .val (.ref b69), .val (.int v116), .val (.int v117), .val (.long v118), .second, .val (.int v121), .val (.double v122), .second, .unset, .unset, .unset, .unset, .unset, .unset, .unset] [(.int ((6 : Int32) - v117)), (.ref b69), (.int (g68v ((6 : Int32) - v116).toNatClampNeg))])) rfl rfl (hb hby at_188) _ k) ?_
    show own_Go _ _ _ _ T110 (mkF m 189 _ [(.int (g115v ((6 : Int32) - v117).toNatClampNeg)), (.int (g68v ((6 : Int32) - v116).toNatClampNeg))])
    refine own_st (fun t k => XS.imul X110.here hx rfl (hb hby at_189) rfl k) ?_
    show own_Go _ _ _ _ T110 (mkF m 190 _ [(.int ((g68v ((6 : Int32) - v116).toNatClampNeg) * (g115v ((6 : Int32) - v117).toNatClampNeg)))])
    refine own_st (fun t k => XS.i2dS X110.here hx rfl (hb hby at_190) rfl rfl k) ?_
    show own_Go _ _ _ _ T110 (mkF m 191 _ [(.double (FP.i2d ((g68v ((6 : Int32) - v116).toNatClampNeg) * (g115v ((6 : Int32) - v117).toNatClampNeg))))])
    refine own_st (fun t k => XS.dstore X110.here hx rfl (hb hby at_191) rfl (l' := #[.val (.int x0), .val (.int x1), .val (.int x2), .val (.ref b1), .val (.ref b69), .val (.int v116), .val (.int v117), .val (.long v118), .second, .val (.int v121), .val (.double v122), .second, .val (.double (FP.i2d ((g68v ((6 : Int32) - v116).toNatClampNeg) * (g115v ((6 : Int32) - v117).toNatClampNeg)))), .second, .unset, .unset, .unset, .unset, .unset]) rfl k) ?_
    show own_Go _ _ _ _ T110 (mkF m 193 #[.val (.int x0), .val (.int x1), .val (.int x2), .val (.ref b1), .val (.ref b69), .val (.int v116), .val (.int v117), .val (.long v118), .second, .val (.int v121), .val (.double v122), .second, .val (.double (FP.i2d ((g68v ((6 : Int32) - v116).toNatClampNeg) * (g115v ((6 : Int32) - v117).toNatClampNeg)))), .second, .unset, .unset, .unset, .unset, .unset] [])
    refine own_st (fun t k => XS.aloadN X110.here hx rfl (hb hby at_193) rfl rfl k) ?_
    show own_Go _ _ _ _ T110 (mkF m 194 _ [(.ref b1)])
    refine own_st (fun t k => XS.bipush X110.here hx rfl (hb hby at_194) k) ?_
    show own_Go _ _ _ _ T110 (mkF m 196 _ [(.int (6 : Int32)), (.ref b1)])
    refine own_st (fun t k => XS.iload X110.here hx rfl (hb hby at_196) rfl k) ?_
    show own_Go _ _ _ _ T110 (mkF m 198 _ [(.int v116), (.int (6 : Int32)), (.ref b1)])
    refine own_st (fun t k => XS.isub X110.here hx rfl (hb hby at_198) rfl k) ?_
    show own_Go _ _ _ _ T110 (mkF m 199 _ [(.int ((6 : Int32) - v116)), (.ref b1)])
    obtain ⟨c129, Ar129, q129, S129, N129, H129⟩ := id f112
    refine own_st (fun t k => X110.iaload hx (j := ((6 : Int32) - v116)) (v := (.int (g68v ((6 : Int32) - v116).toNatClampNeg))) (by rw [e110]; exact Ar129.1) (State.isArrayOf_alike hZ.alike Ar129.2.1) Ar129.2.2 (inb_of S129 (own_i199 x0 x1 x2 g8v g13v g18v g23v g28v g33v g38v g43v g48v g53v g58v g63v g68v g79v g85v g91v g97v g103v g109v g115v v116 v117 v118 v121 v122 hgg8v hgg13v hgg18v hgg23v hgg28v hgg33v hgg38v hgg43v hgg48v hgg53v hgg58v hgg63v hgg68v hgg79v hgg85v hgg91v hgg97v hgg103v hgg109v hgg115v hv116 hv117 hv118 hv121 hv122 c123)) (H129 _ (own_lt (inb_of S129 (own_i199 x0 x1 x2 g8v g13v g18v g23v g28v g33v g38v g43v g48v g53v g58v g63v g68v g79v g85v g91v g97v g103v g109v g115v v116 v117 v118 v121 v122 hgg8v hgg13v hgg18v hgg23v hgg28v hgg33v hgg38v hgg43v hgg48v hgg53v hgg58v hgg63v hgg68v hgg79v hgg85v hgg91v hgg97v hgg103v hgg109v hgg115v hv116 hv117 hv118 hv121 hv122 c123)))) (g := (mkF m 199 #[.val (.int x0), .val (.int x1), .val (.int x2), .val (.ref b1), .val (.ref b69), .val (.int v116), .val (.int v117), .val (.long v118), .second, .val (.int v121), .val (.double v122), .second, .val (.double (FP.i2d ((g68v ((6 : Int32) - v116).toNatClampNeg) * (g115v ((6 : Int32) - v117).toNatClampNeg)))), .second, .unset, .unset, .unset, .unset, .unset] [(.int ((6 : Int32) - v116)), (.ref b1)])) rfl rfl (hb hby at_199) _ k) ?_
    show own_Go _ _ _ _ T110 (mkF m 200 _ [(.int (g68v ((6 : Int32) - v116).toNatClampNeg))])
    refine own_st (fun t k => XS.i2l X110.here hx rfl (hb hby at_200) rfl k) ?_
    show own_Go _ _ _ _ T110 (mkF m 201 _ [(.long (g68v ((6 : Int32) - v116).toNatClampNeg).toInt64)])
    refine own_st (fun t k => XS.lstore X110.here hx rfl (hb hby at_201) rfl (l' := #[.val (.int x0), .val (.int x1), .val (.int x2), .val (.ref b1), .val (.ref b69), .val (.int v116), .val (.int v117), .val (.long v118), .second, .val (.int v121), .val (.double v122), .second, .val (.double (FP.i2d ((g68v ((6 : Int32) - v116).toNatClampNeg) * (g115v ((6 : Int32) - v117).toNatClampNeg)))), .second, .val (.long (g68v ((6 : Int32) - v116).toNatClampNeg).toInt64), .second, .unset, .unset, .unset]) rfl k) ?_
    show own_Go _ _ _ _ T110 (mkF m 203 #[.val (.int x0), .val (.int x1), .val (.int x2), .val (.ref b1), .val (.ref b69), .val (.int v116), .val (.int v117), .val (.long v118), .second, .val (.int v121), .val (.double v122), .second, .val (.double (FP.i2d ((g68v ((6 : Int32) - v116).toNatClampNeg) * (g115v ((6 : Int32) - v117).toNatClampNeg)))), .second, .val (.long (g68v ((6 : Int32) - v116).toNatClampNeg).toInt64), .second, .unset, .unset, .unset] [])
    refine own_st (fun t k => XS.goto X110.here hx rfl (pc0 := 203) (pc' := 229) rfl (hb hby at_203) (by decide) (by decide) k) ?_
    show own_Go _ _ _ _ T110 (mkF m 229 _ [])
    exact J131 T110 _ _ _ (X110.mono (by decide) (by decide)) e110 N113 (by simp only [if_neg c123]) (by simp only [if_neg c123])
set_option maxRecDepth 65536 in
set_option maxHeartbeats 4000000 in
theorem own_comes {Post : Tables → Env → Array Value → State → Outcome → State → Prop} (hpost : ∀ tb e args s v u, (limb_1_1.after args s (.returned v) u = true ∧ limb_1_2.after args s (.returned v) u = true ∧ True) → FrameEnd s (.returned v) u (Jvm.fieldLocs frame_1_writes args s ++ Jvm.arrayLocs frame_1_arrays args s ++ Jvm.staticLocs frame_1_statics s) 16 128 → Post tb e args s (.returned v) u) :
    ArmFor flags0 classFile x code maxLocals ret World_1 tables_1 room_1 Calls_1 rest_1 Pre_1 Post := by
  intro l hfl _ _ p e ha hc hk s m args below hf hA hF happ hP
  obtain ⟨hcalls, hrest, hpre⟩ := hP
  obtain ⟨-, -, -, hnamed, -, -, -, hat⟩ := (Spec.applies_iff hf).mp happ
  obtain ⟨hg, hn⟩ := and_e (Cond.before_iff.mp (show (Jvm.Cond.and given_1 narrow_1).before args s = true from hpre))
  obtain ⟨g0, r0⟩ := and_e hg
  obtain ⟨g1, r1⟩ := and_e r0
  obtain ⟨g2, r2⟩ := and_e r1
  obtain ⟨w0, w1, w2, rfl⟩ : ∃ w0 w1 w2 : Value, args = #[w0, w1, w2] := by
    have hs : args.size = 3 := by simpa [Cond.value, given_1] using g0
    obtain ⟨L⟩ := args
    match L, hs with
    | [w0, w1, w2], _ => exact ⟨w0, w1, w2, rfl⟩
  have hw := fun d (hd : d ∈ tables_1) => atoms_spec (ws := Jvm.Cond.code x code maxLocals ret :: tables_1) hat d (List.mem_cons_of_mem _ hd)
  obtain ⟨i0, ei0⟩ := is_v g1
  obtain rfl : w0 = (.int i0) := Option.some.inj ei0
  obtain ⟨i1, ei1⟩ := is_v g2
  obtain rfl : w1 = (.int i1) := Option.some.inj ei1
  obtain ⟨i2, ei2⟩ := is_v r2
  obtain rfl : w2 = (.int i2) := Option.some.inj ei2
  obtain ⟨n, o, h1, h2, h3, _, L, rfl, ⟨rfl, N⟩, hq⟩ := rm0 l s _ hw tables_1 i0 i1 i2 s.heap s.heap.size (Nat.le_refl _) p e ha hc hk s m _ below hf ((Spec.applies_iff_loose hf).mp happ).1 ⟨rfl, State.Warmed39.refl s, rfl⟩ trivial
  refine ⟨n, _, h1, h2, h3, hpost _ _ _ _ _ _ ⟨Cond.after_iff.mpr rfl, Cond.after_iff.mpr (eq_i res_at (Term.int_eval (1)) rfl), trivial⟩ ⟨hq.1, hq.2.1, (hq.2.2.sift fun y hy => Or.inr (N y hy)).mono (by decide) (by decide)⟩⟩
theorem main_1_1 : Claimed_1_1 := own_comes fun _ _ _ _ _ _ h hF => ⟨h.1, hF⟩
theorem main_1_2 : Claimed_1_2 := own_comes fun _ _ _ _ _ _ h hF => ⟨h.2.1, hF⟩
end Jvm.Pilot.@@N@@
namespace Jvm.Pilot.@@N@@
open Jvm Jvm.ClassFile Sem Op Lib Jvm.Free Jvm.Stand Jvm.Pilot.@@N@@.Jvm.D
/-! MADE BY PROGRAM (witnessworld.py) out of the Statement's table words and the real class files: 11 classes; the members and pool entries that the words name. The judged class is class 1, her method 1. -/
namespace start1
open Jvm.ClassFile
def u (s : String) : CpInfo := .utf8 (stringToUtf16 s)
/-- a pool by its gaps: so many unusable entries, then the entry; so many at the end -/
def gap : Nat → List CpInfo → List CpInfo
  | 0, r => r
  | n + 1, r => .unusable :: gap n r
def poolList (es : List (Nat × CpInfo)) (last : Nat) : List CpInfo := es.foldr (fun e r => gap e.1 (e.2 :: r)) (gap last [])
def pool (es : List (Nat × CpInfo)) (last : Nat) : Array CpInfo := ⟨poolList es last⟩
def fileOf (pool : Array CpInfo) (this : Nat) (attrs : Array Attribute := #[]) (ms : Array MethodInfo := #[]) (fl : Nat := 33) (sup : Nat := 0) (ifs : Array Nat := #[]) (fds : Array FieldInfo := #[]) : ClassFile where
  minorVersion := 0
  majorVersion := 65
  constantPool := pool
  accessFlags := fl
  thisClass := this
  superClass := sup
  interfaces := ifs
  fields := fds
  methods := ms
  attributes := attrs
def plain (name : String) (sup : Option ClassId) : Class where
  name := name
  kind := .ordinary
  loader := none
  accessFlags := 33
  super := sup
  interfaces := #[]
  cf := none
  fields := #[]
  methods := #[]
  instanceTypes := #[]
  staticTypes := #[]
  resolved := #[]
  callSites := []
  init := .initialized
  statics := none
  mirror := none

def pool0 : Array CpInfo := pool [(5, u "<init>"), (0, u "()V"), (1, .class_ 10), (1, u "java/lang/Object")] 113

def k0c0 : Code := { maxStack := 0, maxLocals := 1, code := object_method_1_code, exceptionTable := #[], attributes := #[] }
def k0m0 : Method := { name := "<init>", desc := "()V", sig := { parameters := [], returnType := none }, accessFlags := 1, code := some k0c0 }
/-- java/lang/Object -/
def k0 : Class := { plain "java/lang/Object" none with
  accessFlags := 33
  interfaces := #[]
  cf := some (fileOf pool0 8 #[] #[{ accessFlags := 1, nameIndex := 5, descriptorIndex := 6, attributes := #[] }] 33 0 #[] #[])
  fields := #[]
  methods := #[k0m0]
  instanceTypes := #[]
  staticTypes := #[]
  resolved := Array.replicate 124 none
  statics := none }

def pool1 : Array CpInfo := pool [(2, .class_ 4), (1, u "java/lang/Object"), (0, u "<init>"), (0, u "()V"), (0, .integer 2147483647), (0, .integer 1048575), (0, .class_ 10), (0, u "com/example/refill/refill/BucketShape$WarmingUp"), (0, .methodref 9 12), (0, .nameAndType 5 13), (0, u "(J)V"), (0, .methodref 9 15), (0, .nameAndType 16 17), (0, u "refillMicros"), (0, u "(D)D"), (0, .class_ 19), (0, u "com/example/refill/refill/WarmingUpRefillMicrosPinLaw"), (2, u "law"), (0, u "(III)Z")] 9

def k1m0 : Method := { name := "<init>", desc := "()V", sig := { parameters := [], returnType := none }, accessFlags := 1, code := none }
def k1c1 : Code := { maxStack := 5, maxLocals := 19, code := code, exceptionTable := #[], attributes := #[] }
def k1m1 : Method := { name := "law", desc := "(III)Z", sig := { parameters := [.int, .int, .int], returnType := some .boolean }, accessFlags := 9, code := some k1c1 }
/-- com/example/refill/refill/WarmingUpRefillMicrosPinLaw -/
def k1 : Class := { plain "com/example/refill/refill/WarmingUpRefillMicrosPinLaw" (some 0) with
  accessFlags := 49
  interfaces := #[]
  cf := some (fileOf pool1 18 #[] #[{ accessFlags := 1, nameIndex := 5, descriptorIndex := 6, attributes := #[] }, { accessFlags := 9, nameIndex := 22, descriptorIndex := 23, attributes := #[] }] 49 2 #[] #[])
  fields := #[]
  methods := #[k1m0, k1m1]
  instanceTypes := #[]
  staticTypes := #[]
  resolved := Array.replicate 33 none
  statics := none }

def pool2 : Array CpInfo := pool [(1, .methodref 2 3), (0, .class_ 4), (0, .nameAndType 5 6), (0, u "java/lang/Object"), (0, u "<init>"), (0, u "()V"), (0, .class_ 8), (0, u "java/lang/Record")] 13

def k2c0 : Code := { maxStack := 1, maxLocals := 1, code := jdk_30_method_1_code, exceptionTable := #[], attributes := #[] }
def k2m0 : Method := { name := "<init>", desc := "()V", sig := { parameters := [], returnType := none }, accessFlags := 4, code := some k2c0 }
/-- java/lang/Record -/
def k2 : Class := { plain "java/lang/Record" (some 0) with
  accessFlags := 1057
  interfaces := #[]
  cf := some (fileOf pool2 7 #[] #[{ accessFlags := 4, nameIndex := 5, descriptorIndex := 6, attributes := #[] }] 1057 2 #[] #[])
  fields := #[]
  methods := #[k2m0]
  instanceTypes := #[]
  staticTypes := #[]
  resolved := Array.replicate 22 none
  statics := none }

def pool3 : Array CpInfo := pool [(1, .double 4696837146684686336), (1, .class_ 4), (0, u "com/example/refill/refill/BucketShape"), (0, .class_ 6), (0, u "java/lang/Object"), (0, u "intervalMicros"), (0, u "(D)D"), (11, .class_ 21), (0, u "com/example/refill/refill/BucketShape$WarmingUp"), (0, .class_ 23), (0, u "com/example/refill/refill/BucketShape$Steady")] 4

def k3c0 : Code := { maxStack := 4, maxLocals := 2, code := prog_2_method_1_code, exceptionTable := #[], attributes := #[] }
def k3m0 : Method := { name := "intervalMicros", desc := "(D)D", sig := { parameters := [.double], returnType := some .double }, accessFlags := 9, code := some k3c0 }
/-- com/example/refill/refill/BucketShape -/
def k3 : Class := { plain "com/example/refill/refill/BucketShape" (some 0) with
  accessFlags := 1536
  interfaces := #[]
  cf := some (fileOf pool3 3 #[.nestMembers #[20, 22]] #[{ accessFlags := 9, nameIndex := 7, descriptorIndex := 8, attributes := #[] }] 1536 5 #[] #[])
  fields := #[]
  methods := #[k3m0]
  instanceTypes := #[]
  staticTypes := #[]
  resolved := Array.replicate 28 none
  statics := none }

def pool4 : Array CpInfo := pool [(1, .methodref 2 3), (0, .class_ 4), (0, .nameAndType 5 6), (0, u "java/lang/Record"), (0, u "<init>"), (0, u "()V"), (0, .fieldref 8 9), (0, .class_ 10), (0, .nameAndType 11 12), (0, u "com/example/refill/refill/BucketShape$WarmingUp"), (0, u "warmupMicros"), (0, u "J"), (0, .interfaceMethodref 14 15), (0, .class_ 16), (0, .nameAndType 17 18), (0, u "com/example/refill/refill/BucketShape"), (0, u "intervalMicros"), (0, u "(D)D"), (0, .methodref 8 20), (0, .nameAndType 21 18), (0, u "maxPermitsAt"), (0, .methodref 8 23), (0, .nameAndType 24 18), (0, u "maxPermits"), (0, .methodref 8 26), (0, .nameAndType 27 18), (0, u "threshold"), (6, .double 4613937818241073152), (1, .double 4611686018427387904), (1, .double 4602678819172646912), (13, u "COLD_FACTOR"), (0, u "D"), (1, u "(J)V"), (5, u "refillMicros")] 28

def k4c0 : Code := { maxStack := 3, maxLocals := 3, code := prog_4_method_1_code, exceptionTable := #[], attributes := #[] }
def k4m0 : Method := { name := "<init>", desc := "(J)V", sig := { parameters := [.long], returnType := none }, accessFlags := 1, code := some k4c0 }
def k4c1 : Code := { maxStack := 3, maxLocals := 3, code := prog_4_method_2_code, exceptionTable := #[], attributes := #[] }
def k4m1 : Method := { name := "maxPermits", desc := "(D)D", sig := { parameters := [.double], returnType := some .double }, accessFlags := 1, code := some k4c1 }
def k4c2 : Code := { maxStack := 5, maxLocals := 3, code := prog_4_method_4_code, exceptionTable := #[], attributes := #[] }
def k4m2 : Method := { name := "refillMicros", desc := "(D)D", sig := { parameters := [.double], returnType := some .double }, accessFlags := 1, code := some k4c2 }
def k4c3 : Code := { maxStack := 10, maxLocals := 3, code := prog_4_method_6_code, exceptionTable := #[], attributes := #[] }
def k4m3 : Method := { name := "maxPermitsAt", desc := "(D)D", sig := { parameters := [.double], returnType := some .double }, accessFlags := 2, code := some k4c3 }
def k4c4 : Code := { maxStack := 4, maxLocals := 3, code := prog_4_method_7_code, exceptionTable := #[], attributes := #[] }
def k4m4 : Method := { name := "threshold", desc := "(D)D", sig := { parameters := [.double], returnType := some .double }, accessFlags := 2, code := some k4c4 }
/-- com/example/refill/refill/BucketShape$WarmingUp -/
def k4 : Class := { plain "com/example/refill/refill/BucketShape$WarmingUp" (some 2) with
  accessFlags := 49
  interfaces := #[3]
  cf := some (fileOf pool4 8 #[.nestHost 14] #[{ accessFlags := 1, nameIndex := 5, descriptorIndex := 55, attributes := #[] }, { accessFlags := 1, nameIndex := 24, descriptorIndex := 18, attributes := #[] }, { accessFlags := 1, nameIndex := 61, descriptorIndex := 18, attributes := #[] }, { accessFlags := 2, nameIndex := 21, descriptorIndex := 18, attributes := #[] }, { accessFlags := 2, nameIndex := 27, descriptorIndex := 18, attributes := #[] }] 49 2 #[14] #[{ accessFlags := 18, nameIndex := 11, descriptorIndex := 12, attributes := #[] }, { accessFlags := 26, nameIndex := 52, descriptorIndex := 53, attributes := #[] }])
  fields := #[{ name := "warmupMicros", type := .long, accessFlags := 18, slot := 0, constantValue := 0 }, { name := "COLD_FACTOR", type := .double, accessFlags := 26, slot := 0, constantValue := 0 }]
  methods := #[k4m0, k4m1, k4m2, k4m3, k4m4]
  instanceTypes := #[.long]
  staticTypes := #[.double]
  resolved := Array.replicate 90 none
  statics := none }

def pool5 : Array CpInfo := pool [(1, u "java/lang/Cloneable"), (0, .class_ 1), (0, u "java/lang/Object"), (0, .class_ 3)] 3

/-- java/lang/Cloneable -/
def k5 : Class := { plain "java/lang/Cloneable" (some 0) with
  accessFlags := 1537
  interfaces := #[]
  cf := some (fileOf pool5 2 #[] #[] 1537 4 #[] #[])
  fields := #[]
  methods := #[]
  instanceTypes := #[]
  staticTypes := #[]
  resolved := Array.replicate 8 none
  statics := none }

def pool6 : Array CpInfo := pool [(1, u "java/io/Serializable"), (0, .class_ 1), (0, u "java/lang/Object"), (0, .class_ 3)] 3

/-- java/io/Serializable -/
def k6 : Class := { plain "java/io/Serializable" (some 0) with
  accessFlags := 1537
  interfaces := #[]
  cf := some (fileOf pool6 2 #[] #[] 1537 4 #[] #[])
  fields := #[]
  methods := #[]
  instanceTypes := #[]
  staticTypes := #[]
  resolved := Array.replicate 8 none
  statics := none }

/-- the primitive byte -/
def k7 : Class := { plain "byte" none with kind := .primitive 'B', accessFlags := 0x411 }
/-- [B -/
def k8 : Class := { plain "[B" (some 0) with kind := .array 7 .byte, interfaces := #[5, 6], accessFlags := 1041 }

/-- the primitive int -/
def k9 : Class := { plain "int" none with kind := .primitive 'I', accessFlags := 0x411 }
/-- [I -/
def k10 : Class := { plain "[I" (some 0) with kind := .array 9 .int, interfaces := #[5, 6], accessFlags := 1041 }

def heap : Heap := #[]
def classes : Array Class := #[k0, k1, k2, k3, k4, k5, k6, k7, k8, k9, k10]
def interned : List (Array UInt16 × Addr) := []
def slotsUsed : Nat := 0
def theMethod : MethodId := ⟨1, 1⟩
def args0 : Array Value := #[.int 5, .int 5, .int 5]
def aboutOver (below : List Frame) : State where
  vm := { classes := classes, interned := interned.toArray }
  heap := heap
  slotsUsed := slotsUsed
  threads := #[{ frames := .invoking theMethod args0 :: below }]
def below0 : List Frame := [.native { method := ⟨0, 0⟩, args := #[] }]
def about1 : State := aboutOver below0
def p0 : Program := .bare "" "" ""
def e0 : Env := launch0.env 0 0 0
theorem w_frames : about1.frames = Frame.invoking theMethod args0 :: below0 := rfl
set_option maxRecDepth 65536 in
theorem w_args : argsFit about1.vm theMethod args0 = true := by decide +kernel
set_option maxRecDepth 65536 in
theorem w_heap : heapFits about1 = true := by decide +kernel
set_option maxRecDepth 65536 in
theorem w_runnable : about1.curStatus? = some .runnable := by decide +kernel
set_option maxRecDepth 65536 in
theorem w_alone : about1.alone = true := by decide +kernel
set_option maxRecDepth 65536 in
theorem w_named : about1.methodNamed? x = some theMethod := by decide +kernel
set_option maxRecDepth 65536 in
theorem w_hears : about1.hears theMethod below0 = true := by decide +kernel
set_option maxRecDepth 65536 in
theorem w_ripe : about1.ripe theMethod args0 below0 = true := by decide +kernel
theorem w_running : about1.status = .running := rfl
set_option maxRecDepth 65536 in
theorem w_room : about1.hasRoom e0.platform room_1 = true :=
  launch0.hasRoom_least _ room_1 (by decide +kernel) (by decide +kernel) (by decide +kernel) (by decide +kernel) (by decide +kernel) (by decide +kernel)
theorem allAtoms_all (ts : List Jvm.Cond) (a : Array Jvm.Value) (st : Jvm.State) : (allAtoms ts).before a st = ts.all (fun c => c.before a st) := by
  induction ts with
  | nil => rfl
  | cons c t ih =>
    show (Jvm.Cond.and c (allAtoms t)).before a st = _
    rw [Jvm.Cond.before_and, ih, List.all_cons]
def words1 : List Jvm.Cond := Jvm.Cond.code x code maxLocals ret :: tables_1
/-- a 'code' word, met by the world's own term for the bytes: nothing is compared byte by byte -/
theorem code_word {y : MethodName} {bytes : ByteArray} {mx : Nat} {rt : Option FieldType} {a : Array Value} {s : State} {m : MethodId} {meth : Method} {c : Code} (h1 : s.methodNamed? y = some m) (h2 : s.vm.method? m = some meth) (h3 : meth.code = some c) (h4 : c.code = bytes)
    (h5 : (c.maxLocals == mx && c.exceptionTable.isEmpty && decide (c.maxStack ≤ mostOperands) && decide (meth.sig.returnType = rt) && !meth.locks && decide (parseMethodDescriptor y.desc = some meth.sig)) = true) : (Jvm.Cond.code y bytes mx rt).before a s = true := by
  simp only [Bool.and_eq_true, beq_iff_eq, Bool.not_eq_true', decide_eq_true_eq] at h5
  obtain ⟨⟨⟨⟨⟨g1, g2⟩, g3⟩, g4⟩, g5⟩, g6⟩ := h5
  simp [Cond.before, Cond.holds, Cond.value, h1, h2, h3, h4, g1, g2, g3, g4, g5, g6]
def isCode : Jvm.Cond → Bool
  | .code _ _ _ _ => true
  | _ => false
theorem all_split {L : List Jvm.Cond} {P : Jvm.Cond → Bool} (h1 : L.all (fun c => isCode c || P c) = true) (h2 : ∀ c ∈ L.filter isCode, P c = true) : L.all P = true := by
  refine List.all_eq_true.mpr fun c hc => ?_
  have h := List.all_eq_true.mp h1 c hc
  rcases Bool.eq_false_or_eq_true (isCode c) with hi | hi
  · exact h2 c (List.mem_filter.mpr ⟨hc, hi⟩)
  · simpa [hi] using h
set_option maxRecDepth 65536 in
theorem w_c0 : (Jvm.Cond.code x code maxLocals ret).before args0 about1 = true := code_word (m := ⟨1, 1⟩) (meth := k1m1) (c := k1c1) (by decide +kernel) rfl rfl rfl (by decide +kernel)
set_option maxRecDepth 65536 in
theorem w_c1 : (Jvm.Cond.code ({ cls := "com/example/refill/refill/BucketShape$WarmingUp", name := "<init>", desc := "(J)V" } : Jvm.MethodName) prog_4_method_1_code (3 : Nat) (Option.none : Option Jvm.ClassFile.FieldType)).before args0 about1 = true := code_word (m := ⟨4, 0⟩) (meth := k4m0) (c := k4c0) (by decide +kernel) rfl rfl rfl (by decide +kernel)
set_option maxRecDepth 65536 in
theorem w_c2 : (Jvm.Cond.code ({ cls := "java/lang/Record", name := "<init>", desc := "()V" } : Jvm.MethodName) jdk_30_method_1_code (1 : Nat) (Option.none : Option Jvm.ClassFile.FieldType)).before args0 about1 = true := code_word (m := ⟨2, 0⟩) (meth := k2m0) (c := k2c0) (by decide +kernel) rfl rfl rfl (by decide +kernel)
set_option maxRecDepth 65536 in
theorem w_c3 : (Jvm.Cond.code ({ cls := "java/lang/Object", name := "<init>", desc := "()V" } : Jvm.MethodName) object_method_1_code (1 : Nat) (Option.none : Option Jvm.ClassFile.FieldType)).before args0 about1 = true := code_word (m := ⟨0, 0⟩) (meth := k0m0) (c := k0c0) (by decide +kernel) rfl rfl rfl (by decide +kernel)
set_option maxRecDepth 65536 in
theorem w_c4 : (Jvm.Cond.code ({ cls := "com/example/refill/refill/BucketShape$WarmingUp", name := "refillMicros", desc := "(D)D" } : Jvm.MethodName) prog_4_method_4_code (3 : Nat) (Option.some Jvm.ClassFile.FieldType.double)).before args0 about1 = true := code_word (m := ⟨4, 2⟩) (meth := k4m2) (c := k4c2) (by decide +kernel) rfl rfl rfl (by decide +kernel)
set_option maxRecDepth 65536 in
theorem w_c5 : (Jvm.Cond.code ({ cls := "com/example/refill/refill/BucketShape$WarmingUp", name := "maxPermits", desc := "(D)D" } : Jvm.MethodName) prog_4_method_2_code (3 : Nat) (Option.some Jvm.ClassFile.FieldType.double)).before args0 about1 = true := code_word (m := ⟨4, 1⟩) (meth := k4m1) (c := k4c1) (by decide +kernel) rfl rfl rfl (by decide +kernel)
set_option maxRecDepth 65536 in
theorem w_c6 : (Jvm.Cond.code ({ cls := "com/example/refill/refill/BucketShape", name := "intervalMicros", desc := "(D)D" } : Jvm.MethodName) prog_2_method_1_code (2 : Nat) (Option.some Jvm.ClassFile.FieldType.double)).before args0 about1 = true := code_word (m := ⟨3, 0⟩) (meth := k3m0) (c := k3c0) (by decide +kernel) rfl rfl rfl (by decide +kernel)
set_option maxRecDepth 65536 in
theorem w_c7 : (Jvm.Cond.code ({ cls := "com/example/refill/refill/BucketShape$WarmingUp", name := "maxPermitsAt", desc := "(D)D" } : Jvm.MethodName) prog_4_method_6_code (3 : Nat) (Option.some Jvm.ClassFile.FieldType.double)).before args0 about1 = true := code_word (m := ⟨4, 3⟩) (meth := k4m3) (c := k4c3) (by decide +kernel) rfl rfl rfl (by decide +kernel)
set_option maxRecDepth 65536 in
theorem w_c8 : (Jvm.Cond.code ({ cls := "com/example/refill/refill/BucketShape$WarmingUp", name := "threshold", desc := "(D)D" } : Jvm.MethodName) prog_4_method_7_code (3 : Nat) (Option.some Jvm.ClassFile.FieldType.double)).before args0 about1 = true := code_word (m := ⟨4, 4⟩) (meth := k4m4) (c := k4c4) (by decide +kernel) rfl rfl rfl (by decide +kernel)
def codes1 : List Jvm.Cond := [Jvm.Cond.code x code maxLocals ret, Jvm.Cond.code ({ cls := "com/example/refill/refill/BucketShape$WarmingUp", name := "<init>", desc := "(J)V" } : Jvm.MethodName) prog_4_method_1_code (3 : Nat) (Option.none : Option Jvm.ClassFile.FieldType), Jvm.Cond.code ({ cls := "java/lang/Record", name := "<init>", desc := "()V" } : Jvm.MethodName) jdk_30_method_1_code (1 : Nat) (Option.none : Option Jvm.ClassFile.FieldType), Jvm.Cond.code ({ cls := "java/lang/Object", name := "<init>", desc := "()V" } : Jvm.MethodName) object_method_1_code (1 : Nat) (Option.none : Option Jvm.ClassFile.FieldType), Jvm.Cond.code ({ cls := "com/example/refill/refill/BucketShape$WarmingUp", name := "refillMicros", desc := "(D)D" } : Jvm.MethodName) prog_4_method_4_code (3 : Nat) (Option.some Jvm.ClassFile.FieldType.double), Jvm.Cond.code ({ cls := "com/example/refill/refill/BucketShape$WarmingUp", name := "maxPermits", desc := "(D)D" } : Jvm.MethodName) prog_4_method_2_code (3 : Nat) (Option.some Jvm.ClassFile.FieldType.double), Jvm.Cond.code ({ cls := "com/example/refill/refill/BucketShape", name := "intervalMicros", desc := "(D)D" } : Jvm.MethodName) prog_2_method_1_code (2 : Nat) (Option.some Jvm.ClassFile.FieldType.double), Jvm.Cond.code ({ cls := "com/example/refill/refill/BucketShape$WarmingUp", name := "maxPermitsAt", desc := "(D)D" } : Jvm.MethodName) prog_4_method_6_code (3 : Nat) (Option.some Jvm.ClassFile.FieldType.double), Jvm.Cond.code ({ cls := "com/example/refill/refill/BucketShape$WarmingUp", name := "threshold", desc := "(D)D" } : Jvm.MethodName) prog_4_method_7_code (3 : Nat) (Option.some Jvm.ClassFile.FieldType.double)]
set_option maxRecDepth 65536 in
theorem codes_eq : words1.filter isCode = codes1 := rfl
theorem w_codes : ∀ c ∈ words1.filter isCode, c.before args0 about1 = true := by
  rw [codes_eq]
  intro c hc
  simp only [codes1, List.mem_cons, List.not_mem_nil, or_false] at hc
  rcases hc with rfl | rfl | rfl | rfl | rfl | rfl | rfl | rfl | rfl
  · exact w_c0
  · exact w_c1
  · exact w_c2
  · exact w_c3
  · exact w_c4
  · exact w_c5
  · exact w_c6
  · exact w_c7
  · exact w_c8
set_option maxRecDepth 65536 in
theorem w_t1 : (words1.take 24).all (fun c => isCode c || c.before args0 about1) = true := by decide +kernel
set_option maxRecDepth 65536 in
theorem w_t2 : (words1.drop 24).all (fun c => isCode c || c.before args0 about1) = true := by decide +kernel
theorem w_tables : (allAtoms (Jvm.Cond.code x code maxLocals ret :: tables_1)).before args0 about1 = true := by
  rw [allAtoms_all]
  show words1.all (fun c => c.before args0 about1) = true
  refine all_split ?_ w_codes
  rw [← List.take_append_drop 24 words1, List.all_append, w_t1, w_t2]
  rfl
set_option maxRecDepth 65536 in
theorem w_case : (Jvm.Cond.and given_1 narrow_1).before args0 about1 = true := by decide +kernel
theorem w_applies : (headSpec (Jvm.Cond.code x code maxLocals ret :: tables_1) room_1).applies x e0.platform about1 = true :=
  (Spec.applies_iff w_frames).mpr ⟨w_running, w_runnable, w_alone, w_named, w_hears, w_ripe, w_room, w_tables⟩
theorem atStart : AtStart classFile x code maxLocals ret World_1 tables_1 room_1 Calls_1 rest_1 Pre_1 launch0 p0 e0 about1 theMethod args0 below0 :=
  ⟨lists_1, trivial, launch0.admits_env _ _ _, launch0.least_env, fairChoices_fair.cas, fairChoices_fair.clock, w_frames, w_args, w_heap, w_applies, trivial, trivial, w_case⟩
end start1
theorem witness_1 : WitnessClaimed_1 := ⟨start1.p0, start1.e0, start1.about1, start1.theMethod, start1.args0, start1.below0, start1.atStart⟩
end Jvm.Pilot.@@N@@
