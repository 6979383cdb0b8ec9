import JvmDerived
import JvmDerived.Pilot.@@N@@Statement
import JvmDerived.Pilot.@@N@@Code
set_option linter.unusedVariables false
set_option linter.unusedSimpArgs false
@@BLOCK:NumsL.lean.txt@@
namespace Jvm.Pilot.@@N@@
open Jvm Jvm.ClassFile Sem Op Lib Jvm.Free Jvm.Stand Jvm.LawKit Jvm.RoadKit Bundle Jvm.Pilot.@@N@@.Jvm.D
/-- from here the run comes to a state of which P holds -/
def own_Go (tb : Tables) (e : Env) (below : List Frame) (P : State → Prop) (T : State) (g : JFrame) : Prop := ∃ t, Steps tb e below (T.setTop g) t ∧ P t
theorem own_st {tb : Tables} {e : Env} {below : List Frame} {P : State → Prop} {T T' : State} {g g' : JFrame} (h : ∀ t, Steps tb e below (T'.setTop g') t → Steps tb e below (T.setTop g) t) (k : own_Go tb e below P T' g') : own_Go tb e below P T g := by
  obtain ⟨t, a, b⟩ := k; exact ⟨t, h t a, b⟩
/-- what the end of a body must be -/
def own_P (s : State) (below : List Frame) (Q : Option Value → Heap → List Loc → Prop) (C S : Nat) (t : State) : Prop := t.status = .running ∧ ∃ o, Ended t below o ∧ ∃ v L, o = .returned v ∧ Q v t.heap L ∧ FrameEnd s o t L C S
/-- .. of a body that may have interned -/
def own_PW (s : State) (below : List Frame) (Q : Option Value → Heap → List Loc → Prop) (C S : Nat) (t : State) : Prop := t.status = .running ∧ ∃ o, Ended t below o ∧ ∃ v L, o = .returned v ∧ Q v t.heap L ∧ ReturnedEndW s o t L C S
section own
variable {p : Program} {l : Launch} {e : Env} {R : Room} {s : State} {m : MethodId} {args : Array Value} {below : List Frame} {meth : Method} {c : Code} {T : State} {locs : List Loc} {cells slots : Nat} {Qo : Option Value → Heap → List Loc → Prop} {C' S' : Nat}
theorem own_out (X : Stand p l e R s m args below meth c T locs cells slots) {v : Option Value} {g : JFrame} (hv : meth.sig.returnType = none → v = none) (hlocks : meth.locks = false)
    (hst : ∀ fs, (∀ (f : JFrame) (acts : List Action), f.method = m → f.locked = none → f.entered = [] → (doReturn e (T.setTop f) acts v).1 = T.setFrames fs) → Steps p.tables e below (T.setTop g) (T.setFrames fs))
    (hc : cells ≤ C') (hs : slots ≤ S') (hq : Qo v T.heap locs) : own_Go p.tables e below (own_P s below Qo C' S') T g := by
  obtain ⟨fs, hr, hrun, hended, hW, hsame⟩ := X.leave (v := v) hv hlocks
  exact ⟨_, hst fs hr, hrun, _, hended, _, _, rfl, hq, ⟨_, rfl⟩, hW, hsame.mono hc hs⟩
theorem own_outW {vm0 : Vm} (X : Stand p l e R (s.setVm vm0) m args below meth c T locs cells slots) {k0 : Nat} (hS : s.Since vm0 k0) (hk : k0 ≤ T.heap.size) {v : Option Value} {g : JFrame} (hv : meth.sig.returnType = none → v = none) (hlocks : meth.locks = false)
    (hst : ∀ fs, (∀ (f : JFrame) (acts : List Action), f.method = m → f.locked = none → f.entered = [] → (doReturn e (T.setTop f) acts v).1 = T.setFrames fs) → Steps p.tables e below (T.setTop g) (T.setFrames fs))
    (hc : cells ≤ C') (hs : slots ≤ S') (hq : Qo v T.heap locs) : own_Go p.tables e below (own_PW s below Qo C' S') T g := by
  obtain ⟨fs, hr, hrun, hended, hW⟩ := X.leaveW hS hk (v := v) hv hlocks
  exact ⟨_, hst fs hr, hrun, _, hended, _, _, rfl, hq, hW.1, hW.2.1, hW.2.2.1, hW.2.2.2.mono hc hs⟩
theorem own_retI (X : Stand p l e R s m args below meth c T locs cells slots) (hx : p.tables.exec = Jvm.exec) {pc : Nat} {Ls : Array Slot} {z : Int32} {rest : List Value} (hret : meth.sig.returnType = some .int) (hd : decode c.code pc = .ok (.ireturn, 1)) (fs : List Frame)
    (hl : ∀ (f : JFrame) (acts : List Action), f.method = m → f.locked = none → f.entered = [] → (doReturn e (T.setTop f) acts (some (.int z))).1 = T.setFrames fs) : Steps p.tables e below (T.setTop (mkF m pc Ls (.int z :: rest))) (T.setFrames fs) :=
  retOut X hx hret rfl (Or.inl ⟨rfl, Or.inl rfl, _, rfl⟩) hd hl
theorem own_retZ (X : Stand p l e R s m args below meth c T locs cells slots) (hx : p.tables.exec = Jvm.exec) {pc : Nat} {Ls : Array Slot} {z : Int32} {rest : List Value} (hret : meth.sig.returnType = some .boolean) (hd : decode c.code pc = .ok (.ireturn, 1)) (hb : z = 0 ∨ z = 1) (fs : List Frame)
    (hl : ∀ (f : JFrame) (acts : List Action), f.method = m → f.locked = none → f.entered = [] → (doReturn e (T.setTop f) acts (some (.int z))).1 = T.setFrames fs) : Steps p.tables e below (T.setTop (mkF m pc Ls (.int z :: rest))) (T.setFrames fs) := by
  have e1 : nar .boolean z = z := by rcases hb with rfl | rfl <;> decide
  exact retN X hx hret (Or.inl rfl) hd (by rw [e1]; exact hl)
theorem own_retJ (X : Stand p l e R s m args below meth c T locs cells slots) (hx : p.tables.exec = Jvm.exec) {pc : Nat} {Ls : Array Slot} {z : Int64} {rest : List Value} (hret : meth.sig.returnType = some .long) (hd : decode c.code pc = .ok (.lreturn, 1)) (fs : List Frame)
    (hl : ∀ (f : JFrame) (acts : List Action), f.method = m → f.locked = none → f.entered = [] → (doReturn e (T.setTop f) acts (some (.long z))).1 = T.setFrames fs) : Steps p.tables e below (T.setTop (mkF m pc Ls (.long z :: rest))) (T.setFrames fs) :=
  retOut X hx hret rfl (Or.inr (Or.inl ⟨rfl, rfl, _, rfl⟩)) hd hl
theorem own_retD (X : Stand p l e R s m args below meth c T locs cells slots) (hx : p.tables.exec = Jvm.exec) {pc : Nat} {Ls : Array Slot} {z : UInt64} {rest : List Value} (hret : meth.sig.returnType = some .double) (hd : decode c.code pc = .ok (.dreturn, 1)) (fs : List Frame)
    (hl : ∀ (f : JFrame) (acts : List Action), f.method = m → f.locked = none → f.entered = [] → (doReturn e (T.setTop f) acts (some (.double z))).1 = T.setFrames fs) : Steps p.tables e below (T.setTop (mkF m pc Ls (.double z :: rest))) (T.setFrames fs) :=
  retOut X hx hret rfl (Or.inr (Or.inr (Or.inl ⟨rfl, rfl, _, rfl⟩))) hd hl
theorem own_retR (X : Stand p l e R s m args below meth c T locs cells slots) (hx : p.tables.exec = Jvm.exec) {pc : Nat} {Ls : Array Slot} {w : Value} {t : FieldType} {rest : List Value} (hret : meth.sig.returnType = some t) (ht : t.isReference = true) (hw : w.isRef = true) (hn : narrow t w = w) (hd : decode c.code pc = .ok (.areturn, 1)) (fs : List Frame)
    (hl : ∀ (f : JFrame) (acts : List Action), f.method = m → f.locked = none → f.entered = [] → (doReturn e (T.setTop f) acts (some w)).1 = T.setFrames fs) : Steps p.tables e below (T.setTop (mkF m pc Ls (w :: rest))) (T.setFrames fs) :=
  retOut X hx hret hn (Or.inr (Or.inr (Or.inr (Or.inr ⟨rfl, ht, hw⟩)))) hd hl
end own
/-- a private method is the one that is picked -/
theorem own_selp {s : State} {args : Array Value} {y : MethodName} {n : Nat} (hi : (Jvm.Cond.instantiable y.cls n).before args s = true) (hp : s.PrivateAt y) (hm : (Jvm.Cond.instanceMethod y).before args s = true) (hy : y.cls ≠ "java/lang/invoke/MethodHandle" ∧ y.cls ≠ "java/lang/invoke/VarHandle") : (Jvm.Cond.selects y.cls y y).before args s = true := by
  obtain ⟨c, k, h1, h2, -, h4, -⟩ := Cond.instantiable_spec hi
  exact selects_self_of_private h1 h2 (Bool.or_eq_false_iff.mp h4).1 hp hm hy
theorem own_staK {Z : State} {h h' : Heap} {C n d : String} {v : Value} {ws : List Addr} (F : Sta Z h C n d v) (K : Keep h h' ws) (q : ∀ x ∈ ws, ∃ D, Exa Z h x D) : Sta Z h' C n d v := by
  obtain ⟨cf, i, k, f, st, cell, h1, h2, h3, h4, h5, h6, h7⟩ := F
  refine ⟨cf, i, k, f, st, cell, h1, h2, h3, h4, K.2.1 st cell h5 (fun hm => ?_), h6, h7⟩
  obtain ⟨D, c', k', e1, -, -, e4, -⟩ := q st hm
  cases h5.symm.trans e1
  rw [h6] at e4; cases e4
/-- a reference or null -/
theorem own_refOf {w : Value} (h : w.isRef = true) (c : ¬ w = Value.null) : ∃ a, w = .ref a := (ref_cases h).resolve_left c
theorem own_nW {t : FieldType} {w : Value} (ht : t.isReference = true) (h : w.isRef = true) : narrow t w = w := by
  rcases ref_cases h with rfl | ⟨a, rfl⟩ <;> cases t <;> first | rfl | simp [FieldType.isReference] at ht
theorem own_fW {t : FieldType} {w : Value} (ht : t.isReference = true) (h : w.isRef = true) : fits t w = true := by
  rcases ref_cases h with rfl | ⟨a, rfl⟩ <;> cases t <;> first | rfl | simp [FieldType.isReference] at ht
theorem own_nb {z : Int32} (h : z = 0 ∨ z = 1) : narrow .boolean (.int z) = .int z := by rcases h with rfl | rfl <;> rfl
theorem own_fb {z : Int32} (h : z = 0 ∨ z = 1) : fits .boolean (.int z) = true := by rcases h with rfl | rfl <;> rfl
/-- lcmp and a branch, in one -/
def own_lcv : ClassFile.Cond → Int64 → Int64 → Prop
  | .lt, x, y => x < y | .ge, x, y => ¬ x < y | .gt, x, y => y < x | .le, x, y => ¬ y < x | .eq, x, y => x = y | .ne, x, y => ¬ x = y
theorem own_lcT {cd : ClassFile.Cond} {x y : Int64} (h : own_lcv cd x y) : ifCond.holds cd (lcmpW x y) = true := by
  rw [if0]
  cases cd
  · exact (teq ((lw_eq x y).mpr h)).1
  · exact (feq (fun q => h ((lw_eq x y).mp q))).2
  · exact (tlt ((lw_lt x y).mpr h)).1
  · exact (flt (fun q => h ((lw_lt x y).mp q))).2.1
  · exact (tlt ((lw_gt x y).mpr h)).2.2.1
  · exact (flt (fun q => h ((lw_gt x y).mp q))).2.2.2
theorem own_lcF {cd : ClassFile.Cond} {x y : Int64} (h : ¬ own_lcv cd x y) : ifCond.holds cd (lcmpW x y) = false := by
  rw [if0]
  cases cd
  · exact (feq (fun q => h ((lw_eq x y).mp q))).1
  · exact (teq (Classical.byContradiction fun q => h (fun r => q ((lw_eq x y).mpr r)))).2
  · exact (flt (fun q => h ((lw_lt x y).mp q))).1
  · exact (tlt (Classical.byContradiction fun q => h (fun r => q ((lw_lt x y).mpr r)))).2.1
  · exact (flt (fun q => h ((lw_gt x y).mp q))).2.2.1
  · exact (tlt (Classical.byContradiction fun q => h (fun r => q ((lw_gt x y).mpr r)))).2.2.2

theorem own_w {Z : State} {a0 : Array Value} (hw : ∀ d ∈ tables_1, d.before a0 Z = true) (i : Nat) {d : Jvm.Cond} (h : tables_1[i]? = some d) : d.before a0 Z = true := hw d (List.mem_of_getElem? h)
abbrev sI (x : Int32) : Slot := .val (.int x)
abbrev sJ (x : Int64) : Slot := .val (.long x)
abbrev sR (x : Addr) : Slot := .val (.ref x)
abbrev ym1 : MethodName := ⟨"java/lang/Math", "max", "(II)I"⟩
abbrev ym2 : MethodName := ⟨"java/lang/Integer", "numberOfLeadingZeros", "(I)I"⟩
abbrev ym3 : MethodName := ⟨"java/lang/Integer", "highestOneBit", "(I)I"⟩
abbrev ym4 : MethodName := ⟨"com/example/tidemark/tidemark/core/ThetaLambdaTree", "leavesFor", "(I)I"⟩
abbrev ym5 : MethodName := ⟨"java/lang/Math", "max", "(JJ)J"⟩
abbrev ym6 : MethodName := ⟨"com/example/tidemark/tidemark/core/ThetaLambdaTree", "<init>", "(I)V"⟩
abbrev ym7 : MethodName := ⟨"com/example/tidemark/tidemark/core/ThetaLambdaTree", "set", "(IJJJJ)V"⟩
abbrev ym8 : MethodName := ⟨"com/example/tidemark/tidemark/core/ThetaLambdaTree", "combine", "(I)V"⟩
abbrev ym9 : MethodName := ⟨"com/example/tidemark/tidemark/core/ThetaLambdaTree", "update", "(I)V"⟩
abbrev ym10 : MethodName := ⟨"com/example/tidemark/tidemark/core/ThetaLambdaTree", "gray", "(I)V"⟩
abbrev ym11 : MethodName := ⟨"com/example/tidemark/tidemark/core/ThetaLambdaTree", "remove", "(I)V"⟩
abbrev ym12 : MethodName := ⟨"com/example/tidemark/tidemark/core/ThetaLambdaTreeResponsibleGrayPinLaw", "apply", "(Lcom/example/tidemark/tidemark/core/ThetaLambdaTree;III)V"⟩
abbrev ym13 : MethodName := ⟨"com/example/tidemark/tidemark/core/ThetaLambdaTree", "fill", "(IJ[J[J)V"⟩
abbrev ym14 : MethodName := ⟨"com/example/tidemark/tidemark/core/ThetaLambdaTreeResponsibleGrayPinLaw", "member", "([III)Z"⟩
abbrev ym15 : MethodName := ⟨"com/example/tidemark/tidemark/core/ThetaLambdaTreeResponsibleGrayPinLaw", "env", "(J[J[J[II)J"⟩
abbrev ym16 : MethodName := ⟨"com/example/tidemark/tidemark/core/ThetaLambdaTreeResponsibleGrayPinLaw", "withGray", "(JJ[J[J[II)J"⟩
abbrev ym17 : MethodName := ⟨"com/example/tidemark/tidemark/core/ThetaLambdaTree", "responsibleGray", "()I"⟩
abbrev qc1 : ByteArray := jdk_29_method_65_code
abbrev qc2 : ByteArray := jdk_33_method_47_code
abbrev qc3 : ByteArray := jdk_33_method_45_code
abbrev qc4 : ByteArray := prog_46_method_2_code
abbrev qc5 : ByteArray := jdk_29_method_66_code
abbrev qc6 : ByteArray := prog_46_method_1_code
abbrev qc7 : ByteArray := prog_46_method_9_code
abbrev qc8 : ByteArray := prog_46_method_11_code
abbrev qc9 : ByteArray := prog_46_method_10_code
abbrev qc10 : ByteArray := prog_46_method_4_code
abbrev qc11 : ByteArray := prog_46_method_5_code
abbrev qc12 : ByteArray := method_3_code
abbrev qc13 : ByteArray := prog_46_method_3_code
abbrev qc14 : ByteArray := method_5_code
abbrev qc15 : ByteArray := method_6_code
abbrev qc16 : ByteArray := method_4_code
abbrev qc17 : ByteArray := prog_46_method_8_code
theorem own_pd__I_I : parseMethodDescriptor "(I)I" = some ⟨[.int], some .int⟩ := by decide +kernel
theorem own_pd__II_I : parseMethodDescriptor "(II)I" = some ⟨[.int, .int], some .int⟩ := by decide +kernel
theorem own_pd__JJ_J : parseMethodDescriptor "(JJ)J" = some ⟨[.long, .long], some .long⟩ := by decide +kernel
theorem own_pd__IJJJJ_V : parseMethodDescriptor "(IJJJJ)V" = some ⟨[.int, .long, .long, .long, .long], none⟩ := by decide +kernel
theorem own_pd__I_V : parseMethodDescriptor "(I)V" = some ⟨[.int], none⟩ := by decide +kernel
theorem own_pd___III_Z : parseMethodDescriptor "([III)Z" = some ⟨[(.array .int), .int, .int], some .boolean⟩ := by decide +kernel
theorem own_pd__J_J_J_II_J : parseMethodDescriptor "(J[J[J[II)J" = some ⟨[.long, (.array .long), (.array .long), (.array .int), .int], some .long⟩ := by decide +kernel
theorem own_pd__IJ_J_J_V : parseMethodDescriptor "(IJ[J[J)V" = some ⟨[.int, .long, (.array .long), (.array .long)], none⟩ := by decide +kernel
theorem own_pd__Lcom_example_tidemark_tidemark_core_ThetaLambdaTree_III_V : parseMethodDescriptor "(Lcom/example/tidemark/tidemark/core/ThetaLambdaTree;III)V" = some ⟨[(.object "com/example/tidemark/tidemark/core/ThetaLambdaTree"), .int, .int, .int], none⟩ := by decide +kernel
theorem own_pd__JJ_J_J_II_J : parseMethodDescriptor "(JJ[J[J[II)J" = some ⟨[.long, .long, (.array .long), (.array .long), (.array .int), .int], some .long⟩ := by decide +kernel
theorem own_pd___I : parseMethodDescriptor "()I" = some ⟨[], some .int⟩ := by decide +kernel
def own_updI (g : Nat → Int32) (j : Nat) (x : Int32) : Nat → Int32 := fun i => if i = j then x else g i
def own_updJ (g : Nat → Int64) (j : Nat) (x : Int64) : Nat → Int64 := fun i => if i = j then x else g i
theorem own_lt {c : Cell} {j : Int32} (q : ¬ (j < 0 ∨ c.slots.size ≤ j.toNatClampNeg)) : j.toNatClampNeg < c.slots.size := Nat.lt_of_not_le fun y => q (Or.inr y)
/-- an array of her own kind, its content as a function -/
def own_AI (Z : State) (h : Heap) (a : Addr) (k : ClassId) (z : Int32) (g : Nat → Int32) : Prop := ∃ c : Cell, Arr Z h a c .int ∧ c.cls = k ∧ c.slots.size = z.toNatClampNeg ∧ ¬ z < 0 ∧ ∀ i, i < c.slots.size → c.slots[i]? = some (.int (g i))
section own_AI
variable {Z : State} {h h' : Heap} {a b : Addr} {k : ClassId} {z j : Int32} {g : Nat → Int32} {sl : Nat} {v : Value} {ws : List Addr}
theorem own_AI.lt (F : own_AI Z h a k z g) : a < h.size := by obtain ⟨c, A, -⟩ := F; exact A.lt
theorem own_AI.ext (F : own_AI Z h a k z g) (E : Ext h h') : own_AI Z h' a k z g := by obtain ⟨c, A, r⟩ := F; exact ⟨c, A.ext E, r⟩
theorem own_AI.other (F : own_AI Z h b k z g) (W : Wr h h' a sl v) (q : b ≠ a) : own_AI Z h' b k z g := by obtain ⟨c, A, r⟩ := F; exact ⟨c, A.other W q, r⟩
theorem own_AI.keep (F : own_AI Z h a k z g) (K : Keep h h' ws) (q : a ∉ ws) : own_AI Z h' a k z g := by obtain ⟨c, A, r⟩ := F; exact ⟨c, ⟨K.2.1 a c A.1 q, A.2⟩, r⟩
theorem own_AI.new (A : Arr Z h a (newA k .int z) .int) (q : ¬ z < 0) : own_AI Z h a k z (fun _ => 0) := by
  obtain ⟨c, r1, r2, r3, r4, r5, -⟩ := Arv.new A q
  exact ⟨c, r1, r2, r3, r4, fun i hi => by rw [r5 i hi]; rfl⟩
theorem own_AI.set {x : Int32} (F : own_AI Z h a k z g) (W : Wr h h' a j.toNatClampNeg (.int x)) : own_AI Z h' a k z (own_updI g j.toNatClampNeg x) := by
  obtain ⟨c, r1, r2, r3, r4, r5⟩ := F
  refine ⟨_, r1.same W, r2, by rw [sz_set]; exact r3, r4, fun i hi => ?_⟩
  rw [sz_set] at hi
  unfold own_updI
  by_cases u : i = j.toNatClampNeg
  · subst u; simp [Cell.setSlot, hi]
  · rw [if_neg u]; have := r5 i hi; simp only [Cell.setSlot] at this ⊢; rw [Array.getElem?_setIfInBounds_ne (Ne.symm u)]; exact this
theorem own_fitI {c : Cell} (A : Arr Z h a c .int) (H : ∀ i, i < c.slots.size → c.slots[i]? = some (.int (g i))) : FitC Z c := fitC_of A fun i hi v hv => by rw [H i hi] at hv; cases hv; rfl
theorem own_AI.clone {c : Cell} (H : ∀ i, i < c.slots.size → c.slots[i]? = some (.int (g i))) (q : c.cls = k) (S : c.slots.size = z.toNatClampNeg) (N : ¬ z < 0) (A : Arr Z h' b (cloneOf c) .int) : own_AI Z h' b k z g := ⟨_, A, q, S, N, H⟩
end own_AI

/-- an array of her own kind, its content as a function -/
def own_AJ (Z : State) (h : Heap) (a : Addr) (k : ClassId) (z : Int32) (g : Nat → Int64) : Prop := ∃ c : Cell, Arr Z h a c .long ∧ c.cls = k ∧ c.slots.size = z.toNatClampNeg ∧ ¬ z < 0 ∧ ∀ i, i < c.slots.size → c.slots[i]? = some (.long (g i))
section own_AJ
variable {Z : State} {h h' : Heap} {a b : Addr} {k : ClassId} {z j : Int32} {g : Nat → Int64} {sl : Nat} {v : Value} {ws : List Addr}
theorem own_AJ.lt (F : own_AJ Z h a k z g) : a < h.size := by obtain ⟨c, A, -⟩ := F; exact A.lt
theorem own_AJ.ext (F : own_AJ Z h a k z g) (E : Ext h h') : own_AJ Z h' a k z g := by obtain ⟨c, A, r⟩ := F; exact ⟨c, A.ext E, r⟩
theorem own_AJ.other (F : own_AJ Z h b k z g) (W : Wr h h' a sl v) (q : b ≠ a) : own_AJ Z h' b k z g := by obtain ⟨c, A, r⟩ := F; exact ⟨c, A.other W q, r⟩
theorem own_AJ.keep (F : own_AJ Z h a k z g) (K : Keep h h' ws) (q : a ∉ ws) : own_AJ Z h' a k z g := by obtain ⟨c, A, r⟩ := F; exact ⟨c, ⟨K.2.1 a c A.1 q, A.2⟩, r⟩
theorem own_AJ.new (A : Arr Z h a (newA k .long z) .long) (q : ¬ z < 0) : own_AJ Z h a k z (fun _ => 0) := by
  obtain ⟨c, r1, r2, r3, r4, r5, -⟩ := Arv.new A q
  exact ⟨c, r1, r2, r3, r4, fun i hi => by rw [r5 i hi]; rfl⟩
theorem own_AJ.set {x : Int64} (F : own_AJ Z h a k z g) (W : Wr h h' a j.toNatClampNeg (.long x)) : own_AJ Z h' a k z (own_updJ g j.toNatClampNeg x) := by
  obtain ⟨c, r1, r2, r3, r4, r5⟩ := F
  refine ⟨_, r1.same W, r2, by rw [sz_set]; exact r3, r4, fun i hi => ?_⟩
  rw [sz_set] at hi
  unfold own_updJ
  by_cases u : i = j.toNatClampNeg
  · subst u; simp [Cell.setSlot, hi]
  · rw [if_neg u]; have := r5 i hi; simp only [Cell.setSlot] at this ⊢; rw [Array.getElem?_setIfInBounds_ne (Ne.symm u)]; exact this
theorem own_fitJ {c : Cell} (A : Arr Z h a c .long) (H : ∀ i, i < c.slots.size → c.slots[i]? = some (.long (g i))) : FitC Z c := fitC_of A fun i hi v hv => by rw [H i hi] at hv; cases hv; rfl
theorem own_AJ.clone {c : Cell} (H : ∀ i, i < c.slots.size → c.slots[i]? = some (.long (g i))) (q : c.cls = k) (S : c.slots.size = z.toNatClampNeg) (N : ¬ z < 0) (A : Arr Z h' b (cloneOf c) .long) : own_AJ Z h' b k z g := ⟨_, A, q, S, N, H⟩
end own_AJ

theorem d1_0 : decode qc1 0 = .ok (.iload_n 0, 1) := by decide +kernel
theorem d1_1 : decode qc1 1 = .ok (.iload_n 1, 1) := by decide +kernel
theorem d1_2 : decode qc1 2 = .ok (.if_icmp .lt 7, 3) := by decide +kernel
theorem d1_5 : decode qc1 5 = .ok (.iload_n 0, 1) := by decide +kernel
theorem d1_6 : decode qc1 6 = .ok (.goto 4, 3) := by decide +kernel
theorem d1_10 : decode qc1 10 = .ok (.ireturn, 1) := by decide +kernel
theorem own_ef1 (m : MethodId)  : entryFrame m #[(.int (1 : Int32)), (.int (1 : Int32))] 2 = mkF m 0 #[sI (1 : Int32), sI (1 : Int32)] [] := by first | (simp [entryFrame, mkF, argsToLocals, Value.category]; done) | rfl
def Q1 (Z : State)  (h0 : Heap) (n0 : Nat) (v : Option Value) (h : Heap) (L : List Loc) : Prop := v = some (.int (1 : Int32)) ∧ Fr n0 L ∧ h = h0
set_option maxRecDepth 65536 in
set_option maxHeartbeats 4000000 in
theorem rm1 (l : Launch) (Z : State) (a0 : Array Value) (hw : ∀ d ∈ tables_1, d.before a0 Z = true) (ws : List Jvm.Cond)  (h0 : Heap) (n0 : Nat) (Z0 : n0 ≤ h0.size) :
    MetFree l ym1 (head1 (Jvm.Cond.code ym1 jdk_29_method_65_code 2 (some .int) :: ws) (⟨0, 0, 0, 0⟩ : Room)) (fun aW U => aW = #[(.int (1 : Int32)), (.int (1 : Int32))] ∧ Z.Warmed39 U.vm ∧ U.heap = h0) (fun _ _ _ _ _ => True) (fun _ U o U' => ∃ v L, o = .returned v ∧ Q1 Z  h0 n0 v U'.heap L ∧ FrameEnd U o U' L (⟨0, 0, 0, 0⟩ : Room).cells (⟨0, 0, 0, 0⟩ : Room).slots) := by
  refine MetFree.of_bodySF (Jvm.Free.JP.mathPlain rfl (by decide +kernel)) hisR ?_
  intro p e s m args below meth c s₁ Bd hml0 hP hK
  obtain ⟨rfl, hZ, hh⟩ := hP
  have hx := Bd.exec
  have hby := Bd.bytes
  have hml : c.maxLocals = 2 := hml0
  have hown : s.vm.findClass "java/lang/Math" = some m.cls := findClass_of_methodNamed Bd.named
  have hnm := (name_of_methodNamed Bd.named Bd.method).1
  have X0 : Stand p l e (⟨0, 0, 0, 0⟩ : Room) s m #[(.int (1 : Int32)), (.int (1 : Int32))] below meth c s₁ [] 0 0 := Stand.of_body Bd
  have e0 : s₁.heap = h0 := by rw [← hh, Bd.state]; rfl
  have N0 := Fr.nil n0
  obtain ⟨Pq, hPq⟩ : ∃ P, P = own_P s below (fun v h L => Q1 Z  h0 n0 v h L) (⟨0, 0, 0, 0⟩ : Room).cells (⟨0, 0, 0, 0⟩ : Room).slots := ⟨_, rfl⟩
  suffices hgo : own_Go p.tables e below Pq s₁ (mkF m 0 #[sI (1 : Int32), sI (1 : Int32)] []) by
    subst hPq
    obtain ⟨t, k1, k2, o, k3, k4⟩ := hgo
    exact ⟨t, o, castTop (own_ef1 m ) k1, k2, k3, k4⟩
  show own_Go _ _ _ _ s₁ (mkF m 0 #[sI (1 : Int32), sI (1 : Int32)] [])
  refine own_st (fun t k => XS.iloadN X0.here hx rfl (hb hby d1_0) rfl k) ?_
  show own_Go _ _ _ _ s₁ (mkF m 1 _ [(.int (1 : Int32))])
  refine own_st (fun t k => XS.iloadN X0.here hx rfl (hb hby d1_1) rfl k) ?_
  show own_Go _ _ _ _ s₁ (mkF m 2 _ [(.int (1 : Int32)), (.int (1 : Int32))])
  refine own_st (fun t k => XS.icmpNo X0.here hx rfl (hb hby d1_2) rfl (flt (by decide : ¬ ((1 : Int32) < (1 : Int32)))).1 k) ?_
  show own_Go _ _ _ _ s₁ (mkF m 5 _ [])
  refine own_st (fun t k => XS.iloadN X0.here hx rfl (hb hby d1_5) rfl k) ?_
  show own_Go _ _ _ _ s₁ (mkF m 6 _ [(.int (1 : Int32))])
  refine own_st (fun t k => XS.goto X0.here hx rfl (pc0 := 6) (pc' := 10) rfl (hb hby d1_6) (by decide) (by decide) k) ?_
  show own_Go _ _ _ _ s₁ (mkF m 10 _ [(.int (1 : Int32))])
  subst hPq
  refine own_out X0 (v := some (.int (1 : Int32))) (fun h => by rw [Bd.returns] at h; cases h) Bd.notSynchronized (own_retI X0 hx Bd.returns (hb hby d1_10)) (by decide) (by decide) ?_
  show Q1 Z  h0 n0 _ s₁.heap _
  rw [e0]
  exact ⟨rfl, N0, rfl⟩
theorem d2_0 : decode qc2 0 = .ok (.iload_n 0, 1) := by decide +kernel
theorem d2_1 : decode qc2 1 = .ok (.ifCond .gt 14, 3) := by decide +kernel
theorem d2_15 : decode qc2 15 = .ok (.bipush 31, 2) := by decide +kernel
theorem d2_17 : decode qc2 17 = .ok (.istore_n 1, 1) := by decide +kernel
theorem d2_18 : decode qc2 18 = .ok (.iload_n 0, 1) := by decide +kernel
theorem d2_19 : decode qc2 19 = .ok (.ldc_w 264, 3) := by decide +kernel
theorem d2_22 : decode qc2 22 = .ok (.if_icmp .lt 11, 3) := by decide +kernel
theorem d2_33 : decode qc2 33 = .ok (.iload_n 0, 1) := by decide +kernel
theorem d2_34 : decode qc2 34 = .ok (.sipush 256, 3) := by decide +kernel
theorem d2_37 : decode qc2 37 = .ok (.if_icmp .lt 11, 3) := by decide +kernel
theorem d2_48 : decode qc2 48 = .ok (.iload_n 0, 1) := by decide +kernel
theorem d2_49 : decode qc2 49 = .ok (.bipush 16, 2) := by decide +kernel
theorem d2_51 : decode qc2 51 = .ok (.if_icmp .lt 10, 3) := by decide +kernel
theorem d2_61 : decode qc2 61 = .ok (.iload_n 0, 1) := by decide +kernel
theorem d2_62 : decode qc2 62 = .ok (.iconst 4, 1) := by decide +kernel
theorem d2_63 : decode qc2 63 = .ok (.if_icmp .lt 10, 3) := by decide +kernel
theorem d2_73 : decode qc2 73 = .ok (.iload_n 1, 1) := by decide +kernel
theorem d2_74 : decode qc2 74 = .ok (.iload_n 0, 1) := by decide +kernel
theorem d2_75 : decode qc2 75 = .ok (.iconst 1, 1) := by decide +kernel
theorem d2_76 : decode qc2 76 = .ok (.iushr, 1) := by decide +kernel
theorem d2_77 : decode qc2 77 = .ok (.isub, 1) := by decide +kernel
theorem d2_78 : decode qc2 78 = .ok (.ireturn, 1) := by decide +kernel
theorem own_pn2 : plainName "java/lang/Integer" = true := by first | (simp [plainName, overriddenIn]; done) | decide +kernel
theorem own_ef2 (m : MethodId)  : entryFrame m #[(.int (1 : Int32))] 2 = mkF m 0 #[sI (1 : Int32), .unset] [] := by first | (simp [entryFrame, mkF, argsToLocals, Value.category]; done) | rfl
def Q2 (Z : State)  (h0 : Heap) (n0 : Nat) (v : Option Value) (h : Heap) (L : List Loc) : Prop := v = some (.int (31 : Int32)) ∧ Fr n0 L ∧ h = h0
set_option maxRecDepth 65536 in
set_option maxHeartbeats 4000000 in
theorem rm2 (l : Launch) (Z : State) (a0 : Array Value) (hw : ∀ d ∈ tables_1, d.before a0 Z = true) (ws : List Jvm.Cond)  (h0 : Heap) (n0 : Nat) (Z0 : n0 ≤ h0.size) :
    MetFree l ym2 (head1 (Jvm.Cond.code ym2 jdk_33_method_47_code 2 (some .int) :: ws) (⟨0, 0, 0, 0⟩ : Room)) (fun aW U => aW = #[(.int (1 : Int32))] ∧ Z.Warmed39 U.vm ∧ U.heap = h0) (fun _ _ _ _ _ => True) (fun _ U o U' => ∃ v L, o = .returned v ∧ Q2 Z  h0 n0 v U'.heap L ∧ FrameEnd U o U' L (⟨0, 0, 0, 0⟩ : Room).cells (⟨0, 0, 0, 0⟩ : Room).slots) := by
  refine MetFree.of_bodySF (plainFor_of_name own_pn2) hisR ?_
  intro p e s m args below meth c s₁ Bd hml0 hP hK
  obtain ⟨rfl, hZ, hh⟩ := hP
  have hx := Bd.exec
  have hby := Bd.bytes
  have hml : c.maxLocals = 2 := hml0
  have hown : s.vm.findClass "java/lang/Integer" = some m.cls := findClass_of_methodNamed Bd.named
  have hnm := (name_of_methodNamed Bd.named Bd.method).1
  have X0 : Stand p l e (⟨0, 0, 0, 0⟩ : Room) s m #[(.int (1 : Int32))] below meth c s₁ [] 0 0 := Stand.of_body Bd
  have e0 : s₁.heap = h0 := by rw [← hh, Bd.state]; rfl
  have N0 := Fr.nil n0
  obtain ⟨Pq, hPq⟩ : ∃ P, P = own_P s below (fun v h L => Q2 Z  h0 n0 v h L) (⟨0, 0, 0, 0⟩ : Room).cells (⟨0, 0, 0, 0⟩ : Room).slots := ⟨_, rfl⟩
  suffices hgo : own_Go p.tables e below Pq s₁ (mkF m 0 #[sI (1 : Int32), .unset] []) by
    subst hPq
    obtain ⟨t, k1, k2, o, k3, k4⟩ := hgo
    exact ⟨t, o, castTop (own_ef2 m ) k1, k2, k3, k4⟩
  show own_Go _ _ _ _ s₁ (mkF m 0 #[sI (1 : Int32), .unset] [])
  refine own_st (fun t k => XS.iloadN X0.here hx rfl (hb hby d2_0) rfl k) ?_
  show own_Go _ _ _ _ s₁ (mkF m 1 _ [(.int (1 : Int32))])
  refine own_st (fun t k => XS.ifYes X0.here hx rfl (pc0 := 1) (pc' := 15) rfl (hb hby d2_1) rfl ((if0 _ _).trans (tlt (by decide : ((0 : Int32) < (1 : Int32)))).2.2.1) (by decide) (by decide) k) ?_
  show own_Go _ _ _ _ s₁ (mkF m 15 _ [])
  refine own_st (fun t k => XS.bipush X0.here hx rfl (hb hby d2_15) k) ?_
  show own_Go _ _ _ _ s₁ (mkF m 17 _ [(.int (31 : Int32))])
  refine own_st (fun t k => XS.istoreN X0.here hx rfl (hb hby d2_17) rfl (l' := #[sI (1 : Int32), sI (31 : Int32)]) rfl k) ?_
  show own_Go _ _ _ _ s₁ (mkF m 18 #[sI (1 : Int32), sI (31 : Int32)] [])
  refine own_st (fun t k => XS.iloadN X0.here hx rfl (hb hby d2_18) rfl k) ?_
  show own_Go _ _ _ _ s₁ (mkF m 19 _ [(.int (1 : Int32))])
  refine own_st (fun t k => X0.ldcwInt hx hown (mvT hZ (own_w hw 27 rfl)) (g := (mkF m 19 #[sI (1 : Int32), sI (31 : Int32)] [(.int (1 : Int32))])) rfl (hb hby d2_19) _ k) ?_
  show own_Go _ _ _ _ s₁ (mkF m 22 _ [(.int (65536 : Int32)), (.int (1 : Int32))])
  refine own_st (fun t k => XS.icmpYes X0.here hx rfl (pc0 := 22) (pc' := 33) rfl (hb hby d2_22) rfl (tlt (by decide : ((1 : Int32) < (65536 : Int32)))).1 (by decide) (by decide) k) ?_
  show own_Go _ _ _ _ s₁ (mkF m 33 _ [])
  refine own_st (fun t k => XS.iloadN X0.here hx rfl (hb hby d2_33) rfl k) ?_
  show own_Go _ _ _ _ s₁ (mkF m 34 _ [(.int (1 : Int32))])
  refine own_st (fun t k => XS.sipush X0.here hx rfl (hb hby d2_34) k) ?_
  show own_Go _ _ _ _ s₁ (mkF m 37 _ [(.int (256 : Int32)), (.int (1 : Int32))])
  refine own_st (fun t k => XS.icmpYes X0.here hx rfl (pc0 := 37) (pc' := 48) rfl (hb hby d2_37) rfl (tlt (by decide : ((1 : Int32) < (256 : Int32)))).1 (by decide) (by decide) k) ?_
  show own_Go _ _ _ _ s₁ (mkF m 48 _ [])
  refine own_st (fun t k => XS.iloadN X0.here hx rfl (hb hby d2_48) rfl k) ?_
  show own_Go _ _ _ _ s₁ (mkF m 49 _ [(.int (1 : Int32))])
  refine own_st (fun t k => XS.bipush X0.here hx rfl (hb hby d2_49) k) ?_
  show own_Go _ _ _ _ s₁ (mkF m 51 _ [(.int (16 : Int32)), (.int (1 : Int32))])
  refine own_st (fun t k => XS.icmpYes X0.here hx rfl (pc0 := 51) (pc' := 61) rfl (hb hby d2_51) rfl (tlt (by decide : ((1 : Int32) < (16 : Int32)))).1 (by decide) (by decide) k) ?_
  show own_Go _ _ _ _ s₁ (mkF m 61 _ [])
  refine own_st (fun t k => XS.iloadN X0.here hx rfl (hb hby d2_61) rfl k) ?_
  show own_Go _ _ _ _ s₁ (mkF m 62 _ [(.int (1 : Int32))])
  refine own_st (fun t k => XS.iconst X0.here hx rfl (hb hby d2_62) k) ?_
  show own_Go _ _ _ _ s₁ (mkF m 63 _ [(.int (4 : Int32)), (.int (1 : Int32))])
  refine own_st (fun t k => XS.icmpYes X0.here hx rfl (pc0 := 63) (pc' := 73) rfl (hb hby d2_63) rfl (tlt (by decide : ((1 : Int32) < (4 : Int32)))).1 (by decide) (by decide) k) ?_
  show own_Go _ _ _ _ s₁ (mkF m 73 _ [])
  refine own_st (fun t k => XS.iloadN X0.here hx rfl (hb hby d2_73) rfl k) ?_
  show own_Go _ _ _ _ s₁ (mkF m 74 _ [(.int (31 : Int32))])
  refine own_st (fun t k => XS.iloadN X0.here hx rfl (hb hby d2_74) rfl k) ?_
  show own_Go _ _ _ _ s₁ (mkF m 75 _ [(.int (1 : Int32)), (.int (31 : Int32))])
  refine own_st (fun t k => XS.iconst X0.here hx rfl (hb hby d2_75) k) ?_
  show own_Go _ _ _ _ s₁ (mkF m 76 _ [(.int (1 : Int32)), (.int (1 : Int32)), (.int (31 : Int32))])
  refine own_st (fun t k => XS.iushr X0.here hx rfl (hb hby d2_76) rfl k) ?_
  show own_Go _ _ _ _ s₁ (mkF m 77 _ [(.int (0 : Int32)), (.int (31 : Int32))])
  refine own_st (fun t k => XS.isub X0.here hx rfl (hb hby d2_77) rfl k) ?_
  show own_Go _ _ _ _ s₁ (mkF m 78 _ [(.int (31 : Int32))])
  subst hPq
  refine own_out X0 (v := some (.int (31 : Int32))) (fun h => by rw [Bd.returns] at h; cases h) Bd.notSynchronized (own_retI X0 hx Bd.returns (hb hby d2_78)) (by decide) (by decide) ?_
  show Q2 Z  h0 n0 _ s₁.heap _
  rw [e0]
  exact ⟨rfl, N0, rfl⟩
theorem d3_0 : decode qc3 0 = .ok (.iload_n 0, 1) := by decide +kernel
theorem d3_1 : decode qc3 1 = .ok (.ldc 127, 2) := by decide +kernel
theorem d3_3 : decode qc3 3 = .ok (.iload_n 0, 1) := by decide +kernel
theorem d3_4 : decode qc3 4 = .ok (.invokestatic 51, 3) := by decide +kernel
theorem d3_7 : decode qc3 7 = .ok (.iushr, 1) := by decide +kernel
theorem d3_8 : decode qc3 8 = .ok (.iand, 1) := by decide +kernel
theorem d3_9 : decode qc3 9 = .ok (.ireturn, 1) := by decide +kernel
theorem own_pn3 : plainName "java/lang/Integer" = true := by first | (simp [plainName, overriddenIn]; done) | decide +kernel
theorem own_ef3 (m : MethodId)  : entryFrame m #[(.int (1 : Int32))] 1 = mkF m 0 #[sI (1 : Int32)] [] := by first | (simp [entryFrame, mkF, argsToLocals, Value.category]; done) | rfl
def Q3 (Z : State)  (h0 : Heap) (n0 : Nat) (v : Option Value) (h : Heap) (L : List Loc) : Prop := v = some (.int (1 : Int32)) ∧ Fr n0 L ∧ h = h0
set_option maxRecDepth 65536 in
set_option maxHeartbeats 4000000 in
theorem rm3 (l : Launch) (Z : State) (a0 : Array Value) (hw : ∀ d ∈ tables_1, d.before a0 Z = true) (ws : List Jvm.Cond)  (h0 : Heap) (n0 : Nat) (Z0 : n0 ≤ h0.size) :
    MetFree l ym3 (head1 (Jvm.Cond.code ym3 jdk_33_method_45_code 1 (some .int) :: ws) (⟨1, 0, 0, 15⟩ : Room)) (fun aW U => aW = #[(.int (1 : Int32))] ∧ Z.Warmed39 U.vm ∧ U.heap = h0) (fun _ _ _ _ _ => True) (fun _ U o U' => ∃ v L, o = .returned v ∧ Q3 Z  h0 n0 v U'.heap L ∧ FrameEnd U o U' L (⟨1, 0, 0, 15⟩ : Room).cells (⟨1, 0, 0, 15⟩ : Room).slots) := by
  refine MetFree.of_bodySF (plainFor_of_name own_pn3) hisR ?_
  intro p e s m args below meth c s₁ Bd hml0 hP hK
  obtain ⟨rfl, hZ, hh⟩ := hP
  have hx := Bd.exec
  have hby := Bd.bytes
  have hml : c.maxLocals = 1 := hml0
  have hown : s.vm.findClass "java/lang/Integer" = some m.cls := findClass_of_methodNamed Bd.named
  have hnm := (name_of_methodNamed Bd.named Bd.method).1
  have X0 : Stand p l e (⟨1, 0, 0, 15⟩ : Room) s m #[(.int (1 : Int32))] below meth c s₁ [] 0 0 := Stand.of_body Bd
  have e0 : s₁.heap = h0 := by rw [← hh, Bd.state]; rfl
  have N0 := Fr.nil n0
  obtain ⟨Pq, hPq⟩ : ∃ P, P = own_P s below (fun v h L => Q3 Z  h0 n0 v h L) (⟨1, 0, 0, 15⟩ : Room).cells (⟨1, 0, 0, 15⟩ : Room).slots := ⟨_, rfl⟩
  suffices hgo : own_Go p.tables e below Pq s₁ (mkF m 0 #[sI (1 : Int32)] []) by
    subst hPq
    obtain ⟨t, k1, k2, o, k3, k4⟩ := hgo
    exact ⟨t, o, castTop (own_ef3 m ) k1, k2, k3, k4⟩
  show own_Go _ _ _ _ s₁ (mkF m 0 #[sI (1 : Int32)] [])
  refine own_st (fun t k => XS.iloadN X0.here hx rfl (hb hby d3_0) rfl k) ?_
  show own_Go _ _ _ _ s₁ (mkF m 1 _ [(.int (1 : Int32))])
  refine own_st (fun t k => X0.ldcInt hx hown (mvT hZ (own_w hw 23 rfl)) (g := (mkF m 1 #[sI (1 : Int32)] [(.int (1 : Int32))])) rfl (hb hby d3_1) _ k) ?_
  show own_Go _ _ _ _ s₁ (mkF m 3 _ [(.int (-2147483648 : Int32)), (.int (1 : Int32))])
  refine own_st (fun t k => XS.iloadN X0.here hx rfl (hb hby d3_3) rfl k) ?_
  show own_Go _ _ _ _ s₁ (mkF m 4 _ [(.int (1 : Int32)), (.int (-2147483648 : Int32)), (.int (1 : Int32))])
  obtain ⟨_, _, ⟨T1, L1, k1, n1⟩, -, X1, ⟨Lc1, hQ1, l1, y1, z1⟩, st1⟩ := Jvm.LawKit.callS X0 hx (y := ym2) hown (mvT hZ (own_w hw 24 rfl)) (mvT hZ (own_w hw 25 rfl)) (mvT hZ (own_w hw 21 rfl)) (mvT hZ (own_w hw 26 rfl)) (by decide) (backOf (W := 2) (rm2 l Z a0 hw []  h0 n0 Z0 ) hZ (own_w hw 26 rfl) (own_w hw 21 rfl) (by decide) (by decide)) (g := (mkF m 4 #[sI (1 : Int32)] [(.int (1 : Int32)), (.int (-2147483648 : Int32)), (.int (1 : Int32))])) rfl (by rw [hml]; rfl) (argsL := [(.int (1 : Int32))]) (rest := [(.int (-2147483648 : Int32)), (.int (1 : Int32))]) (lenOf own_pd__I_I rfl) rfl (by show 2 * 0 + _ ≤ _; exact Nat.le_of_eq rfl) (hb hby d3_4) (fun _ _ => ⟨rfl, e0, (by decide : 0 + 0 ≤ _), (by decide : 0 + 0 ≤ _)⟩)
  dsimp only [Pt.U, Pt.locs, Pt.cells, Pt.slots] at X1 l1 y1 z1 st1 hQ1
  subst l1 y1 z1
  obtain ⟨rfl, NQ1, eq1⟩ := hQ1
  have N2 := Fr.app N0 NQ1
  refine own_st st1 ?_
  show own_Go _ _ _ _ T1 (mkF m 7 _ [(.int (31 : Int32)), (.int (-2147483648 : Int32)), (.int (1 : Int32))])
  refine own_st (fun t k => XS.iushr X1.here hx rfl (hb hby d3_7) rfl k) ?_
  show own_Go _ _ _ _ T1 (mkF m 8 _ [(.int (1 : Int32)), (.int (1 : Int32))])
  refine own_st (fun t k => XS.iand X1.here hx rfl (hb hby d3_8) rfl k) ?_
  show own_Go _ _ _ _ T1 (mkF m 9 _ [(.int (1 : Int32))])
  subst hPq
  refine own_out X1 (v := some (.int (1 : Int32))) (fun h => by rw [Bd.returns] at h; cases h) Bd.notSynchronized (own_retI X1 hx Bd.returns (hb hby d3_9)) (by decide) (by decide) ?_
  show Q3 Z  h0 n0 _ T1.heap _
  rw [eq1]
  exact ⟨rfl, N2, rfl⟩
theorem d4_0 : decode qc4 0 = .ok (.iconst 1, 1) := by decide +kernel
theorem d4_1 : decode qc4 1 = .ok (.iconst 2, 1) := by decide +kernel
theorem d4_2 : decode qc4 2 = .ok (.iload_n 0, 1) := by decide +kernel
theorem d4_3 : decode qc4 3 = .ok (.imul, 1) := by decide +kernel
theorem d4_4 : decode qc4 4 = .ok (.iconst 1, 1) := by decide +kernel
theorem d4_5 : decode qc4 5 = .ok (.isub, 1) := by decide +kernel
theorem d4_6 : decode qc4 6 = .ok (.invokestatic 19, 3) := by decide +kernel
theorem d4_9 : decode qc4 9 = .ok (.invokestatic 25, 3) := by decide +kernel
theorem d4_12 : decode qc4 12 = .ok (.ireturn, 1) := by decide +kernel
theorem own_pn4 : plainName "com/example/tidemark/tidemark/core/ThetaLambdaTree" = true := by first | (simp [plainName, overriddenIn]; done) | decide +kernel
theorem own_ef4 (m : MethodId)  : entryFrame m #[(.int (1 : Int32))] 1 = mkF m 0 #[sI (1 : Int32)] [] := by first | (simp [entryFrame, mkF, argsToLocals, Value.category]; done) | rfl
def Q4 (Z : State)  (h0 : Heap) (n0 : Nat) (v : Option Value) (h : Heap) (L : List Loc) : Prop := v = some (.int (1 : Int32)) ∧ Fr n0 L ∧ h = h0
set_option maxRecDepth 65536 in
set_option maxHeartbeats 4000000 in
theorem rm4 (l : Launch) (Z : State) (a0 : Array Value) (hw : ∀ d ∈ tables_1, d.before a0 Z = true) (ws : List Jvm.Cond)  (h0 : Heap) (n0 : Nat) (Z0 : n0 ≤ h0.size) :
    MetFree l ym4 (head1 (Jvm.Cond.code ym4 prog_46_method_2_code 1 (some .int) :: ws) (⟨2, 0, 0, 27⟩ : Room)) (fun aW U => aW = #[(.int (1 : Int32))] ∧ Z.Warmed39 U.vm ∧ U.heap = h0) (fun _ _ _ _ _ => True) (fun _ U o U' => ∃ v L, o = .returned v ∧ Q4 Z  h0 n0 v U'.heap L ∧ FrameEnd U o U' L (⟨2, 0, 0, 27⟩ : Room).cells (⟨2, 0, 0, 27⟩ : Room).slots) := by
  refine MetFree.of_bodySF (plainFor_of_name own_pn4) hisR ?_
  intro p e s m args below meth c s₁ Bd hml0 hP hK
  obtain ⟨rfl, hZ, hh⟩ := hP
  have hx := Bd.exec
  have hby := Bd.bytes
  have hml : c.maxLocals = 1 := hml0
  have hown : s.vm.findClass "com/example/tidemark/tidemark/core/ThetaLambdaTree" = some m.cls := findClass_of_methodNamed Bd.named
  have hnm := (name_of_methodNamed Bd.named Bd.method).1
  have X0 : Stand p l e (⟨2, 0, 0, 27⟩ : Room) s m #[(.int (1 : Int32))] below meth c s₁ [] 0 0 := Stand.of_body Bd
  have e0 : s₁.heap = h0 := by rw [← hh, Bd.state]; rfl
  have N0 := Fr.nil n0
  obtain ⟨Pq, hPq⟩ : ∃ P, P = own_P s below (fun v h L => Q4 Z  h0 n0 v h L) (⟨2, 0, 0, 27⟩ : Room).cells (⟨2, 0, 0, 27⟩ : Room).slots := ⟨_, rfl⟩
  suffices hgo : own_Go p.tables e below Pq s₁ (mkF m 0 #[sI (1 : Int32)] []) by
    subst hPq
    obtain ⟨t, k1, k2, o, k3, k4⟩ := hgo
    exact ⟨t, o, castTop (own_ef4 m ) k1, k2, k3, k4⟩
  show own_Go _ _ _ _ s₁ (mkF m 0 #[sI (1 : Int32)] [])
  refine own_st (fun t k => XS.iconst X0.here hx rfl (hb hby d4_0) k) ?_
  show own_Go _ _ _ _ s₁ (mkF m 1 _ [(.int (1 : Int32))])
  refine own_st (fun t k => XS.iconst X0.here hx rfl (hb hby d4_1) k) ?_
  show own_Go _ _ _ _ s₁ (mkF m 2 _ [(.int (2 : Int32)), (.int (1 : Int32))])
  refine own_st (fun t k => XS.iloadN X0.here hx rfl (hb hby d4_2) rfl k) ?_
  show own_Go _ _ _ _ s₁ (mkF m 3 _ [(.int (1 : Int32)), (.int (2 : Int32)), (.int (1 : Int32))])
  refine own_st (fun t k => XS.imul X0.here hx rfl (hb hby d4_3) rfl k) ?_
  show own_Go _ _ _ _ s₁ (mkF m 4 _ [(.int (2 : Int32)), (.int (1 : Int32))])
  refine own_st (fun t k => XS.iconst X0.here hx rfl (hb hby d4_4) k) ?_
  show own_Go _ _ _ _ s₁ (mkF m 5 _ [(.int (1 : Int32)), (.int (2 : Int32)), (.int (1 : Int32))])
  refine own_st (fun t k => XS.isub X0.here hx rfl (hb hby d4_5) rfl k) ?_
  show own_Go _ _ _ _ s₁ (mkF m 6 _ [(.int (1 : Int32)), (.int (1 : Int32))])
  obtain ⟨_, _, ⟨T1, L1, k1, n1⟩, -, X1, ⟨Lc1, hQ1, l1, y1, z1⟩, st1⟩ := Jvm.LawKit.callS X0 hx (y := ym1) hown (mvT hZ (own_w hw 15 rfl)) (mvT hZ (own_w hw 16 rfl)) (mvT hZ (own_w hw 17 rfl)) (mvT hZ (own_w hw 18 rfl)) (by decide) (backOf (W := 0) (rm1 l Z a0 hw []  h0 n0 Z0 ) hZ (own_w hw 18 rfl) (own_w hw 17 rfl) (by decide) (by decide)) (g := (mkF m 6 #[sI (1 : Int32)] [(.int (1 : Int32)), (.int (1 : Int32))])) rfl (by rw [hml]; rfl) (argsL := [(.int (1 : Int32)), (.int (1 : Int32))]) (rest := []) (lenOf own_pd__II_I rfl) rfl (by show 2 * 0 + _ ≤ _; exact Nat.le_of_eq rfl) (hb hby d4_6) (fun _ _ => ⟨rfl, e0, (by decide : 0 + 0 ≤ _), (by decide : 0 + 0 ≤ _)⟩)
  dsimp only [Pt.U, Pt.locs, Pt.cells, Pt.slots] at X1 l1 y1 z1 st1 hQ1
  subst l1 y1 z1
  obtain ⟨rfl, NQ1, eq1⟩ := hQ1
  have N2 := Fr.app N0 NQ1
  refine own_st st1 ?_
  show own_Go _ _ _ _ T1 (mkF m 9 _ [(.int (1 : Int32))])
  obtain ⟨_, _, ⟨T3, L3, k3, n3⟩, -, X3, ⟨Lc3, hQ3, l3, y3, z3⟩, st3⟩ := Jvm.LawKit.callS X1 hx (y := ym3) hown (mvT hZ (own_w hw 19 rfl)) (mvT hZ (own_w hw 20 rfl)) (mvT hZ (own_w hw 21 rfl)) (mvT hZ (own_w hw 22 rfl)) (by decide) (backOf (W := 0) (rm3 l Z a0 hw []  h0 n0 Z0 ) hZ (own_w hw 22 rfl) (own_w hw 21 rfl) (by decide) (by decide)) (g := (mkF m 9 #[sI (1 : Int32)] [(.int (1 : Int32))])) rfl (by rw [hml]; rfl) (argsL := [(.int (1 : Int32))]) (rest := []) (lenOf own_pd__I_I rfl) rfl (by show 2 * 0 + _ ≤ _; exact Nat.le_of_eq rfl) (hb hby d4_9) (fun _ _ => ⟨rfl, eq1, (by decide : 0 + 0 ≤ _), (by decide : 0 + 0 ≤ _)⟩)
  dsimp only [Pt.U, Pt.locs, Pt.cells, Pt.slots] at X3 l3 y3 z3 st3 hQ3
  subst l3 y3 z3
  obtain ⟨rfl, NQ3, eq3⟩ := hQ3
  have N4 := Fr.app N2 NQ3
  refine own_st st3 ?_
  show own_Go _ _ _ _ T3 (mkF m 12 _ [(.int (1 : Int32))])
  subst hPq
  refine own_out X3 (v := some (.int (1 : Int32))) (fun h => by rw [Bd.returns] at h; cases h) Bd.notSynchronized (own_retI X3 hx Bd.returns (hb hby d4_12)) (by decide) (by decide) ?_
  show Q4 Z  h0 n0 _ T3.heap _
  rw [eq3]
  exact ⟨rfl, N4, rfl⟩
theorem d1_9 : decode qc1 9 = .ok (.iload_n 1, 1) := by decide +kernel
theorem own_ef5 (m : MethodId)  : entryFrame m #[(.int (1 : Int32)), (.int (3 : Int32))] 2 = mkF m 0 #[sI (1 : Int32), sI (3 : Int32)] [] := by first | (simp [entryFrame, mkF, argsToLocals, Value.category]; done) | rfl
def Q5 (Z : State)  (h0 : Heap) (n0 : Nat) (v : Option Value) (h : Heap) (L : List Loc) : Prop := v = some (.int (3 : Int32)) ∧ Fr n0 L ∧ h = h0
set_option maxRecDepth 65536 in
set_option maxHeartbeats 4000000 in
theorem rm5 (l : Launch) (Z : State) (a0 : Array Value) (hw : ∀ d ∈ tables_1, d.before a0 Z = true) (ws : List Jvm.Cond)  (h0 : Heap) (n0 : Nat) (Z0 : n0 ≤ h0.size) :
    MetFree l ym1 (head1 (Jvm.Cond.code ym1 jdk_29_method_65_code 2 (some .int) :: ws) (⟨0, 0, 0, 0⟩ : Room)) (fun aW U => aW = #[(.int (1 : Int32)), (.int (3 : Int32))] ∧ Z.Warmed39 U.vm ∧ U.heap = h0) (fun _ _ _ _ _ => True) (fun _ U o U' => ∃ v L, o = .returned v ∧ Q5 Z  h0 n0 v U'.heap L ∧ FrameEnd U o U' L (⟨0, 0, 0, 0⟩ : Room).cells (⟨0, 0, 0, 0⟩ : Room).slots) := by
  refine MetFree.of_bodySF (Jvm.Free.JP.mathPlain rfl (by decide +kernel)) hisR ?_
  intro p e s m args below meth c s₁ Bd hml0 hP hK
  obtain ⟨rfl, hZ, hh⟩ := hP
  have hx := Bd.exec
  have hby := Bd.bytes
  have hml : c.maxLocals = 2 := hml0
  have hown : s.vm.findClass "java/lang/Math" = some m.cls := findClass_of_methodNamed Bd.named
  have hnm := (name_of_methodNamed Bd.named Bd.method).1
  have X0 : Stand p l e (⟨0, 0, 0, 0⟩ : Room) s m #[(.int (1 : Int32)), (.int (3 : Int32))] below meth c s₁ [] 0 0 := Stand.of_body Bd
  have e0 : s₁.heap = h0 := by rw [← hh, Bd.state]; rfl
  have N0 := Fr.nil n0
  obtain ⟨Pq, hPq⟩ : ∃ P, P = own_P s below (fun v h L => Q5 Z  h0 n0 v h L) (⟨0, 0, 0, 0⟩ : Room).cells (⟨0, 0, 0, 0⟩ : Room).slots := ⟨_, rfl⟩
  suffices hgo : own_Go p.tables e below Pq s₁ (mkF m 0 #[sI (1 : Int32), sI (3 : Int32)] []) by
    subst hPq
    obtain ⟨t, k1, k2, o, k3, k4⟩ := hgo
    exact ⟨t, o, castTop (own_ef5 m ) k1, k2, k3, k4⟩
  show own_Go _ _ _ _ s₁ (mkF m 0 #[sI (1 : Int32), sI (3 : Int32)] [])
  refine own_st (fun t k => XS.iloadN X0.here hx rfl (hb hby d1_0) rfl k) ?_
  show own_Go _ _ _ _ s₁ (mkF m 1 _ [(.int (1 : Int32))])
  refine own_st (fun t k => XS.iloadN X0.here hx rfl (hb hby d1_1) rfl k) ?_
  show own_Go _ _ _ _ s₁ (mkF m 2 _ [(.int (3 : Int32)), (.int (1 : Int32))])
  refine own_st (fun t k => XS.icmpYes X0.here hx rfl (pc0 := 2) (pc' := 9) rfl (hb hby d1_2) rfl (tlt (by decide : ((1 : Int32) < (3 : Int32)))).1 (by decide) (by decide) k) ?_
  show own_Go _ _ _ _ s₁ (mkF m 9 _ [])
  refine own_st (fun t k => XS.iloadN X0.here hx rfl (hb hby d1_9) rfl k) ?_
  show own_Go _ _ _ _ s₁ (mkF m 10 _ [(.int (3 : Int32))])
  subst hPq
  refine own_out X0 (v := some (.int (3 : Int32))) (fun h => by rw [Bd.returns] at h; cases h) Bd.notSynchronized (own_retI X0 hx Bd.returns (hb hby d1_10)) (by decide) (by decide) ?_
  show Q5 Z  h0 n0 _ s₁.heap _
  rw [e0]
  exact ⟨rfl, N0, rfl⟩
theorem own_pn6 : plainName "java/lang/Integer" = true := by first | (simp [plainName, overriddenIn]; done) | decide +kernel
theorem own_ef6 (m : MethodId)  : entryFrame m #[(.int (3 : Int32))] 2 = mkF m 0 #[sI (3 : Int32), .unset] [] := by first | (simp [entryFrame, mkF, argsToLocals, Value.category]; done) | rfl
def Q6 (Z : State)  (h0 : Heap) (n0 : Nat) (v : Option Value) (h : Heap) (L : List Loc) : Prop := v = some (.int (30 : Int32)) ∧ Fr n0 L ∧ h = h0
set_option maxRecDepth 65536 in
set_option maxHeartbeats 4000000 in
theorem rm6 (l : Launch) (Z : State) (a0 : Array Value) (hw : ∀ d ∈ tables_1, d.before a0 Z = true) (ws : List Jvm.Cond)  (h0 : Heap) (n0 : Nat) (Z0 : n0 ≤ h0.size) :
    MetFree l ym2 (head1 (Jvm.Cond.code ym2 jdk_33_method_47_code 2 (some .int) :: ws) (⟨0, 0, 0, 0⟩ : Room)) (fun aW U => aW = #[(.int (3 : Int32))] ∧ Z.Warmed39 U.vm ∧ U.heap = h0) (fun _ _ _ _ _ => True) (fun _ U o U' => ∃ v L, o = .returned v ∧ Q6 Z  h0 n0 v U'.heap L ∧ FrameEnd U o U' L (⟨0, 0, 0, 0⟩ : Room).cells (⟨0, 0, 0, 0⟩ : Room).slots) := by
  refine MetFree.of_bodySF (plainFor_of_name own_pn6) hisR ?_
  intro p e s m args below meth c s₁ Bd hml0 hP hK
  obtain ⟨rfl, hZ, hh⟩ := hP
  have hx := Bd.exec
  have hby := Bd.bytes
  have hml : c.maxLocals = 2 := hml0
  have hown : s.vm.findClass "java/lang/Integer" = some m.cls := findClass_of_methodNamed Bd.named
  have hnm := (name_of_methodNamed Bd.named Bd.method).1
  have X0 : Stand p l e (⟨0, 0, 0, 0⟩ : Room) s m #[(.int (3 : Int32))] below meth c s₁ [] 0 0 := Stand.of_body Bd
  have e0 : s₁.heap = h0 := by rw [← hh, Bd.state]; rfl
  have N0 := Fr.nil n0
  obtain ⟨Pq, hPq⟩ : ∃ P, P = own_P s below (fun v h L => Q6 Z  h0 n0 v h L) (⟨0, 0, 0, 0⟩ : Room).cells (⟨0, 0, 0, 0⟩ : Room).slots := ⟨_, rfl⟩
  suffices hgo : own_Go p.tables e below Pq s₁ (mkF m 0 #[sI (3 : Int32), .unset] []) by
    subst hPq
    obtain ⟨t, k1, k2, o, k3, k4⟩ := hgo
    exact ⟨t, o, castTop (own_ef6 m ) k1, k2, k3, k4⟩
  show own_Go _ _ _ _ s₁ (mkF m 0 #[sI (3 : Int32), .unset] [])
  refine own_st (fun t k => XS.iloadN X0.here hx rfl (hb hby d2_0) rfl k) ?_
  show own_Go _ _ _ _ s₁ (mkF m 1 _ [(.int (3 : Int32))])
  refine own_st (fun t k => XS.ifYes X0.here hx rfl (pc0 := 1) (pc' := 15) rfl (hb hby d2_1) rfl ((if0 _ _).trans (tlt (by decide : ((0 : Int32) < (3 : Int32)))).2.2.1) (by decide) (by decide) k) ?_
  show own_Go _ _ _ _ s₁ (mkF m 15 _ [])
  refine own_st (fun t k => XS.bipush X0.here hx rfl (hb hby d2_15) k) ?_
  show own_Go _ _ _ _ s₁ (mkF m 17 _ [(.int (31 : Int32))])
  refine own_st (fun t k => XS.istoreN X0.here hx rfl (hb hby d2_17) rfl (l' := #[sI (3 : Int32), sI (31 : Int32)]) rfl k) ?_
  show own_Go _ _ _ _ s₁ (mkF m 18 #[sI (3 : Int32), sI (31 : Int32)] [])
  refine own_st (fun t k => XS.iloadN X0.here hx rfl (hb hby d2_18) rfl k) ?_
  show own_Go _ _ _ _ s₁ (mkF m 19 _ [(.int (3 : Int32))])
  refine own_st (fun t k => X0.ldcwInt hx hown (mvT hZ (own_w hw 27 rfl)) (g := (mkF m 19 #[sI (3 : Int32), sI (31 : Int32)] [(.int (3 : Int32))])) rfl (hb hby d2_19) _ k) ?_
  show own_Go _ _ _ _ s₁ (mkF m 22 _ [(.int (65536 : Int32)), (.int (3 : Int32))])
  refine own_st (fun t k => XS.icmpYes X0.here hx rfl (pc0 := 22) (pc' := 33) rfl (hb hby d2_22) rfl (tlt (by decide : ((3 : Int32) < (65536 : Int32)))).1 (by decide) (by decide) k) ?_
  show own_Go _ _ _ _ s₁ (mkF m 33 _ [])
  refine own_st (fun t k => XS.iloadN X0.here hx rfl (hb hby d2_33) rfl k) ?_
  show own_Go _ _ _ _ s₁ (mkF m 34 _ [(.int (3 : Int32))])
  refine own_st (fun t k => XS.sipush X0.here hx rfl (hb hby d2_34) k) ?_
  show own_Go _ _ _ _ s₁ (mkF m 37 _ [(.int (256 : Int32)), (.int (3 : Int32))])
  refine own_st (fun t k => XS.icmpYes X0.here hx rfl (pc0 := 37) (pc' := 48) rfl (hb hby d2_37) rfl (tlt (by decide : ((3 : Int32) < (256 : Int32)))).1 (by decide) (by decide) k) ?_
  show own_Go _ _ _ _ s₁ (mkF m 48 _ [])
  refine own_st (fun t k => XS.iloadN X0.here hx rfl (hb hby d2_48) rfl k) ?_
  show own_Go _ _ _ _ s₁ (mkF m 49 _ [(.int (3 : Int32))])
  refine own_st (fun t k => XS.bipush X0.here hx rfl (hb hby d2_49) k) ?_
  show own_Go _ _ _ _ s₁ (mkF m 51 _ [(.int (16 : Int32)), (.int (3 : Int32))])
  refine own_st (fun t k => XS.icmpYes X0.here hx rfl (pc0 := 51) (pc' := 61) rfl (hb hby d2_51) rfl (tlt (by decide : ((3 : Int32) < (16 : Int32)))).1 (by decide) (by decide) k) ?_
  show own_Go _ _ _ _ s₁ (mkF m 61 _ [])
  refine own_st (fun t k => XS.iloadN X0.here hx rfl (hb hby d2_61) rfl k) ?_
  show own_Go _ _ _ _ s₁ (mkF m 62 _ [(.int (3 : Int32))])
  refine own_st (fun t k => XS.iconst X0.here hx rfl (hb hby d2_62) k) ?_
  show own_Go _ _ _ _ s₁ (mkF m 63 _ [(.int (4 : Int32)), (.int (3 : Int32))])
  refine own_st (fun t k => XS.icmpYes X0.here hx rfl (pc0 := 63) (pc' := 73) rfl (hb hby d2_63) rfl (tlt (by decide : ((3 : Int32) < (4 : Int32)))).1 (by decide) (by decide) k) ?_
  show own_Go _ _ _ _ s₁ (mkF m 73 _ [])
  refine own_st (fun t k => XS.iloadN X0.here hx rfl (hb hby d2_73) rfl k) ?_
  show own_Go _ _ _ _ s₁ (mkF m 74 _ [(.int (31 : Int32))])
  refine own_st (fun t k => XS.iloadN X0.here hx rfl (hb hby d2_74) rfl k) ?_
  show own_Go _ _ _ _ s₁ (mkF m 75 _ [(.int (3 : Int32)), (.int (31 : Int32))])
  refine own_st (fun t k => XS.iconst X0.here hx rfl (hb hby d2_75) k) ?_
  show own_Go _ _ _ _ s₁ (mkF m 76 _ [(.int (1 : Int32)), (.int (3 : Int32)), (.int (31 : Int32))])
  refine own_st (fun t k => XS.iushr X0.here hx rfl (hb hby d2_76) rfl k) ?_
  show own_Go _ _ _ _ s₁ (mkF m 77 _ [(.int (1 : Int32)), (.int (31 : Int32))])
  refine own_st (fun t k => XS.isub X0.here hx rfl (hb hby d2_77) rfl k) ?_
  show own_Go _ _ _ _ s₁ (mkF m 78 _ [(.int (30 : Int32))])
  subst hPq
  refine own_out X0 (v := some (.int (30 : Int32))) (fun h => by rw [Bd.returns] at h; cases h) Bd.notSynchronized (own_retI X0 hx Bd.returns (hb hby d2_78)) (by decide) (by decide) ?_
  show Q6 Z  h0 n0 _ s₁.heap _
  rw [e0]
  exact ⟨rfl, N0, rfl⟩
theorem own_pn7 : plainName "java/lang/Integer" = true := by first | (simp [plainName, overriddenIn]; done) | decide +kernel
theorem own_ef7 (m : MethodId)  : entryFrame m #[(.int (3 : Int32))] 1 = mkF m 0 #[sI (3 : Int32)] [] := by first | (simp [entryFrame, mkF, argsToLocals, Value.category]; done) | rfl
def Q7 (Z : State)  (h0 : Heap) (n0 : Nat) (v : Option Value) (h : Heap) (L : List Loc) : Prop := v = some (.int (2 : Int32)) ∧ Fr n0 L ∧ h = h0
set_option maxRecDepth 65536 in
set_option maxHeartbeats 4000000 in
theorem rm7 (l : Launch) (Z : State) (a0 : Array Value) (hw : ∀ d ∈ tables_1, d.before a0 Z = true) (ws : List Jvm.Cond)  (h0 : Heap) (n0 : Nat) (Z0 : n0 ≤ h0.size) :
    MetFree l ym3 (head1 (Jvm.Cond.code ym3 jdk_33_method_45_code 1 (some .int) :: ws) (⟨1, 0, 0, 15⟩ : Room)) (fun aW U => aW = #[(.int (3 : Int32))] ∧ Z.Warmed39 U.vm ∧ U.heap = h0) (fun _ _ _ _ _ => True) (fun _ U o U' => ∃ v L, o = .returned v ∧ Q7 Z  h0 n0 v U'.heap L ∧ FrameEnd U o U' L (⟨1, 0, 0, 15⟩ : Room).cells (⟨1, 0, 0, 15⟩ : Room).slots) := by
  refine MetFree.of_bodySF (plainFor_of_name own_pn7) hisR ?_
  intro p e s m args below meth c s₁ Bd hml0 hP hK
  obtain ⟨rfl, hZ, hh⟩ := hP
  have hx := Bd.exec
  have hby := Bd.bytes
  have hml : c.maxLocals = 1 := hml0
  have hown : s.vm.findClass "java/lang/Integer" = some m.cls := findClass_of_methodNamed Bd.named
  have hnm := (name_of_methodNamed Bd.named Bd.method).1
  have X0 : Stand p l e (⟨1, 0, 0, 15⟩ : Room) s m #[(.int (3 : Int32))] below meth c s₁ [] 0 0 := Stand.of_body Bd
  have e0 : s₁.heap = h0 := by rw [← hh, Bd.state]; rfl
  have N0 := Fr.nil n0
  obtain ⟨Pq, hPq⟩ : ∃ P, P = own_P s below (fun v h L => Q7 Z  h0 n0 v h L) (⟨1, 0, 0, 15⟩ : Room).cells (⟨1, 0, 0, 15⟩ : Room).slots := ⟨_, rfl⟩
  suffices hgo : own_Go p.tables e below Pq s₁ (mkF m 0 #[sI (3 : Int32)] []) by
    subst hPq
    obtain ⟨t, k1, k2, o, k3, k4⟩ := hgo
    exact ⟨t, o, castTop (own_ef7 m ) k1, k2, k3, k4⟩
  show own_Go _ _ _ _ s₁ (mkF m 0 #[sI (3 : Int32)] [])
  refine own_st (fun t k => XS.iloadN X0.here hx rfl (hb hby d3_0) rfl k) ?_
  show own_Go _ _ _ _ s₁ (mkF m 1 _ [(.int (3 : Int32))])
  refine own_st (fun t k => X0.ldcInt hx hown (mvT hZ (own_w hw 23 rfl)) (g := (mkF m 1 #[sI (3 : Int32)] [(.int (3 : Int32))])) rfl (hb hby d3_1) _ k) ?_
  show own_Go _ _ _ _ s₁ (mkF m 3 _ [(.int (-2147483648 : Int32)), (.int (3 : Int32))])
  refine own_st (fun t k => XS.iloadN X0.here hx rfl (hb hby d3_3) rfl k) ?_
  show own_Go _ _ _ _ s₁ (mkF m 4 _ [(.int (3 : Int32)), (.int (-2147483648 : Int32)), (.int (3 : Int32))])
  obtain ⟨_, _, ⟨T1, L1, k1, n1⟩, -, X1, ⟨Lc1, hQ1, l1, y1, z1⟩, st1⟩ := Jvm.LawKit.callS X0 hx (y := ym2) hown (mvT hZ (own_w hw 24 rfl)) (mvT hZ (own_w hw 25 rfl)) (mvT hZ (own_w hw 21 rfl)) (mvT hZ (own_w hw 26 rfl)) (by decide) (backOf (W := 2) (rm6 l Z a0 hw []  h0 n0 Z0 ) hZ (own_w hw 26 rfl) (own_w hw 21 rfl) (by decide) (by decide)) (g := (mkF m 4 #[sI (3 : Int32)] [(.int (3 : Int32)), (.int (-2147483648 : Int32)), (.int (3 : Int32))])) rfl (by rw [hml]; rfl) (argsL := [(.int (3 : Int32))]) (rest := [(.int (-2147483648 : Int32)), (.int (3 : Int32))]) (lenOf own_pd__I_I rfl) rfl (by show 2 * 0 + _ ≤ _; exact Nat.le_of_eq rfl) (hb hby d3_4) (fun _ _ => ⟨rfl, e0, (by decide : 0 + 0 ≤ _), (by decide : 0 + 0 ≤ _)⟩)
  dsimp only [Pt.U, Pt.locs, Pt.cells, Pt.slots] at X1 l1 y1 z1 st1 hQ1
  subst l1 y1 z1
  obtain ⟨rfl, NQ1, eq1⟩ := hQ1
  have N2 := Fr.app N0 NQ1
  refine own_st st1 ?_
  show own_Go _ _ _ _ T1 (mkF m 7 _ [(.int (30 : Int32)), (.int (-2147483648 : Int32)), (.int (3 : Int32))])
  refine own_st (fun t k => XS.iushr X1.here hx rfl (hb hby d3_7) rfl k) ?_
  show own_Go _ _ _ _ T1 (mkF m 8 _ [(.int (2 : Int32)), (.int (3 : Int32))])
  refine own_st (fun t k => XS.iand X1.here hx rfl (hb hby d3_8) rfl k) ?_
  show own_Go _ _ _ _ T1 (mkF m 9 _ [(.int (2 : Int32))])
  subst hPq
  refine own_out X1 (v := some (.int (2 : Int32))) (fun h => by rw [Bd.returns] at h; cases h) Bd.notSynchronized (own_retI X1 hx Bd.returns (hb hby d3_9)) (by decide) (by decide) ?_
  show Q7 Z  h0 n0 _ T1.heap _
  rw [eq1]
  exact ⟨rfl, N2, rfl⟩
theorem own_pn8 : plainName "com/example/tidemark/tidemark/core/ThetaLambdaTree" = true := by first | (simp [plainName, overriddenIn]; done) | decide +kernel
theorem own_ef8 (m : MethodId)  : entryFrame m #[(.int (2 : Int32))] 1 = mkF m 0 #[sI (2 : Int32)] [] := by first | (simp [entryFrame, mkF, argsToLocals, Value.category]; done) | rfl
def Q8 (Z : State)  (h0 : Heap) (n0 : Nat) (v : Option Value) (h : Heap) (L : List Loc) : Prop := v = some (.int (2 : Int32)) ∧ Fr n0 L ∧ h = h0
set_option maxRecDepth 65536 in
set_option maxHeartbeats 4000000 in
theorem rm8 (l : Launch) (Z : State) (a0 : Array Value) (hw : ∀ d ∈ tables_1, d.before a0 Z = true) (ws : List Jvm.Cond)  (h0 : Heap) (n0 : Nat) (Z0 : n0 ≤ h0.size) :
    MetFree l ym4 (head1 (Jvm.Cond.code ym4 prog_46_method_2_code 1 (some .int) :: ws) (⟨2, 0, 0, 27⟩ : Room)) (fun aW U => aW = #[(.int (2 : Int32))] ∧ Z.Warmed39 U.vm ∧ U.heap = h0) (fun _ _ _ _ _ => True) (fun _ U o U' => ∃ v L, o = .returned v ∧ Q8 Z  h0 n0 v U'.heap L ∧ FrameEnd U o U' L (⟨2, 0, 0, 27⟩ : Room).cells (⟨2, 0, 0, 27⟩ : Room).slots) := by
  refine MetFree.of_bodySF (plainFor_of_name own_pn8) hisR ?_
  intro p e s m args below meth c s₁ Bd hml0 hP hK
  obtain ⟨rfl, hZ, hh⟩ := hP
  have hx := Bd.exec
  have hby := Bd.bytes
  have hml : c.maxLocals = 1 := hml0
  have hown : s.vm.findClass "com/example/tidemark/tidemark/core/ThetaLambdaTree" = some m.cls := findClass_of_methodNamed Bd.named
  have hnm := (name_of_methodNamed Bd.named Bd.method).1
  have X0 : Stand p l e (⟨2, 0, 0, 27⟩ : Room) s m #[(.int (2 : Int32))] below meth c s₁ [] 0 0 := Stand.of_body Bd
  have e0 : s₁.heap = h0 := by rw [← hh, Bd.state]; rfl
  have N0 := Fr.nil n0
  obtain ⟨Pq, hPq⟩ : ∃ P, P = own_P s below (fun v h L => Q8 Z  h0 n0 v h L) (⟨2, 0, 0, 27⟩ : Room).cells (⟨2, 0, 0, 27⟩ : Room).slots := ⟨_, rfl⟩
  suffices hgo : own_Go p.tables e below Pq s₁ (mkF m 0 #[sI (2 : Int32)] []) by
    subst hPq
    obtain ⟨t, k1, k2, o, k3, k4⟩ := hgo
    exact ⟨t, o, castTop (own_ef8 m ) k1, k2, k3, k4⟩
  show own_Go _ _ _ _ s₁ (mkF m 0 #[sI (2 : Int32)] [])
  refine own_st (fun t k => XS.iconst X0.here hx rfl (hb hby d4_0) k) ?_
  show own_Go _ _ _ _ s₁ (mkF m 1 _ [(.int (1 : Int32))])
  refine own_st (fun t k => XS.iconst X0.here hx rfl (hb hby d4_1) k) ?_
  show own_Go _ _ _ _ s₁ (mkF m 2 _ [(.int (2 : Int32)), (.int (1 : Int32))])
  refine own_st (fun t k => XS.iloadN X0.here hx rfl (hb hby d4_2) rfl k) ?_
  show own_Go _ _ _ _ s₁ (mkF m 3 _ [(.int (2 : Int32)), (.int (2 : Int32)), (.int (1 : Int32))])
  refine own_st (fun t k => XS.imul X0.here hx rfl (hb hby d4_3) rfl k) ?_
  show own_Go _ _ _ _ s₁ (mkF m 4 _ [(.int (4 : Int32)), (.int (1 : Int32))])
  refine own_st (fun t k => XS.iconst X0.here hx rfl (hb hby d4_4) k) ?_
  show own_Go _ _ _ _ s₁ (mkF m 5 _ [(.int (1 : Int32)), (.int (4 : Int32)), (.int (1 : Int32))])
  refine own_st (fun t k => XS.isub X0.here hx rfl (hb hby d4_5) rfl k) ?_
  show own_Go _ _ _ _ s₁ (mkF m 6 _ [(.int (3 : Int32)), (.int (1 : Int32))])
  obtain ⟨_, _, ⟨T1, L1, k1, n1⟩, -, X1, ⟨Lc1, hQ1, l1, y1, z1⟩, st1⟩ := Jvm.LawKit.callS X0 hx (y := ym1) hown (mvT hZ (own_w hw 15 rfl)) (mvT hZ (own_w hw 16 rfl)) (mvT hZ (own_w hw 17 rfl)) (mvT hZ (own_w hw 18 rfl)) (by decide) (backOf (W := 0) (rm5 l Z a0 hw []  h0 n0 Z0 ) hZ (own_w hw 18 rfl) (own_w hw 17 rfl) (by decide) (by decide)) (g := (mkF m 6 #[sI (2 : Int32)] [(.int (3 : Int32)), (.int (1 : Int32))])) rfl (by rw [hml]; rfl) (argsL := [(.int (1 : Int32)), (.int (3 : Int32))]) (rest := []) (lenOf own_pd__II_I rfl) rfl (by show 2 * 0 + _ ≤ _; exact Nat.le_of_eq rfl) (hb hby d4_6) (fun _ _ => ⟨rfl, e0, (by decide : 0 + 0 ≤ _), (by decide : 0 + 0 ≤ _)⟩)
  dsimp only [Pt.U, Pt.locs, Pt.cells, Pt.slots] at X1 l1 y1 z1 st1 hQ1
  subst l1 y1 z1
  obtain ⟨rfl, NQ1, eq1⟩ := hQ1
  have N2 := Fr.app N0 NQ1
  refine own_st st1 ?_
  show own_Go _ _ _ _ T1 (mkF m 9 _ [(.int (3 : Int32))])
  obtain ⟨_, _, ⟨T3, L3, k3, n3⟩, -, X3, ⟨Lc3, hQ3, l3, y3, z3⟩, st3⟩ := Jvm.LawKit.callS X1 hx (y := ym3) hown (mvT hZ (own_w hw 19 rfl)) (mvT hZ (own_w hw 20 rfl)) (mvT hZ (own_w hw 21 rfl)) (mvT hZ (own_w hw 22 rfl)) (by decide) (backOf (W := 0) (rm7 l Z a0 hw []  h0 n0 Z0 ) hZ (own_w hw 22 rfl) (own_w hw 21 rfl) (by decide) (by decide)) (g := (mkF m 9 #[sI (2 : Int32)] [(.int (3 : Int32))])) rfl (by rw [hml]; rfl) (argsL := [(.int (3 : Int32))]) (rest := []) (lenOf own_pd__I_I rfl) rfl (by show 2 * 0 + _ ≤ _; exact Nat.le_of_eq rfl) (hb hby d4_9) (fun _ _ => ⟨rfl, eq1, (by decide : 0 + 0 ≤ _), (by decide : 0 + 0 ≤ _)⟩)
  dsimp only [Pt.U, Pt.locs, Pt.cells, Pt.slots] at X3 l3 y3 z3 st3 hQ3
  subst l3 y3 z3
  obtain ⟨rfl, NQ3, eq3⟩ := hQ3
  have N4 := Fr.app N2 NQ3
  refine own_st st3 ?_
  show own_Go _ _ _ _ T3 (mkF m 12 _ [(.int (2 : Int32))])
  subst hPq
  refine own_out X3 (v := some (.int (2 : Int32))) (fun h => by rw [Bd.returns] at h; cases h) Bd.notSynchronized (own_retI X3 hx Bd.returns (hb hby d4_12)) (by decide) (by decide) ?_
  show Q8 Z  h0 n0 _ T3.heap _
  rw [eq3]
  exact ⟨rfl, N4, rfl⟩
theorem own_ef9 (m : MethodId)  : entryFrame m #[(.int (1 : Int32)), (.int (5 : Int32))] 2 = mkF m 0 #[sI (1 : Int32), sI (5 : Int32)] [] := by first | (simp [entryFrame, mkF, argsToLocals, Value.category]; done) | rfl
def Q9 (Z : State)  (h0 : Heap) (n0 : Nat) (v : Option Value) (h : Heap) (L : List Loc) : Prop := v = some (.int (5 : Int32)) ∧ Fr n0 L ∧ h = h0
set_option maxRecDepth 65536 in
set_option maxHeartbeats 4000000 in
theorem rm9 (l : Launch) (Z : State) (a0 : Array Value) (hw : ∀ d ∈ tables_1, d.before a0 Z = true) (ws : List Jvm.Cond)  (h0 : Heap) (n0 : Nat) (Z0 : n0 ≤ h0.size) :
    MetFree l ym1 (head1 (Jvm.Cond.code ym1 jdk_29_method_65_code 2 (some .int) :: ws) (⟨0, 0, 0, 0⟩ : Room)) (fun aW U => aW = #[(.int (1 : Int32)), (.int (5 : Int32))] ∧ Z.Warmed39 U.vm ∧ U.heap = h0) (fun _ _ _ _ _ => True) (fun _ U o U' => ∃ v L, o = .returned v ∧ Q9 Z  h0 n0 v U'.heap L ∧ FrameEnd U o U' L (⟨0, 0, 0, 0⟩ : Room).cells (⟨0, 0, 0, 0⟩ : Room).slots) := by
  refine MetFree.of_bodySF (Jvm.Free.JP.mathPlain rfl (by decide +kernel)) hisR ?_
  intro p e s m args below meth c s₁ Bd hml0 hP hK
  obtain ⟨rfl, hZ, hh⟩ := hP
  have hx := Bd.exec
  have hby := Bd.bytes
  have hml : c.maxLocals = 2 := hml0
  have hown : s.vm.findClass "java/lang/Math" = some m.cls := findClass_of_methodNamed Bd.named
  have hnm := (name_of_methodNamed Bd.named Bd.method).1
  have X0 : Stand p l e (⟨0, 0, 0, 0⟩ : Room) s m #[(.int (1 : Int32)), (.int (5 : Int32))] below meth c s₁ [] 0 0 := Stand.of_body Bd
  have e0 : s₁.heap = h0 := by rw [← hh, Bd.state]; rfl
  have N0 := Fr.nil n0
  obtain ⟨Pq, hPq⟩ : ∃ P, P = own_P s below (fun v h L => Q9 Z  h0 n0 v h L) (⟨0, 0, 0, 0⟩ : Room).cells (⟨0, 0, 0, 0⟩ : Room).slots := ⟨_, rfl⟩
  suffices hgo : own_Go p.tables e below Pq s₁ (mkF m 0 #[sI (1 : Int32), sI (5 : Int32)] []) by
    subst hPq
    obtain ⟨t, k1, k2, o, k3, k4⟩ := hgo
    exact ⟨t, o, castTop (own_ef9 m ) k1, k2, k3, k4⟩
  show own_Go _ _ _ _ s₁ (mkF m 0 #[sI (1 : Int32), sI (5 : Int32)] [])
  refine own_st (fun t k => XS.iloadN X0.here hx rfl (hb hby d1_0) rfl k) ?_
  show own_Go _ _ _ _ s₁ (mkF m 1 _ [(.int (1 : Int32))])
  refine own_st (fun t k => XS.iloadN X0.here hx rfl (hb hby d1_1) rfl k) ?_
  show own_Go _ _ _ _ s₁ (mkF m 2 _ [(.int (5 : Int32)), (.int (1 : Int32))])
  refine own_st (fun t k => XS.icmpYes X0.here hx rfl (pc0 := 2) (pc' := 9) rfl (hb hby d1_2) rfl (tlt (by decide : ((1 : Int32) < (5 : Int32)))).1 (by decide) (by decide) k) ?_
  show own_Go _ _ _ _ s₁ (mkF m 9 _ [])
  refine own_st (fun t k => XS.iloadN X0.here hx rfl (hb hby d1_9) rfl k) ?_
  show own_Go _ _ _ _ s₁ (mkF m 10 _ [(.int (5 : Int32))])
  subst hPq
  refine own_out X0 (v := some (.int (5 : Int32))) (fun h => by rw [Bd.returns] at h; cases h) Bd.notSynchronized (own_retI X0 hx Bd.returns (hb hby d1_10)) (by decide) (by decide) ?_
  show Q9 Z  h0 n0 _ s₁.heap _
  rw [e0]
  exact ⟨rfl, N0, rfl⟩
theorem d2_66 : decode qc2 66 = .ok (.iinc 1 (-2), 3) := by decide +kernel
theorem d2_69 : decode qc2 69 = .ok (.iload_n 0, 1) := by decide +kernel
theorem d2_70 : decode qc2 70 = .ok (.iconst 2, 1) := by decide +kernel
theorem d2_71 : decode qc2 71 = .ok (.iushr, 1) := by decide +kernel
theorem d2_72 : decode qc2 72 = .ok (.istore_n 0, 1) := by decide +kernel
theorem own_pn10 : plainName "java/lang/Integer" = true := by first | (simp [plainName, overriddenIn]; done) | decide +kernel
theorem own_ef10 (m : MethodId)  : entryFrame m #[(.int (5 : Int32))] 2 = mkF m 0 #[sI (5 : Int32), .unset] [] := by first | (simp [entryFrame, mkF, argsToLocals, Value.category]; done) | rfl
def Q10 (Z : State)  (h0 : Heap) (n0 : Nat) (v : Option Value) (h : Heap) (L : List Loc) : Prop := v = some (.int (29 : Int32)) ∧ Fr n0 L ∧ h = h0
set_option maxRecDepth 65536 in
set_option maxHeartbeats 4000000 in
theorem rm10 (l : Launch) (Z : State) (a0 : Array Value) (hw : ∀ d ∈ tables_1, d.before a0 Z = true) (ws : List Jvm.Cond)  (h0 : Heap) (n0 : Nat) (Z0 : n0 ≤ h0.size) :
    MetFree l ym2 (head1 (Jvm.Cond.code ym2 jdk_33_method_47_code 2 (some .int) :: ws) (⟨0, 0, 0, 0⟩ : Room)) (fun aW U => aW = #[(.int (5 : Int32))] ∧ Z.Warmed39 U.vm ∧ U.heap = h0) (fun _ _ _ _ _ => True) (fun _ U o U' => ∃ v L, o = .returned v ∧ Q10 Z  h0 n0 v U'.heap L ∧ FrameEnd U o U' L (⟨0, 0, 0, 0⟩ : Room).cells (⟨0, 0, 0, 0⟩ : Room).slots) := by
  refine MetFree.of_bodySF (plainFor_of_name own_pn10) hisR ?_
  intro p e s m args below meth c s₁ Bd hml0 hP hK
  obtain ⟨rfl, hZ, hh⟩ := hP
  have hx := Bd.exec
  have hby := Bd.bytes
  have hml : c.maxLocals = 2 := hml0
  have hown : s.vm.findClass "java/lang/Integer" = some m.cls := findClass_of_methodNamed Bd.named
  have hnm := (name_of_methodNamed Bd.named Bd.method).1
  have X0 : Stand p l e (⟨0, 0, 0, 0⟩ : Room) s m #[(.int (5 : Int32))] below meth c s₁ [] 0 0 := Stand.of_body Bd
  have e0 : s₁.heap = h0 := by rw [← hh, Bd.state]; rfl
  have N0 := Fr.nil n0
  obtain ⟨Pq, hPq⟩ : ∃ P, P = own_P s below (fun v h L => Q10 Z  h0 n0 v h L) (⟨0, 0, 0, 0⟩ : Room).cells (⟨0, 0, 0, 0⟩ : Room).slots := ⟨_, rfl⟩
  suffices hgo : own_Go p.tables e below Pq s₁ (mkF m 0 #[sI (5 : Int32), .unset] []) by
    subst hPq
    obtain ⟨t, k1, k2, o, k3, k4⟩ := hgo
    exact ⟨t, o, castTop (own_ef10 m ) k1, k2, k3, k4⟩
  show own_Go _ _ _ _ s₁ (mkF m 0 #[sI (5 : Int32), .unset] [])
  refine own_st (fun t k => XS.iloadN X0.here hx rfl (hb hby d2_0) rfl k) ?_
  show own_Go _ _ _ _ s₁ (mkF m 1 _ [(.int (5 : Int32))])
  refine own_st (fun t k => XS.ifYes X0.here hx rfl (pc0 := 1) (pc' := 15) rfl (hb hby d2_1) rfl ((if0 _ _).trans (tlt (by decide : ((0 : Int32) < (5 : Int32)))).2.2.1) (by decide) (by decide) k) ?_
  show own_Go _ _ _ _ s₁ (mkF m 15 _ [])
  refine own_st (fun t k => XS.bipush X0.here hx rfl (hb hby d2_15) k) ?_
  show own_Go _ _ _ _ s₁ (mkF m 17 _ [(.int (31 : Int32))])
  refine own_st (fun t k => XS.istoreN X0.here hx rfl (hb hby d2_17) rfl (l' := #[sI (5 : Int32), sI (31 : Int32)]) rfl k) ?_
  show own_Go _ _ _ _ s₁ (mkF m 18 #[sI (5 : Int32), sI (31 : Int32)] [])
  refine own_st (fun t k => XS.iloadN X0.here hx rfl (hb hby d2_18) rfl k) ?_
  show own_Go _ _ _ _ s₁ (mkF m 19 _ [(.int (5 : Int32))])
  refine own_st (fun t k => X0.ldcwInt hx hown (mvT hZ (own_w hw 27 rfl)) (g := (mkF m 19 #[sI (5 : Int32), sI (31 : Int32)] [(.int (5 : Int32))])) rfl (hb hby d2_19) _ k) ?_
  show own_Go _ _ _ _ s₁ (mkF m 22 _ [(.int (65536 : Int32)), (.int (5 : Int32))])
  refine own_st (fun t k => XS.icmpYes X0.here hx rfl (pc0 := 22) (pc' := 33) rfl (hb hby d2_22) rfl (tlt (by decide : ((5 : Int32) < (65536 : Int32)))).1 (by decide) (by decide) k) ?_
  show own_Go _ _ _ _ s₁ (mkF m 33 _ [])
  refine own_st (fun t k => XS.iloadN X0.here hx rfl (hb hby d2_33) rfl k) ?_
  show own_Go _ _ _ _ s₁ (mkF m 34 _ [(.int (5 : Int32))])
  refine own_st (fun t k => XS.sipush X0.here hx rfl (hb hby d2_34) k) ?_
  show own_Go _ _ _ _ s₁ (mkF m 37 _ [(.int (256 : Int32)), (.int (5 : Int32))])
  refine own_st (fun t k => XS.icmpYes X0.here hx rfl (pc0 := 37) (pc' := 48) rfl (hb hby d2_37) rfl (tlt (by decide : ((5 : Int32) < (256 : Int32)))).1 (by decide) (by decide) k) ?_
  show own_Go _ _ _ _ s₁ (mkF m 48 _ [])
  refine own_st (fun t k => XS.iloadN X0.here hx rfl (hb hby d2_48) rfl k) ?_
  show own_Go _ _ _ _ s₁ (mkF m 49 _ [(.int (5 : Int32))])
  refine own_st (fun t k => XS.bipush X0.here hx rfl (hb hby d2_49) k) ?_
  show own_Go _ _ _ _ s₁ (mkF m 51 _ [(.int (16 : Int32)), (.int (5 : Int32))])
  refine own_st (fun t k => XS.icmpYes X0.here hx rfl (pc0 := 51) (pc' := 61) rfl (hb hby d2_51) rfl (tlt (by decide : ((5 : Int32) < (16 : Int32)))).1 (by decide) (by decide) k) ?_
  show own_Go _ _ _ _ s₁ (mkF m 61 _ [])
  refine own_st (fun t k => XS.iloadN X0.here hx rfl (hb hby d2_61) rfl k) ?_
  show own_Go _ _ _ _ s₁ (mkF m 62 _ [(.int (5 : Int32))])
  refine own_st (fun t k => XS.iconst X0.here hx rfl (hb hby d2_62) k) ?_
  show own_Go _ _ _ _ s₁ (mkF m 63 _ [(.int (4 : Int32)), (.int (5 : Int32))])
  refine own_st (fun t k => XS.icmpNo X0.here hx rfl (hb hby d2_63) rfl (flt (by decide : ¬ ((5 : Int32) < (4 : Int32)))).1 k) ?_
  show own_Go _ _ _ _ s₁ (mkF m 66 _ [])
  refine own_st (fun t k => XS.iinc X0.here hx rfl (hb hby d2_66) rfl (l' := #[sI (5 : Int32), sI (29 : Int32)]) rfl k) ?_
  show own_Go _ _ _ _ s₁ (mkF m 69 #[sI (5 : Int32), sI (29 : Int32)] [])
  show own_Go _ _ _ _ s₁ (mkF m 69 _ [])
  refine own_st (fun t k => XS.iloadN X0.here hx rfl (hb hby d2_69) rfl k) ?_
  show own_Go _ _ _ _ s₁ (mkF m 70 _ [(.int (5 : Int32))])
  refine own_st (fun t k => XS.iconst X0.here hx rfl (hb hby d2_70) k) ?_
  show own_Go _ _ _ _ s₁ (mkF m 71 _ [(.int (2 : Int32)), (.int (5 : Int32))])
  refine own_st (fun t k => XS.iushr X0.here hx rfl (hb hby d2_71) rfl k) ?_
  show own_Go _ _ _ _ s₁ (mkF m 72 _ [(.int (1 : Int32))])
  refine own_st (fun t k => XS.istoreN X0.here hx rfl (hb hby d2_72) rfl (l' := #[sI (1 : Int32), sI (29 : Int32)]) rfl k) ?_
  show own_Go _ _ _ _ s₁ (mkF m 73 #[sI (1 : Int32), sI (29 : Int32)] [])
  refine own_st (fun t k => XS.iloadN X0.here hx rfl (hb hby d2_73) rfl k) ?_
  show own_Go _ _ _ _ s₁ (mkF m 74 _ [(.int (29 : Int32))])
  refine own_st (fun t k => XS.iloadN X0.here hx rfl (hb hby d2_74) rfl k) ?_
  show own_Go _ _ _ _ s₁ (mkF m 75 _ [(.int (1 : Int32)), (.int (29 : Int32))])
  refine own_st (fun t k => XS.iconst X0.here hx rfl (hb hby d2_75) k) ?_
  show own_Go _ _ _ _ s₁ (mkF m 76 _ [(.int (1 : Int32)), (.int (1 : Int32)), (.int (29 : Int32))])
  refine own_st (fun t k => XS.iushr X0.here hx rfl (hb hby d2_76) rfl k) ?_
  show own_Go _ _ _ _ s₁ (mkF m 77 _ [(.int (0 : Int32)), (.int (29 : Int32))])
  refine own_st (fun t k => XS.isub X0.here hx rfl (hb hby d2_77) rfl k) ?_
  show own_Go _ _ _ _ s₁ (mkF m 78 _ [(.int (29 : Int32))])
  subst hPq
  refine own_out X0 (v := some (.int (29 : Int32))) (fun h => by rw [Bd.returns] at h; cases h) Bd.notSynchronized (own_retI X0 hx Bd.returns (hb hby d2_78)) (by decide) (by decide) ?_
  show Q10 Z  h0 n0 _ s₁.heap _
  rw [e0]
  exact ⟨rfl, N0, rfl⟩
theorem own_pn11 : plainName "java/lang/Integer" = true := by first | (simp [plainName, overriddenIn]; done) | decide +kernel
theorem own_ef11 (m : MethodId)  : entryFrame m #[(.int (5 : Int32))] 1 = mkF m 0 #[sI (5 : Int32)] [] := by first | (simp [entryFrame, mkF, argsToLocals, Value.category]; done) | rfl
def Q11 (Z : State)  (h0 : Heap) (n0 : Nat) (v : Option Value) (h : Heap) (L : List Loc) : Prop := v = some (.int (4 : Int32)) ∧ Fr n0 L ∧ h = h0
set_option maxRecDepth 65536 in
set_option maxHeartbeats 4000000 in
theorem rm11 (l : Launch) (Z : State) (a0 : Array Value) (hw : ∀ d ∈ tables_1, d.before a0 Z = true) (ws : List Jvm.Cond)  (h0 : Heap) (n0 : Nat) (Z0 : n0 ≤ h0.size) :
    MetFree l ym3 (head1 (Jvm.Cond.code ym3 jdk_33_method_45_code 1 (some .int) :: ws) (⟨1, 0, 0, 15⟩ : Room)) (fun aW U => aW = #[(.int (5 : Int32))] ∧ Z.Warmed39 U.vm ∧ U.heap = h0) (fun _ _ _ _ _ => True) (fun _ U o U' => ∃ v L, o = .returned v ∧ Q11 Z  h0 n0 v U'.heap L ∧ FrameEnd U o U' L (⟨1, 0, 0, 15⟩ : Room).cells (⟨1, 0, 0, 15⟩ : Room).slots) := by
  refine MetFree.of_bodySF (plainFor_of_name own_pn11) hisR ?_
  intro p e s m args below meth c s₁ Bd hml0 hP hK
  obtain ⟨rfl, hZ, hh⟩ := hP
  have hx := Bd.exec
  have hby := Bd.bytes
  have hml : c.maxLocals = 1 := hml0
  have hown : s.vm.findClass "java/lang/Integer" = some m.cls := findClass_of_methodNamed Bd.named
  have hnm := (name_of_methodNamed Bd.named Bd.method).1
  have X0 : Stand p l e (⟨1, 0, 0, 15⟩ : Room) s m #[(.int (5 : Int32))] below meth c s₁ [] 0 0 := Stand.of_body Bd
  have e0 : s₁.heap = h0 := by rw [← hh, Bd.state]; rfl
  have N0 := Fr.nil n0
  obtain ⟨Pq, hPq⟩ : ∃ P, P = own_P s below (fun v h L => Q11 Z  h0 n0 v h L) (⟨1, 0, 0, 15⟩ : Room).cells (⟨1, 0, 0, 15⟩ : Room).slots := ⟨_, rfl⟩
  suffices hgo : own_Go p.tables e below Pq s₁ (mkF m 0 #[sI (5 : Int32)] []) by
    subst hPq
    obtain ⟨t, k1, k2, o, k3, k4⟩ := hgo
    exact ⟨t, o, castTop (own_ef11 m ) k1, k2, k3, k4⟩
  show own_Go _ _ _ _ s₁ (mkF m 0 #[sI (5 : Int32)] [])
  refine own_st (fun t k => XS.iloadN X0.here hx rfl (hb hby d3_0) rfl k) ?_
  show own_Go _ _ _ _ s₁ (mkF m 1 _ [(.int (5 : Int32))])
  refine own_st (fun t k => X0.ldcInt hx hown (mvT hZ (own_w hw 23 rfl)) (g := (mkF m 1 #[sI (5 : Int32)] [(.int (5 : Int32))])) rfl (hb hby d3_1) _ k) ?_
  show own_Go _ _ _ _ s₁ (mkF m 3 _ [(.int (-2147483648 : Int32)), (.int (5 : Int32))])
  refine own_st (fun t k => XS.iloadN X0.here hx rfl (hb hby d3_3) rfl k) ?_
  show own_Go _ _ _ _ s₁ (mkF m 4 _ [(.int (5 : Int32)), (.int (-2147483648 : Int32)), (.int (5 : Int32))])
  obtain ⟨_, _, ⟨T1, L1, k1, n1⟩, -, X1, ⟨Lc1, hQ1, l1, y1, z1⟩, st1⟩ := Jvm.LawKit.callS X0 hx (y := ym2) hown (mvT hZ (own_w hw 24 rfl)) (mvT hZ (own_w hw 25 rfl)) (mvT hZ (own_w hw 21 rfl)) (mvT hZ (own_w hw 26 rfl)) (by decide) (backOf (W := 2) (rm10 l Z a0 hw []  h0 n0 Z0 ) hZ (own_w hw 26 rfl) (own_w hw 21 rfl) (by decide) (by decide)) (g := (mkF m 4 #[sI (5 : Int32)] [(.int (5 : Int32)), (.int (-2147483648 : Int32)), (.int (5 : Int32))])) rfl (by rw [hml]; rfl) (argsL := [(.int (5 : Int32))]) (rest := [(.int (-2147483648 : Int32)), (.int (5 : Int32))]) (lenOf own_pd__I_I rfl) rfl (by show 2 * 0 + _ ≤ _; exact Nat.le_of_eq rfl) (hb hby d3_4) (fun _ _ => ⟨rfl, e0, (by decide : 0 + 0 ≤ _), (by decide : 0 + 0 ≤ _)⟩)
  dsimp only [Pt.U, Pt.locs, Pt.cells, Pt.slots] at X1 l1 y1 z1 st1 hQ1
  subst l1 y1 z1
  obtain ⟨rfl, NQ1, eq1⟩ := hQ1
  have N2 := Fr.app N0 NQ1
  refine own_st st1 ?_
  show own_Go _ _ _ _ T1 (mkF m 7 _ [(.int (29 : Int32)), (.int (-2147483648 : Int32)), (.int (5 : Int32))])
  refine own_st (fun t k => XS.iushr X1.here hx rfl (hb hby d3_7) rfl k) ?_
  show own_Go _ _ _ _ T1 (mkF m 8 _ [(.int (4 : Int32)), (.int (5 : Int32))])
  refine own_st (fun t k => XS.iand X1.here hx rfl (hb hby d3_8) rfl k) ?_
  show own_Go _ _ _ _ T1 (mkF m 9 _ [(.int (4 : Int32))])
  subst hPq
  refine own_out X1 (v := some (.int (4 : Int32))) (fun h => by rw [Bd.returns] at h; cases h) Bd.notSynchronized (own_retI X1 hx Bd.returns (hb hby d3_9)) (by decide) (by decide) ?_
  show Q11 Z  h0 n0 _ T1.heap _
  rw [eq1]
  exact ⟨rfl, N2, rfl⟩
theorem own_pn12 : plainName "com/example/tidemark/tidemark/core/ThetaLambdaTree" = true := by first | (simp [plainName, overriddenIn]; done) | decide +kernel
theorem own_ef12 (m : MethodId)  : entryFrame m #[(.int (3 : Int32))] 1 = mkF m 0 #[sI (3 : Int32)] [] := by first | (simp [entryFrame, mkF, argsToLocals, Value.category]; done) | rfl
def Q12 (Z : State)  (h0 : Heap) (n0 : Nat) (v : Option Value) (h : Heap) (L : List Loc) : Prop := v = some (.int (4 : Int32)) ∧ Fr n0 L ∧ h = h0
set_option maxRecDepth 65536 in
set_option maxHeartbeats 4000000 in
theorem rm12 (l : Launch) (Z : State) (a0 : Array Value) (hw : ∀ d ∈ tables_1, d.before a0 Z = true) (ws : List Jvm.Cond)  (h0 : Heap) (n0 : Nat) (Z0 : n0 ≤ h0.size) :
    MetFree l ym4 (head1 (Jvm.Cond.code ym4 prog_46_method_2_code 1 (some .int) :: ws) (⟨2, 0, 0, 27⟩ : Room)) (fun aW U => aW = #[(.int (3 : Int32))] ∧ Z.Warmed39 U.vm ∧ U.heap = h0) (fun _ _ _ _ _ => True) (fun _ U o U' => ∃ v L, o = .returned v ∧ Q12 Z  h0 n0 v U'.heap L ∧ FrameEnd U o U' L (⟨2, 0, 0, 27⟩ : Room).cells (⟨2, 0, 0, 27⟩ : Room).slots) := by
  refine MetFree.of_bodySF (plainFor_of_name own_pn12) hisR ?_
  intro p e s m args below meth c s₁ Bd hml0 hP hK
  obtain ⟨rfl, hZ, hh⟩ := hP
  have hx := Bd.exec
  have hby := Bd.bytes
  have hml : c.maxLocals = 1 := hml0
  have hown : s.vm.findClass "com/example/tidemark/tidemark/core/ThetaLambdaTree" = some m.cls := findClass_of_methodNamed Bd.named
  have hnm := (name_of_methodNamed Bd.named Bd.method).1
  have X0 : Stand p l e (⟨2, 0, 0, 27⟩ : Room) s m #[(.int (3 : Int32))] below meth c s₁ [] 0 0 := Stand.of_body Bd
  have e0 : s₁.heap = h0 := by rw [← hh, Bd.state]; rfl
  have N0 := Fr.nil n0
  obtain ⟨Pq, hPq⟩ : ∃ P, P = own_P s below (fun v h L => Q12 Z  h0 n0 v h L) (⟨2, 0, 0, 27⟩ : Room).cells (⟨2, 0, 0, 27⟩ : Room).slots := ⟨_, rfl⟩
  suffices hgo : own_Go p.tables e below Pq s₁ (mkF m 0 #[sI (3 : Int32)] []) by
    subst hPq
    obtain ⟨t, k1, k2, o, k3, k4⟩ := hgo
    exact ⟨t, o, castTop (own_ef12 m ) k1, k2, k3, k4⟩
  show own_Go _ _ _ _ s₁ (mkF m 0 #[sI (3 : Int32)] [])
  refine own_st (fun t k => XS.iconst X0.here hx rfl (hb hby d4_0) k) ?_
  show own_Go _ _ _ _ s₁ (mkF m 1 _ [(.int (1 : Int32))])
  refine own_st (fun t k => XS.iconst X0.here hx rfl (hb hby d4_1) k) ?_
  show own_Go _ _ _ _ s₁ (mkF m 2 _ [(.int (2 : Int32)), (.int (1 : Int32))])
  refine own_st (fun t k => XS.iloadN X0.here hx rfl (hb hby d4_2) rfl k) ?_
  show own_Go _ _ _ _ s₁ (mkF m 3 _ [(.int (3 : Int32)), (.int (2 : Int32)), (.int (1 : Int32))])
  refine own_st (fun t k => XS.imul X0.here hx rfl (hb hby d4_3) rfl k) ?_
  show own_Go _ _ _ _ s₁ (mkF m 4 _ [(.int (6 : Int32)), (.int (1 : Int32))])
  refine own_st (fun t k => XS.iconst X0.here hx rfl (hb hby d4_4) k) ?_
  show own_Go _ _ _ _ s₁ (mkF m 5 _ [(.int (1 : Int32)), (.int (6 : Int32)), (.int (1 : Int32))])
  refine own_st (fun t k => XS.isub X0.here hx rfl (hb hby d4_5) rfl k) ?_
  show own_Go _ _ _ _ s₁ (mkF m 6 _ [(.int (5 : Int32)), (.int (1 : Int32))])
  obtain ⟨_, _, ⟨T1, L1, k1, n1⟩, -, X1, ⟨Lc1, hQ1, l1, y1, z1⟩, st1⟩ := Jvm.LawKit.callS X0 hx (y := ym1) hown (mvT hZ (own_w hw 15 rfl)) (mvT hZ (own_w hw 16 rfl)) (mvT hZ (own_w hw 17 rfl)) (mvT hZ (own_w hw 18 rfl)) (by decide) (backOf (W := 0) (rm9 l Z a0 hw []  h0 n0 Z0 ) hZ (own_w hw 18 rfl) (own_w hw 17 rfl) (by decide) (by decide)) (g := (mkF m 6 #[sI (3 : Int32)] [(.int (5 : Int32)), (.int (1 : Int32))])) rfl (by rw [hml]; rfl) (argsL := [(.int (1 : Int32)), (.int (5 : Int32))]) (rest := []) (lenOf own_pd__II_I rfl) rfl (by show 2 * 0 + _ ≤ _; exact Nat.le_of_eq rfl) (hb hby d4_6) (fun _ _ => ⟨rfl, e0, (by decide : 0 + 0 ≤ _), (by decide : 0 + 0 ≤ _)⟩)
  dsimp only [Pt.U, Pt.locs, Pt.cells, Pt.slots] at X1 l1 y1 z1 st1 hQ1
  subst l1 y1 z1
  obtain ⟨rfl, NQ1, eq1⟩ := hQ1
  have N2 := Fr.app N0 NQ1
  refine own_st st1 ?_
  show own_Go _ _ _ _ T1 (mkF m 9 _ [(.int (5 : Int32))])
  obtain ⟨_, _, ⟨T3, L3, k3, n3⟩, -, X3, ⟨Lc3, hQ3, l3, y3, z3⟩, st3⟩ := Jvm.LawKit.callS X1 hx (y := ym3) hown (mvT hZ (own_w hw 19 rfl)) (mvT hZ (own_w hw 20 rfl)) (mvT hZ (own_w hw 21 rfl)) (mvT hZ (own_w hw 22 rfl)) (by decide) (backOf (W := 0) (rm11 l Z a0 hw []  h0 n0 Z0 ) hZ (own_w hw 22 rfl) (own_w hw 21 rfl) (by decide) (by decide)) (g := (mkF m 9 #[sI (3 : Int32)] [(.int (5 : Int32))])) rfl (by rw [hml]; rfl) (argsL := [(.int (5 : Int32))]) (rest := []) (lenOf own_pd__I_I rfl) rfl (by show 2 * 0 + _ ≤ _; exact Nat.le_of_eq rfl) (hb hby d4_9) (fun _ _ => ⟨rfl, eq1, (by decide : 0 + 0 ≤ _), (by decide : 0 + 0 ≤ _)⟩)
  dsimp only [Pt.U, Pt.locs, Pt.cells, Pt.slots] at X3 l3 y3 z3 st3 hQ3
  subst l3 y3 z3
  obtain ⟨rfl, NQ3, eq3⟩ := hQ3
  have N4 := Fr.app N2 NQ3
  refine own_st st3 ?_
  show own_Go _ _ _ _ T3 (mkF m 12 _ [(.int (4 : Int32))])
  subst hPq
  refine own_out X3 (v := some (.int (4 : Int32))) (fun h => by rw [Bd.returns] at h; cases h) Bd.notSynchronized (own_retI X3 hx Bd.returns (hb hby d4_12)) (by decide) (by decide) ?_
  show Q12 Z  h0 n0 _ T3.heap _
  rw [eq3]
  exact ⟨rfl, N4, rfl⟩
theorem own_ef13 (m : MethodId)  : entryFrame m #[(.int (1 : Int32)), (.int (7 : Int32))] 2 = mkF m 0 #[sI (1 : Int32), sI (7 : Int32)] [] := by first | (simp [entryFrame, mkF, argsToLocals, Value.category]; done) | rfl
def Q13 (Z : State)  (h0 : Heap) (n0 : Nat) (v : Option Value) (h : Heap) (L : List Loc) : Prop := v = some (.int (7 : Int32)) ∧ Fr n0 L ∧ h = h0
set_option maxRecDepth 65536 in
set_option maxHeartbeats 4000000 in
theorem rm13 (l : Launch) (Z : State) (a0 : Array Value) (hw : ∀ d ∈ tables_1, d.before a0 Z = true) (ws : List Jvm.Cond)  (h0 : Heap) (n0 : Nat) (Z0 : n0 ≤ h0.size) :
    MetFree l ym1 (head1 (Jvm.Cond.code ym1 jdk_29_method_65_code 2 (some .int) :: ws) (⟨0, 0, 0, 0⟩ : Room)) (fun aW U => aW = #[(.int (1 : Int32)), (.int (7 : Int32))] ∧ Z.Warmed39 U.vm ∧ U.heap = h0) (fun _ _ _ _ _ => True) (fun _ U o U' => ∃ v L, o = .returned v ∧ Q13 Z  h0 n0 v U'.heap L ∧ FrameEnd U o U' L (⟨0, 0, 0, 0⟩ : Room).cells (⟨0, 0, 0, 0⟩ : Room).slots) := by
  refine MetFree.of_bodySF (Jvm.Free.JP.mathPlain rfl (by decide +kernel)) hisR ?_
  intro p e s m args below meth c s₁ Bd hml0 hP hK
  obtain ⟨rfl, hZ, hh⟩ := hP
  have hx := Bd.exec
  have hby := Bd.bytes
  have hml : c.maxLocals = 2 := hml0
  have hown : s.vm.findClass "java/lang/Math" = some m.cls := findClass_of_methodNamed Bd.named
  have hnm := (name_of_methodNamed Bd.named Bd.method).1
  have X0 : Stand p l e (⟨0, 0, 0, 0⟩ : Room) s m #[(.int (1 : Int32)), (.int (7 : Int32))] below meth c s₁ [] 0 0 := Stand.of_body Bd
  have e0 : s₁.heap = h0 := by rw [← hh, Bd.state]; rfl
  have N0 := Fr.nil n0
  obtain ⟨Pq, hPq⟩ : ∃ P, P = own_P s below (fun v h L => Q13 Z  h0 n0 v h L) (⟨0, 0, 0, 0⟩ : Room).cells (⟨0, 0, 0, 0⟩ : Room).slots := ⟨_, rfl⟩
  suffices hgo : own_Go p.tables e below Pq s₁ (mkF m 0 #[sI (1 : Int32), sI (7 : Int32)] []) by
    subst hPq
    obtain ⟨t, k1, k2, o, k3, k4⟩ := hgo
    exact ⟨t, o, castTop (own_ef13 m ) k1, k2, k3, k4⟩
  show own_Go _ _ _ _ s₁ (mkF m 0 #[sI (1 : Int32), sI (7 : Int32)] [])
  refine own_st (fun t k => XS.iloadN X0.here hx rfl (hb hby d1_0) rfl k) ?_
  show own_Go _ _ _ _ s₁ (mkF m 1 _ [(.int (1 : Int32))])
  refine own_st (fun t k => XS.iloadN X0.here hx rfl (hb hby d1_1) rfl k) ?_
  show own_Go _ _ _ _ s₁ (mkF m 2 _ [(.int (7 : Int32)), (.int (1 : Int32))])
  refine own_st (fun t k => XS.icmpYes X0.here hx rfl (pc0 := 2) (pc' := 9) rfl (hb hby d1_2) rfl (tlt (by decide : ((1 : Int32) < (7 : Int32)))).1 (by decide) (by decide) k) ?_
  show own_Go _ _ _ _ s₁ (mkF m 9 _ [])
  refine own_st (fun t k => XS.iloadN X0.here hx rfl (hb hby d1_9) rfl k) ?_
  show own_Go _ _ _ _ s₁ (mkF m 10 _ [(.int (7 : Int32))])
  subst hPq
  refine own_out X0 (v := some (.int (7 : Int32))) (fun h => by rw [Bd.returns] at h; cases h) Bd.notSynchronized (own_retI X0 hx Bd.returns (hb hby d1_10)) (by decide) (by decide) ?_
  show Q13 Z  h0 n0 _ s₁.heap _
  rw [e0]
  exact ⟨rfl, N0, rfl⟩
theorem own_pn14 : plainName "java/lang/Integer" = true := by first | (simp [plainName, overriddenIn]; done) | decide +kernel
theorem own_ef14 (m : MethodId)  : entryFrame m #[(.int (7 : Int32))] 2 = mkF m 0 #[sI (7 : Int32), .unset] [] := by first | (simp [entryFrame, mkF, argsToLocals, Value.category]; done) | rfl
def Q14 (Z : State)  (h0 : Heap) (n0 : Nat) (v : Option Value) (h : Heap) (L : List Loc) : Prop := v = some (.int (29 : Int32)) ∧ Fr n0 L ∧ h = h0
set_option maxRecDepth 65536 in
set_option maxHeartbeats 4000000 in
theorem rm14 (l : Launch) (Z : State) (a0 : Array Value) (hw : ∀ d ∈ tables_1, d.before a0 Z = true) (ws : List Jvm.Cond)  (h0 : Heap) (n0 : Nat) (Z0 : n0 ≤ h0.size) :
    MetFree l ym2 (head1 (Jvm.Cond.code ym2 jdk_33_method_47_code 2 (some .int) :: ws) (⟨0, 0, 0, 0⟩ : Room)) (fun aW U => aW = #[(.int (7 : Int32))] ∧ Z.Warmed39 U.vm ∧ U.heap = h0) (fun _ _ _ _ _ => True) (fun _ U o U' => ∃ v L, o = .returned v ∧ Q14 Z  h0 n0 v U'.heap L ∧ FrameEnd U o U' L (⟨0, 0, 0, 0⟩ : Room).cells (⟨0, 0, 0, 0⟩ : Room).slots) := by
  refine MetFree.of_bodySF (plainFor_of_name own_pn14) hisR ?_
  intro p e s m args below meth c s₁ Bd hml0 hP hK
  obtain ⟨rfl, hZ, hh⟩ := hP
  have hx := Bd.exec
  have hby := Bd.bytes
  have hml : c.maxLocals = 2 := hml0
  have hown : s.vm.findClass "java/lang/Integer" = some m.cls := findClass_of_methodNamed Bd.named
  have hnm := (name_of_methodNamed Bd.named Bd.method).1
  have X0 : Stand p l e (⟨0, 0, 0, 0⟩ : Room) s m #[(.int (7 : Int32))] below meth c s₁ [] 0 0 := Stand.of_body Bd
  have e0 : s₁.heap = h0 := by rw [← hh, Bd.state]; rfl
  have N0 := Fr.nil n0
  obtain ⟨Pq, hPq⟩ : ∃ P, P = own_P s below (fun v h L => Q14 Z  h0 n0 v h L) (⟨0, 0, 0, 0⟩ : Room).cells (⟨0, 0, 0, 0⟩ : Room).slots := ⟨_, rfl⟩
  suffices hgo : own_Go p.tables e below Pq s₁ (mkF m 0 #[sI (7 : Int32), .unset] []) by
    subst hPq
    obtain ⟨t, k1, k2, o, k3, k4⟩ := hgo
    exact ⟨t, o, castTop (own_ef14 m ) k1, k2, k3, k4⟩
  show own_Go _ _ _ _ s₁ (mkF m 0 #[sI (7 : Int32), .unset] [])
  refine own_st (fun t k => XS.iloadN X0.here hx rfl (hb hby d2_0) rfl k) ?_
  show own_Go _ _ _ _ s₁ (mkF m 1 _ [(.int (7 : Int32))])
  refine own_st (fun t k => XS.ifYes X0.here hx rfl (pc0 := 1) (pc' := 15) rfl (hb hby d2_1) rfl ((if0 _ _).trans (tlt (by decide : ((0 : Int32) < (7 : Int32)))).2.2.1) (by decide) (by decide) k) ?_
  show own_Go _ _ _ _ s₁ (mkF m 15 _ [])
  refine own_st (fun t k => XS.bipush X0.here hx rfl (hb hby d2_15) k) ?_
  show own_Go _ _ _ _ s₁ (mkF m 17 _ [(.int (31 : Int32))])
  refine own_st (fun t k => XS.istoreN X0.here hx rfl (hb hby d2_17) rfl (l' := #[sI (7 : Int32), sI (31 : Int32)]) rfl k) ?_
  show own_Go _ _ _ _ s₁ (mkF m 18 #[sI (7 : Int32), sI (31 : Int32)] [])
  refine own_st (fun t k => XS.iloadN X0.here hx rfl (hb hby d2_18) rfl k) ?_
  show own_Go _ _ _ _ s₁ (mkF m 19 _ [(.int (7 : Int32))])
  refine own_st (fun t k => X0.ldcwInt hx hown (mvT hZ (own_w hw 27 rfl)) (g := (mkF m 19 #[sI (7 : Int32), sI (31 : Int32)] [(.int (7 : Int32))])) rfl (hb hby d2_19) _ k) ?_
  show own_Go _ _ _ _ s₁ (mkF m 22 _ [(.int (65536 : Int32)), (.int (7 : Int32))])
  refine own_st (fun t k => XS.icmpYes X0.here hx rfl (pc0 := 22) (pc' := 33) rfl (hb hby d2_22) rfl (tlt (by decide : ((7 : Int32) < (65536 : Int32)))).1 (by decide) (by decide) k) ?_
  show own_Go _ _ _ _ s₁ (mkF m 33 _ [])
  refine own_st (fun t k => XS.iloadN X0.here hx rfl (hb hby d2_33) rfl k) ?_
  show own_Go _ _ _ _ s₁ (mkF m 34 _ [(.int (7 : Int32))])
  refine own_st (fun t k => XS.sipush X0.here hx rfl (hb hby d2_34) k) ?_
  show own_Go _ _ _ _ s₁ (mkF m 37 _ [(.int (256 : Int32)), (.int (7 : Int32))])
  refine own_st (fun t k => XS.icmpYes X0.here hx rfl (pc0 := 37) (pc' := 48) rfl (hb hby d2_37) rfl (tlt (by decide : ((7 : Int32) < (256 : Int32)))).1 (by decide) (by decide) k) ?_
  show own_Go _ _ _ _ s₁ (mkF m 48 _ [])
  refine own_st (fun t k => XS.iloadN X0.here hx rfl (hb hby d2_48) rfl k) ?_
  show own_Go _ _ _ _ s₁ (mkF m 49 _ [(.int (7 : Int32))])
  refine own_st (fun t k => XS.bipush X0.here hx rfl (hb hby d2_49) k) ?_
  show own_Go _ _ _ _ s₁ (mkF m 51 _ [(.int (16 : Int32)), (.int (7 : Int32))])
  refine own_st (fun t k => XS.icmpYes X0.here hx rfl (pc0 := 51) (pc' := 61) rfl (hb hby d2_51) rfl (tlt (by decide : ((7 : Int32) < (16 : Int32)))).1 (by decide) (by decide) k) ?_
  show own_Go _ _ _ _ s₁ (mkF m 61 _ [])
  refine own_st (fun t k => XS.iloadN X0.here hx rfl (hb hby d2_61) rfl k) ?_
  show own_Go _ _ _ _ s₁ (mkF m 62 _ [(.int (7 : Int32))])
  refine own_st (fun t k => XS.iconst X0.here hx rfl (hb hby d2_62) k) ?_
  show own_Go _ _ _ _ s₁ (mkF m 63 _ [(.int (4 : Int32)), (.int (7 : Int32))])
  refine own_st (fun t k => XS.icmpNo X0.here hx rfl (hb hby d2_63) rfl (flt (by decide : ¬ ((7 : Int32) < (4 : Int32)))).1 k) ?_
  show own_Go _ _ _ _ s₁ (mkF m 66 _ [])
  refine own_st (fun t k => XS.iinc X0.here hx rfl (hb hby d2_66) rfl (l' := #[sI (7 : Int32), sI (29 : Int32)]) rfl k) ?_
  show own_Go _ _ _ _ s₁ (mkF m 69 #[sI (7 : Int32), sI (29 : Int32)] [])
  show own_Go _ _ _ _ s₁ (mkF m 69 _ [])
  refine own_st (fun t k => XS.iloadN X0.here hx rfl (hb hby d2_69) rfl k) ?_
  show own_Go _ _ _ _ s₁ (mkF m 70 _ [(.int (7 : Int32))])
  refine own_st (fun t k => XS.iconst X0.here hx rfl (hb hby d2_70) k) ?_
  show own_Go _ _ _ _ s₁ (mkF m 71 _ [(.int (2 : Int32)), (.int (7 : Int32))])
  refine own_st (fun t k => XS.iushr X0.here hx rfl (hb hby d2_71) rfl k) ?_
  show own_Go _ _ _ _ s₁ (mkF m 72 _ [(.int (1 : Int32))])
  refine own_st (fun t k => XS.istoreN X0.here hx rfl (hb hby d2_72) rfl (l' := #[sI (1 : Int32), sI (29 : Int32)]) rfl k) ?_
  show own_Go _ _ _ _ s₁ (mkF m 73 #[sI (1 : Int32), sI (29 : Int32)] [])
  refine own_st (fun t k => XS.iloadN X0.here hx rfl (hb hby d2_73) rfl k) ?_
  show own_Go _ _ _ _ s₁ (mkF m 74 _ [(.int (29 : Int32))])
  refine own_st (fun t k => XS.iloadN X0.here hx rfl (hb hby d2_74) rfl k) ?_
  show own_Go _ _ _ _ s₁ (mkF m 75 _ [(.int (1 : Int32)), (.int (29 : Int32))])
  refine own_st (fun t k => XS.iconst X0.here hx rfl (hb hby d2_75) k) ?_
  show own_Go _ _ _ _ s₁ (mkF m 76 _ [(.int (1 : Int32)), (.int (1 : Int32)), (.int (29 : Int32))])
  refine own_st (fun t k => XS.iushr X0.here hx rfl (hb hby d2_76) rfl k) ?_
  show own_Go _ _ _ _ s₁ (mkF m 77 _ [(.int (0 : Int32)), (.int (29 : Int32))])
  refine own_st (fun t k => XS.isub X0.here hx rfl (hb hby d2_77) rfl k) ?_
  show own_Go _ _ _ _ s₁ (mkF m 78 _ [(.int (29 : Int32))])
  subst hPq
  refine own_out X0 (v := some (.int (29 : Int32))) (fun h => by rw [Bd.returns] at h; cases h) Bd.notSynchronized (own_retI X0 hx Bd.returns (hb hby d2_78)) (by decide) (by decide) ?_
  show Q14 Z  h0 n0 _ s₁.heap _
  rw [e0]
  exact ⟨rfl, N0, rfl⟩
theorem own_pn15 : plainName "java/lang/Integer" = true := by first | (simp [plainName, overriddenIn]; done) | decide +kernel
theorem own_ef15 (m : MethodId)  : entryFrame m #[(.int (7 : Int32))] 1 = mkF m 0 #[sI (7 : Int32)] [] := by first | (simp [entryFrame, mkF, argsToLocals, Value.category]; done) | rfl
def Q15 (Z : State)  (h0 : Heap) (n0 : Nat) (v : Option Value) (h : Heap) (L : List Loc) : Prop := v = some (.int (4 : Int32)) ∧ Fr n0 L ∧ h = h0
set_option maxRecDepth 65536 in
set_option maxHeartbeats 4000000 in
theorem rm15 (l : Launch) (Z : State) (a0 : Array Value) (hw : ∀ d ∈ tables_1, d.before a0 Z = true) (ws : List Jvm.Cond)  (h0 : Heap) (n0 : Nat) (Z0 : n0 ≤ h0.size) :
    MetFree l ym3 (head1 (Jvm.Cond.code ym3 jdk_33_method_45_code 1 (some .int) :: ws) (⟨1, 0, 0, 15⟩ : Room)) (fun aW U => aW = #[(.int (7 : Int32))] ∧ Z.Warmed39 U.vm ∧ U.heap = h0) (fun _ _ _ _ _ => True) (fun _ U o U' => ∃ v L, o = .returned v ∧ Q15 Z  h0 n0 v U'.heap L ∧ FrameEnd U o U' L (⟨1, 0, 0, 15⟩ : Room).cells (⟨1, 0, 0, 15⟩ : Room).slots) := by
  refine MetFree.of_bodySF (plainFor_of_name own_pn15) hisR ?_
  intro p e s m args below meth c s₁ Bd hml0 hP hK
  obtain ⟨rfl, hZ, hh⟩ := hP
  have hx := Bd.exec
  have hby := Bd.bytes
  have hml : c.maxLocals = 1 := hml0
  have hown : s.vm.findClass "java/lang/Integer" = some m.cls := findClass_of_methodNamed Bd.named
  have hnm := (name_of_methodNamed Bd.named Bd.method).1
  have X0 : Stand p l e (⟨1, 0, 0, 15⟩ : Room) s m #[(.int (7 : Int32))] below meth c s₁ [] 0 0 := Stand.of_body Bd
  have e0 : s₁.heap = h0 := by rw [← hh, Bd.state]; rfl
  have N0 := Fr.nil n0
  obtain ⟨Pq, hPq⟩ : ∃ P, P = own_P s below (fun v h L => Q15 Z  h0 n0 v h L) (⟨1, 0, 0, 15⟩ : Room).cells (⟨1, 0, 0, 15⟩ : Room).slots := ⟨_, rfl⟩
  suffices hgo : own_Go p.tables e below Pq s₁ (mkF m 0 #[sI (7 : Int32)] []) by
    subst hPq
    obtain ⟨t, k1, k2, o, k3, k4⟩ := hgo
    exact ⟨t, o, castTop (own_ef15 m ) k1, k2, k3, k4⟩
  show own_Go _ _ _ _ s₁ (mkF m 0 #[sI (7 : Int32)] [])
  refine own_st (fun t k => XS.iloadN X0.here hx rfl (hb hby d3_0) rfl k) ?_
  show own_Go _ _ _ _ s₁ (mkF m 1 _ [(.int (7 : Int32))])
  refine own_st (fun t k => X0.ldcInt hx hown (mvT hZ (own_w hw 23 rfl)) (g := (mkF m 1 #[sI (7 : Int32)] [(.int (7 : Int32))])) rfl (hb hby d3_1) _ k) ?_
  show own_Go _ _ _ _ s₁ (mkF m 3 _ [(.int (-2147483648 : Int32)), (.int (7 : Int32))])
  refine own_st (fun t k => XS.iloadN X0.here hx rfl (hb hby d3_3) rfl k) ?_
  show own_Go _ _ _ _ s₁ (mkF m 4 _ [(.int (7 : Int32)), (.int (-2147483648 : Int32)), (.int (7 : Int32))])
  obtain ⟨_, _, ⟨T1, L1, k1, n1⟩, -, X1, ⟨Lc1, hQ1, l1, y1, z1⟩, st1⟩ := Jvm.LawKit.callS X0 hx (y := ym2) hown (mvT hZ (own_w hw 24 rfl)) (mvT hZ (own_w hw 25 rfl)) (mvT hZ (own_w hw 21 rfl)) (mvT hZ (own_w hw 26 rfl)) (by decide) (backOf (W := 2) (rm14 l Z a0 hw []  h0 n0 Z0 ) hZ (own_w hw 26 rfl) (own_w hw 21 rfl) (by decide) (by decide)) (g := (mkF m 4 #[sI (7 : Int32)] [(.int (7 : Int32)), (.int (-2147483648 : Int32)), (.int (7 : Int32))])) rfl (by rw [hml]; rfl) (argsL := [(.int (7 : Int32))]) (rest := [(.int (-2147483648 : Int32)), (.int (7 : Int32))]) (lenOf own_pd__I_I rfl) rfl (by show 2 * 0 + _ ≤ _; exact Nat.le_of_eq rfl) (hb hby d3_4) (fun _ _ => ⟨rfl, e0, (by decide : 0 + 0 ≤ _), (by decide : 0 + 0 ≤ _)⟩)
  dsimp only [Pt.U, Pt.locs, Pt.cells, Pt.slots] at X1 l1 y1 z1 st1 hQ1
  subst l1 y1 z1
  obtain ⟨rfl, NQ1, eq1⟩ := hQ1
  have N2 := Fr.app N0 NQ1
  refine own_st st1 ?_
  show own_Go _ _ _ _ T1 (mkF m 7 _ [(.int (29 : Int32)), (.int (-2147483648 : Int32)), (.int (7 : Int32))])
  refine own_st (fun t k => XS.iushr X1.here hx rfl (hb hby d3_7) rfl k) ?_
  show own_Go _ _ _ _ T1 (mkF m 8 _ [(.int (4 : Int32)), (.int (7 : Int32))])
  refine own_st (fun t k => XS.iand X1.here hx rfl (hb hby d3_8) rfl k) ?_
  show own_Go _ _ _ _ T1 (mkF m 9 _ [(.int (4 : Int32))])
  subst hPq
  refine own_out X1 (v := some (.int (4 : Int32))) (fun h => by rw [Bd.returns] at h; cases h) Bd.notSynchronized (own_retI X1 hx Bd.returns (hb hby d3_9)) (by decide) (by decide) ?_
  show Q15 Z  h0 n0 _ T1.heap _
  rw [eq1]
  exact ⟨rfl, N2, rfl⟩
theorem own_pn16 : plainName "com/example/tidemark/tidemark/core/ThetaLambdaTree" = true := by first | (simp [plainName, overriddenIn]; done) | decide +kernel
theorem own_ef16 (m : MethodId)  : entryFrame m #[(.int (4 : Int32))] 1 = mkF m 0 #[sI (4 : Int32)] [] := by first | (simp [entryFrame, mkF, argsToLocals, Value.category]; done) | rfl
def Q16 (Z : State)  (h0 : Heap) (n0 : Nat) (v : Option Value) (h : Heap) (L : List Loc) : Prop := v = some (.int (4 : Int32)) ∧ Fr n0 L ∧ h = h0
set_option maxRecDepth 65536 in
set_option maxHeartbeats 4000000 in
theorem rm16 (l : Launch) (Z : State) (a0 : Array Value) (hw : ∀ d ∈ tables_1, d.before a0 Z = true) (ws : List Jvm.Cond)  (h0 : Heap) (n0 : Nat) (Z0 : n0 ≤ h0.size) :
    MetFree l ym4 (head1 (Jvm.Cond.code ym4 prog_46_method_2_code 1 (some .int) :: ws) (⟨2, 0, 0, 27⟩ : Room)) (fun aW U => aW = #[(.int (4 : Int32))] ∧ Z.Warmed39 U.vm ∧ U.heap = h0) (fun _ _ _ _ _ => True) (fun _ U o U' => ∃ v L, o = .returned v ∧ Q16 Z  h0 n0 v U'.heap L ∧ FrameEnd U o U' L (⟨2, 0, 0, 27⟩ : Room).cells (⟨2, 0, 0, 27⟩ : Room).slots) := by
  refine MetFree.of_bodySF (plainFor_of_name own_pn16) hisR ?_
  intro p e s m args below meth c s₁ Bd hml0 hP hK
  obtain ⟨rfl, hZ, hh⟩ := hP
  have hx := Bd.exec
  have hby := Bd.bytes
  have hml : c.maxLocals = 1 := hml0
  have hown : s.vm.findClass "com/example/tidemark/tidemark/core/ThetaLambdaTree" = some m.cls := findClass_of_methodNamed Bd.named
  have hnm := (name_of_methodNamed Bd.named Bd.method).1
  have X0 : Stand p l e (⟨2, 0, 0, 27⟩ : Room) s m #[(.int (4 : Int32))] below meth c s₁ [] 0 0 := Stand.of_body Bd
  have e0 : s₁.heap = h0 := by rw [← hh, Bd.state]; rfl
  have N0 := Fr.nil n0
  obtain ⟨Pq, hPq⟩ : ∃ P, P = own_P s below (fun v h L => Q16 Z  h0 n0 v h L) (⟨2, 0, 0, 27⟩ : Room).cells (⟨2, 0, 0, 27⟩ : Room).slots := ⟨_, rfl⟩
  suffices hgo : own_Go p.tables e below Pq s₁ (mkF m 0 #[sI (4 : Int32)] []) by
    subst hPq
    obtain ⟨t, k1, k2, o, k3, k4⟩ := hgo
    exact ⟨t, o, castTop (own_ef16 m ) k1, k2, k3, k4⟩
  show own_Go _ _ _ _ s₁ (mkF m 0 #[sI (4 : Int32)] [])
  refine own_st (fun t k => XS.iconst X0.here hx rfl (hb hby d4_0) k) ?_
  show own_Go _ _ _ _ s₁ (mkF m 1 _ [(.int (1 : Int32))])
  refine own_st (fun t k => XS.iconst X0.here hx rfl (hb hby d4_1) k) ?_
  show own_Go _ _ _ _ s₁ (mkF m 2 _ [(.int (2 : Int32)), (.int (1 : Int32))])
  refine own_st (fun t k => XS.iloadN X0.here hx rfl (hb hby d4_2) rfl k) ?_
  show own_Go _ _ _ _ s₁ (mkF m 3 _ [(.int (4 : Int32)), (.int (2 : Int32)), (.int (1 : Int32))])
  refine own_st (fun t k => XS.imul X0.here hx rfl (hb hby d4_3) rfl k) ?_
  show own_Go _ _ _ _ s₁ (mkF m 4 _ [(.int (8 : Int32)), (.int (1 : Int32))])
  refine own_st (fun t k => XS.iconst X0.here hx rfl (hb hby d4_4) k) ?_
  show own_Go _ _ _ _ s₁ (mkF m 5 _ [(.int (1 : Int32)), (.int (8 : Int32)), (.int (1 : Int32))])
  refine own_st (fun t k => XS.isub X0.here hx rfl (hb hby d4_5) rfl k) ?_
  show own_Go _ _ _ _ s₁ (mkF m 6 _ [(.int (7 : Int32)), (.int (1 : Int32))])
  obtain ⟨_, _, ⟨T1, L1, k1, n1⟩, -, X1, ⟨Lc1, hQ1, l1, y1, z1⟩, st1⟩ := Jvm.LawKit.callS X0 hx (y := ym1) hown (mvT hZ (own_w hw 15 rfl)) (mvT hZ (own_w hw 16 rfl)) (mvT hZ (own_w hw 17 rfl)) (mvT hZ (own_w hw 18 rfl)) (by decide) (backOf (W := 0) (rm13 l Z a0 hw []  h0 n0 Z0 ) hZ (own_w hw 18 rfl) (own_w hw 17 rfl) (by decide) (by decide)) (g := (mkF m 6 #[sI (4 : Int32)] [(.int (7 : Int32)), (.int (1 : Int32))])) rfl (by rw [hml]; rfl) (argsL := [(.int (1 : Int32)), (.int (7 : Int32))]) (rest := []) (lenOf own_pd__II_I rfl) rfl (by show 2 * 0 + _ ≤ _; exact Nat.le_of_eq rfl) (hb hby d4_6) (fun _ _ => ⟨rfl, e0, (by decide : 0 + 0 ≤ _), (by decide : 0 + 0 ≤ _)⟩)
  dsimp only [Pt.U, Pt.locs, Pt.cells, Pt.slots] at X1 l1 y1 z1 st1 hQ1
  subst l1 y1 z1
  obtain ⟨rfl, NQ1, eq1⟩ := hQ1
  have N2 := Fr.app N0 NQ1
  refine own_st st1 ?_
  show own_Go _ _ _ _ T1 (mkF m 9 _ [(.int (7 : Int32))])
  obtain ⟨_, _, ⟨T3, L3, k3, n3⟩, -, X3, ⟨Lc3, hQ3, l3, y3, z3⟩, st3⟩ := Jvm.LawKit.callS X1 hx (y := ym3) hown (mvT hZ (own_w hw 19 rfl)) (mvT hZ (own_w hw 20 rfl)) (mvT hZ (own_w hw 21 rfl)) (mvT hZ (own_w hw 22 rfl)) (by decide) (backOf (W := 0) (rm15 l Z a0 hw []  h0 n0 Z0 ) hZ (own_w hw 22 rfl) (own_w hw 21 rfl) (by decide) (by decide)) (g := (mkF m 9 #[sI (4 : Int32)] [(.int (7 : Int32))])) rfl (by rw [hml]; rfl) (argsL := [(.int (7 : Int32))]) (rest := []) (lenOf own_pd__I_I rfl) rfl (by show 2 * 0 + _ ≤ _; exact Nat.le_of_eq rfl) (hb hby d4_9) (fun _ _ => ⟨rfl, eq1, (by decide : 0 + 0 ≤ _), (by decide : 0 + 0 ≤ _)⟩)
  dsimp only [Pt.U, Pt.locs, Pt.cells, Pt.slots] at X3 l3 y3 z3 st3 hQ3
  subst l3 y3 z3
  obtain ⟨rfl, NQ3, eq3⟩ := hQ3
  have N4 := Fr.app N2 NQ3
  refine own_st st3 ?_
  show own_Go _ _ _ _ T3 (mkF m 12 _ [(.int (4 : Int32))])
  subst hPq
  refine own_out X3 (v := some (.int (4 : Int32))) (fun h => by rw [Bd.returns] at h; cases h) Bd.notSynchronized (own_retI X3 hx Bd.returns (hb hby d4_12)) (by decide) (by decide) ?_
  show Q16 Z  h0 n0 _ T3.heap _
  rw [eq3]
  exact ⟨rfl, N4, rfl⟩
def own_max (x0 : Int64) (x1 : Int64) : Int64 := (if x0 < x1 then x1 else x0)
theorem d5_0 : decode qc5 0 = .ok (.lload_n 0, 1) := by decide +kernel
theorem d5_1 : decode qc5 1 = .ok (.lload_n 2, 1) := by decide +kernel
theorem d5_2 : decode qc5 2 = .ok (.lcmp, 1) := by decide +kernel
theorem d5_3 : decode qc5 3 = .ok (.ifCond .lt 7, 3) := by decide +kernel
theorem d5_6 : decode qc5 6 = .ok (.lload_n 0, 1) := by decide +kernel
theorem d5_7 : decode qc5 7 = .ok (.goto 4, 3) := by decide +kernel
theorem d5_10 : decode qc5 10 = .ok (.lload_n 2, 1) := by decide +kernel
theorem d5_11 : decode qc5 11 = .ok (.lreturn, 1) := by decide +kernel
theorem own_ef17 (m : MethodId) (x0 : Int64) (x1 : Int64) : entryFrame m #[(.long x0), (.long x1)] 4 = mkF m 0 #[sJ x0, .second, sJ x1, .second] [] := by first | (simp [entryFrame, mkF, argsToLocals, Value.category]; done) | rfl
def Q17 (Z : State) (x0 : Int64) (x1 : Int64) (h0 : Heap) (n0 : Nat) (v : Option Value) (h : Heap) (L : List Loc) : Prop := v = some (.long (own_max x0 x1)) ∧ Fr n0 L ∧ h = h0
set_option maxRecDepth 65536 in
set_option maxHeartbeats 4000000 in
theorem rm17 (l : Launch) (Z : State) (a0 : Array Value) (hw : ∀ d ∈ tables_1, d.before a0 Z = true) (ws : List Jvm.Cond) (x0 : Int64) (x1 : Int64) (h0 : Heap) (n0 : Nat) (Z0 : n0 ≤ h0.size) :
    MetFree l ym5 (head1 (Jvm.Cond.code ym5 jdk_29_method_66_code 4 (some .long) :: ws) (⟨0, 0, 0, 0⟩ : Room)) (fun aW U => aW = #[(.long x0), (.long x1)] ∧ Z.Warmed39 U.vm ∧ U.heap = h0) (fun _ _ _ _ _ => True) (fun _ U o U' => ∃ v L, o = .returned v ∧ Q17 Z x0 x1 h0 n0 v U'.heap L ∧ FrameEnd U o U' L (⟨0, 0, 0, 0⟩ : Room).cells (⟨0, 0, 0, 0⟩ : Room).slots) := by
  refine MetFree.of_bodySF (Jvm.Free.JP.mathPlain rfl (by decide +kernel)) hisR ?_
  intro p e s m args below meth c s₁ Bd hml0 hP hK
  obtain ⟨rfl, hZ, hh⟩ := hP
  have hx := Bd.exec
  have hby := Bd.bytes
  have hml : c.maxLocals = 4 := hml0
  have hown : s.vm.findClass "java/lang/Math" = some m.cls := findClass_of_methodNamed Bd.named
  have hnm := (name_of_methodNamed Bd.named Bd.method).1
  have X0 : Stand p l e (⟨0, 0, 0, 0⟩ : Room) s m #[(.long x0), (.long x1)] below meth c s₁ [] 0 0 := Stand.of_body Bd
  have e0 : s₁.heap = h0 := by rw [← hh, Bd.state]; rfl
  have N0 := Fr.nil n0
  obtain ⟨Pq, hPq⟩ : ∃ P, P = own_P s below (fun v h L => Q17 Z x0 x1 h0 n0 v h L) (⟨0, 0, 0, 0⟩ : Room).cells (⟨0, 0, 0, 0⟩ : Room).slots := ⟨_, rfl⟩
  suffices hgo : own_Go p.tables e below Pq s₁ (mkF m 0 #[sJ x0, .second, sJ x1, .second] []) by
    subst hPq
    obtain ⟨t, k1, k2, o, k3, k4⟩ := hgo
    exact ⟨t, o, castTop (own_ef17 m x0 x1) k1, k2, k3, k4⟩
  show own_Go _ _ _ _ s₁ (mkF m 0 #[sJ x0, .second, sJ x1, .second] [])
  refine own_st (fun t k => XS.lloadN X0.here hx rfl (hb hby d5_0) rfl k) ?_
  show own_Go _ _ _ _ s₁ (mkF m 1 _ [(.long x0)])
  refine own_st (fun t k => XS.lloadN X0.here hx rfl (hb hby d5_1) rfl k) ?_
  show own_Go _ _ _ _ s₁ (mkF m 2 _ [(.long x1), (.long x0)])
  refine own_st (fun t k => XS.lcmp X0.here hx rfl (hb hby d5_2) rfl k) ?_
  show own_Go _ _ _ _ s₁ (mkF m 3 _ [(.int (lcmpW x0 x1))])
  have J4 : ∀ (Tj4 : State) (Lj4 : List Loc) (p5 : Int64), Stand p l e (⟨0, 0, 0, 0⟩ : Room) s m #[(.long x0), (.long x1)] below meth c Tj4 Lj4 0 0 → Tj4.heap = h0 → Fr n0 Lj4 → p5 = (if x0 < x1 then x1 else x0) → own_Go p.tables e below Pq Tj4 (mkF m 11 #[sJ x0, .second, sJ x1, .second] [(.long p5)]) := by
    intro Tj4 Lj4 p5 Xj4 ej4 Nj4 qp5
    show own_Go _ _ _ _ Tj4 (mkF m 11 _ [(.long p5)])
    subst hPq
    refine own_out Xj4 (v := some (.long p5)) (fun h => by rw [Bd.returns] at h; cases h) Bd.notSynchronized (own_retJ Xj4 hx Bd.returns (hb hby d5_11)) (by decide) (by decide) ?_
    show Q17 Z x0 x1 h0 n0 _ Tj4.heap _
    rw [ej4]
    exact ⟨by subst_vars; rfl, Nj4, rfl⟩
  by_cases c1 : x0 < x1
  · skip
    refine own_st (fun t k => XS.ifYes X0.here hx rfl (pc0 := 3) (pc' := 10) rfl (hb hby d5_3) rfl (own_lcT (cd := .lt) c1) (by decide) (by decide) k) ?_
    show own_Go _ _ _ _ s₁ (mkF m 10 _ [])
    refine own_st (fun t k => XS.lloadN X0.here hx rfl (hb hby d5_10) rfl k) ?_
    show own_Go _ _ _ _ s₁ (mkF m 11 _ [(.long x1)])
    exact J4 s₁ _ _ X0 e0 N0 (by simp only [if_pos c1])
  · skip
    refine own_st (fun t k => XS.ifNo X0.here hx rfl (hb hby d5_3) rfl (own_lcF (cd := .lt) c1) k) ?_
    show own_Go _ _ _ _ s₁ (mkF m 6 _ [])
    refine own_st (fun t k => XS.lloadN X0.here hx rfl (hb hby d5_6) rfl k) ?_
    show own_Go _ _ _ _ s₁ (mkF m 7 _ [(.long x0)])
    refine own_st (fun t k => XS.goto X0.here hx rfl (pc0 := 7) (pc' := 11) rfl (hb hby d5_7) (by decide) (by decide) k) ?_
    show own_Go _ _ _ _ s₁ (mkF m 11 _ [(.long x0)])
    exact J4 s₁ _ _ X0 e0 N0 (by simp only [if_neg c1])
/-- a node's four values laid -/
def own_set (g : Nat → Int64) (n : Nat) (e v a b : Int64) : Nat → Int64 := own_updJ (own_updJ (own_updJ (own_updJ g (4 * n) e) (4 * n + 1) v) (4 * n + 2) a) (4 * n + 3) b
def own_comb (g : Nat → Int64) (n : Nat) : Nat → Int64 := own_set g n (g (8 * n) + g (8 * n + 4)) (own_max (g (8 * n + 1) + g (8 * n + 4)) (g (8 * n + 5))) (own_max (g (8 * n + 2) + g (8 * n + 4)) (g (8 * n) + g (8 * n + 6))) (own_max (g (8 * n + 7)) (own_max (g (8 * n + 1) + g (8 * n + 6)) (g (8 * n + 3) + g (8 * n + 4))))
def own_gray (g : Nat → Int64) (n : Nat) : Nat → Int64 := own_set g n 0 (-4611686018427387904) (g (4 * n + 2)) (g (4 * n + 3))
def own_rem (g : Nat → Int64) (n : Nat) : Nat → Int64 := own_set g n 0 (-4611686018427387904) 0 (-4611686018427387904)
def own_up (g : Nat → Int64) (x : Int32) : Nat → Int64 := if x = 1 then g else if x < 4 then own_comb g 1 else if x < 6 then own_comb (own_comb g 2) 1 else own_comb (own_comb g 3) 1
def own_apl (g : Nat → Int64) (l x1 x2 x3 : Int32) : Nat → Int64 := if x1 < x3 then (if x2 = 1 then own_up (own_gray g (l + x1).toNatClampNeg) (l + x1) else if x2 = 2 then own_up (own_rem g (l + x1).toNatClampNeg) (l + x1) else g) else g
theorem own_ixn {x : Int32} (h : ¬ x < 1 ∧ x < 8) (k : Int32) (hk : ¬ k < 0 ∧ k < 4) : ((4 * x) + k).toNatClampNeg = 4 * x.toNatClampNeg + k.toNatClampNeg ∧ ¬ ((4 * x) + k) < 0 ∧ ((4 * x) + k) < 32 := by
  have e1 := c_imul 4 x
  have e2 := c_iadd (4 * x) k
  have r1 := rng32 (4 * x); have r2 := rng32 (4 * x + k)
  simp only [Int32.lt_iff_toInt_lt, show (1 : Int32).toInt = 1 from rfl, show (8 : Int32).toInt = 8 from rfl, show (0 : Int32).toInt = 0 from rfl, show (4 : Int32).toInt = 4 from rfl, show (32 : Int32).toInt = 32 from rfl] at *
  have f1 : (4 * x).toInt = 4 * x.toInt := by omega
  have f2 : (4 * x + k).toInt = 4 * x.toInt + k.toInt := by omega
  refine ⟨?_, by omega, by omega⟩
  simp only [Int32.toNatClampNeg, f2]; omega
theorem own_ixc {x : Int32} (h : ¬ x < 1 ∧ x < 4) (k : Int32) (hk : ¬ k < 0 ∧ k < 8) : ((8 * x) + k).toNatClampNeg = 8 * x.toNatClampNeg + k.toNatClampNeg ∧ ¬ ((8 * x) + k) < 0 ∧ ((8 * x) + k) < 32 := by
  have e1 := c_imul 8 x
  have e2 := c_iadd (8 * x) k
  have r1 := rng32 (8 * x); have r2 := rng32 (8 * x + k)
  simp only [Int32.lt_iff_toInt_lt, show (1 : Int32).toInt = 1 from rfl, show (8 : Int32).toInt = 8 from rfl, show (0 : Int32).toInt = 0 from rfl, show (4 : Int32).toInt = 4 from rfl, show (32 : Int32).toInt = 32 from rfl] at *
  have f1 : (8 * x).toInt = 8 * x.toInt := by omega
  have f2 : (8 * x + k).toInt = 8 * x.toInt + k.toInt := by omega
  refine ⟨?_, by omega, by omega⟩
  simp only [Int32.toNatClampNeg, f2]; omega
theorem own_ixr {x : Int32} (h : ¬ x < 1 ∧ x < 4) (k : Int32) (hk : ¬ k < 0 ∧ k < 4) : (((8 * x) + 4) + k).toNatClampNeg = 8 * x.toNatClampNeg + (4 + k.toNatClampNeg) ∧ ¬ (((8 * x) + 4) + k) < 0 ∧ (((8 * x) + 4) + k) < 32 := by
  have e1 := c_imul 8 x
  have e2 := c_iadd (8 * x) 4
  have e3 := c_iadd (8 * x + 4) k
  have r1 := rng32 (8 * x); have r2 := rng32 (8 * x + 4); have r3 := rng32 (8 * x + 4 + k)
  simp only [Int32.lt_iff_toInt_lt, show (1 : Int32).toInt = 1 from rfl, show (8 : Int32).toInt = 8 from rfl, show (0 : Int32).toInt = 0 from rfl, show (4 : Int32).toInt = 4 from rfl, show (32 : Int32).toInt = 32 from rfl] at *
  have f1 : (8 * x).toInt = 8 * x.toInt := by omega
  have f2 : (8 * x + 4).toInt = 8 * x.toInt + 4 := by omega
  have f3 : (8 * x + 4 + k).toInt = 8 * x.toInt + 4 + k.toInt := by omega
  refine ⟨?_, by omega, by omega⟩
  simp only [Int32.toNatClampNeg, f3]; omega
theorem own_h48 {x : Int32} (h : ¬ x < 1 ∧ x < 4) : ¬ x < 1 ∧ x < 8 := ⟨h.1, by have := h.2; rw [Int32.lt_iff_toInt_lt] at *; rw [show (8 : Int32).toInt = 8 from rfl]; rw [show (4 : Int32).toInt = 4 from rfl] at this; omega⟩
theorem own_n7 {x : Int32} (h : ¬ x < 1 ∧ x < 8) : x = 1 ∨ x = 2 ∨ x = 3 ∨ x = 4 ∨ x = 5 ∨ x = 6 ∨ x = 7 := by
  simp only [Int32.lt_iff_toInt_lt, show (1 : Int32).toInt = 1 from rfl, show (8 : Int32).toInt = 8 from rfl] at h
  simp only [← Int32.toInt_inj, show (1 : Int32).toInt = 1 from rfl, show (2 : Int32).toInt = 2 from rfl, show (3 : Int32).toInt = 3 from rfl, show (4 : Int32).toInt = 4 from rfl, show (5 : Int32).toInt = 5 from rfl, show (6 : Int32).toInt = 6 from rfl, show (7 : Int32).toInt = 7 from rfl]
  omega
theorem own_lit0 : (0 : Int32).toNatClampNeg = 0 := by decide
theorem own_lit1 : (1 : Int32).toNatClampNeg = 1 := by decide
theorem own_lit2 : (2 : Int32).toNatClampNeg = 2 := by decide
theorem own_lit3 : (3 : Int32).toNatClampNeg = 3 := by decide
theorem own_lit4 : (4 : Int32).toNatClampNeg = 4 := by decide
theorem own_lit5 : (5 : Int32).toNatClampNeg = 5 := by decide
theorem own_lit6 : (6 : Int32).toNatClampNeg = 6 := by decide
theorem own_lit7 : (7 : Int32).toNatClampNeg = 7 := by decide
theorem d6_0 : decode qc6 0 = .ok (.aload_n 0, 1) := by decide +kernel
theorem d6_1 : decode qc6 1 = .ok (.invokespecial 3, 3) := by decide +kernel
theorem d6_4 : decode qc6 4 = .ok (.aload_n 0, 1) := by decide +kernel
theorem d6_5 : decode qc6 5 = .ok (.bipush 8, 2) := by decide +kernel
theorem d6_7 : decode qc6 7 = .ok (.iload_n 1, 1) := by decide +kernel
theorem d6_8 : decode qc6 8 = .ok (.invokestatic 11, 3) := by decide +kernel
theorem d6_11 : decode qc6 11 = .ok (.imul, 1) := by decide +kernel
theorem d6_12 : decode qc6 12 = .ok (.newarray .long, 2) := by decide +kernel
theorem d6_14 : decode qc6 14 = .ok (.putfield 15, 3) := by decide +kernel
theorem d6_17 : decode qc6 17 = .ok (.return_, 1) := by decide +kernel
theorem own_pn18 : plainName "com/example/tidemark/tidemark/core/ThetaLambdaTree" = true := by first | (simp [plainName, overriddenIn]; done) | decide +kernel
theorem own_ef18 (m : MethodId) (a : Addr) : entryFrame m #[(.ref a), (.int (4 : Int32))] 2 = mkF m 0 #[sR a, sI (4 : Int32)] [] := by first | (simp [entryFrame, mkF, argsToLocals, Value.category]; done) | rfl
def Q18 (Z : State) (a : Addr) (u0 : Value) (h0 : Heap) (n0 : Nat) (v : Option Value) (h : Heap) (L : List Loc) : Prop := ∃ (kn : ClassId) (na : Addr), v = none ∧ Fr n0 L ∧ Keep h0 h [a] ∧ n0 ≤ na ∧ h0.size ≤ na ∧ Exa Z h a "com/example/tidemark/tidemark/core/ThetaLambdaTree" ∧ Fld Z h a "com/example/tidemark/tidemark/core/ThetaLambdaTree" "nodes" "[J" (.ref na) ∧ Fld Z h a "com/example/tidemark/tidemark/core/ThetaLambdaTree" "leaves" "I" (.int (0 : Int32)) ∧ own_AJ Z h na kn (32 : Int32) (fun _ => 0)
set_option maxRecDepth 65536 in
set_option maxHeartbeats 4000000 in
theorem rm18 (l : Launch) (Z : State) (a0 : Array Value) (hw : ∀ d ∈ tables_1, d.before a0 Z = true) (ws : List Jvm.Cond) (a : Addr) (u0 : Value) (h0 : Heap) (n0 : Nat) (Z0 : n0 ≤ h0.size) (F0 : Exa Z h0 a "com/example/tidemark/tidemark/core/ThetaLambdaTree") (F1 : Fld Z h0 a "com/example/tidemark/tidemark/core/ThetaLambdaTree" "nodes" "[J" u0) (F2 : Fld Z h0 a "com/example/tidemark/tidemark/core/ThetaLambdaTree" "leaves" "I" (.int (0 : Int32))) (g_a : n0 ≤ a) :
    MetFree l ym6 (head1 (Jvm.Cond.code ym6 prog_46_method_1_code 2 none :: ws) (⟨3, 1, 32, 41⟩ : Room)) (fun aW U => aW = #[(.ref a), (.int (4 : Int32))] ∧ Z.Warmed39 U.vm ∧ U.heap = h0) (fun _ _ _ _ _ => True) (fun _ U o U' => ∃ v L, o = .returned v ∧ Q18 Z a u0 h0 n0 v U'.heap L ∧ FrameEnd U o U' L (⟨3, 1, 32, 41⟩ : Room).cells (⟨3, 1, 32, 41⟩ : Room).slots) := by
  refine MetFree.of_bodySF (plainFor_of_name own_pn18) hisR ?_
  intro p e s m args below meth c s₁ Bd hml0 hP hK
  obtain ⟨rfl, hZ, hh⟩ := hP
  have hx := Bd.exec
  have hby := Bd.bytes
  have hml : c.maxLocals = 2 := hml0
  have hown : s.vm.findClass "com/example/tidemark/tidemark/core/ThetaLambdaTree" = some m.cls := findClass_of_methodNamed Bd.named
  have hnm := (name_of_methodNamed Bd.named Bd.method).1
  have X0 : Stand p l e (⟨3, 1, 32, 41⟩ : Room) s m #[(.ref a), (.int (4 : Int32))] below meth c s₁ [] 0 0 := Stand.of_body Bd
  have e0 : s₁.heap = h0 := by rw [← hh, Bd.state]; rfl
  have N0 := Fr.nil n0
  have K0 : Keep h0 h0 [a] := Keep.refl _ _
  obtain ⟨Pq, hPq⟩ : ∃ P, P = own_P s below (fun v h L => Q18 Z a u0 h0 n0 v h L) (⟨3, 1, 32, 41⟩ : Room).cells (⟨3, 1, 32, 41⟩ : Room).slots := ⟨_, rfl⟩
  suffices hgo : own_Go p.tables e below Pq s₁ (mkF m 0 #[sR a, sI (4 : Int32)] []) by
    subst hPq
    obtain ⟨t, k1, k2, o, k3, k4⟩ := hgo
    exact ⟨t, o, castTop (own_ef18 m a) k1, k2, k3, k4⟩
  show own_Go _ _ _ _ s₁ (mkF m 0 #[sR a, sI (4 : Int32)] [])
  refine own_st (fun t k => XS.aloadN X0.here hx rfl (hb hby d6_0) rfl rfl k) ?_
  show own_Go _ _ _ _ s₁ (mkF m 1 _ [(.ref a)])
  obtain ⟨T1, X1, e1, st1⟩ := initO X0 hx hZ hown (own_w hw 9 rfl) (own_w hw 10 rfl) (own_w hw 11 rfl) e0 (g := (mkF m 1 #[sR a, sI (4 : Int32)] [(.ref a)])) rfl (by rw [hml]; rfl) rfl (hb hby d6_1) (by decide) (W := 0) (by show 2 * 0 + _ ≤ _; exact Nat.le_of_eq rfl) (by decide)
  refine own_st st1 ?_
  show own_Go _ _ _ _ T1 (mkF m 4 _ [])
  refine own_st (fun t k => XS.aloadN X1.here hx rfl (hb hby d6_4) rfl rfl k) ?_
  show own_Go _ _ _ _ T1 (mkF m 5 _ [(.ref a)])
  refine own_st (fun t k => XS.bipush X1.here hx rfl (hb hby d6_5) k) ?_
  show own_Go _ _ _ _ T1 (mkF m 7 _ [(.int (8 : Int32)), (.ref a)])
  refine own_st (fun t k => XS.iloadN X1.here hx rfl (hb hby d6_7) rfl k) ?_
  show own_Go _ _ _ _ T1 (mkF m 8 _ [(.int (4 : Int32)), (.int (8 : Int32)), (.ref a)])
  obtain ⟨_, _, ⟨T2, L2, k2, n2⟩, -, X2, ⟨Lc2, hQ2, l2, y2, z2⟩, st2⟩ := Jvm.LawKit.callS X1 hx (y := ym4) hown (mvT hZ (own_w hw 12 rfl)) (mvT hZ (own_w hw 13 rfl)) (mvT hZ (own_w hw 5 rfl)) (mvT hZ (own_w hw 14 rfl)) (by decide) (backOf (W := 2) (rm16 l Z a0 hw []  h0 n0 Z0 ) hZ (own_w hw 14 rfl) (own_w hw 5 rfl) (by decide) (by decide)) (g := (mkF m 8 #[sR a, sI (4 : Int32)] [(.int (4 : Int32)), (.int (8 : Int32)), (.ref a)])) rfl (by rw [hml]; rfl) (argsL := [(.int (4 : Int32))]) (rest := [(.int (8 : Int32)), (.ref a)]) (lenOf own_pd__I_I rfl) rfl (by show 2 * 0 + _ ≤ _; exact Nat.le_of_eq rfl) (hb hby d6_8) (fun _ _ => ⟨rfl, e1, (by decide : 0 + 0 ≤ _), (by decide : 0 + 0 ≤ _)⟩)
  dsimp only [Pt.U, Pt.locs, Pt.cells, Pt.slots] at X2 l2 y2 z2 st2 hQ2
  subst l2 y2 z2
  obtain ⟨rfl, NQ2, eq2⟩ := hQ2
  have N3 := Fr.app N0 NQ2
  refine own_st st2 ?_
  show own_Go _ _ _ _ T2 (mkF m 11 _ [(.int (4 : Int32)), (.int (8 : Int32)), (.ref a)])
  refine own_st (fun t k => XS.imul X2.here hx rfl (hb hby d6_11) rfl k) ?_
  show own_Go _ _ _ _ T2 (mkF m 12 _ [(.int (32 : Int32)), (.ref a)])
  obtain ⟨T4, h4, k4, X4, e4, E4, A4, st4⟩ := newP X2 hx hZ (own_w hw 1 rfl) eq2 (g := (mkF m 12 #[sR a, sI (4 : Int32)] [(.int (32 : Int32)), (.ref a)])) rfl (hb hby d6_12) rfl (by decide) (cap := 32) (by decide) (by decide) (by decide) (by decide)
  obtain ⟨b4, g4⟩ : ∃ z, z = h0.size := ⟨_, rfl⟩
  rw [← g4] at A4 st4
  refine own_st st4 ?_
  have ne5 : a ≠ b4 := Nat.ne_of_lt (Nat.lt_of_lt_of_le F0.lt (Nat.le_of_eq g4.symm))
  have f6 := F0.ext E4
  have f7 := F1.ext E4
  have f8 := F2.ext E4
  have gx9 : n0 ≤ b4 := Nat.le_trans Z0 (Nat.le_of_eq g4.symm)
  have Z10 : n0 ≤ h4.size := Nat.le_trans Z0 E4.1
  have sz12 : h0.size ≤ b4 := Nat.le_trans K0.1 (Nat.le_of_eq g4.symm)
  have K11 : Keep h0 h4 [a] := K0.ext E4
  have V4 : own_AJ Z h4 b4 k4 (32 : Int32) (fun _ => (0 : Int64)) := own_AJ.new A4 (by decide)
  show own_Go _ _ _ _ T4 (mkF m 14 _ [(.ref b4), (.ref a)])
  obtain ⟨T13, h13, X13, e13, W13, st13⟩ := putF X4 hx hZ hown (host := "") (Or.inl (own_w hw 28 rfl)) Via.refl e4 f7 f6 (Or.inr ⟨(own_w hw 29 rfl), rfl, hnm⟩) (own_w hw 4 rfl) (ty := (.array .long)) (by decide) rfl rfl (g := (mkF m 14 #[sR a, sI (4 : Int32)] [(.ref b4), (.ref a)])) rfl rfl (hb hby d6_14)
  refine own_st st13 ?_
  have f14 := f6.wr W13
  have f15 := f8.other W13 (Or.inr (slot_ne (Or.inl (own_w hw 36 rfl)) (Or.inr (own_w hw 29 rfl)) (by decide) (t := .int) (t' := (.array .long)) (by decide) (by decide)))
  have f16 := V4.other W13 (Ne.symm ne5)
  have N17 := Fr.snoc X13 N3 g_a
  have Z18 : n0 ≤ h13.size := Nat.le_trans Z10 (Nat.le_of_eq W13.size.symm)
  have K19 : Keep h0 h13 [a] := K11.wr W13 (Or.inl (List.mem_of_getElem? (i := 0) rfl))
  have f20 := f7.same W13
  show own_Go _ _ _ _ T13 (mkF m 17 _ [])
  subst hPq
  refine own_out X13 (v := none) (fun _ => rfl) Bd.notSynchronized (fun fs hr => X13.returnOut hx Bd.returns (hb hby d6_17) hr) (by decide) (by decide) ?_
  show Q18 Z a u0 h0 n0 _ T13.heap _
  rw [e13]
  exact ⟨k4, b4, rfl, N17, K19, gx9, sz12, f14, f20, f15, f16⟩
theorem d7_0 : decode qc7 0 = .ok (.iconst 4, 1) := by decide +kernel
theorem d7_1 : decode qc7 1 = .ok (.iload_n 1, 1) := by decide +kernel
theorem d7_2 : decode qc7 2 = .ok (.imul, 1) := by decide +kernel
theorem d7_3 : decode qc7 3 = .ok (.istore 10, 2) := by decide +kernel
theorem d7_5 : decode qc7 5 = .ok (.aload_n 0, 1) := by decide +kernel
theorem d7_6 : decode qc7 6 = .ok (.getfield 15, 3) := by decide +kernel
theorem d7_9 : decode qc7 9 = .ok (.iload 10, 2) := by decide +kernel
theorem d7_11 : decode qc7 11 = .ok (.iconst 0, 1) := by decide +kernel
theorem d7_12 : decode qc7 12 = .ok (.iadd, 1) := by decide +kernel
theorem d7_13 : decode qc7 13 = .ok (.lload_n 2, 1) := by decide +kernel
theorem d7_14 : decode qc7 14 = .ok (.lastore, 1) := by decide +kernel
theorem d7_15 : decode qc7 15 = .ok (.aload_n 0, 1) := by decide +kernel
theorem d7_16 : decode qc7 16 = .ok (.getfield 15, 3) := by decide +kernel
theorem d7_19 : decode qc7 19 = .ok (.iload 10, 2) := by decide +kernel
theorem d7_21 : decode qc7 21 = .ok (.iconst 1, 1) := by decide +kernel
theorem d7_22 : decode qc7 22 = .ok (.iadd, 1) := by decide +kernel
theorem d7_23 : decode qc7 23 = .ok (.lload 4, 2) := by decide +kernel
theorem d7_25 : decode qc7 25 = .ok (.lastore, 1) := by decide +kernel
theorem d7_26 : decode qc7 26 = .ok (.aload_n 0, 1) := by decide +kernel
theorem d7_27 : decode qc7 27 = .ok (.getfield 15, 3) := by decide +kernel
theorem d7_30 : decode qc7 30 = .ok (.iload 10, 2) := by decide +kernel
theorem d7_32 : decode qc7 32 = .ok (.iconst 2, 1) := by decide +kernel
theorem d7_33 : decode qc7 33 = .ok (.iadd, 1) := by decide +kernel
theorem d7_34 : decode qc7 34 = .ok (.lload 6, 2) := by decide +kernel
theorem d7_36 : decode qc7 36 = .ok (.lastore, 1) := by decide +kernel
theorem d7_37 : decode qc7 37 = .ok (.aload_n 0, 1) := by decide +kernel
theorem d7_38 : decode qc7 38 = .ok (.getfield 15, 3) := by decide +kernel
theorem d7_41 : decode qc7 41 = .ok (.iload 10, 2) := by decide +kernel
theorem d7_43 : decode qc7 43 = .ok (.iconst 3, 1) := by decide +kernel
theorem d7_44 : decode qc7 44 = .ok (.iadd, 1) := by decide +kernel
theorem d7_45 : decode qc7 45 = .ok (.lload 8, 2) := by decide +kernel
theorem d7_47 : decode qc7 47 = .ok (.lastore, 1) := by decide +kernel
theorem d7_48 : decode qc7 48 = .ok (.return_, 1) := by decide +kernel
theorem own_pn19 : plainName "com/example/tidemark/tidemark/core/ThetaLambdaTree" = true := by first | (simp [plainName, overriddenIn]; done) | decide +kernel
theorem own_ef19 (m : MethodId) (a : Addr) (x1 : Int32) (xe : Int64) (xv : Int64) (xa : Int64) (xb : Int64) : entryFrame m #[(.ref a), (.int x1), (.long xe), (.long xv), (.long xa), (.long xb)] 11 = mkF m 0 #[sR a, sI x1, sJ xe, .second, sJ xv, .second, sJ xa, .second, sJ xb, .second, .unset] [] := by first | (simp [entryFrame, mkF, argsToLocals, Value.category]; done) | rfl
def Q19 (Z : State) (a : Addr) (na : Addr) (kn : ClassId) (gn : Nat → Int64) (x1 : Int32) (xe : Int64) (xv : Int64) (xa : Int64) (xb : Int64) (h0 : Heap) (n0 : Nat) (v : Option Value) (h : Heap) (L : List Loc) : Prop := v = none ∧ Fr n0 L ∧ Keep h0 h [na] ∧ own_AJ Z h na kn (32 : Int32) (own_set gn x1.toNatClampNeg xe xv xa xb)
set_option maxRecDepth 65536 in
set_option maxHeartbeats 4000000 in
theorem rm19 (l : Launch) (Z : State) (a0 : Array Value) (hw : ∀ d ∈ tables_1, d.before a0 Z = true) (ws : List Jvm.Cond) (a : Addr) (na : Addr) (kn : ClassId) (gn : Nat → Int64) (x1 : Int32) (xe : Int64) (xv : Int64) (xa : Int64) (xb : Int64) (h0 : Heap) (n0 : Nat) (Z0 : n0 ≤ h0.size) (F0 : Exa Z h0 a "com/example/tidemark/tidemark/core/ThetaLambdaTree") (F1 : Fld Z h0 a "com/example/tidemark/tidemark/core/ThetaLambdaTree" "nodes" "[J" (.ref na)) (F2 : own_AJ Z h0 na kn (32 : Int32) gn) (n1 : na ≠ a) (hn : ¬ x1 < (1 : Int32) ∧ x1 < (8 : Int32)) (g_na : n0 ≤ na) :
    MetFree l ym7 (head1 (Jvm.Cond.code ym7 prog_46_method_9_code 11 none :: ws) (⟨0, 0, 0, 0⟩ : Room)) (fun aW U => aW = #[(.ref a), (.int x1), (.long xe), (.long xv), (.long xa), (.long xb)] ∧ Z.Warmed39 U.vm ∧ U.heap = h0) (fun _ _ _ _ _ => True) (fun _ U o U' => ∃ v L, o = .returned v ∧ Q19 Z a na kn gn x1 xe xv xa xb h0 n0 v U'.heap L ∧ FrameEnd U o U' L (⟨0, 0, 0, 0⟩ : Room).cells (⟨0, 0, 0, 0⟩ : Room).slots) := by
  refine MetFree.of_bodySF (plainFor_of_name own_pn19) hisR ?_
  intro p e s m args below meth c s₁ Bd hml0 hP hK
  obtain ⟨rfl, hZ, hh⟩ := hP
  have hx := Bd.exec
  have hby := Bd.bytes
  have hml : c.maxLocals = 11 := hml0
  have hown : s.vm.findClass "com/example/tidemark/tidemark/core/ThetaLambdaTree" = some m.cls := findClass_of_methodNamed Bd.named
  have hnm := (name_of_methodNamed Bd.named Bd.method).1
  have X0 : Stand p l e (⟨0, 0, 0, 0⟩ : Room) s m #[(.ref a), (.int x1), (.long xe), (.long xv), (.long xa), (.long xb)] below meth c s₁ [] 0 0 := Stand.of_body Bd
  have e0 : s₁.heap = h0 := by rw [← hh, Bd.state]; rfl
  have N0 := Fr.nil n0
  have K0 : Keep h0 h0 [na] := Keep.refl _ _
  obtain ⟨Pq, hPq⟩ : ∃ P, P = own_P s below (fun v h L => Q19 Z a na kn gn x1 xe xv xa xb h0 n0 v h L) (⟨0, 0, 0, 0⟩ : Room).cells (⟨0, 0, 0, 0⟩ : Room).slots := ⟨_, rfl⟩
  suffices hgo : own_Go p.tables e below Pq s₁ (mkF m 0 #[sR a, sI x1, sJ xe, .second, sJ xv, .second, sJ xa, .second, sJ xb, .second, .unset] []) by
    subst hPq
    obtain ⟨t, k1, k2, o, k3, k4⟩ := hgo
    exact ⟨t, o, castTop (own_ef19 m a x1 xe xv xa xb) k1, k2, k3, k4⟩
  show own_Go _ _ _ _ s₁ (mkF m 0 #[sR a, sI x1, sJ xe, .second, sJ xv, .second, sJ xa, .second, sJ xb, .second, .unset] [])
  refine own_st (fun t k => XS.iconst X0.here hx rfl (hb hby d7_0) k) ?_
  show own_Go _ _ _ _ s₁ (mkF m 1 _ [(.int (4 : Int32))])
  refine own_st (fun t k => XS.iloadN X0.here hx rfl (hb hby d7_1) rfl k) ?_
  show own_Go _ _ _ _ s₁ (mkF m 2 _ [(.int x1), (.int (4 : Int32))])
  refine own_st (fun t k => XS.imul X0.here hx rfl (hb hby d7_2) rfl k) ?_
  show own_Go _ _ _ _ s₁ (mkF m 3 _ [(.int ((4 : Int32) * x1))])
  refine own_st (fun t k => XS.istore X0.here hx rfl (hb hby d7_3) rfl (l' := #[sR a, sI x1, sJ xe, .second, sJ xv, .second, sJ xa, .second, sJ xb, .second, sI ((4 : Int32) * x1)]) rfl k) ?_
  show own_Go _ _ _ _ s₁ (mkF m 5 #[sR a, sI x1, sJ xe, .second, sJ xv, .second, sJ xa, .second, sJ xb, .second, sI ((4 : Int32) * x1)] [])
  refine own_st (fun t k => XS.aloadN X0.here hx rfl (hb hby d7_5) rfl rfl k) ?_
  show own_Go _ _ _ _ s₁ (mkF m 6 _ [(.ref a)])
  obtain ⟨T1, X1, e1, st1⟩ := getF X0 hx hZ hown (host := "") (Or.inl (own_w hw 28 rfl)) Via.refl e0 F1 (g := (mkF m 6 #[sR a, sI x1, sJ xe, .second, sJ xv, .second, sJ xa, .second, sJ xb, .second, sI ((4 : Int32) * x1)] [(.ref a)])) rfl rfl (hb hby d7_6)
  refine own_st st1 ?_
  show own_Go _ _ _ _ T1 (mkF m 9 _ [(.ref na)])
  refine own_st (fun t k => XS.iload X1.here hx rfl (hb hby d7_9) rfl k) ?_
  show own_Go _ _ _ _ T1 (mkF m 11 _ [(.int ((4 : Int32) * x1)), (.ref na)])
  refine own_st (fun t k => XS.iconst X1.here hx rfl (hb hby d7_11) k) ?_
  show own_Go _ _ _ _ T1 (mkF m 12 _ [(.int (0 : Int32)), (.int ((4 : Int32) * x1)), (.ref na)])
  refine own_st (fun t k => XS.iadd X1.here hx rfl (hb hby d7_12) rfl k) ?_
  show own_Go _ _ _ _ T1 (mkF m 13 _ [(.int (((4 : Int32) * x1) + (0 : Int32))), (.ref na)])
  refine own_st (fun t k => XS.lloadN X1.here hx rfl (hb hby d7_13) rfl k) ?_
  show own_Go _ _ _ _ T1 (mkF m 14 _ [(.long xe), (.int (((4 : Int32) * x1) + (0 : Int32))), (.ref na)])
  obtain ⟨c2, Ar2, q2, S2, N2, H2⟩ := id F2
  obtain ⟨T2, h2, X2, e2, W2, st2⟩ := stJ X1 hx hZ e1 Ar2 (j := (((4 : Int32) * x1) + (0 : Int32))) (inb_of S2 (own_ixn hn 0 (by decide)).2) (g := (mkF m 14 #[sR a, sI x1, sJ xe, .second, sJ xv, .second, sJ xa, .second, sJ xb, .second, sI ((4 : Int32) * x1)] [(.long xe), (.int (((4 : Int32) * x1) + (0 : Int32))), (.ref na)])) rfl rfl (hb hby d7_14)
  refine own_st st2 ?_
  have f3 : own_AJ Z h2 na kn (32 : Int32) (own_updJ gn (((4 : Int32) * x1) + (0 : Int32)).toNatClampNeg xe) := own_AJ.set F2 W2
  have f4 := F0.wr W2
  have f5 := F1.other W2 (Or.inl (Ne.symm n1))
  have N6 := Fr.snoc X2 N0 g_na
  have Z7 : n0 ≤ h2.size := Nat.le_trans Z0 (Nat.le_of_eq W2.size.symm)
  have K8 : Keep h0 h2 [na] := K0.wr W2 (Or.inl (List.mem_of_getElem? (i := 0) rfl))
  show own_Go _ _ _ _ T2 (mkF m 15 _ [])
  refine own_st (fun t k => XS.aloadN X2.here hx rfl (hb hby d7_15) rfl rfl k) ?_
  show own_Go _ _ _ _ T2 (mkF m 16 _ [(.ref a)])
  obtain ⟨T9, X9, e9, st9⟩ := getF X2 hx hZ hown (host := "") (Or.inl (own_w hw 28 rfl)) Via.refl e2 f5 (g := (mkF m 16 #[sR a, sI x1, sJ xe, .second, sJ xv, .second, sJ xa, .second, sJ xb, .second, sI ((4 : Int32) * x1)] [(.ref a)])) rfl rfl (hb hby d7_16)
  refine own_st st9 ?_
  show own_Go _ _ _ _ T9 (mkF m 19 _ [(.ref na)])
  refine own_st (fun t k => XS.iload X9.here hx rfl (hb hby d7_19) rfl k) ?_
  show own_Go _ _ _ _ T9 (mkF m 21 _ [(.int ((4 : Int32) * x1)), (.ref na)])
  refine own_st (fun t k => XS.iconst X9.here hx rfl (hb hby d7_21) k) ?_
  show own_Go _ _ _ _ T9 (mkF m 22 _ [(.int (1 : Int32)), (.int ((4 : Int32) * x1)), (.ref na)])
  refine own_st (fun t k => XS.iadd X9.here hx rfl (hb hby d7_22) rfl k) ?_
  show own_Go _ _ _ _ T9 (mkF m 23 _ [(.int (((4 : Int32) * x1) + (1 : Int32))), (.ref na)])
  refine own_st (fun t k => XS.lload X9.here hx rfl (hb hby d7_23) rfl k) ?_
  show own_Go _ _ _ _ T9 (mkF m 25 _ [(.long xv), (.int (((4 : Int32) * x1) + (1 : Int32))), (.ref na)])
  obtain ⟨c10, Ar10, q10, S10, N10, H10⟩ := id f3
  obtain ⟨T10, h10, X10, e10, W10, st10⟩ := stJ X9 hx hZ e9 Ar10 (j := (((4 : Int32) * x1) + (1 : Int32))) (inb_of S10 (own_ixn hn 1 (by decide)).2) (g := (mkF m 25 #[sR a, sI x1, sJ xe, .second, sJ xv, .second, sJ xa, .second, sJ xb, .second, sI ((4 : Int32) * x1)] [(.long xv), (.int (((4 : Int32) * x1) + (1 : Int32))), (.ref na)])) rfl rfl (hb hby d7_25)
  refine own_st st10 ?_
  have f11 : own_AJ Z h10 na kn (32 : Int32) (own_updJ (own_updJ gn (((4 : Int32) * x1) + (0 : Int32)).toNatClampNeg xe) (((4 : Int32) * x1) + (1 : Int32)).toNatClampNeg xv) := own_AJ.set f3 W10
  have f12 := f4.wr W10
  have f13 := f5.other W10 (Or.inl (Ne.symm n1))
  have N14 := Fr.snoc X10 N6 g_na
  have Z15 : n0 ≤ h10.size := Nat.le_trans Z7 (Nat.le_of_eq W10.size.symm)
  have K16 : Keep h0 h10 [na] := K8.wr W10 (Or.inl (List.mem_of_getElem? (i := 0) rfl))
  show own_Go _ _ _ _ T10 (mkF m 26 _ [])
  refine own_st (fun t k => XS.aloadN X10.here hx rfl (hb hby d7_26) rfl rfl k) ?_
  show own_Go _ _ _ _ T10 (mkF m 27 _ [(.ref a)])
  obtain ⟨T17, X17, e17, st17⟩ := getF X10 hx hZ hown (host := "") (Or.inl (own_w hw 28 rfl)) Via.refl e10 f13 (g := (mkF m 27 #[sR a, sI x1, sJ xe, .second, sJ xv, .second, sJ xa, .second, sJ xb, .second, sI ((4 : Int32) * x1)] [(.ref a)])) rfl rfl (hb hby d7_27)
  refine own_st st17 ?_
  show own_Go _ _ _ _ T17 (mkF m 30 _ [(.ref na)])
  refine own_st (fun t k => XS.iload X17.here hx rfl (hb hby d7_30) rfl k) ?_
  show own_Go _ _ _ _ T17 (mkF m 32 _ [(.int ((4 : Int32) * x1)), (.ref na)])
  refine own_st (fun t k => XS.iconst X17.here hx rfl (hb hby d7_32) k) ?_
  show own_Go _ _ _ _ T17 (mkF m 33 _ [(.int (2 : Int32)), (.int ((4 : Int32) * x1)), (.ref na)])
  refine own_st (fun t k => XS.iadd X17.here hx rfl (hb hby d7_33) rfl k) ?_
  show own_Go _ _ _ _ T17 (mkF m 34 _ [(.int (((4 : Int32) * x1) + (2 : Int32))), (.ref na)])
  refine own_st (fun t k => XS.lload X17.here hx rfl (hb hby d7_34) rfl k) ?_
  show own_Go _ _ _ _ T17 (mkF m 36 _ [(.long xa), (.int (((4 : Int32) * x1) + (2 : Int32))), (.ref na)])
  obtain ⟨c18, Ar18, q18, S18, N18, H18⟩ := id f11
  obtain ⟨T18, h18, X18, e18, W18, st18⟩ := stJ X17 hx hZ e17 Ar18 (j := (((4 : Int32) * x1) + (2 : Int32))) (inb_of S18 (own_ixn hn 2 (by decide)).2) (g := (mkF m 36 #[sR a, sI x1, sJ xe, .second, sJ xv, .second, sJ xa, .second, sJ xb, .second, sI ((4 : Int32) * x1)] [(.long xa), (.int (((4 : Int32) * x1) + (2 : Int32))), (.ref na)])) rfl rfl (hb hby d7_36)
  refine own_st st18 ?_
  have f19 : own_AJ Z h18 na kn (32 : Int32) (own_updJ (own_updJ (own_updJ gn (((4 : Int32) * x1) + (0 : Int32)).toNatClampNeg xe) (((4 : Int32) * x1) + (1 : Int32)).toNatClampNeg xv) (((4 : Int32) * x1) + (2 : Int32)).toNatClampNeg xa) := own_AJ.set f11 W18
  have f20 := f12.wr W18
  have f21 := f13.other W18 (Or.inl (Ne.symm n1))
  have N22 := Fr.snoc X18 N14 g_na
  have Z23 : n0 ≤ h18.size := Nat.le_trans Z15 (Nat.le_of_eq W18.size.symm)
  have K24 : Keep h0 h18 [na] := K16.wr W18 (Or.inl (List.mem_of_getElem? (i := 0) rfl))
  show own_Go _ _ _ _ T18 (mkF m 37 _ [])
  refine own_st (fun t k => XS.aloadN X18.here hx rfl (hb hby d7_37) rfl rfl k) ?_
  show own_Go _ _ _ _ T18 (mkF m 38 _ [(.ref a)])
  obtain ⟨T25, X25, e25, st25⟩ := getF X18 hx hZ hown (host := "") (Or.inl (own_w hw 28 rfl)) Via.refl e18 f21 (g := (mkF m 38 #[sR a, sI x1, sJ xe, .second, sJ xv, .second, sJ xa, .second, sJ xb, .second, sI ((4 : Int32) * x1)] [(.ref a)])) rfl rfl (hb hby d7_38)
  refine own_st st25 ?_
  show own_Go _ _ _ _ T25 (mkF m 41 _ [(.ref na)])
  refine own_st (fun t k => XS.iload X25.here hx rfl (hb hby d7_41) rfl k) ?_
  show own_Go _ _ _ _ T25 (mkF m 43 _ [(.int ((4 : Int32) * x1)), (.ref na)])
  refine own_st (fun t k => XS.iconst X25.here hx rfl (hb hby d7_43) k) ?_
  show own_Go _ _ _ _ T25 (mkF m 44 _ [(.int (3 : Int32)), (.int ((4 : Int32) * x1)), (.ref na)])
  refine own_st (fun t k => XS.iadd X25.here hx rfl (hb hby d7_44) rfl k) ?_
  show own_Go _ _ _ _ T25 (mkF m 45 _ [(.int (((4 : Int32) * x1) + (3 : Int32))), (.ref na)])
  refine own_st (fun t k => XS.lload X25.here hx rfl (hb hby d7_45) rfl k) ?_
  show own_Go _ _ _ _ T25 (mkF m 47 _ [(.long xb), (.int (((4 : Int32) * x1) + (3 : Int32))), (.ref na)])
  obtain ⟨c26, Ar26, q26, S26, N26, H26⟩ := id f19
  obtain ⟨T26, h26, X26, e26, W26, st26⟩ := stJ X25 hx hZ e25 Ar26 (j := (((4 : Int32) * x1) + (3 : Int32))) (inb_of S26 (own_ixn hn 3 (by decide)).2) (g := (mkF m 47 #[sR a, sI x1, sJ xe, .second, sJ xv, .second, sJ xa, .second, sJ xb, .second, sI ((4 : Int32) * x1)] [(.long xb), (.int (((4 : Int32) * x1) + (3 : Int32))), (.ref na)])) rfl rfl (hb hby d7_47)
  refine own_st st26 ?_
  have f27 : own_AJ Z h26 na kn (32 : Int32) (own_updJ (own_updJ (own_updJ (own_updJ gn (((4 : Int32) * x1) + (0 : Int32)).toNatClampNeg xe) (((4 : Int32) * x1) + (1 : Int32)).toNatClampNeg xv) (((4 : Int32) * x1) + (2 : Int32)).toNatClampNeg xa) (((4 : Int32) * x1) + (3 : Int32)).toNatClampNeg xb) := own_AJ.set f19 W26
  have f28 := f20.wr W26
  have f29 := f21.other W26 (Or.inl (Ne.symm n1))
  have N30 := Fr.snoc X26 N22 g_na
  have Z31 : n0 ≤ h26.size := Nat.le_trans Z23 (Nat.le_of_eq W26.size.symm)
  have K32 : Keep h0 h26 [na] := K24.wr W26 (Or.inl (List.mem_of_getElem? (i := 0) rfl))
  show own_Go _ _ _ _ T26 (mkF m 48 _ [])
  subst hPq
  refine own_out X26 (v := none) (fun _ => rfl) Bd.notSynchronized (fun fs hr => X26.returnOut hx Bd.returns (hb hby d7_48) hr) (by decide) (by decide) ?_
  show Q19 Z a na kn gn x1 xe xv xa xb h0 n0 _ T26.heap _
  rw [e26]
  have eg : (own_updJ (own_updJ (own_updJ (own_updJ gn (((4 : Int32) * x1) + (0 : Int32)).toNatClampNeg xe) (((4 : Int32) * x1) + (1 : Int32)).toNatClampNeg xv) (((4 : Int32) * x1) + (2 : Int32)).toNatClampNeg xa) (((4 : Int32) * x1) + (3 : Int32)).toNatClampNeg xb) = (own_set gn x1.toNatClampNeg xe xv xa xb) := by
      unfold own_set
      rw [(own_ixn hn 0 (by decide)).1, (own_ixn hn 1 (by decide)).1, (own_ixn hn 2 (by decide)).1, (own_ixn hn 3 (by decide)).1]; rfl
  have fz33 := f27
  rw [eg] at fz33
  exact ⟨rfl, N30, K32, fz33⟩
theorem d8_0 : decode qc8 0 = .ok (.bipush 8, 2) := by decide +kernel
theorem d8_2 : decode qc8 2 = .ok (.iload_n 1, 1) := by decide +kernel
theorem d8_3 : decode qc8 3 = .ok (.imul, 1) := by decide +kernel
theorem d8_4 : decode qc8 4 = .ok (.istore_n 2, 1) := by decide +kernel
theorem d8_5 : decode qc8 5 = .ok (.iload_n 2, 1) := by decide +kernel
theorem d8_6 : decode qc8 6 = .ok (.iconst 4, 1) := by decide +kernel
theorem d8_7 : decode qc8 7 = .ok (.iadd, 1) := by decide +kernel
theorem d8_8 : decode qc8 8 = .ok (.istore_n 3, 1) := by decide +kernel
theorem d8_9 : decode qc8 9 = .ok (.aload_n 0, 1) := by decide +kernel
theorem d8_10 : decode qc8 10 = .ok (.getfield 15, 3) := by decide +kernel
theorem d8_13 : decode qc8 13 = .ok (.iload_n 2, 1) := by decide +kernel
theorem d8_14 : decode qc8 14 = .ok (.iconst 0, 1) := by decide +kernel
theorem d8_15 : decode qc8 15 = .ok (.iadd, 1) := by decide +kernel
theorem d8_16 : decode qc8 16 = .ok (.laload, 1) := by decide +kernel
theorem d8_17 : decode qc8 17 = .ok (.lstore 4, 2) := by decide +kernel
theorem d8_19 : decode qc8 19 = .ok (.aload_n 0, 1) := by decide +kernel
theorem d8_20 : decode qc8 20 = .ok (.getfield 15, 3) := by decide +kernel
theorem d8_23 : decode qc8 23 = .ok (.iload_n 3, 1) := by decide +kernel
theorem d8_24 : decode qc8 24 = .ok (.iconst 0, 1) := by decide +kernel
theorem d8_25 : decode qc8 25 = .ok (.iadd, 1) := by decide +kernel
theorem d8_26 : decode qc8 26 = .ok (.laload, 1) := by decide +kernel
theorem d8_27 : decode qc8 27 = .ok (.lstore 6, 2) := by decide +kernel
theorem d8_29 : decode qc8 29 = .ok (.aload_n 0, 1) := by decide +kernel
theorem d8_30 : decode qc8 30 = .ok (.getfield 15, 3) := by decide +kernel
theorem d8_33 : decode qc8 33 = .ok (.iload_n 2, 1) := by decide +kernel
theorem d8_34 : decode qc8 34 = .ok (.iconst 1, 1) := by decide +kernel
theorem d8_35 : decode qc8 35 = .ok (.iadd, 1) := by decide +kernel
theorem d8_36 : decode qc8 36 = .ok (.laload, 1) := by decide +kernel
theorem d8_37 : decode qc8 37 = .ok (.lstore 8, 2) := by decide +kernel
theorem d8_39 : decode qc8 39 = .ok (.aload_n 0, 1) := by decide +kernel
theorem d8_40 : decode qc8 40 = .ok (.getfield 15, 3) := by decide +kernel
theorem d8_43 : decode qc8 43 = .ok (.iload_n 3, 1) := by decide +kernel
theorem d8_44 : decode qc8 44 = .ok (.iconst 2, 1) := by decide +kernel
theorem d8_45 : decode qc8 45 = .ok (.iadd, 1) := by decide +kernel
theorem d8_46 : decode qc8 46 = .ok (.laload, 1) := by decide +kernel
theorem d8_47 : decode qc8 47 = .ok (.lstore 10, 2) := by decide +kernel
theorem d8_49 : decode qc8 49 = .ok (.aload_n 0, 1) := by decide +kernel
theorem d8_50 : decode qc8 50 = .ok (.iload_n 1, 1) := by decide +kernel
theorem d8_51 : decode qc8 51 = .ok (.lload 4, 2) := by decide +kernel
theorem d8_53 : decode qc8 53 = .ok (.lload 6, 2) := by decide +kernel
theorem d8_55 : decode qc8 55 = .ok (.ladd, 1) := by decide +kernel
theorem d8_56 : decode qc8 56 = .ok (.lload 8, 2) := by decide +kernel
theorem d8_58 : decode qc8 58 = .ok (.lload 6, 2) := by decide +kernel
theorem d8_60 : decode qc8 60 = .ok (.ladd, 1) := by decide +kernel
theorem d8_61 : decode qc8 61 = .ok (.aload_n 0, 1) := by decide +kernel
theorem d8_62 : decode qc8 62 = .ok (.getfield 15, 3) := by decide +kernel
theorem d8_65 : decode qc8 65 = .ok (.iload_n 3, 1) := by decide +kernel
theorem d8_66 : decode qc8 66 = .ok (.iconst 1, 1) := by decide +kernel
theorem d8_67 : decode qc8 67 = .ok (.iadd, 1) := by decide +kernel
theorem d8_68 : decode qc8 68 = .ok (.laload, 1) := by decide +kernel
theorem d8_69 : decode qc8 69 = .ok (.invokestatic 47, 3) := by decide +kernel
theorem d8_72 : decode qc8 72 = .ok (.aload_n 0, 1) := by decide +kernel
theorem d8_73 : decode qc8 73 = .ok (.getfield 15, 3) := by decide +kernel
theorem d8_76 : decode qc8 76 = .ok (.iload_n 2, 1) := by decide +kernel
theorem d8_77 : decode qc8 77 = .ok (.iconst 2, 1) := by decide +kernel
theorem d8_78 : decode qc8 78 = .ok (.iadd, 1) := by decide +kernel
theorem d8_79 : decode qc8 79 = .ok (.laload, 1) := by decide +kernel
theorem d8_80 : decode qc8 80 = .ok (.lload 6, 2) := by decide +kernel
theorem d8_82 : decode qc8 82 = .ok (.ladd, 1) := by decide +kernel
theorem d8_83 : decode qc8 83 = .ok (.lload 4, 2) := by decide +kernel
theorem d8_85 : decode qc8 85 = .ok (.lload 10, 2) := by decide +kernel
theorem d8_87 : decode qc8 87 = .ok (.ladd, 1) := by decide +kernel
theorem d8_88 : decode qc8 88 = .ok (.invokestatic 47, 3) := by decide +kernel
theorem d8_91 : decode qc8 91 = .ok (.aload_n 0, 1) := by decide +kernel
theorem d8_92 : decode qc8 92 = .ok (.getfield 15, 3) := by decide +kernel
theorem d8_95 : decode qc8 95 = .ok (.iload_n 3, 1) := by decide +kernel
theorem d8_96 : decode qc8 96 = .ok (.iconst 3, 1) := by decide +kernel
theorem d8_97 : decode qc8 97 = .ok (.iadd, 1) := by decide +kernel
theorem d8_98 : decode qc8 98 = .ok (.laload, 1) := by decide +kernel
theorem d8_99 : decode qc8 99 = .ok (.lload 8, 2) := by decide +kernel
theorem d8_101 : decode qc8 101 = .ok (.lload 10, 2) := by decide +kernel
theorem d8_103 : decode qc8 103 = .ok (.ladd, 1) := by decide +kernel
theorem d8_104 : decode qc8 104 = .ok (.aload_n 0, 1) := by decide +kernel
theorem d8_105 : decode qc8 105 = .ok (.getfield 15, 3) := by decide +kernel
theorem d8_108 : decode qc8 108 = .ok (.iload_n 2, 1) := by decide +kernel
theorem d8_109 : decode qc8 109 = .ok (.iconst 3, 1) := by decide +kernel
theorem d8_110 : decode qc8 110 = .ok (.iadd, 1) := by decide +kernel
theorem d8_111 : decode qc8 111 = .ok (.laload, 1) := by decide +kernel
theorem d8_112 : decode qc8 112 = .ok (.lload 6, 2) := by decide +kernel
theorem d8_114 : decode qc8 114 = .ok (.ladd, 1) := by decide +kernel
theorem d8_115 : decode qc8 115 = .ok (.invokestatic 47, 3) := by decide +kernel
theorem d8_118 : decode qc8 118 = .ok (.invokestatic 47, 3) := by decide +kernel
theorem d8_121 : decode qc8 121 = .ok (.invokevirtual 34, 3) := by decide +kernel
theorem d8_124 : decode qc8 124 = .ok (.return_, 1) := by decide +kernel
theorem own_pn20 : plainName "com/example/tidemark/tidemark/core/ThetaLambdaTree" = true := by first | (simp [plainName, overriddenIn]; done) | decide +kernel
theorem own_ef20 (m : MethodId) (a : Addr) (x1 : Int32) : entryFrame m #[(.ref a), (.int x1)] 12 = mkF m 0 #[sR a, sI x1, .unset, .unset, .unset, .unset, .unset, .unset, .unset, .unset, .unset, .unset] [] := by first | (simp [entryFrame, mkF, argsToLocals, Value.category]; done) | rfl
def Q20 (Z : State) (a : Addr) (na : Addr) (kn : ClassId) (gn : Nat → Int64) (x1 : Int32) (h0 : Heap) (n0 : Nat) (v : Option Value) (h : Heap) (L : List Loc) : Prop := v = none ∧ Fr n0 L ∧ Keep h0 h [na] ∧ own_AJ Z h na kn (32 : Int32) (own_comb gn x1.toNatClampNeg)
set_option maxRecDepth 65536 in
set_option maxHeartbeats 4000000 in
theorem rm20 (l : Launch) (Z : State) (a0 : Array Value) (hw : ∀ d ∈ tables_1, d.before a0 Z = true) (ws : List Jvm.Cond) (a : Addr) (na : Addr) (kn : ClassId) (gn : Nat → Int64) (x1 : Int32) (h0 : Heap) (n0 : Nat) (Z0 : n0 ≤ h0.size) (F0 : Exa Z h0 a "com/example/tidemark/tidemark/core/ThetaLambdaTree") (F1 : Fld Z h0 a "com/example/tidemark/tidemark/core/ThetaLambdaTree" "nodes" "[J" (.ref na)) (F2 : own_AJ Z h0 na kn (32 : Int32) gn) (n1 : na ≠ a) (hn : ¬ x1 < (1 : Int32) ∧ x1 < (4 : Int32)) (g_na : n0 ≤ na) :
    MetFree l ym8 (head1 (Jvm.Cond.code ym8 prog_46_method_11_code 12 none :: ws) (⟨1, 0, 0, 25⟩ : Room)) (fun aW U => aW = #[(.ref a), (.int x1)] ∧ Z.Warmed39 U.vm ∧ U.heap = h0) (fun _ _ _ _ _ => True) (fun _ U o U' => ∃ v L, o = .returned v ∧ Q20 Z a na kn gn x1 h0 n0 v U'.heap L ∧ FrameEnd U o U' L (⟨1, 0, 0, 25⟩ : Room).cells (⟨1, 0, 0, 25⟩ : Room).slots) := by
  refine MetFree.of_bodySF (plainFor_of_name own_pn20) hisR ?_
  intro p e s m args below meth c s₁ Bd hml0 hP hK
  obtain ⟨rfl, hZ, hh⟩ := hP
  have hx := Bd.exec
  have hby := Bd.bytes
  have hml : c.maxLocals = 12 := hml0
  have hown : s.vm.findClass "com/example/tidemark/tidemark/core/ThetaLambdaTree" = some m.cls := findClass_of_methodNamed Bd.named
  have hnm := (name_of_methodNamed Bd.named Bd.method).1
  have X0 : Stand p l e (⟨1, 0, 0, 25⟩ : Room) s m #[(.ref a), (.int x1)] below meth c s₁ [] 0 0 := Stand.of_body Bd
  have e0 : s₁.heap = h0 := by rw [← hh, Bd.state]; rfl
  have N0 := Fr.nil n0
  have K0 : Keep h0 h0 [na] := Keep.refl _ _
  obtain ⟨Pq, hPq⟩ : ∃ P, P = own_P s below (fun v h L => Q20 Z a na kn gn x1 h0 n0 v h L) (⟨1, 0, 0, 25⟩ : Room).cells (⟨1, 0, 0, 25⟩ : Room).slots := ⟨_, rfl⟩
  suffices hgo : own_Go p.tables e below Pq s₁ (mkF m 0 #[sR a, sI x1, .unset, .unset, .unset, .unset, .unset, .unset, .unset, .unset, .unset, .unset] []) by
    subst hPq
    obtain ⟨t, k1, k2, o, k3, k4⟩ := hgo
    exact ⟨t, o, castTop (own_ef20 m a x1) k1, k2, k3, k4⟩
  show own_Go _ _ _ _ s₁ (mkF m 0 #[sR a, sI x1, .unset, .unset, .unset, .unset, .unset, .unset, .unset, .unset, .unset, .unset] [])
  refine own_st (fun t k => XS.bipush X0.here hx rfl (hb hby d8_0) k) ?_
  show own_Go _ _ _ _ s₁ (mkF m 2 _ [(.int (8 : Int32))])
  refine own_st (fun t k => XS.iloadN X0.here hx rfl (hb hby d8_2) rfl k) ?_
  show own_Go _ _ _ _ s₁ (mkF m 3 _ [(.int x1), (.int (8 : Int32))])
  refine own_st (fun t k => XS.imul X0.here hx rfl (hb hby d8_3) rfl k) ?_
  show own_Go _ _ _ _ s₁ (mkF m 4 _ [(.int ((8 : Int32) * x1))])
  refine own_st (fun t k => XS.istoreN X0.here hx rfl (hb hby d8_4) rfl (l' := #[sR a, sI x1, sI ((8 : Int32) * x1), .unset, .unset, .unset, .unset, .unset, .unset, .unset, .unset, .unset]) rfl k) ?_
  show own_Go _ _ _ _ s₁ (mkF m 5 #[sR a, sI x1, sI ((8 : Int32) * x1), .unset, .unset, .unset, .unset, .unset, .unset, .unset, .unset, .unset] [])
  refine own_st (fun t k => XS.iloadN X0.here hx rfl (hb hby d8_5) rfl k) ?_
  show own_Go _ _ _ _ s₁ (mkF m 6 _ [(.int ((8 : Int32) * x1))])
  refine own_st (fun t k => XS.iconst X0.here hx rfl (hb hby d8_6) k) ?_
  show own_Go _ _ _ _ s₁ (mkF m 7 _ [(.int (4 : Int32)), (.int ((8 : Int32) * x1))])
  refine own_st (fun t k => XS.iadd X0.here hx rfl (hb hby d8_7) rfl k) ?_
  show own_Go _ _ _ _ s₁ (mkF m 8 _ [(.int (((8 : Int32) * x1) + (4 : Int32)))])
  refine own_st (fun t k => XS.istoreN X0.here hx rfl (hb hby d8_8) rfl (l' := #[sR a, sI x1, sI ((8 : Int32) * x1), sI (((8 : Int32) * x1) + (4 : Int32)), .unset, .unset, .unset, .unset, .unset, .unset, .unset, .unset]) rfl k) ?_
  show own_Go _ _ _ _ s₁ (mkF m 9 #[sR a, sI x1, sI ((8 : Int32) * x1), sI (((8 : Int32) * x1) + (4 : Int32)), .unset, .unset, .unset, .unset, .unset, .unset, .unset, .unset] [])
  refine own_st (fun t k => XS.aloadN X0.here hx rfl (hb hby d8_9) rfl rfl k) ?_
  show own_Go _ _ _ _ s₁ (mkF m 10 _ [(.ref a)])
  obtain ⟨T1, X1, e1, st1⟩ := getF X0 hx hZ hown (host := "") (Or.inl (own_w hw 28 rfl)) Via.refl e0 F1 (g := (mkF m 10 #[sR a, sI x1, sI ((8 : Int32) * x1), sI (((8 : Int32) * x1) + (4 : Int32)), .unset, .unset, .unset, .unset, .unset, .unset, .unset, .unset] [(.ref a)])) rfl rfl (hb hby d8_10)
  refine own_st st1 ?_
  show own_Go _ _ _ _ T1 (mkF m 13 _ [(.ref na)])
  refine own_st (fun t k => XS.iloadN X1.here hx rfl (hb hby d8_13) rfl k) ?_
  show own_Go _ _ _ _ T1 (mkF m 14 _ [(.int ((8 : Int32) * x1)), (.ref na)])
  refine own_st (fun t k => XS.iconst X1.here hx rfl (hb hby d8_14) k) ?_
  show own_Go _ _ _ _ T1 (mkF m 15 _ [(.int (0 : Int32)), (.int ((8 : Int32) * x1)), (.ref na)])
  refine own_st (fun t k => XS.iadd X1.here hx rfl (hb hby d8_15) rfl k) ?_
  show own_Go _ _ _ _ T1 (mkF m 16 _ [(.int (((8 : Int32) * x1) + (0 : Int32))), (.ref na)])
  obtain ⟨c2, Ar2, q2, S2, N2, H2⟩ := id F2
  refine own_st (fun t k => X1.laload hx (j := (((8 : Int32) * x1) + (0 : Int32))) (v := (.long (gn (((8 : Int32) * x1) + (0 : Int32)).toNatClampNeg))) (by rw [e1]; exact Ar2.1) (State.isArrayOf_alike hZ.alike Ar2.2.1) Ar2.2.2 (inb_of S2 (own_ixc hn 0 (by decide)).2) (H2 _ (own_lt (inb_of S2 (own_ixc hn 0 (by decide)).2))) (g := (mkF m 16 #[sR a, sI x1, sI ((8 : Int32) * x1), sI (((8 : Int32) * x1) + (4 : Int32)), .unset, .unset, .unset, .unset, .unset, .unset, .unset, .unset] [(.int (((8 : Int32) * x1) + (0 : Int32))), (.ref na)])) rfl rfl (hb hby d8_16) _ k) ?_
  show own_Go _ _ _ _ T1 (mkF m 17 _ [(.long (gn (((8 : Int32) * x1) + (0 : Int32)).toNatClampNeg))])
  refine own_st (fun t k => XS.lstore X1.here hx rfl (hb hby d8_17) rfl (l' := #[sR a, sI x1, sI ((8 : Int32) * x1), sI (((8 : Int32) * x1) + (4 : Int32)), sJ (gn (((8 : Int32) * x1) + (0 : Int32)).toNatClampNeg), .second, .unset, .unset, .unset, .unset, .unset, .unset]) rfl k) ?_
  show own_Go _ _ _ _ T1 (mkF m 19 #[sR a, sI x1, sI ((8 : Int32) * x1), sI (((8 : Int32) * x1) + (4 : Int32)), sJ (gn (((8 : Int32) * x1) + (0 : Int32)).toNatClampNeg), .second, .unset, .unset, .unset, .unset, .unset, .unset] [])
  refine own_st (fun t k => XS.aloadN X1.here hx rfl (hb hby d8_19) rfl rfl k) ?_
  show own_Go _ _ _ _ T1 (mkF m 20 _ [(.ref a)])
  obtain ⟨T3, X3, e3, st3⟩ := getF X1 hx hZ hown (host := "") (Or.inl (own_w hw 28 rfl)) Via.refl e1 F1 (g := (mkF m 20 #[sR a, sI x1, sI ((8 : Int32) * x1), sI (((8 : Int32) * x1) + (4 : Int32)), sJ (gn (((8 : Int32) * x1) + (0 : Int32)).toNatClampNeg), .second, .unset, .unset, .unset, .unset, .unset, .unset] [(.ref a)])) rfl rfl (hb hby d8_20)
  refine own_st st3 ?_
  show own_Go _ _ _ _ T3 (mkF m 23 _ [(.ref na)])
  refine own_st (fun t k => XS.iloadN X3.here hx rfl (hb hby d8_23) rfl k) ?_
  show own_Go _ _ _ _ T3 (mkF m 24 _ [(.int (((8 : Int32) * x1) + (4 : Int32))), (.ref na)])
  refine own_st (fun t k => XS.iconst X3.here hx rfl (hb hby d8_24) k) ?_
  show own_Go _ _ _ _ T3 (mkF m 25 _ [(.int (0 : Int32)), (.int (((8 : Int32) * x1) + (4 : Int32))), (.ref na)])
  refine own_st (fun t k => XS.iadd X3.here hx rfl (hb hby d8_25) rfl k) ?_
  show own_Go _ _ _ _ T3 (mkF m 26 _ [(.int ((((8 : Int32) * x1) + (4 : Int32)) + (0 : Int32))), (.ref na)])
  obtain ⟨c4, Ar4, q4, S4, N4, H4⟩ := id F2
  refine own_st (fun t k => X3.laload hx (j := ((((8 : Int32) * x1) + (4 : Int32)) + (0 : Int32))) (v := (.long (gn ((((8 : Int32) * x1) + (4 : Int32)) + (0 : Int32)).toNatClampNeg))) (by rw [e3]; exact Ar4.1) (State.isArrayOf_alike hZ.alike Ar4.2.1) Ar4.2.2 (inb_of S4 (own_ixr hn 0 (by decide)).2) (H4 _ (own_lt (inb_of S4 (own_ixr hn 0 (by decide)).2))) (g := (mkF m 26 #[sR a, sI x1, sI ((8 : Int32) * x1), sI (((8 : Int32) * x1) + (4 : Int32)), sJ (gn (((8 : Int32) * x1) + (0 : Int32)).toNatClampNeg), .second, .unset, .unset, .unset, .unset, .unset, .unset] [(.int ((((8 : Int32) * x1) + (4 : Int32)) + (0 : Int32))), (.ref na)])) rfl rfl (hb hby d8_26) _ k) ?_
  show own_Go _ _ _ _ T3 (mkF m 27 _ [(.long (gn ((((8 : Int32) * x1) + (4 : Int32)) + (0 : Int32)).toNatClampNeg))])
  refine own_st (fun t k => XS.lstore X3.here hx rfl (hb hby d8_27) rfl (l' := #[sR a, sI x1, sI ((8 : Int32) * x1), sI (((8 : Int32) * x1) + (4 : Int32)), sJ (gn (((8 : Int32) * x1) + (0 : Int32)).toNatClampNeg), .second, sJ (gn ((((8 : Int32) * x1) + (4 : Int32)) + (0 : Int32)).toNatClampNeg), .second, .unset, .unset, .unset, .unset]) rfl k) ?_
  show own_Go _ _ _ _ T3 (mkF m 29 #[sR a, sI x1, sI ((8 : Int32) * x1), sI (((8 : Int32) * x1) + (4 : Int32)), sJ (gn (((8 : Int32) * x1) + (0 : Int32)).toNatClampNeg), .second, sJ (gn ((((8 : Int32) * x1) + (4 : Int32)) + (0 : Int32)).toNatClampNeg), .second, .unset, .unset, .unset, .unset] [])
  refine own_st (fun t k => XS.aloadN X3.here hx rfl (hb hby d8_29) rfl rfl k) ?_
  show own_Go _ _ _ _ T3 (mkF m 30 _ [(.ref a)])
  obtain ⟨T5, X5, e5, st5⟩ := getF X3 hx hZ hown (host := "") (Or.inl (own_w hw 28 rfl)) Via.refl e3 F1 (g := (mkF m 30 #[sR a, sI x1, sI ((8 : Int32) * x1), sI (((8 : Int32) * x1) + (4 : Int32)), sJ (gn (((8 : Int32) * x1) + (0 : Int32)).toNatClampNeg), .second, sJ (gn ((((8 : Int32) * x1) + (4 : Int32)) + (0 : Int32)).toNatClampNeg), .second, .unset, .unset, .unset, .unset] [(.ref a)])) rfl rfl (hb hby d8_30)
  refine own_st st5 ?_
  show own_Go _ _ _ _ T5 (mkF m 33 _ [(.ref na)])
  refine own_st (fun t k => XS.iloadN X5.here hx rfl (hb hby d8_33) rfl k) ?_
  show own_Go _ _ _ _ T5 (mkF m 34 _ [(.int ((8 : Int32) * x1)), (.ref na)])
  refine own_st (fun t k => XS.iconst X5.here hx rfl (hb hby d8_34) k) ?_
  show own_Go _ _ _ _ T5 (mkF m 35 _ [(.int (1 : Int32)), (.int ((8 : Int32) * x1)), (.ref na)])
  refine own_st (fun t k => XS.iadd X5.here hx rfl (hb hby d8_35) rfl k) ?_
  show own_Go _ _ _ _ T5 (mkF m 36 _ [(.int (((8 : Int32) * x1) + (1 : Int32))), (.ref na)])
  obtain ⟨c6, Ar6, q6, S6, N6, H6⟩ := id F2
  refine own_st (fun t k => X5.laload hx (j := (((8 : Int32) * x1) + (1 : Int32))) (v := (.long (gn (((8 : Int32) * x1) + (1 : Int32)).toNatClampNeg))) (by rw [e5]; exact Ar6.1) (State.isArrayOf_alike hZ.alike Ar6.2.1) Ar6.2.2 (inb_of S6 (own_ixc hn 1 (by decide)).2) (H6 _ (own_lt (inb_of S6 (own_ixc hn 1 (by decide)).2))) (g := (mkF m 36 #[sR a, sI x1, sI ((8 : Int32) * x1), sI (((8 : Int32) * x1) + (4 : Int32)), sJ (gn (((8 : Int32) * x1) + (0 : Int32)).toNatClampNeg), .second, sJ (gn ((((8 : Int32) * x1) + (4 : Int32)) + (0 : Int32)).toNatClampNeg), .second, .unset, .unset, .unset, .unset] [(.int (((8 : Int32) * x1) + (1 : Int32))), (.ref na)])) rfl rfl (hb hby d8_36) _ k) ?_
  show own_Go _ _ _ _ T5 (mkF m 37 _ [(.long (gn (((8 : Int32) * x1) + (1 : Int32)).toNatClampNeg))])
  refine own_st (fun t k => XS.lstore X5.here hx rfl (hb hby d8_37) rfl (l' := #[sR a, sI x1, sI ((8 : Int32) * x1), sI (((8 : Int32) * x1) + (4 : Int32)), sJ (gn (((8 : Int32) * x1) + (0 : Int32)).toNatClampNeg), .second, sJ (gn ((((8 : Int32) * x1) + (4 : Int32)) + (0 : Int32)).toNatClampNeg), .second, sJ (gn (((8 : Int32) * x1) + (1 : Int32)).toNatClampNeg), .second, .unset, .unset]) rfl k) ?_
  show own_Go _ _ _ _ T5 (mkF m 39 #[sR a, sI x1, sI ((8 : Int32) * x1), sI (((8 : Int32) * x1) + (4 : Int32)), sJ (gn (((8 : Int32) * x1) + (0 : Int32)).toNatClampNeg), .second, sJ (gn ((((8 : Int32) * x1) + (4 : Int32)) + (0 : Int32)).toNatClampNeg), .second, sJ (gn (((8 : Int32) * x1) + (1 : Int32)).toNatClampNeg), .second, .unset, .unset] [])
  refine own_st (fun t k => XS.aloadN X5.here hx rfl (hb hby d8_39) rfl rfl k) ?_
  show own_Go _ _ _ _ T5 (mkF m 40 _ [(.ref a)])
  obtain ⟨T7, X7, e7, st7⟩ := getF X5 hx hZ hown (host := "") (Or.inl (own_w hw 28 rfl)) Via.refl e5 F1 (g := (mkF m 40 #[sR a, sI x1, sI ((8 : Int32) * x1), sI (((8 : Int32) * x1) + (4 : Int32)), sJ (gn (((8 : Int32) * x1) + (0 : Int32)).toNatClampNeg), .second, sJ (gn ((((8 : Int32) * x1) + (4 : Int32)) + (0 : Int32)).toNatClampNeg), .second, sJ (gn (((8 : Int32) * x1) + (1 : Int32)).toNatClampNeg), .second, .unset, .unset] [(.ref a)])) rfl rfl (hb hby d8_40)
  refine own_st st7 ?_
  show own_Go _ _ _ _ T7 (mkF m 43 _ [(.ref na)])
  refine own_st (fun t k => XS.iloadN X7.here hx rfl (hb hby d8_43) rfl k) ?_
  show own_Go _ _ _ _ T7 (mkF m 44 _ [(.int (((8 : Int32) * x1) + (4 : Int32))), (.ref na)])
  refine own_st (fun t k => XS.iconst X7.here hx rfl (hb hby d8_44) k) ?_
  show own_Go _ _ _ _ T7 (mkF m 45 _ [(.int (2 : Int32)), (.int (((8 : Int32) * x1) + (4 : Int32))), (.ref na)])
  refine own_st (fun t k => XS.iadd X7.here hx rfl (hb hby d8_45) rfl k) ?_
  show own_Go _ _ _ _ T7 (mkF m 46 _ [(.int ((((8 : Int32) * x1) + (4 : Int32)) + (2 : Int32))), (.ref na)])
  obtain ⟨c8, Ar8, q8, S8, N8, H8⟩ := id F2
  refine own_st (fun t k => X7.laload hx (j := ((((8 : Int32) * x1) + (4 : Int32)) + (2 : Int32))) (v := (.long (gn ((((8 : Int32) * x1) + (4 : Int32)) + (2 : Int32)).toNatClampNeg))) (by rw [e7]; exact Ar8.1) (State.isArrayOf_alike hZ.alike Ar8.2.1) Ar8.2.2 (inb_of S8 (own_ixr hn 2 (by decide)).2) (H8 _ (own_lt (inb_of S8 (own_ixr hn 2 (by decide)).2))) (g := (mkF m 46 #[sR a, sI x1, sI ((8 : Int32) * x1), sI (((8 : Int32) * x1) + (4 : Int32)), sJ (gn (((8 : Int32) * x1) + (0 : Int32)).toNatClampNeg), .second, sJ (gn ((((8 : Int32) * x1) + (4 : Int32)) + (0 : Int32)).toNatClampNeg), .second, sJ (gn (((8 : Int32) * x1) + (1 : Int32)).toNatClampNeg), .second, .unset, .unset] [(.int ((((8 : Int32) * x1) + (4 : Int32)) + (2 : Int32))), (.ref na)])) rfl rfl (hb hby d8_46) _ k) ?_
  show own_Go _ _ _ _ T7 (mkF m 47 _ [(.long (gn ((((8 : Int32) * x1) + (4 : Int32)) + (2 : Int32)).toNatClampNeg))])
  refine own_st (fun t k => XS.lstore X7.here hx rfl (hb hby d8_47) rfl (l' := #[sR a, sI x1, sI ((8 : Int32) * x1), sI (((8 : Int32) * x1) + (4 : Int32)), sJ (gn (((8 : Int32) * x1) + (0 : Int32)).toNatClampNeg), .second, sJ (gn ((((8 : Int32) * x1) + (4 : Int32)) + (0 : Int32)).toNatClampNeg), .second, sJ (gn (((8 : Int32) * x1) + (1 : Int32)).toNatClampNeg), .second, sJ (gn ((((8 : Int32) * x1) + (4 : Int32)) + (2 : Int32)).toNatClampNeg), .second]) rfl k) ?_
  show own_Go _ _ _ _ T7 (mkF m 49 #[sR a, sI x1, sI ((8 : Int32) * x1), sI (((8 : Int32) * x1) + (4 : Int32)), sJ (gn (((8 : Int32) * x1) + (0 : Int32)).toNatClampNeg), .second, sJ (gn ((((8 : Int32) * x1) + (4 : Int32)) + (0 : Int32)).toNatClampNeg), .second, sJ (gn (((8 : Int32) * x1) + (1 : Int32)).toNatClampNeg), .second, sJ (gn ((((8 : Int32) * x1) + (4 : Int32)) + (2 : Int32)).toNatClampNeg), .second] [])
  refine own_st (fun t k => XS.aloadN X7.here hx rfl (hb hby d8_49) rfl rfl k) ?_
  show own_Go _ _ _ _ T7 (mkF m 50 _ [(.ref a)])
  refine own_st (fun t k => XS.iloadN X7.here hx rfl (hb hby d8_50) rfl k) ?_
  show own_Go _ _ _ _ T7 (mkF m 51 _ [(.int x1), (.ref a)])
  refine own_st (fun t k => XS.lload X7.here hx rfl (hb hby d8_51) rfl k) ?_
  show own_Go _ _ _ _ T7 (mkF m 53 _ [(.long (gn (((8 : Int32) * x1) + (0 : Int32)).toNatClampNeg)), (.int x1), (.ref a)])
  refine own_st (fun t k => XS.lload X7.here hx rfl (hb hby d8_53) rfl k) ?_
  show own_Go _ _ _ _ T7 (mkF m 55 _ [(.long (gn ((((8 : Int32) * x1) + (4 : Int32)) + (0 : Int32)).toNatClampNeg)), (.long (gn (((8 : Int32) * x1) + (0 : Int32)).toNatClampNeg)), (.int x1), (.ref a)])
  refine own_st (fun t k => XS.ladd X7.here hx rfl (hb hby d8_55) rfl k) ?_
  show own_Go _ _ _ _ T7 (mkF m 56 _ [(.long ((gn (((8 : Int32) * x1) + (0 : Int32)).toNatClampNeg) + (gn ((((8 : Int32) * x1) + (4 : Int32)) + (0 : Int32)).toNatClampNeg))), (.int x1), (.ref a)])
  refine own_st (fun t k => XS.lload X7.here hx rfl (hb hby d8_56) rfl k) ?_
  show own_Go _ _ _ _ T7 (mkF m 58 _ [(.long (gn (((8 : Int32) * x1) + (1 : Int32)).toNatClampNeg)), (.long ((gn (((8 : Int32) * x1) + (0 : Int32)).toNatClampNeg) + (gn ((((8 : Int32) * x1) + (4 : Int32)) + (0 : Int32)).toNatClampNeg))), (.int x1), (.ref a)])
  refine own_st (fun t k => XS.lload X7.here hx rfl (hb hby d8_58) rfl k) ?_
  show own_Go _ _ _ _ T7 (mkF m 60 _ [(.long (gn ((((8 : Int32) * x1) + (4 : Int32)) + (0 : Int32)).toNatClampNeg)), (.long (gn (((8 : Int32) * x1) + (1 : Int32)).toNatClampNeg)), (.long ((gn (((8 : Int32) * x1) + (0 : Int32)).toNatClampNeg) + (gn ((((8 : Int32) * x1) + (4 : Int32)) + (0 : Int32)).toNatClampNeg))), (.int x1), (.ref a)])
  refine own_st (fun t k => XS.ladd X7.here hx rfl (hb hby d8_60) rfl k) ?_
  show own_Go _ _ _ _ T7 (mkF m 61 _ [(.long ((gn (((8 : Int32) * x1) + (1 : Int32)).toNatClampNeg) + (gn ((((8 : Int32) * x1) + (4 : Int32)) + (0 : Int32)).toNatClampNeg))), (.long ((gn (((8 : Int32) * x1) + (0 : Int32)).toNatClampNeg) + (gn ((((8 : Int32) * x1) + (4 : Int32)) + (0 : Int32)).toNatClampNeg))), (.int x1), (.ref a)])
  refine own_st (fun t k => XS.aloadN X7.here hx rfl (hb hby d8_61) rfl rfl k) ?_
  show own_Go _ _ _ _ T7 (mkF m 62 _ [(.ref a), (.long ((gn (((8 : Int32) * x1) + (1 : Int32)).toNatClampNeg) + (gn ((((8 : Int32) * x1) + (4 : Int32)) + (0 : Int32)).toNatClampNeg))), (.long ((gn (((8 : Int32) * x1) + (0 : Int32)).toNatClampNeg) + (gn ((((8 : Int32) * x1) + (4 : Int32)) + (0 : Int32)).toNatClampNeg))), (.int x1), (.ref a)])
  obtain ⟨T9, X9, e9, st9⟩ := getF X7 hx hZ hown (host := "") (Or.inl (own_w hw 28 rfl)) Via.refl e7 F1 (g := (mkF m 62 #[sR a, sI x1, sI ((8 : Int32) * x1), sI (((8 : Int32) * x1) + (4 : Int32)), sJ (gn (((8 : Int32) * x1) + (0 : Int32)).toNatClampNeg), .second, sJ (gn ((((8 : Int32) * x1) + (4 : Int32)) + (0 : Int32)).toNatClampNeg), .second, sJ (gn (((8 : Int32) * x1) + (1 : Int32)).toNatClampNeg), .second, sJ (gn ((((8 : Int32) * x1) + (4 : Int32)) + (2 : Int32)).toNatClampNeg), .second] [(.ref a), (.long ((gn (((8 : Int32) * x1) + (1 : Int32)).toNatClampNeg) + (gn ((((8 : Int32) * x1) + (4 : Int32)) + (0 : Int32)).toNatClampNeg))), (.long ((gn (((8 : Int32) * x1) + (0 : Int32)).toNatClampNeg) + (gn ((((8 : Int32) * x1) + (4 : Int32)) + (0 : Int32)).toNatClampNeg))), (.int x1), (.ref a)])) rfl rfl (hb hby d8_62)
  refine own_st st9 ?_
  show own_Go _ _ _ _ T9 (mkF m 65 _ [(.ref na), (.long ((gn (((8 : Int32) * x1) + (1 : Int32)).toNatClampNeg) + (gn ((((8 : Int32) * x1) + (4 : Int32)) + (0 : Int32)).toNatClampNeg))), (.long ((gn (((8 : Int32) * x1) + (0 : Int32)).toNatClampNeg) + (gn ((((8 : Int32) * x1) + (4 : Int32)) + (0 : Int32)).toNatClampNeg))), (.int x1), (.ref a)])
  refine own_st (fun t k => XS.iloadN X9.here hx rfl (hb hby d8_65) rfl k) ?_
  show own_Go _ _ _ _ T9 (mkF m 66 _ [(.int (((8 : Int32) * x1) + (4 : Int32))), (.ref na), (.long ((gn (((8 : Int32) * x1) + (1 : Int32)).toNatClampNeg) + (gn ((((8 : Int32) * x1) + (4 : Int32)) + (0 : Int32)).toNatClampNeg))), (.long ((gn (((8 : Int32) * x1) + (0 : Int32)).toNatClampNeg) + (gn ((((8 : Int32) * x1) + (4 : Int32)) + (0 : Int32)).toNatClampNeg))), (.int x1), (.ref a)])
  refine own_st (fun t k => XS.iconst X9.here hx rfl (hb hby d8_66) k) ?_
  show own_Go _ _ _ _ T9 (mkF m 67 _ [(.int (1 : Int32)), (.int (((8 : Int32) * x1) + (4 : Int32))), (.ref na), (.long ((gn (((8 : Int32) * x1) + (1 : Int32)).toNatClampNeg) + (gn ((((8 : Int32) * x1) + (4 : Int32)) + (0 : Int32)).toNatClampNeg))), (.long ((gn (((8 : Int32) * x1) + (0 : Int32)).toNatClampNeg) + (gn ((((8 : Int32) * x1) + (4 : Int32)) + (0 : Int32)).toNatClampNeg))), (.int x1), (.ref a)])
  refine own_st (fun t k => XS.iadd X9.here hx rfl (hb hby d8_67) rfl k) ?_
  show own_Go _ _ _ _ T9 (mkF m 68 _ [(.int ((((8 : Int32) * x1) + (4 : Int32)) + (1 : Int32))), (.ref na), (.long ((gn (((8 : Int32) * x1) + (1 : Int32)).toNatClampNeg) + (gn ((((8 : Int32) * x1) + (4 : Int32)) + (0 : Int32)).toNatClampNeg))), (.long ((gn (((8 : Int32) * x1) + (0 : Int32)).toNatClampNeg) + (gn ((((8 : Int32) * x1) + (4 : Int32)) + (0 : Int32)).toNatClampNeg))), (.int x1), (.ref a)])
  obtain ⟨c10, Ar10, q10, S10, N10, H10⟩ := id F2
  refine own_st (fun t k => X9.laload hx (j := ((((8 : Int32) * x1) + (4 : Int32)) + (1 : Int32))) (v := (.long (gn ((((8 : Int32) * x1) + (4 : Int32)) + (1 : Int32)).toNatClampNeg))) (by rw [e9]; exact Ar10.1) (State.isArrayOf_alike hZ.alike Ar10.2.1) Ar10.2.2 (inb_of S10 (own_ixr hn 1 (by decide)).2) (H10 _ (own_lt (inb_of S10 (own_ixr hn 1 (by decide)).2))) (g := (mkF m 68 #[sR a, sI x1, sI ((8 : Int32) * x1), sI (((8 : Int32) * x1) + (4 : Int32)), sJ (gn (((8 : Int32) * x1) + (0 : Int32)).toNatClampNeg), .second, sJ (gn ((((8 : Int32) * x1) + (4 : Int32)) + (0 : Int32)).toNatClampNeg), .second, sJ (gn (((8 : Int32) * x1) + (1 : Int32)).toNatClampNeg), .second, sJ (gn ((((8 : Int32) * x1) + (4 : Int32)) + (2 : Int32)).toNatClampNeg), .second] [(.int ((((8 : Int32) * x1) + (4 : Int32)) + (1 : Int32))), (.ref na), (.long ((gn (((8 : Int32) * x1) + (1 : Int32)).toNatClampNeg) + (gn ((((8 : Int32) * x1) + (4 : Int32)) + (0 : Int32)).toNatClampNeg))), (.long ((gn (((8 : Int32) * x1) + (0 : Int32)).toNatClampNeg) + (gn ((((8 : Int32) * x1) + (4 : Int32)) + (0 : Int32)).toNatClampNeg))), (.int x1), (.ref a)])) rfl rfl (hb hby d8_68) _ k) ?_
  show own_Go _ _ _ _ T9 (mkF m 69 _ [(.long (gn ((((8 : Int32) * x1) + (4 : Int32)) + (1 : Int32)).toNatClampNeg)), (.long ((gn (((8 : Int32) * x1) + (1 : Int32)).toNatClampNeg) + (gn ((((8 : Int32) * x1) + (4 : Int32)) + (0 : Int32)).toNatClampNeg))), (.long ((gn (((8 : Int32) * x1) + (0 : Int32)).toNatClampNeg) + (gn ((((8 : Int32) * x1) + (4 : Int32)) + (0 : Int32)).toNatClampNeg))), (.int x1), (.ref a)])
  obtain ⟨_, _, ⟨T11, L11, k11, n11⟩, -, X11, ⟨Lc11, hQ11, l11, y11, z11⟩, st11⟩ := Jvm.LawKit.callS X9 hx (y := ym5) hown (mvT hZ (own_w hw 82 rfl)) (mvT hZ (own_w hw 53 rfl)) (mvT hZ (own_w hw 17 rfl)) (mvT hZ (own_w hw 54 rfl)) (by decide) (backOf (W := 4) (rm17 l Z a0 hw [] ((gn (((8 : Int32) * x1) + (1 : Int32)).toNatClampNeg) + (gn ((((8 : Int32) * x1) + (4 : Int32)) + (0 : Int32)).toNatClampNeg)) (gn ((((8 : Int32) * x1) + (4 : Int32)) + (1 : Int32)).toNatClampNeg) h0 n0 Z0 ) hZ (own_w hw 54 rfl) (own_w hw 17 rfl) (by decide) (by decide)) (g := (mkF m 69 #[sR a, sI x1, sI ((8 : Int32) * x1), sI (((8 : Int32) * x1) + (4 : Int32)), sJ (gn (((8 : Int32) * x1) + (0 : Int32)).toNatClampNeg), .second, sJ (gn ((((8 : Int32) * x1) + (4 : Int32)) + (0 : Int32)).toNatClampNeg), .second, sJ (gn (((8 : Int32) * x1) + (1 : Int32)).toNatClampNeg), .second, sJ (gn ((((8 : Int32) * x1) + (4 : Int32)) + (2 : Int32)).toNatClampNeg), .second] [(.long (gn ((((8 : Int32) * x1) + (4 : Int32)) + (1 : Int32)).toNatClampNeg)), (.long ((gn (((8 : Int32) * x1) + (1 : Int32)).toNatClampNeg) + (gn ((((8 : Int32) * x1) + (4 : Int32)) + (0 : Int32)).toNatClampNeg))), (.long ((gn (((8 : Int32) * x1) + (0 : Int32)).toNatClampNeg) + (gn ((((8 : Int32) * x1) + (4 : Int32)) + (0 : Int32)).toNatClampNeg))), (.int x1), (.ref a)])) rfl (by rw [hml]; rfl) (argsL := [(.long ((gn (((8 : Int32) * x1) + (1 : Int32)).toNatClampNeg) + (gn ((((8 : Int32) * x1) + (4 : Int32)) + (0 : Int32)).toNatClampNeg))), (.long (gn ((((8 : Int32) * x1) + (4 : Int32)) + (1 : Int32)).toNatClampNeg))]) (rest := [(.long ((gn (((8 : Int32) * x1) + (0 : Int32)).toNatClampNeg) + (gn ((((8 : Int32) * x1) + (4 : Int32)) + (0 : Int32)).toNatClampNeg))), (.int x1), (.ref a)]) (lenOf own_pd__JJ_J rfl) rfl (by show 2 * 0 + _ ≤ _; exact Nat.le_of_eq rfl) (hb hby d8_69) (fun _ _ => ⟨rfl, e9, (by decide : 0 + 0 ≤ _), (by decide : 0 + 0 ≤ _)⟩)
  dsimp only [Pt.U, Pt.locs, Pt.cells, Pt.slots] at X11 l11 y11 z11 st11 hQ11
  subst l11 y11 z11
  obtain ⟨rfl, NQ11, eq11⟩ := hQ11
  have N12 := Fr.app N0 NQ11
  refine own_st st11 ?_
  show own_Go _ _ _ _ T11 (mkF m 72 _ [(.long (own_max ((gn (((8 : Int32) * x1) + (1 : Int32)).toNatClampNeg) + (gn ((((8 : Int32) * x1) + (4 : Int32)) + (0 : Int32)).toNatClampNeg)) (gn ((((8 : Int32) * x1) + (4 : Int32)) + (1 : Int32)).toNatClampNeg))), (.long ((gn (((8 : Int32) * x1) + (0 : Int32)).toNatClampNeg) + (gn ((((8 : Int32) * x1) + (4 : Int32)) + (0 : Int32)).toNatClampNeg))), (.int x1), (.ref a)])
  refine own_st (fun t k => XS.aloadN X11.here hx rfl (hb hby d8_72) rfl rfl k) ?_
  show own_Go _ _ _ _ T11 (mkF m 73 _ [(.ref a), (.long (own_max ((gn (((8 : Int32) * x1) + (1 : Int32)).toNatClampNeg) + (gn ((((8 : Int32) * x1) + (4 : Int32)) + (0 : Int32)).toNatClampNeg)) (gn ((((8 : Int32) * x1) + (4 : Int32)) + (1 : Int32)).toNatClampNeg))), (.long ((gn (((8 : Int32) * x1) + (0 : Int32)).toNatClampNeg) + (gn ((((8 : Int32) * x1) + (4 : Int32)) + (0 : Int32)).toNatClampNeg))), (.int x1), (.ref a)])
  obtain ⟨T13, X13, e13, st13⟩ := getF X11 hx hZ hown (host := "") (Or.inl (own_w hw 28 rfl)) Via.refl eq11 F1 (g := (mkF m 73 #[sR a, sI x1, sI ((8 : Int32) * x1), sI (((8 : Int32) * x1) + (4 : Int32)), sJ (gn (((8 : Int32) * x1) + (0 : Int32)).toNatClampNeg), .second, sJ (gn ((((8 : Int32) * x1) + (4 : Int32)) + (0 : Int32)).toNatClampNeg), .second, sJ (gn (((8 : Int32) * x1) + (1 : Int32)).toNatClampNeg), .second, sJ (gn ((((8 : Int32) * x1) + (4 : Int32)) + (2 : Int32)).toNatClampNeg), .second] [(.ref a), (.long (own_max ((gn (((8 : Int32) * x1) + (1 : Int32)).toNatClampNeg) + (gn ((((8 : Int32) * x1) + (4 : Int32)) + (0 : Int32)).toNatClampNeg)) (gn ((((8 : Int32) * x1) + (4 : Int32)) + (1 : Int32)).toNatClampNeg))), (.long ((gn (((8 : Int32) * x1) + (0 : Int32)).toNatClampNeg) + (gn ((((8 : Int32) * x1) + (4 : Int32)) + (0 : Int32)).toNatClampNeg))), (.int x1), (.ref a)])) rfl rfl (hb hby d8_73)
  refine own_st st13 ?_
  show own_Go _ _ _ _ T13 (mkF m 76 _ [(.ref na), (.long (own_max ((gn (((8 : Int32) * x1) + (1 : Int32)).toNatClampNeg) + (gn ((((8 : Int32) * x1) + (4 : Int32)) + (0 : Int32)).toNatClampNeg)) (gn ((((8 : Int32) * x1) + (4 : Int32)) + (1 : Int32)).toNatClampNeg))), (.long ((gn (((8 : Int32) * x1) + (0 : Int32)).toNatClampNeg) + (gn ((((8 : Int32) * x1) + (4 : Int32)) + (0 : Int32)).toNatClampNeg))), (.int x1), (.ref a)])
  refine own_st (fun t k => XS.iloadN X13.here hx rfl (hb hby d8_76) rfl k) ?_
  show own_Go _ _ _ _ T13 (mkF m 77 _ [(.int ((8 : Int32) * x1)), (.ref na), (.long (own_max ((gn (((8 : Int32) * x1) + (1 : Int32)).toNatClampNeg) + (gn ((((8 : Int32) * x1) + (4 : Int32)) + (0 : Int32)).toNatClampNeg)) (gn ((((8 : Int32) * x1) + (4 : Int32)) + (1 : Int32)).toNatClampNeg))), (.long ((gn (((8 : Int32) * x1) + (0 : Int32)).toNatClampNeg) + (gn ((((8 : Int32) * x1) + (4 : Int32)) + (0 : Int32)).toNatClampNeg))), (.int x1), (.ref a)])
  refine own_st (fun t k => XS.iconst X13.here hx rfl (hb hby d8_77) k) ?_
  show own_Go _ _ _ _ T13 (mkF m 78 _ [(.int (2 : Int32)), (.int ((8 : Int32) * x1)), (.ref na), (.long (own_max ((gn (((8 : Int32) * x1) + (1 : Int32)).toNatClampNeg) + (gn ((((8 : Int32) * x1) + (4 : Int32)) + (0 : Int32)).toNatClampNeg)) (gn ((((8 : Int32) * x1) + (4 : Int32)) + (1 : Int32)).toNatClampNeg))), (.long ((gn (((8 : Int32) * x1) + (0 : Int32)).toNatClampNeg) + (gn ((((8 : Int32) * x1) + (4 : Int32)) + (0 : Int32)).toNatClampNeg))), (.int x1), (.ref a)])
  refine own_st (fun t k => XS.iadd X13.here hx rfl (hb hby d8_78) rfl k) ?_
  show own_Go _ _ _ _ T13 (mkF m 79 _ [(.int (((8 : Int32) * x1) + (2 : Int32))), (.ref na), (.long (own_max ((gn (((8 : Int32) * x1) + (1 : Int32)).toNatClampNeg) + (gn ((((8 : Int32) * x1) + (4 : Int32)) + (0 : Int32)).toNatClampNeg)) (gn ((((8 : Int32) * x1) + (4 : Int32)) + (1 : Int32)).toNatClampNeg))), (.long ((gn (((8 : Int32) * x1) + (0 : Int32)).toNatClampNeg) + (gn ((((8 : Int32) * x1) + (4 : Int32)) + (0 : Int32)).toNatClampNeg))), (.int x1), (.ref a)])
  obtain ⟨c14, Ar14, q14, S14, N14, H14⟩ := id F2
  refine own_st (fun t k => X13.laload hx (j := (((8 : Int32) * x1) + (2 : Int32))) (v := (.long (gn (((8 : Int32) * x1) + (2 : Int32)).toNatClampNeg))) (by rw [e13]; exact Ar14.1) (State.isArrayOf_alike hZ.alike Ar14.2.1) Ar14.2.2 (inb_of S14 (own_ixc hn 2 (by decide)).2) (H14 _ (own_lt (inb_of S14 (own_ixc hn 2 (by decide)).2))) (g := (mkF m 79 #[sR a, sI x1, sI ((8 : Int32) * x1), sI (((8 : Int32) * x1) + (4 : Int32)), sJ (gn (((8 : Int32) * x1) + (0 : Int32)).toNatClampNeg), .second, sJ (gn ((((8 : Int32) * x1) + (4 : Int32)) + (0 : Int32)).toNatClampNeg), .second, sJ (gn (((8 : Int32) * x1) + (1 : Int32)).toNatClampNeg), .second, sJ (gn ((((8 : Int32) * x1) + (4 : Int32)) + (2 : Int32)).toNatClampNeg), .second] [(.int (((8 : Int32) * x1) + (2 : Int32))), (.ref na), (.long (own_max ((gn (((8 : Int32) * x1) + (1 : Int32)).toNatClampNeg) + (gn ((((8 : Int32) * x1) + (4 : Int32)) + (0 : Int32)).toNatClampNeg)) (gn ((((8 : Int32) * x1) + (4 : Int32)) + (1 : Int32)).toNatClampNeg))), (.long ((gn (((8 : Int32) * x1) + (0 : Int32)).toNatClampNeg) + (gn ((((8 : Int32) * x1) + (4 : Int32)) + (0 : Int32)).toNatClampNeg))), (.int x1), (.ref a)])) rfl rfl (hb hby d8_79) _ k) ?_
  show own_Go _ _ _ _ T13 (mkF m 80 _ [(.long (gn (((8 : Int32) * x1) + (2 : Int32)).toNatClampNeg)), (.long (own_max ((gn (((8 : Int32) * x1) + (1 : Int32)).toNatClampNeg) + (gn ((((8 : Int32) * x1) + (4 : Int32)) + (0 : Int32)).toNatClampNeg)) (gn ((((8 : Int32) * x1) + (4 : Int32)) + (1 : Int32)).toNatClampNeg))), (.long ((gn (((8 : Int32) * x1) + (0 : Int32)).toNatClampNeg) + (gn ((((8 : Int32) * x1) + (4 : Int32)) + (0 : Int32)).toNatClampNeg))), (.int x1), (.ref a)])
  refine own_st (fun t k => XS.lload X13.here hx rfl (hb hby d8_80) rfl k) ?_
  show own_Go _ _ _ _ T13 (mkF m 82 _ [(.long (gn ((((8 : Int32) * x1) + (4 : Int32)) + (0 : Int32)).toNatClampNeg)), (.long (gn (((8 : Int32) * x1) + (2 : Int32)).toNatClampNeg)), (.long (own_max ((gn (((8 : Int32) * x1) + (1 : Int32)).toNatClampNeg) + (gn ((((8 : Int32) * x1) + (4 : Int32)) + (0 : Int32)).toNatClampNeg)) (gn ((((8 : Int32) * x1) + (4 : Int32)) + (1 : Int32)).toNatClampNeg))), (.long ((gn (((8 : Int32) * x1) + (0 : Int32)).toNatClampNeg) + (gn ((((8 : Int32) * x1) + (4 : Int32)) + (0 : Int32)).toNatClampNeg))), (.int x1), (.ref a)])
  refine own_st (fun t k => XS.ladd X13.here hx rfl (hb hby d8_82) rfl k) ?_
  show own_Go _ _ _ _ T13 (mkF m 83 _ [(.long ((gn (((8 : Int32) * x1) + (2 : Int32)).toNatClampNeg) + (gn ((((8 : Int32) * x1) + (4 : Int32)) + (0 : Int32)).toNatClampNeg))), (.long (own_max ((gn (((8 : Int32) * x1) + (1 : Int32)).toNatClampNeg) + (gn ((((8 : Int32) * x1) + (4 : Int32)) + (0 : Int32)).toNatClampNeg)) (gn ((((8 : Int32) * x1) + (4 : Int32)) + (1 : Int32)).toNatClampNeg))), (.long ((gn (((8 : Int32) * x1) + (0 : Int32)).toNatClampNeg) + (gn ((((8 : Int32) * x1) + (4 : Int32)) + (0 : Int32)).toNatClampNeg))), (.int x1), (.ref a)])
  refine own_st (fun t k => XS.lload X13.here hx rfl (hb hby d8_83) rfl k) ?_
  show own_Go _ _ _ _ T13 (mkF m 85 _ [(.long (gn (((8 : Int32) * x1) + (0 : Int32)).toNatClampNeg)), (.long ((gn (((8 : Int32) * x1) + (2 : Int32)).toNatClampNeg) + (gn ((((8 : Int32) * x1) + (4 : Int32)) + (0 : Int32)).toNatClampNeg))), (.long (own_max ((gn (((8 : Int32) * x1) + (1 : Int32)).toNatClampNeg) + (gn ((((8 : Int32) * x1) + (4 : Int32)) + (0 : Int32)).toNatClampNeg)) (gn ((((8 : Int32) * x1) + (4 : Int32)) + (1 : Int32)).toNatClampNeg))), (.long ((gn (((8 : Int32) * x1) + (0 : Int32)).toNatClampNeg) + (gn ((((8 : Int32) * x1) + (4 : Int32)) + (0 : Int32)).toNatClampNeg))), (.int x1), (.ref a)])
  refine own_st (fun t k => XS.lload X13.here hx rfl (hb hby d8_85) rfl k) ?_
  show own_Go _ _ _ _ T13 (mkF m 87 _ [(.long (gn ((((8 : Int32) * x1) + (4 : Int32)) + (2 : Int32)).toNatClampNeg)), (.long (gn (((8 : Int32) * x1) + (0 : Int32)).toNatClampNeg)), (.long ((gn (((8 : Int32) * x1) + (2 : Int32)).toNatClampNeg) + (gn ((((8 : Int32) * x1) + (4 : Int32)) + (0 : Int32)).toNatClampNeg))), (.long (own_max ((gn (((8 : Int32) * x1) + (1 : Int32)).toNatClampNeg) + (gn ((((8 : Int32) * x1) + (4 : Int32)) + (0 : Int32)).toNatClampNeg)) (gn ((((8 : Int32) * x1) + (4 : Int32)) + (1 : Int32)).toNatClampNeg))), (.long ((gn (((8 : Int32) * x1) + (0 : Int32)).toNatClampNeg) + (gn ((((8 : Int32) * x1) + (4 : Int32)) + (0 : Int32)).toNatClampNeg))), (.int x1), (.ref a)])
  refine own_st (fun t k => XS.ladd X13.here hx rfl (hb hby d8_87) rfl k) ?_
  show own_Go _ _ _ _ T13 (mkF m 88 _ [(.long ((gn (((8 : Int32) * x1) + (0 : Int32)).toNatClampNeg) + (gn ((((8 : Int32) * x1) + (4 : Int32)) + (2 : Int32)).toNatClampNeg))), (.long ((gn (((8 : Int32) * x1) + (2 : Int32)).toNatClampNeg) + (gn ((((8 : Int32) * x1) + (4 : Int32)) + (0 : Int32)).toNatClampNeg))), (.long (own_max ((gn (((8 : Int32) * x1) + (1 : Int32)).toNatClampNeg) + (gn ((((8 : Int32) * x1) + (4 : Int32)) + (0 : Int32)).toNatClampNeg)) (gn ((((8 : Int32) * x1) + (4 : Int32)) + (1 : Int32)).toNatClampNeg))), (.long ((gn (((8 : Int32) * x1) + (0 : Int32)).toNatClampNeg) + (gn ((((8 : Int32) * x1) + (4 : Int32)) + (0 : Int32)).toNatClampNeg))), (.int x1), (.ref a)])
  obtain ⟨_, _, ⟨T15, L15, k15, n15⟩, -, X15, ⟨Lc15, hQ15, l15, y15, z15⟩, st15⟩ := Jvm.LawKit.callS X13 hx (y := ym5) hown (mvT hZ (own_w hw 82 rfl)) (mvT hZ (own_w hw 53 rfl)) (mvT hZ (own_w hw 17 rfl)) (mvT hZ (own_w hw 54 rfl)) (by decide) (backOf (W := 6) (rm17 l Z a0 hw [] ((gn (((8 : Int32) * x1) + (2 : Int32)).toNatClampNeg) + (gn ((((8 : Int32) * x1) + (4 : Int32)) + (0 : Int32)).toNatClampNeg)) ((gn (((8 : Int32) * x1) + (0 : Int32)).toNatClampNeg) + (gn ((((8 : Int32) * x1) + (4 : Int32)) + (2 : Int32)).toNatClampNeg)) h0 n0 Z0 ) hZ (own_w hw 54 rfl) (own_w hw 17 rfl) (by decide) (by decide)) (g := (mkF m 88 #[sR a, sI x1, sI ((8 : Int32) * x1), sI (((8 : Int32) * x1) + (4 : Int32)), sJ (gn (((8 : Int32) * x1) + (0 : Int32)).toNatClampNeg), .second, sJ (gn ((((8 : Int32) * x1) + (4 : Int32)) + (0 : Int32)).toNatClampNeg), .second, sJ (gn (((8 : Int32) * x1) + (1 : Int32)).toNatClampNeg), .second, sJ (gn ((((8 : Int32) * x1) + (4 : Int32)) + (2 : Int32)).toNatClampNeg), .second] [(.long ((gn (((8 : Int32) * x1) + (0 : Int32)).toNatClampNeg) + (gn ((((8 : Int32) * x1) + (4 : Int32)) + (2 : Int32)).toNatClampNeg))), (.long ((gn (((8 : Int32) * x1) + (2 : Int32)).toNatClampNeg) + (gn ((((8 : Int32) * x1) + (4 : Int32)) + (0 : Int32)).toNatClampNeg))), (.long (own_max ((gn (((8 : Int32) * x1) + (1 : Int32)).toNatClampNeg) + (gn ((((8 : Int32) * x1) + (4 : Int32)) + (0 : Int32)).toNatClampNeg)) (gn ((((8 : Int32) * x1) + (4 : Int32)) + (1 : Int32)).toNatClampNeg))), (.long ((gn (((8 : Int32) * x1) + (0 : Int32)).toNatClampNeg) + (gn ((((8 : Int32) * x1) + (4 : Int32)) + (0 : Int32)).toNatClampNeg))), (.int x1), (.ref a)])) rfl (by rw [hml]; rfl) (argsL := [(.long ((gn (((8 : Int32) * x1) + (2 : Int32)).toNatClampNeg) + (gn ((((8 : Int32) * x1) + (4 : Int32)) + (0 : Int32)).toNatClampNeg))), (.long ((gn (((8 : Int32) * x1) + (0 : Int32)).toNatClampNeg) + (gn ((((8 : Int32) * x1) + (4 : Int32)) + (2 : Int32)).toNatClampNeg)))]) (rest := [(.long (own_max ((gn (((8 : Int32) * x1) + (1 : Int32)).toNatClampNeg) + (gn ((((8 : Int32) * x1) + (4 : Int32)) + (0 : Int32)).toNatClampNeg)) (gn ((((8 : Int32) * x1) + (4 : Int32)) + (1 : Int32)).toNatClampNeg))), (.long ((gn (((8 : Int32) * x1) + (0 : Int32)).toNatClampNeg) + (gn ((((8 : Int32) * x1) + (4 : Int32)) + (0 : Int32)).toNatClampNeg))), (.int x1), (.ref a)]) (lenOf own_pd__JJ_J rfl) rfl (by show 2 * 0 + _ ≤ _; exact Nat.le_of_eq rfl) (hb hby d8_88) (fun _ _ => ⟨rfl, e13, (by decide : 0 + 0 ≤ _), (by decide : 0 + 0 ≤ _)⟩)
  dsimp only [Pt.U, Pt.locs, Pt.cells, Pt.slots] at X15 l15 y15 z15 st15 hQ15
  subst l15 y15 z15
  obtain ⟨rfl, NQ15, eq15⟩ := hQ15
  have N16 := Fr.app N12 NQ15
  refine own_st st15 ?_
  show own_Go _ _ _ _ T15 (mkF m 91 _ [(.long (own_max ((gn (((8 : Int32) * x1) + (2 : Int32)).toNatClampNeg) + (gn ((((8 : Int32) * x1) + (4 : Int32)) + (0 : Int32)).toNatClampNeg)) ((gn (((8 : Int32) * x1) + (0 : Int32)).toNatClampNeg) + (gn ((((8 : Int32) * x1) + (4 : Int32)) + (2 : Int32)).toNatClampNeg)))), (.long (own_max ((gn (((8 : Int32) * x1) + (1 : Int32)).toNatClampNeg) + (gn ((((8 : Int32) * x1) + (4 : Int32)) + (0 : Int32)).toNatClampNeg)) (gn ((((8 : Int32) * x1) + (4 : Int32)) + (1 : Int32)).toNatClampNeg))), (.long ((gn (((8 : Int32) * x1) + (0 : Int32)).toNatClampNeg) + (gn ((((8 : Int32) * x1) + (4 : Int32)) + (0 : Int32)).toNatClampNeg))), (.int x1), (.ref a)])
  refine own_st (fun t k => XS.aloadN X15.here hx rfl (hb hby d8_91) rfl rfl k) ?_
  show own_Go _ _ _ _ T15 (mkF m 92 _ [(.ref a), (.long (own_max ((gn (((8 : Int32) * x1) + (2 : Int32)).toNatClampNeg) + (gn ((((8 : Int32) * x1) + (4 : Int32)) + (0 : Int32)).toNatClampNeg)) ((gn (((8 : Int32) * x1) + (0 : Int32)).toNatClampNeg) + (gn ((((8 : Int32) * x1) + (4 : Int32)) + (2 : Int32)).toNatClampNeg)))), (.long (own_max ((gn (((8 : Int32) * x1) + (1 : Int32)).toNatClampNeg) + (gn ((((8 : Int32) * x1) + (4 : Int32)) + (0 : Int32)).toNatClampNeg)) (gn ((((8 : Int32) * x1) + (4 : Int32)) + (1 : Int32)).toNatClampNeg))), (.long ((gn (((8 : Int32) * x1) + (0 : Int32)).toNatClampNeg) + (gn ((((8 : Int32) * x1) + (4 : Int32)) + (0 : Int32)).toNatClampNeg))), (.int x1), (.ref a)])
  obtain ⟨T17, X17, e17, st17⟩ := getF X15 hx hZ hown (host := "") (Or.inl (own_w hw 28 rfl)) Via.refl eq15 F1 (g := (mkF m 92 #[sR a, sI x1, sI ((8 : Int32) * x1), sI (((8 : Int32) * x1) + (4 : Int32)), sJ (gn (((8 : Int32) * x1) + (0 : Int32)).toNatClampNeg), .second, sJ (gn ((((8 : Int32) * x1) + (4 : Int32)) + (0 : Int32)).toNatClampNeg), .second, sJ (gn (((8 : Int32) * x1) + (1 : Int32)).toNatClampNeg), .second, sJ (gn ((((8 : Int32) * x1) + (4 : Int32)) + (2 : Int32)).toNatClampNeg), .second] [(.ref a), (.long (own_max ((gn (((8 : Int32) * x1) + (2 : Int32)).toNatClampNeg) + (gn ((((8 : Int32) * x1) + (4 : Int32)) + (0 : Int32)).toNatClampNeg)) ((gn (((8 : Int32) * x1) + (0 : Int32)).toNatClampNeg) + (gn ((((8 : Int32) * x1) + (4 : Int32)) + (2 : Int32)).toNatClampNeg)))), (.long (own_max ((gn (((8 : Int32) * x1) + (1 : Int32)).toNatClampNeg) + (gn ((((8 : Int32) * x1) + (4 : Int32)) + (0 : Int32)).toNatClampNeg)) (gn ((((8 : Int32) * x1) + (4 : Int32)) + (1 : Int32)).toNatClampNeg))), (.long ((gn (((8 : Int32) * x1) + (0 : Int32)).toNatClampNeg) + (gn ((((8 : Int32) * x1) + (4 : Int32)) + (0 : Int32)).toNatClampNeg))), (.int x1), (.ref a)])) rfl rfl (hb hby d8_92)
  refine own_st st17 ?_
  show own_Go _ _ _ _ T17 (mkF m 95 _ [(.ref na), (.long (own_max ((gn (((8 : Int32) * x1) + (2 : Int32)).toNatClampNeg) + (gn ((((8 : Int32) * x1) + (4 : Int32)) + (0 : Int32)).toNatClampNeg)) ((gn (((8 : Int32) * x1) + (0 : Int32)).toNatClampNeg) + (gn ((((8 : Int32) * x1) + (4 : Int32)) + (2 : Int32)).toNatClampNeg)))), (.long (own_max ((gn (((8 : Int32) * x1) + (1 : Int32)).toNatClampNeg) + (gn ((((8 : Int32) * x1) + (4 : Int32)) + (0 : Int32)).toNatClampNeg)) (gn ((((8 : Int32) * x1) + (4 : Int32)) + (1 : Int32)).toNatClampNeg))), (.long ((gn (((8 : Int32) * x1) + (0 : Int32)).toNatClampNeg) + (gn ((((8 : Int32) * x1) + (4 : Int32)) + (0 : Int32)).toNatClampNeg))), (.int x1), (.ref a)])
  refine own_st (fun t k => XS.iloadN X17.here hx rfl (hb hby d8_95) rfl k) ?_
  show own_Go _ _ _ _ T17 (mkF m 96 _ [(.int (((8 : Int32) * x1) + (4 : Int32))), (.ref na), (.long (own_max ((gn (((8 : Int32) * x1) + (2 : Int32)).toNatClampNeg) + (gn ((((8 : Int32) * x1) + (4 : Int32)) + (0 : Int32)).toNatClampNeg)) ((gn (((8 : Int32) * x1) + (0 : Int32)).toNatClampNeg) + (gn ((((8 : Int32) * x1) + (4 : Int32)) + (2 : Int32)).toNatClampNeg)))), (.long (own_max ((gn (((8 : Int32) * x1) + (1 : Int32)).toNatClampNeg) + (gn ((((8 : Int32) * x1) + (4 : Int32)) + (0 : Int32)).toNatClampNeg)) (gn ((((8 : Int32) * x1) + (4 : Int32)) + (1 : Int32)).toNatClampNeg))), (.long ((gn (((8 : Int32) * x1) + (0 : Int32)).toNatClampNeg) + (gn ((((8 : Int32) * x1) + (4 : Int32)) + (0 : Int32)).toNatClampNeg))), (.int x1), (.ref a)])
  refine own_st (fun t k => XS.iconst X17.here hx rfl (hb hby d8_96) k) ?_
  show own_Go _ _ _ _ T17 (mkF m 97 _ [(.int (3 : Int32)), (.int (((8 : Int32) * x1) + (4 : Int32))), (.ref na), (.long (own_max ((gn (((8 : Int32) * x1) + (2 : Int32)).toNatClampNeg) + (gn ((((8 : Int32) * x1) + (4 : Int32)) + (0 : Int32)).toNatClampNeg)) ((gn (((8 : Int32) * x1) + (0 : Int32)).toNatClampNeg) + (gn ((((8 : Int32) * x1) + (4 : Int32)) + (2 : Int32)).toNatClampNeg)))), (.long (own_max ((gn (((8 : Int32) * x1) + (1 : Int32)).toNatClampNeg) + (gn ((((8 : Int32) * x1) + (4 : Int32)) + (0 : Int32)).toNatClampNeg)) (gn ((((8 : Int32) * x1) + (4 : Int32)) + (1 : Int32)).toNatClampNeg))), (.long ((gn (((8 : Int32) * x1) + (0 : Int32)).toNatClampNeg) + (gn ((((8 : Int32) * x1) + (4 : Int32)) + (0 : Int32)).toNatClampNeg))), (.int x1), (.ref a)])
  refine own_st (fun t k => XS.iadd X17.here hx rfl (hb hby d8_97) rfl k) ?_
  show own_Go _ _ _ _ T17 (mkF m 98 _ [(.int ((((8 : Int32) * x1) + (4 : Int32)) + (3 : Int32))), (.ref na), (.long (own_max ((gn (((8 : Int32) * x1) + (2 : Int32)).toNatClampNeg) + (gn ((((8 : Int32) * x1) + (4 : Int32)) + (0 : Int32)).toNatClampNeg)) ((gn (((8 : Int32) * x1) + (0 : Int32)).toNatClampNeg) + (gn ((((8 : Int32) * x1) + (4 : Int32)) + (2 : Int32)).toNatClampNeg)))), (.long (own_max ((gn (((8 : Int32) * x1) + (1 : Int32)).toNatClampNeg) + (gn ((((8 : Int32) * x1) + (4 : Int32)) + (0 : Int32)).toNatClampNeg)) (gn ((((8 : Int32) * x1) + (4 : Int32)) + (1 : Int32)).toNatClampNeg))), (.long ((gn (((8 : Int32) * x1) + (0 : Int32)).toNatClampNeg) + (gn ((((8 : Int32) * x1) + (4 : Int32)) + (0 : Int32)).toNatClampNeg))), (.int x1), (.ref a)])
  obtain ⟨c18, Ar18, q18, S18, N18, H18⟩ := id F2
  refine own_st (fun t k => X17.laload hx (j := ((((8 : Int32) * x1) + (4 : Int32)) + (3 : Int32))) (v := (.long (gn ((((8 : Int32) * x1) + (4 : Int32)) + (3 : Int32)).toNatClampNeg))) (by rw [e17]; exact Ar18.1) (State.isArrayOf_alike hZ.alike Ar18.2.1) Ar18.2.2 (inb_of S18 (own_ixr hn 3 (by decide)).2) (H18 _ (own_lt (inb_of S18 (own_ixr hn 3 (by decide)).2))) (g := (mkF m 98 #[sR a, sI x1, sI ((8 : Int32) * x1), sI (((8 : Int32) * x1) + (4 : Int32)), sJ (gn (((8 : Int32) * x1) + (0 : Int32)).toNatClampNeg), .second, sJ (gn ((((8 : Int32) * x1) + (4 : Int32)) + (0 : Int32)).toNatClampNeg), .second, sJ (gn (((8 : Int32) * x1) + (1 : Int32)).toNatClampNeg), .second, sJ (gn ((((8 : Int32) * x1) + (4 : Int32)) + (2 : Int32)).toNatClampNeg), .second] [(.int ((((8 : Int32) * x1) + (4 : Int32)) + (3 : Int32))), (.ref na), (.long (own_max ((gn (((8 : Int32) * x1) + (2 : Int32)).toNatClampNeg) + (gn ((((8 : Int32) * x1) + (4 : Int32)) + (0 : Int32)).toNatClampNeg)) ((gn (((8 : Int32) * x1) + (0 : Int32)).toNatClampNeg) + (gn ((((8 : Int32) * x1) + (4 : Int32)) + (2 : Int32)).toNatClampNeg)))), (.long (own_max ((gn (((8 : Int32) * x1) + (1 : Int32)).toNatClampNeg) + (gn ((((8 : Int32) * x1) + (4 : Int32)) + (0 : Int32)).toNatClampNeg)) (gn ((((8 : Int32) * x1) + (4 : Int32)) + (1 : Int32)).toNatClampNeg))), (.long ((gn (((8 : Int32) * x1) + (0 : Int32)).toNatClampNeg) + (gn ((((8 : Int32) * x1) + (4 : Int32)) + (0 : Int32)).toNatClampNeg))), (.int x1), (.ref a)])) rfl rfl (hb hby d8_98) _ k) ?_
  show own_Go _ _ _ _ T17 (mkF m 99 _ [(.long (gn ((((8 : Int32) * x1) + (4 : Int32)) + (3 : Int32)).toNatClampNeg)), (.long (own_max ((gn (((8 : Int32) * x1) + (2 : Int32)).toNatClampNeg) + (gn ((((8 : Int32) * x1) + (4 : Int32)) + (0 : Int32)).toNatClampNeg)) ((gn (((8 : Int32) * x1) + (0 : Int32)).toNatClampNeg) + (gn ((((8 : Int32) * x1) + (4 : Int32)) + (2 : Int32)).toNatClampNeg)))), (.long (own_max ((gn (((8 : Int32) * x1) + (1 : Int32)).toNatClampNeg) + (gn ((((8 : Int32) * x1) + (4 : Int32)) + (0 : Int32)).toNatClampNeg)) (gn ((((8 : Int32) * x1) + (4 : Int32)) + (1 : Int32)).toNatClampNeg))), (.long ((gn (((8 : Int32) * x1) + (0 : Int32)).toNatClampNeg) + (gn ((((8 : Int32) * x1) + (4 : Int32)) + (0 : Int32)).toNatClampNeg))), (.int x1), (.ref a)])
  refine own_st (fun t k => XS.lload X17.here hx rfl (hb hby d8_99) rfl k) ?_
  show own_Go _ _ _ _ T17 (mkF m 101 _ [(.long (gn (((8 : Int32) * x1) + (1 : Int32)).toNatClampNeg)), (.long (gn ((((8 : Int32) * x1) + (4 : Int32)) + (3 : Int32)).toNatClampNeg)), (.long (own_max ((gn (((8 : Int32) * x1) + (2 : Int32)).toNatClampNeg) + (gn ((((8 : Int32) * x1) + (4 : Int32)) + (0 : Int32)).toNatClampNeg)) ((gn (((8 : Int32) * x1) + (0 : Int32)).toNatClampNeg) + (gn ((((8 : Int32) * x1) + (4 : Int32)) + (2 : Int32)).toNatClampNeg)))), (.long (own_max ((gn (((8 : Int32) * x1) + (1 : Int32)).toNatClampNeg) + (gn ((((8 : Int32) * x1) + (4 : Int32)) + (0 : Int32)).toNatClampNeg)) (gn ((((8 : Int32) * x1) + (4 : Int32)) + (1 : Int32)).toNatClampNeg))), (.long ((gn (((8 : Int32) * x1) + (0 : Int32)).toNatClampNeg) + (gn ((((8 : Int32) * x1) + (4 : Int32)) + (0 : Int32)).toNatClampNeg))), (.int x1), (.ref a)])
  refine own_st (fun t k => XS.lload X17.here hx rfl (hb hby d8_101) rfl k) ?_
  show own_Go _ _ _ _ T17 (mkF m 103 _ [(.long (gn ((((8 : Int32) * x1) + (4 : Int32)) + (2 : Int32)).toNatClampNeg)), (.long (gn (((8 : Int32) * x1) + (1 : Int32)).toNatClampNeg)), (.long (gn ((((8 : Int32) * x1) + (4 : Int32)) + (3 : Int32)).toNatClampNeg)), (.long (own_max ((gn (((8 : Int32) * x1) + (2 : Int32)).toNatClampNeg) + (gn ((((8 : Int32) * x1) + (4 : Int32)) + (0 : Int32)).toNatClampNeg)) ((gn (((8 : Int32) * x1) + (0 : Int32)).toNatClampNeg) + (gn ((((8 : Int32) * x1) + (4 : Int32)) + (2 : Int32)).toNatClampNeg)))), (.long (own_max ((gn (((8 : Int32) * x1) + (1 : Int32)).toNatClampNeg) + (gn ((((8 : Int32) * x1) + (4 : Int32)) + (0 : Int32)).toNatClampNeg)) (gn ((((8 : Int32) * x1) + (4 : Int32)) + (1 : Int32)).toNatClampNeg))), (.long ((gn (((8 : Int32) * x1) + (0 : Int32)).toNatClampNeg) + (gn ((((8 : Int32) * x1) + (4 : Int32)) + (0 : Int32)).toNatClampNeg))), (.int x1), (.ref a)])
  refine own_st (fun t k => XS.ladd X17.here hx rfl (hb hby d8_103) rfl k) ?_
  show own_Go _ _ _ _ T17 (mkF m 104 _ [(.long ((gn (((8 : Int32) * x1) + (1 : Int32)).toNatClampNeg) + (gn ((((8 : Int32) * x1) + (4 : Int32)) + (2 : Int32)).toNatClampNeg))), (.long (gn ((((8 : Int32) * x1) + (4 : Int32)) + (3 : Int32)).toNatClampNeg)), (.long (own_max ((gn (((8 : Int32) * x1) + (2 : Int32)).toNatClampNeg) + (gn ((((8 : Int32) * x1) + (4 : Int32)) + (0 : Int32)).toNatClampNeg)) ((gn (((8 : Int32) * x1) + (0 : Int32)).toNatClampNeg) + (gn ((((8 : Int32) * x1) + (4 : Int32)) + (2 : Int32)).toNatClampNeg)))), (.long (own_max ((gn (((8 : Int32) * x1) + (1 : Int32)).toNatClampNeg) + (gn ((((8 : Int32) * x1) + (4 : Int32)) + (0 : Int32)).toNatClampNeg)) (gn ((((8 : Int32) * x1) + (4 : Int32)) + (1 : Int32)).toNatClampNeg))), (.long ((gn (((8 : Int32) * x1) + (0 : Int32)).toNatClampNeg) + (gn ((((8 : Int32) * x1) + (4 : Int32)) + (0 : Int32)).toNatClampNeg))), (.int x1), (.ref a)])
  refine own_st (fun t k => XS.aloadN X17.here hx rfl (hb hby d8_104) rfl rfl k) ?_
  show own_Go _ _ _ _ T17 (mkF m 105 _ [(.ref a), (.long ((gn (((8 : Int32) * x1) + (1 : Int32)).toNatClampNeg) + (gn ((((8 : Int32) * x1) + (4 : Int32)) + (2 : Int32)).toNatClampNeg))), (.long (gn ((((8 : Int32) * x1) + (4 : Int32)) + (3 : Int32)).toNatClampNeg)), (.long (own_max ((gn (((8 : Int32) * x1) + (2 : Int32)).toNatClampNeg) + (gn ((((8 : Int32) * x1) + (4 : Int32)) + (0 : Int32)).toNatClampNeg)) ((gn (((8 : Int32) * x1) + (0 : Int32)).toNatClampNeg) + (gn ((((8 : Int32) * x1) + (4 : Int32)) + (2 : Int32)).toNatClampNeg)))), (.long (own_max ((gn (((8 : Int32) * x1) + (1 : Int32)).toNatClampNeg) + (gn ((((8 : Int32) * x1) + (4 : Int32)) + (0 : Int32)).toNatClampNeg)) (gn ((((8 : Int32) * x1) + (4 : Int32)) + (1 : Int32)).toNatClampNeg))), (.long ((gn (((8 : Int32) * x1) + (0 : Int32)).toNatClampNeg) + (gn ((((8 : Int32) * x1) + (4 : Int32)) + (0 : Int32)).toNatClampNeg))), (.int x1), (.ref a)])
  obtain ⟨T19, X19, e19, st19⟩ := getF X17 hx hZ hown (host := "") (Or.inl (own_w hw 28 rfl)) Via.refl e17 F1 (g := (mkF m 105 #[sR a, sI x1, sI ((8 : Int32) * x1), sI (((8 : Int32) * x1) + (4 : Int32)), sJ (gn (((8 : Int32) * x1) + (0 : Int32)).toNatClampNeg), .second, sJ (gn ((((8 : Int32) * x1) + (4 : Int32)) + (0 : Int32)).toNatClampNeg), .second, sJ (gn (((8 : Int32) * x1) + (1 : Int32)).toNatClampNeg), .second, sJ (gn ((((8 : Int32) * x1) + (4 : Int32)) + (2 : Int32)).toNatClampNeg), .second] [(.ref a), (.long ((gn (((8 : Int32) * x1) + (1 : Int32)).toNatClampNeg) + (gn ((((8 : Int32) * x1) + (4 : Int32)) + (2 : Int32)).toNatClampNeg))), (.long (gn ((((8 : Int32) * x1) + (4 : Int32)) + (3 : Int32)).toNatClampNeg)), (.long (own_max ((gn (((8 : Int32) * x1) + (2 : Int32)).toNatClampNeg) + (gn ((((8 : Int32) * x1) + (4 : Int32)) + (0 : Int32)).toNatClampNeg)) ((gn (((8 : Int32) * x1) + (0 : Int32)).toNatClampNeg) + (gn ((((8 : Int32) * x1) + (4 : Int32)) + (2 : Int32)).toNatClampNeg)))), (.long (own_max ((gn (((8 : Int32) * x1) + (1 : Int32)).toNatClampNeg) + (gn ((((8 : Int32) * x1) + (4 : Int32)) + (0 : Int32)).toNatClampNeg)) (gn ((((8 : Int32) * x1) + (4 : Int32)) + (1 : Int32)).toNatClampNeg))), (.long ((gn (((8 : Int32) * x1) + (0 : Int32)).toNatClampNeg) + (gn ((((8 : Int32) * x1) + (4 : Int32)) + (0 : Int32)).toNatClampNeg))), (.int x1), (.ref a)])) rfl rfl (hb hby d8_105)
  refine own_st st19 ?_
  show own_Go _ _ _ _ T19 (mkF m 108 _ [(.ref na), (.long ((gn (((8 : Int32) * x1) + (1 : Int32)).toNatClampNeg) + (gn ((((8 : Int32) * x1) + (4 : Int32)) + (2 : Int32)).toNatClampNeg))), (.long (gn ((((8 : Int32) * x1) + (4 : Int32)) + (3 : Int32)).toNatClampNeg)), (.long (own_max ((gn (((8 : Int32) * x1) + (2 : Int32)).toNatClampNeg) + (gn ((((8 : Int32) * x1) + (4 : Int32)) + (0 : Int32)).toNatClampNeg)) ((gn (((8 : Int32) * x1) + (0 : Int32)).toNatClampNeg) + (gn ((((8 : Int32) * x1) + (4 : Int32)) + (2 : Int32)).toNatClampNeg)))), (.long (own_max ((gn (((8 : Int32) * x1) + (1 : Int32)).toNatClampNeg) + (gn ((((8 : Int32) * x1) + (4 : Int32)) + (0 : Int32)).toNatClampNeg)) (gn ((((8 : Int32) * x1) + (4 : Int32)) + (1 : Int32)).toNatClampNeg))), (.long ((gn (((8 : Int32) * x1) + (0 : Int32)).toNatClampNeg) + (gn ((((8 : Int32) * x1) + (4 : Int32)) + (0 : Int32)).toNatClampNeg))), (.int x1), (.ref a)])
  refine own_st (fun t k => XS.iloadN X19.here hx rfl (hb hby d8_108) rfl k) ?_
  show own_Go _ _ _ _ T19 (mkF m 109 _ [(.int ((8 : Int32) * x1)), (.ref na), (.long ((gn (((8 : Int32) * x1) + (1 : Int32)).toNatClampNeg) + (gn ((((8 : Int32) * x1) + (4 : Int32)) + (2 : Int32)).toNatClampNeg))), (.long (gn ((((8 : Int32) * x1) + (4 : Int32)) + (3 : Int32)).toNatClampNeg)), (.long (own_max ((gn (((8 : Int32) * x1) + (2 : Int32)).toNatClampNeg) + (gn ((((8 : Int32) * x1) + (4 : Int32)) + (0 : Int32)).toNatClampNeg)) ((gn (((8 : Int32) * x1) + (0 : Int32)).toNatClampNeg) + (gn ((((8 : Int32) * x1) + (4 : Int32)) + (2 : Int32)).toNatClampNeg)))), (.long (own_max ((gn (((8 : Int32) * x1) + (1 : Int32)).toNatClampNeg) + (gn ((((8 : Int32) * x1) + (4 : Int32)) + (0 : Int32)).toNatClampNeg)) (gn ((((8 : Int32) * x1) + (4 : Int32)) + (1 : Int32)).toNatClampNeg))), (.long ((gn (((8 : Int32) * x1) + (0 : Int32)).toNatClampNeg) + (gn ((((8 : Int32) * x1) + (4 : Int32)) + (0 : Int32)).toNatClampNeg))), (.int x1), (.ref a)])
  refine own_st (fun t k => XS.iconst X19.here hx rfl (hb hby d8_109) k) ?_
  show own_Go _ _ _ _ T19 (mkF m 110 _ [(.int (3 : Int32)), (.int ((8 : Int32) * x1)), (.ref na), (.long ((gn (((8 : Int32) * x1) + (1 : Int32)).toNatClampNeg) + (gn ((((8 : Int32) * x1) + (4 : Int32)) + (2 : Int32)).toNatClampNeg))), (.long (gn ((((8 : Int32) * x1) + (4 : Int32)) + (3 : Int32)).toNatClampNeg)), (.long (own_max ((gn (((8 : Int32) * x1) + (2 : Int32)).toNatClampNeg) + (gn ((((8 : Int32) * x1) + (4 : Int32)) + (0 : Int32)).toNatClampNeg)) ((gn (((8 : Int32) * x1) + (0 : Int32)).toNatClampNeg) + (gn ((((8 : Int32) * x1) + (4 : Int32)) + (2 : Int32)).toNatClampNeg)))), (.long (own_max ((gn (((8 : Int32) * x1) + (1 : Int32)).toNatClampNeg) + (gn ((((8 : Int32) * x1) + (4 : Int32)) + (0 : Int32)).toNatClampNeg)) (gn ((((8 : Int32) * x1) + (4 : Int32)) + (1 : Int32)).toNatClampNeg))), (.long ((gn (((8 : Int32) * x1) + (0 : Int32)).toNatClampNeg) + (gn ((((8 : Int32) * x1) + (4 : Int32)) + (0 : Int32)).toNatClampNeg))), (.int x1), (.ref a)])
  refine own_st (fun t k => XS.iadd X19.here hx rfl (hb hby d8_110) rfl k) ?_
  show own_Go _ _ _ _ T19 (mkF m 111 _ [(.int (((8 : Int32) * x1) + (3 : Int32))), (.ref na), (.long ((gn (((8 : Int32) * x1) + (1 : Int32)).toNatClampNeg) + (gn ((((8 : Int32) * x1) + (4 : Int32)) + (2 : Int32)).toNatClampNeg))), (.long (gn ((((8 : Int32) * x1) + (4 : Int32)) + (3 : Int32)).toNatClampNeg)), (.long (own_max ((gn (((8 : Int32) * x1) + (2 : Int32)).toNatClampNeg) + (gn ((((8 : Int32) * x1) + (4 : Int32)) + (0 : Int32)).toNatClampNeg)) ((gn (((8 : Int32) * x1) + (0 : Int32)).toNatClampNeg) + (gn ((((8 : Int32) * x1) + (4 : Int32)) + (2 : Int32)).toNatClampNeg)))), (.long (own_max ((gn (((8 : Int32) * x1) + (1 : Int32)).toNatClampNeg) + (gn ((((8 : Int32) * x1) + (4 : Int32)) + (0 : Int32)).toNatClampNeg)) (gn ((((8 : Int32) * x1) + (4 : Int32)) + (1 : Int32)).toNatClampNeg))), (.long ((gn (((8 : Int32) * x1) + (0 : Int32)).toNatClampNeg) + (gn ((((8 : Int32) * x1) + (4 : Int32)) + (0 : Int32)).toNatClampNeg))), (.int x1), (.ref a)])
  obtain ⟨c20, Ar20, q20, S20, N20, H20⟩ := id F2
  refine own_st (fun t k => X19.laload hx (j := (((8 : Int32) * x1) + (3 : Int32))) (v := (.long (gn (((8 : Int32) * x1) + (3 : Int32)).toNatClampNeg))) (by rw [e19]; exact Ar20.1) (State.isArrayOf_alike hZ.alike Ar20.2.1) Ar20.2.2 (inb_of S20 (own_ixc hn 3 (by decide)).2) (H20 _ (own_lt (inb_of S20 (own_ixc hn 3 (by decide)).2))) (g := (mkF m 111 #[sR a, sI x1, sI ((8 : Int32) * x1), sI (((8 : Int32) * x1) + (4 : Int32)), sJ (gn (((8 : Int32) * x1) + (0 : Int32)).toNatClampNeg), .second, sJ (gn ((((8 : Int32) * x1) + (4 : Int32)) + (0 : Int32)).toNatClampNeg), .second, sJ (gn (((8 : Int32) * x1) + (1 : Int32)).toNatClampNeg), .second, sJ (gn ((((8 : Int32) * x1) + (4 : Int32)) + (2 : Int32)).toNatClampNeg), .second] [(.int (((8 : Int32) * x1) + (3 : Int32))), (.ref na), (.long ((gn (((8 : Int32) * x1) + (1 : Int32)).toNatClampNeg) + (gn ((((8 : Int32) * x1) + (4 : Int32)) + (2 : Int32)).toNatClampNeg))), (.long (gn ((((8 : Int32) * x1) + (4 : Int32)) + (3 : Int32)).toNatClampNeg)), (.long (own_max ((gn (((8 : Int32) * x1) + (2 : Int32)).toNatClampNeg) + (gn ((((8 : Int32) * x1) + (4 : Int32)) + (0 : Int32)).toNatClampNeg)) ((gn (((8 : Int32) * x1) + (0 : Int32)).toNatClampNeg) + (gn ((((8 : Int32) * x1) + (4 : Int32)) + (2 : Int32)).toNatClampNeg)))), (.long (own_max ((gn (((8 : Int32) * x1) + (1 : Int32)).toNatClampNeg) + (gn ((((8 : Int32) * x1) + (4 : Int32)) + (0 : Int32)).toNatClampNeg)) (gn ((((8 : Int32) * x1) + (4 : Int32)) + (1 : Int32)).toNatClampNeg))), (.long ((gn (((8 : Int32) * x1) + (0 : Int32)).toNatClampNeg) + (gn ((((8 : Int32) * x1) + (4 : Int32)) + (0 : Int32)).toNatClampNeg))), (.int x1), (.ref a)])) rfl rfl (hb hby d8_111) _ k) ?_
  show own_Go _ _ _ _ T19 (mkF m 112 _ [(.long (gn (((8 : Int32) * x1) + (3 : Int32)).toNatClampNeg)), (.long ((gn (((8 : Int32) * x1) + (1 : Int32)).toNatClampNeg) + (gn ((((8 : Int32) * x1) + (4 : Int32)) + (2 : Int32)).toNatClampNeg))), (.long (gn ((((8 : Int32) * x1) + (4 : Int32)) + (3 : Int32)).toNatClampNeg)), (.long (own_max ((gn (((8 : Int32) * x1) + (2 : Int32)).toNatClampNeg) + (gn ((((8 : Int32) * x1) + (4 : Int32)) + (0 : Int32)).toNatClampNeg)) ((gn (((8 : Int32) * x1) + (0 : Int32)).toNatClampNeg) + (gn ((((8 : Int32) * x1) + (4 : Int32)) + (2 : Int32)).toNatClampNeg)))), (.long (own_max ((gn (((8 : Int32) * x1) + (1 : Int32)).toNatClampNeg) + (gn ((((8 : Int32) * x1) + (4 : Int32)) + (0 : Int32)).toNatClampNeg)) (gn ((((8 : Int32) * x1) + (4 : Int32)) + (1 : Int32)).toNatClampNeg))), (.long ((gn (((8 : Int32) * x1) + (0 : Int32)).toNatClampNeg) + (gn ((((8 : Int32) * x1) + (4 : Int32)) + (0 : Int32)).toNatClampNeg))), (.int x1), (.ref a)])
  refine own_st (fun t k => XS.lload X19.here hx rfl (hb hby d8_112) rfl k) ?_
  show own_Go _ _ _ _ T19 (mkF m 114 _ [(.long (gn ((((8 : Int32) * x1) + (4 : Int32)) + (0 : Int32)).toNatClampNeg)), (.long (gn (((8 : Int32) * x1) + (3 : Int32)).toNatClampNeg)), (.long ((gn (((8 : Int32) * x1) + (1 : Int32)).toNatClampNeg) + (gn ((((8 : Int32) * x1) + (4 : Int32)) + (2 : Int32)).toNatClampNeg))), (.long (gn ((((8 : Int32) * x1) + (4 : Int32)) + (3 : Int32)).toNatClampNeg)), (.long (own_max ((gn (((8 : Int32) * x1) + (2 : Int32)).toNatClampNeg) + (gn ((((8 : Int32) * x1) + (4 : Int32)) + (0 : Int32)).toNatClampNeg)) ((gn (((8 : Int32) * x1) + (0 : Int32)).toNatClampNeg) + (gn ((((8 : Int32) * x1) + (4 : Int32)) + (2 : Int32)).toNatClampNeg)))), (.long (own_max ((gn (((8 : Int32) * x1) + (1 : Int32)).toNatClampNeg) + (gn ((((8 : Int32) * x1) + (4 : Int32)) + (0 : Int32)).toNatClampNeg)) (gn ((((8 : Int32) * x1) + (4 : Int32)) + (1 : Int32)).toNatClampNeg))), (.long ((gn (((8 : Int32) * x1) + (0 : Int32)).toNatClampNeg) + (gn ((((8 : Int32) * x1) + (4 : Int32)) + (0 : Int32)).toNatClampNeg))), (.int x1), (.ref a)])
  refine own_st (fun t k => XS.ladd X19.here hx rfl (hb hby d8_114) rfl k) ?_
  show own_Go _ _ _ _ T19 (mkF m 115 _ [(.long ((gn (((8 : Int32) * x1) + (3 : Int32)).toNatClampNeg) + (gn ((((8 : Int32) * x1) + (4 : Int32)) + (0 : Int32)).toNatClampNeg))), (.long ((gn (((8 : Int32) * x1) + (1 : Int32)).toNatClampNeg) + (gn ((((8 : Int32) * x1) + (4 : Int32)) + (2 : Int32)).toNatClampNeg))), (.long (gn ((((8 : Int32) * x1) + (4 : Int32)) + (3 : Int32)).toNatClampNeg)), (.long (own_max ((gn (((8 : Int32) * x1) + (2 : Int32)).toNatClampNeg) + (gn ((((8 : Int32) * x1) + (4 : Int32)) + (0 : Int32)).toNatClampNeg)) ((gn (((8 : Int32) * x1) + (0 : Int32)).toNatClampNeg) + (gn ((((8 : Int32) * x1) + (4 : Int32)) + (2 : Int32)).toNatClampNeg)))), (.long (own_max ((gn (((8 : Int32) * x1) + (1 : Int32)).toNatClampNeg) + (gn ((((8 : Int32) * x1) + (4 : Int32)) + (0 : Int32)).toNatClampNeg)) (gn ((((8 : Int32) * x1) + (4 : Int32)) + (1 : Int32)).toNatClampNeg))), (.long ((gn (((8 : Int32) * x1) + (0 : Int32)).toNatClampNeg) + (gn ((((8 : Int32) * x1) + (4 : Int32)) + (0 : Int32)).toNatClampNeg))), (.int x1), (.ref a)])
  obtain ⟨_, _, ⟨T21, L21, k21, n21⟩, -, X21, ⟨Lc21, hQ21, l21, y21, z21⟩, st21⟩ := Jvm.LawKit.callS X19 hx (y := ym5) hown (mvT hZ (own_w hw 82 rfl)) (mvT hZ (own_w hw 53 rfl)) (mvT hZ (own_w hw 17 rfl)) (mvT hZ (own_w hw 54 rfl)) (by decide) (backOf (W := 10) (rm17 l Z a0 hw [] ((gn (((8 : Int32) * x1) + (1 : Int32)).toNatClampNeg) + (gn ((((8 : Int32) * x1) + (4 : Int32)) + (2 : Int32)).toNatClampNeg)) ((gn (((8 : Int32) * x1) + (3 : Int32)).toNatClampNeg) + (gn ((((8 : Int32) * x1) + (4 : Int32)) + (0 : Int32)).toNatClampNeg)) h0 n0 Z0 ) hZ (own_w hw 54 rfl) (own_w hw 17 rfl) (by decide) (by decide)) (g := (mkF m 115 #[sR a, sI x1, sI ((8 : Int32) * x1), sI (((8 : Int32) * x1) + (4 : Int32)), sJ (gn (((8 : Int32) * x1) + (0 : Int32)).toNatClampNeg), .second, sJ (gn ((((8 : Int32) * x1) + (4 : Int32)) + (0 : Int32)).toNatClampNeg), .second, sJ (gn (((8 : Int32) * x1) + (1 : Int32)).toNatClampNeg), .second, sJ (gn ((((8 : Int32) * x1) + (4 : Int32)) + (2 : Int32)).toNatClampNeg), .second] [(.long ((gn (((8 : Int32) * x1) + (3 : Int32)).toNatClampNeg) + (gn ((((8 : Int32) * x1) + (4 : Int32)) + (0 : Int32)).toNatClampNeg))), (.long ((gn (((8 : Int32) * x1) + (1 : Int32)).toNatClampNeg) + (gn ((((8 : Int32) * x1) + (4 : Int32)) + (2 : Int32)).toNatClampNeg))), (.long (gn ((((8 : Int32) * x1) + (4 : Int32)) + (3 : Int32)).toNatClampNeg)), (.long (own_max ((gn (((8 : Int32) * x1) + (2 : Int32)).toNatClampNeg) + (gn ((((8 : Int32) * x1) + (4 : Int32)) + (0 : Int32)).toNatClampNeg)) ((gn (((8 : Int32) * x1) + (0 : Int32)).toNatClampNeg) + (gn ((((8 : Int32) * x1) + (4 : Int32)) + (2 : Int32)).toNatClampNeg)))), (.long (own_max ((gn (((8 : Int32) * x1) + (1 : Int32)).toNatClampNeg) + (gn ((((8 : Int32) * x1) + (4 : Int32)) + (0 : Int32)).toNatClampNeg)) (gn ((((8 : Int32) * x1) + (4 : Int32)) + (1 : Int32)).toNatClampNeg))), (.long ((gn (((8 : Int32) * x1) + (0 : Int32)).toNatClampNeg) + (gn ((((8 : Int32) * x1) + (4 : Int32)) + (0 : Int32)).toNatClampNeg))), (.int x1), (.ref a)])) rfl (by rw [hml]; rfl) (argsL := [(.long ((gn (((8 : Int32) * x1) + (1 : Int32)).toNatClampNeg) + (gn ((((8 : Int32) * x1) + (4 : Int32)) + (2 : Int32)).toNatClampNeg))), (.long ((gn (((8 : Int32) * x1) + (3 : Int32)).toNatClampNeg) + (gn ((((8 : Int32) * x1) + (4 : Int32)) + (0 : Int32)).toNatClampNeg)))]) (rest := [(.long (gn ((((8 : Int32) * x1) + (4 : Int32)) + (3 : Int32)).toNatClampNeg)), (.long (own_max ((gn (((8 : Int32) * x1) + (2 : Int32)).toNatClampNeg) + (gn ((((8 : Int32) * x1) + (4 : Int32)) + (0 : Int32)).toNatClampNeg)) ((gn (((8 : Int32) * x1) + (0 : Int32)).toNatClampNeg) + (gn ((((8 : Int32) * x1) + (4 : Int32)) + (2 : Int32)).toNatClampNeg)))), (.long (own_max ((gn (((8 : Int32) * x1) + (1 : Int32)).toNatClampNeg) + (gn ((((8 : Int32) * x1) + (4 : Int32)) + (0 : Int32)).toNatClampNeg)) (gn ((((8 : Int32) * x1) + (4 : Int32)) + (1 : Int32)).toNatClampNeg))), (.long ((gn (((8 : Int32) * x1) + (0 : Int32)).toNatClampNeg) + (gn ((((8 : Int32) * x1) + (4 : Int32)) + (0 : Int32)).toNatClampNeg))), (.int x1), (.ref a)]) (lenOf own_pd__JJ_J rfl) rfl (by show 2 * 0 + _ ≤ _; exact Nat.le_of_eq rfl) (hb hby d8_115) (fun _ _ => ⟨rfl, e19, (by decide : 0 + 0 ≤ _), (by decide : 0 + 0 ≤ _)⟩)
  dsimp only [Pt.U, Pt.locs, Pt.cells, Pt.slots] at X21 l21 y21 z21 st21 hQ21
  subst l21 y21 z21
  obtain ⟨rfl, NQ21, eq21⟩ := hQ21
  have N22 := Fr.app N16 NQ21
  refine own_st st21 ?_
  show own_Go _ _ _ _ T21 (mkF m 118 _ [(.long (own_max ((gn (((8 : Int32) * x1) + (1 : Int32)).toNatClampNeg) + (gn ((((8 : Int32) * x1) + (4 : Int32)) + (2 : Int32)).toNatClampNeg)) ((gn (((8 : Int32) * x1) + (3 : Int32)).toNatClampNeg) + (gn ((((8 : Int32) * x1) + (4 : Int32)) + (0 : Int32)).toNatClampNeg)))), (.long (gn ((((8 : Int32) * x1) + (4 : Int32)) + (3 : Int32)).toNatClampNeg)), (.long (own_max ((gn (((8 : Int32) * x1) + (2 : Int32)).toNatClampNeg) + (gn ((((8 : Int32) * x1) + (4 : Int32)) + (0 : Int32)).toNatClampNeg)) ((gn (((8 : Int32) * x1) + (0 : Int32)).toNatClampNeg) + (gn ((((8 : Int32) * x1) + (4 : Int32)) + (2 : Int32)).toNatClampNeg)))), (.long (own_max ((gn (((8 : Int32) * x1) + (1 : Int32)).toNatClampNeg) + (gn ((((8 : Int32) * x1) + (4 : Int32)) + (0 : Int32)).toNatClampNeg)) (gn ((((8 : Int32) * x1) + (4 : Int32)) + (1 : Int32)).toNatClampNeg))), (.long ((gn (((8 : Int32) * x1) + (0 : Int32)).toNatClampNeg) + (gn ((((8 : Int32) * x1) + (4 : Int32)) + (0 : Int32)).toNatClampNeg))), (.int x1), (.ref a)])
  obtain ⟨_, _, ⟨T23, L23, k23, n23⟩, -, X23, ⟨Lc23, hQ23, l23, y23, z23⟩, st23⟩ := Jvm.LawKit.callS X21 hx (y := ym5) hown (mvT hZ (own_w hw 82 rfl)) (mvT hZ (own_w hw 53 rfl)) (mvT hZ (own_w hw 17 rfl)) (mvT hZ (own_w hw 54 rfl)) (by decide) (backOf (W := 8) (rm17 l Z a0 hw [] (gn ((((8 : Int32) * x1) + (4 : Int32)) + (3 : Int32)).toNatClampNeg) (own_max ((gn (((8 : Int32) * x1) + (1 : Int32)).toNatClampNeg) + (gn ((((8 : Int32) * x1) + (4 : Int32)) + (2 : Int32)).toNatClampNeg)) ((gn (((8 : Int32) * x1) + (3 : Int32)).toNatClampNeg) + (gn ((((8 : Int32) * x1) + (4 : Int32)) + (0 : Int32)).toNatClampNeg))) h0 n0 Z0 ) hZ (own_w hw 54 rfl) (own_w hw 17 rfl) (by decide) (by decide)) (g := (mkF m 118 #[sR a, sI x1, sI ((8 : Int32) * x1), sI (((8 : Int32) * x1) + (4 : Int32)), sJ (gn (((8 : Int32) * x1) + (0 : Int32)).toNatClampNeg), .second, sJ (gn ((((8 : Int32) * x1) + (4 : Int32)) + (0 : Int32)).toNatClampNeg), .second, sJ (gn (((8 : Int32) * x1) + (1 : Int32)).toNatClampNeg), .second, sJ (gn ((((8 : Int32) * x1) + (4 : Int32)) + (2 : Int32)).toNatClampNeg), .second] [(.long (own_max ((gn (((8 : Int32) * x1) + (1 : Int32)).toNatClampNeg) + (gn ((((8 : Int32) * x1) + (4 : Int32)) + (2 : Int32)).toNatClampNeg)) ((gn (((8 : Int32) * x1) + (3 : Int32)).toNatClampNeg) + (gn ((((8 : Int32) * x1) + (4 : Int32)) + (0 : Int32)).toNatClampNeg)))), (.long (gn ((((8 : Int32) * x1) + (4 : Int32)) + (3 : Int32)).toNatClampNeg)), (.long (own_max ((gn (((8 : Int32) * x1) + (2 : Int32)).toNatClampNeg) + (gn ((((8 : Int32) * x1) + (4 : Int32)) + (0 : Int32)).toNatClampNeg)) ((gn (((8 : Int32) * x1) + (0 : Int32)).toNatClampNeg) + (gn ((((8 : Int32) * x1) + (4 : Int32)) + (2 : Int32)).toNatClampNeg)))), (.long (own_max ((gn (((8 : Int32) * x1) + (1 : Int32)).toNatClampNeg) + (gn ((((8 : Int32) * x1) + (4 : Int32)) + (0 : Int32)).toNatClampNeg)) (gn ((((8 : Int32) * x1) + (4 : Int32)) + (1 : Int32)).toNatClampNeg))), (.long ((gn (((8 : Int32) * x1) + (0 : Int32)).toNatClampNeg) + (gn ((((8 : Int32) * x1) + (4 : Int32)) + (0 : Int32)).toNatClampNeg))), (.int x1), (.ref a)])) rfl (by rw [hml]; rfl) (argsL := [(.long (gn ((((8 : Int32) * x1) + (4 : Int32)) + (3 : Int32)).toNatClampNeg)), (.long (own_max ((gn (((8 : Int32) * x1) + (1 : Int32)).toNatClampNeg) + (gn ((((8 : Int32) * x1) + (4 : Int32)) + (2 : Int32)).toNatClampNeg)) ((gn (((8 : Int32) * x1) + (3 : Int32)).toNatClampNeg) + (gn ((((8 : Int32) * x1) + (4 : Int32)) + (0 : Int32)).toNatClampNeg))))]) (rest := [(.long (own_max ((gn (((8 : Int32) * x1) + (2 : Int32)).toNatClampNeg) + (gn ((((8 : Int32) * x1) + (4 : Int32)) + (0 : Int32)).toNatClampNeg)) ((gn (((8 : Int32) * x1) + (0 : Int32)).toNatClampNeg) + (gn ((((8 : Int32) * x1) + (4 : Int32)) + (2 : Int32)).toNatClampNeg)))), (.long (own_max ((gn (((8 : Int32) * x1) + (1 : Int32)).toNatClampNeg) + (gn ((((8 : Int32) * x1) + (4 : Int32)) + (0 : Int32)).toNatClampNeg)) (gn ((((8 : Int32) * x1) + (4 : Int32)) + (1 : Int32)).toNatClampNeg))), (.long ((gn (((8 : Int32) * x1) + (0 : Int32)).toNatClampNeg) + (gn ((((8 : Int32) * x1) + (4 : Int32)) + (0 : Int32)).toNatClampNeg))), (.int x1), (.ref a)]) (lenOf own_pd__JJ_J rfl) rfl (by show 2 * 0 + _ ≤ _; exact Nat.le_of_eq rfl) (hb hby d8_118) (fun _ _ => ⟨rfl, eq21, (by decide : 0 + 0 ≤ _), (by decide : 0 + 0 ≤ _)⟩)
  dsimp only [Pt.U, Pt.locs, Pt.cells, Pt.slots] at X23 l23 y23 z23 st23 hQ23
  subst l23 y23 z23
  obtain ⟨rfl, NQ23, eq23⟩ := hQ23
  have N24 := Fr.app N22 NQ23
  refine own_st st23 ?_
  show own_Go _ _ _ _ T23 (mkF m 121 _ [(.long (own_max (gn ((((8 : Int32) * x1) + (4 : Int32)) + (3 : Int32)).toNatClampNeg) (own_max ((gn (((8 : Int32) * x1) + (1 : Int32)).toNatClampNeg) + (gn ((((8 : Int32) * x1) + (4 : Int32)) + (2 : Int32)).toNatClampNeg)) ((gn (((8 : Int32) * x1) + (3 : Int32)).toNatClampNeg) + (gn ((((8 : Int32) * x1) + (4 : Int32)) + (0 : Int32)).toNatClampNeg))))), (.long (own_max ((gn (((8 : Int32) * x1) + (2 : Int32)).toNatClampNeg) + (gn ((((8 : Int32) * x1) + (4 : Int32)) + (0 : Int32)).toNatClampNeg)) ((gn (((8 : Int32) * x1) + (0 : Int32)).toNatClampNeg) + (gn ((((8 : Int32) * x1) + (4 : Int32)) + (2 : Int32)).toNatClampNeg)))), (.long (own_max ((gn (((8 : Int32) * x1) + (1 : Int32)).toNatClampNeg) + (gn ((((8 : Int32) * x1) + (4 : Int32)) + (0 : Int32)).toNatClampNeg)) (gn ((((8 : Int32) * x1) + (4 : Int32)) + (1 : Int32)).toNatClampNeg))), (.long ((gn (((8 : Int32) * x1) + (0 : Int32)).toNatClampNeg) + (gn ((((8 : Int32) * x1) + (4 : Int32)) + (0 : Int32)).toNatClampNeg))), (.int x1), (.ref a)])
  obtain ⟨cq25, q25, q25'⟩ := F0.cell
  obtain ⟨_, _, ⟨T25, L25, k25, n25⟩, -, X25, ⟨Lc25, hQ25, l25, y25, z25⟩, st25⟩ := X23.privateBack hx (y := ym7) hown (mvT hZ (own_w hw 37 rfl)) (mvT hZ (own_w hw 38 rfl)) (own_selp (y := ym7) (mvT hZ (own_w hw 4 rfl)) (Cond.privateMethod_at (mvP hZ (own_w hw 39 rfl) (args := #[]))) (mvT hZ (own_w hw 38 rfl)) (by decide)) (Cond.privateMethod_at (mvP hZ (own_w hw 39 rfl) (args := #[]))) (mvT hZ (own_w hw 40 rfl)) (by decide) (backOf (W := 0) (rm19 l Z a0 hw [] a na kn gn x1 ((gn (((8 : Int32) * x1) + (0 : Int32)).toNatClampNeg) + (gn ((((8 : Int32) * x1) + (4 : Int32)) + (0 : Int32)).toNatClampNeg)) (own_max ((gn (((8 : Int32) * x1) + (1 : Int32)).toNatClampNeg) + (gn ((((8 : Int32) * x1) + (4 : Int32)) + (0 : Int32)).toNatClampNeg)) (gn ((((8 : Int32) * x1) + (4 : Int32)) + (1 : Int32)).toNatClampNeg)) (own_max ((gn (((8 : Int32) * x1) + (2 : Int32)).toNatClampNeg) + (gn ((((8 : Int32) * x1) + (4 : Int32)) + (0 : Int32)).toNatClampNeg)) ((gn (((8 : Int32) * x1) + (0 : Int32)).toNatClampNeg) + (gn ((((8 : Int32) * x1) + (4 : Int32)) + (2 : Int32)).toNatClampNeg))) (own_max (gn ((((8 : Int32) * x1) + (4 : Int32)) + (3 : Int32)).toNatClampNeg) (own_max ((gn (((8 : Int32) * x1) + (1 : Int32)).toNatClampNeg) + (gn ((((8 : Int32) * x1) + (4 : Int32)) + (2 : Int32)).toNatClampNeg)) ((gn (((8 : Int32) * x1) + (3 : Int32)).toNatClampNeg) + (gn ((((8 : Int32) * x1) + (4 : Int32)) + (0 : Int32)).toNatClampNeg)))) h0 n0 Z0 F0 F1 F2 n1 (own_h48 hn) g_na) hZ (own_w hw 40 rfl) (own_w hw 5 rfl) (by decide) (by decide)) (g := (mkF m 121 #[sR a, sI x1, sI ((8 : Int32) * x1), sI (((8 : Int32) * x1) + (4 : Int32)), sJ (gn (((8 : Int32) * x1) + (0 : Int32)).toNatClampNeg), .second, sJ (gn ((((8 : Int32) * x1) + (4 : Int32)) + (0 : Int32)).toNatClampNeg), .second, sJ (gn (((8 : Int32) * x1) + (1 : Int32)).toNatClampNeg), .second, sJ (gn ((((8 : Int32) * x1) + (4 : Int32)) + (2 : Int32)).toNatClampNeg), .second] [(.long (own_max (gn ((((8 : Int32) * x1) + (4 : Int32)) + (3 : Int32)).toNatClampNeg) (own_max ((gn (((8 : Int32) * x1) + (1 : Int32)).toNatClampNeg) + (gn ((((8 : Int32) * x1) + (4 : Int32)) + (2 : Int32)).toNatClampNeg)) ((gn (((8 : Int32) * x1) + (3 : Int32)).toNatClampNeg) + (gn ((((8 : Int32) * x1) + (4 : Int32)) + (0 : Int32)).toNatClampNeg))))), (.long (own_max ((gn (((8 : Int32) * x1) + (2 : Int32)).toNatClampNeg) + (gn ((((8 : Int32) * x1) + (4 : Int32)) + (0 : Int32)).toNatClampNeg)) ((gn (((8 : Int32) * x1) + (0 : Int32)).toNatClampNeg) + (gn ((((8 : Int32) * x1) + (4 : Int32)) + (2 : Int32)).toNatClampNeg)))), (.long (own_max ((gn (((8 : Int32) * x1) + (1 : Int32)).toNatClampNeg) + (gn ((((8 : Int32) * x1) + (4 : Int32)) + (0 : Int32)).toNatClampNeg)) (gn ((((8 : Int32) * x1) + (4 : Int32)) + (1 : Int32)).toNatClampNeg))), (.long ((gn (((8 : Int32) * x1) + (0 : Int32)).toNatClampNeg) + (gn ((((8 : Int32) * x1) + (4 : Int32)) + (0 : Int32)).toNatClampNeg))), (.int x1), (.ref a)])) rfl (by rw [hml]; rfl) (Steps.refl _) (a := a) (by rw [eq23]; exact q25) q25' (argsL := [(.int x1), (.long ((gn (((8 : Int32) * x1) + (0 : Int32)).toNatClampNeg) + (gn ((((8 : Int32) * x1) + (4 : Int32)) + (0 : Int32)).toNatClampNeg))), (.long (own_max ((gn (((8 : Int32) * x1) + (1 : Int32)).toNatClampNeg) + (gn ((((8 : Int32) * x1) + (4 : Int32)) + (0 : Int32)).toNatClampNeg)) (gn ((((8 : Int32) * x1) + (4 : Int32)) + (1 : Int32)).toNatClampNeg))), (.long (own_max ((gn (((8 : Int32) * x1) + (2 : Int32)).toNatClampNeg) + (gn ((((8 : Int32) * x1) + (4 : Int32)) + (0 : Int32)).toNatClampNeg)) ((gn (((8 : Int32) * x1) + (0 : Int32)).toNatClampNeg) + (gn ((((8 : Int32) * x1) + (4 : Int32)) + (2 : Int32)).toNatClampNeg)))), (.long (own_max (gn ((((8 : Int32) * x1) + (4 : Int32)) + (3 : Int32)).toNatClampNeg) (own_max ((gn (((8 : Int32) * x1) + (1 : Int32)).toNatClampNeg) + (gn ((((8 : Int32) * x1) + (4 : Int32)) + (2 : Int32)).toNatClampNeg)) ((gn (((8 : Int32) * x1) + (3 : Int32)).toNatClampNeg) + (gn ((((8 : Int32) * x1) + (4 : Int32)) + (0 : Int32)).toNatClampNeg)))))]) (rest := []) (lenOf own_pd__IJJJJ_V rfl) rfl (by show 2 * 0 + _ ≤ _; exact Nat.le_of_eq rfl) (hb hby d8_121) (fun _ _ => ⟨rfl, eq23, (by decide : 0 + 0 ≤ _), (by decide : 0 + 0 ≤ _)⟩)
  dsimp only [Pt.U, Pt.locs, Pt.cells, Pt.slots] at X25 l25 y25 z25 st25 hQ25
  subst l25 y25 z25
  obtain ⟨rfl, NQ25, K25, fq25_0⟩ := hQ25
  have N26 := Fr.app N24 NQ25
  refine own_st (fun t k => st25.trans k) ?_
  have f27 := F0.keep K25
  have f28 := F1.keep K25 (ninS (Ne.symm n1) nin0)
  have Z29 : n0 ≤ T25.heap.size := Nat.le_trans Z0 K25.1
  have K30 : Keep h0 T25.heap [na] := K0.trans K25 (allS (Or.inl (List.mem_of_getElem? (i := 0) rfl)) all0)
  show own_Go _ _ _ _ T25 (mkF m 124 _ [])
  subst hPq
  refine own_out X25 (v := none) (fun _ => rfl) Bd.notSynchronized (fun fs hr => X25.returnOut hx Bd.returns (hb hby d8_124) hr) (by decide) (by decide) ?_
  show Q20 Z a na kn gn x1 h0 n0 _ T25.heap _
  have eg : (own_set gn x1.toNatClampNeg ((gn (((8 : Int32) * x1) + (0 : Int32)).toNatClampNeg) + (gn ((((8 : Int32) * x1) + (4 : Int32)) + (0 : Int32)).toNatClampNeg)) (own_max ((gn (((8 : Int32) * x1) + (1 : Int32)).toNatClampNeg) + (gn ((((8 : Int32) * x1) + (4 : Int32)) + (0 : Int32)).toNatClampNeg)) (gn ((((8 : Int32) * x1) + (4 : Int32)) + (1 : Int32)).toNatClampNeg)) (own_max ((gn (((8 : Int32) * x1) + (2 : Int32)).toNatClampNeg) + (gn ((((8 : Int32) * x1) + (4 : Int32)) + (0 : Int32)).toNatClampNeg)) ((gn (((8 : Int32) * x1) + (0 : Int32)).toNatClampNeg) + (gn ((((8 : Int32) * x1) + (4 : Int32)) + (2 : Int32)).toNatClampNeg))) (own_max (gn ((((8 : Int32) * x1) + (4 : Int32)) + (3 : Int32)).toNatClampNeg) (own_max ((gn (((8 : Int32) * x1) + (1 : Int32)).toNatClampNeg) + (gn ((((8 : Int32) * x1) + (4 : Int32)) + (2 : Int32)).toNatClampNeg)) ((gn (((8 : Int32) * x1) + (3 : Int32)).toNatClampNeg) + (gn ((((8 : Int32) * x1) + (4 : Int32)) + (0 : Int32)).toNatClampNeg))))) = (own_comb gn x1.toNatClampNeg) := by
      unfold own_comb
      simp only [(own_ixc hn 0 (by decide)).1, (own_ixc hn 1 (by decide)).1, (own_ixc hn 2 (by decide)).1, (own_ixc hn 3 (by decide)).1, (own_ixr hn 0 (by decide)).1, (own_ixr hn 1 (by decide)).1, (own_ixr hn 2 (by decide)).1, (own_ixr hn 3 (by decide)).1, own_lit0, own_lit1, own_lit2, own_lit3, own_lit4, own_lit5, own_lit6, own_lit7, Nat.add_zero, Nat.reduceAdd]
  have fz31 := fq25_0
  rw [eg] at fz31
  exact ⟨rfl, N26, K30, fz31⟩
theorem d9_0 : decode qc9 0 = .ok (.iload_n 1, 1) := by decide +kernel
theorem d9_1 : decode qc9 1 = .ok (.iconst 1, 1) := by decide +kernel
theorem d9_2 : decode qc9 2 = .ok (.ishr, 1) := by decide +kernel
theorem d9_3 : decode qc9 3 = .ok (.istore_n 2, 1) := by decide +kernel
theorem d9_4 : decode qc9 4 = .ok (.iload_n 2, 1) := by decide +kernel
theorem d9_5 : decode qc9 5 = .ok (.iconst 1, 1) := by decide +kernel
theorem d9_6 : decode qc9 6 = .ok (.if_icmp .lt 15, 3) := by decide +kernel
theorem d9_9 : decode qc9 9 = .ok (.aload_n 0, 1) := by decide +kernel
theorem d9_10 : decode qc9 10 = .ok (.iload_n 2, 1) := by decide +kernel
theorem d9_11 : decode qc9 11 = .ok (.invokevirtual 40, 3) := by decide +kernel
theorem d9_14 : decode qc9 14 = .ok (.iload_n 2, 1) := by decide +kernel
theorem d9_15 : decode qc9 15 = .ok (.iconst 1, 1) := by decide +kernel
theorem d9_16 : decode qc9 16 = .ok (.ishr, 1) := by decide +kernel
theorem d9_17 : decode qc9 17 = .ok (.istore_n 2, 1) := by decide +kernel
theorem d9_18 : decode qc9 18 = .ok (.goto (-14), 3) := by decide +kernel
theorem d9_21 : decode qc9 21 = .ok (.return_, 1) := by decide +kernel
theorem own_pn21 : plainName "com/example/tidemark/tidemark/core/ThetaLambdaTree" = true := by first | (simp [plainName, overriddenIn]; done) | decide +kernel
theorem own_ef21 (m : MethodId) (a : Addr) (x1 : Int32) : entryFrame m #[(.ref a), (.int x1)] 3 = mkF m 0 #[sR a, sI x1, .unset] [] := by first | (simp [entryFrame, mkF, argsToLocals, Value.category]; done) | rfl
def Q21 (Z : State) (a : Addr) (na : Addr) (kn : ClassId) (gn : Nat → Int64) (x1 : Int32) (h0 : Heap) (n0 : Nat) (v : Option Value) (h : Heap) (L : List Loc) : Prop := v = none ∧ Fr n0 L ∧ Keep h0 h [na] ∧ own_AJ Z h na kn (32 : Int32) (own_up gn x1)
set_option maxRecDepth 65536 in
set_option maxHeartbeats 4000000 in
theorem rm21 (l : Launch) (Z : State) (a0 : Array Value) (hw : ∀ d ∈ tables_1, d.before a0 Z = true) (ws : List Jvm.Cond) (a : Addr) (na : Addr) (kn : ClassId) (gn : Nat → Int64) (x1 : Int32) (h0 : Heap) (n0 : Nat) (Z0 : n0 ≤ h0.size) (F0 : Exa Z h0 a "com/example/tidemark/tidemark/core/ThetaLambdaTree") (F1 : Fld Z h0 a "com/example/tidemark/tidemark/core/ThetaLambdaTree" "nodes" "[J" (.ref na)) (F2 : own_AJ Z h0 na kn (32 : Int32) gn) (n1 : na ≠ a) (hn : ¬ x1 < (1 : Int32) ∧ x1 < (8 : Int32)) (g_na : n0 ≤ na) :
    MetFree l ym9 (head1 (Jvm.Cond.code ym9 prog_46_method_10_code 3 none :: ws) (⟨2, 0, 0, 48⟩ : Room)) (fun aW U => aW = #[(.ref a), (.int x1)] ∧ Z.Warmed39 U.vm ∧ U.heap = h0) (fun _ _ _ _ _ => True) (fun _ U o U' => ∃ v L, o = .returned v ∧ Q21 Z a na kn gn x1 h0 n0 v U'.heap L ∧ FrameEnd U o U' L (⟨2, 0, 0, 48⟩ : Room).cells (⟨2, 0, 0, 48⟩ : Room).slots) := by
  refine MetFree.of_bodySF (plainFor_of_name own_pn21) hisR ?_
  intro p e s m args below meth c s₁ Bd hml0 hP hK
  obtain ⟨rfl, hZ, hh⟩ := hP
  have hx := Bd.exec
  have hby := Bd.bytes
  have hml : c.maxLocals = 3 := hml0
  have hown : s.vm.findClass "com/example/tidemark/tidemark/core/ThetaLambdaTree" = some m.cls := findClass_of_methodNamed Bd.named
  have hnm := (name_of_methodNamed Bd.named Bd.method).1
  have X0 : Stand p l e (⟨2, 0, 0, 48⟩ : Room) s m #[(.ref a), (.int x1)] below meth c s₁ [] 0 0 := Stand.of_body Bd
  have e0 : s₁.heap = h0 := by rw [← hh, Bd.state]; rfl
  have N0 := Fr.nil n0
  have K0 : Keep h0 h0 [na] := Keep.refl _ _
  obtain ⟨Pq, hPq⟩ : ∃ P, P = own_P s below (fun v h L => Q21 Z a na kn gn x1 h0 n0 v h L) (⟨2, 0, 0, 48⟩ : Room).cells (⟨2, 0, 0, 48⟩ : Room).slots := ⟨_, rfl⟩
  suffices hgo : own_Go p.tables e below Pq s₁ (mkF m 0 #[sR a, sI x1, .unset] []) by
    subst hPq
    obtain ⟨t, k1, k2, o, k3, k4⟩ := hgo
    exact ⟨t, o, castTop (own_ef21 m a x1) k1, k2, k3, k4⟩
  show own_Go _ _ _ _ s₁ (mkF m 0 #[sR a, sI x1, .unset] [])
  rcases own_n7 hn with rfl | rfl | rfl | rfl | rfl | rfl | rfl
  · skip
    show own_Go _ _ _ _ s₁ (mkF m 0 #[sR a, sI (1 : Int32), .unset] [])
    refine own_st (fun t k => XS.iloadN X0.here hx rfl (hb hby d9_0) rfl k) ?_
    show own_Go _ _ _ _ s₁ (mkF m 1 _ [(.int (1 : Int32))])
    refine own_st (fun t k => XS.iconst X0.here hx rfl (hb hby d9_1) k) ?_
    show own_Go _ _ _ _ s₁ (mkF m 2 _ [(.int (1 : Int32)), (.int (1 : Int32))])
    refine own_st (fun t k => XS.ishr X0.here hx rfl (hb hby d9_2) rfl k) ?_
    show own_Go _ _ _ _ s₁ (mkF m 3 _ [(.int (0 : Int32))])
    refine own_st (fun t k => XS.istoreN X0.here hx rfl (hb hby d9_3) rfl (l' := #[sR a, sI (1 : Int32), sI (0 : Int32)]) rfl k) ?_
    show own_Go _ _ _ _ s₁ (mkF m 4 #[sR a, sI (1 : Int32), sI (0 : Int32)] [])
    refine own_st (fun t k => XS.iloadN X0.here hx rfl (hb hby d9_4) rfl k) ?_
    show own_Go _ _ _ _ s₁ (mkF m 5 _ [(.int (0 : Int32))])
    refine own_st (fun t k => XS.iconst X0.here hx rfl (hb hby d9_5) k) ?_
    show own_Go _ _ _ _ s₁ (mkF m 6 _ [(.int (1 : Int32)), (.int (0 : Int32))])
    refine own_st (fun t k => XS.icmpYes X0.here hx rfl (pc0 := 6) (pc' := 21) rfl (hb hby d9_6) rfl (tlt (by decide : ((0 : Int32) < (1 : Int32)))).1 (by decide) (by decide) k) ?_
    show own_Go _ _ _ _ s₁ (mkF m 21 _ [])
    subst hPq
    refine own_out X0 (v := none) (fun _ => rfl) Bd.notSynchronized (fun fs hr => X0.returnOut hx Bd.returns (hb hby d9_21) hr) (by decide) (by decide) ?_
    show Q21 Z a na kn gn (1 : Int32) h0 n0 _ s₁.heap _
    rw [e0]
    have eg : gn = (own_up gn (1 : Int32)) := by
        first | rfl | (simp only [own_lit0, own_lit1, own_lit2, own_lit3, own_lit4, own_lit5, own_lit6, own_lit7]; rfl)
    have fz1 := F2
    rw [eg] at fz1
    exact ⟨rfl, N0, K0, fz1⟩
  · skip
    show own_Go _ _ _ _ s₁ (mkF m 0 #[sR a, sI (2 : Int32), .unset] [])
    refine own_st (fun t k => XS.iloadN X0.here hx rfl (hb hby d9_0) rfl k) ?_
    show own_Go _ _ _ _ s₁ (mkF m 1 _ [(.int (2 : Int32))])
    refine own_st (fun t k => XS.iconst X0.here hx rfl (hb hby d9_1) k) ?_
    show own_Go _ _ _ _ s₁ (mkF m 2 _ [(.int (1 : Int32)), (.int (2 : Int32))])
    refine own_st (fun t k => XS.ishr X0.here hx rfl (hb hby d9_2) rfl k) ?_
    show own_Go _ _ _ _ s₁ (mkF m 3 _ [(.int (1 : Int32))])
    refine own_st (fun t k => XS.istoreN X0.here hx rfl (hb hby d9_3) rfl (l' := #[sR a, sI (2 : Int32), sI (1 : Int32)]) rfl k) ?_
    show own_Go _ _ _ _ s₁ (mkF m 4 #[sR a, sI (2 : Int32), sI (1 : Int32)] [])
    refine own_st (fun t k => XS.iloadN X0.here hx rfl (hb hby d9_4) rfl k) ?_
    show own_Go _ _ _ _ s₁ (mkF m 5 _ [(.int (1 : Int32))])
    refine own_st (fun t k => XS.iconst X0.here hx rfl (hb hby d9_5) k) ?_
    show own_Go _ _ _ _ s₁ (mkF m 6 _ [(.int (1 : Int32)), (.int (1 : Int32))])
    refine own_st (fun t k => XS.icmpNo X0.here hx rfl (hb hby d9_6) rfl (flt (by decide : ¬ ((1 : Int32) < (1 : Int32)))).1 k) ?_
    show own_Go _ _ _ _ s₁ (mkF m 9 _ [])
    refine own_st (fun t k => XS.aloadN X0.here hx rfl (hb hby d9_9) rfl rfl k) ?_
    show own_Go _ _ _ _ s₁ (mkF m 10 _ [(.ref a)])
    refine own_st (fun t k => XS.iloadN X0.here hx rfl (hb hby d9_10) rfl k) ?_
    show own_Go _ _ _ _ s₁ (mkF m 11 _ [(.int (1 : Int32)), (.ref a)])
    obtain ⟨cq2, q2, q2'⟩ := F0.cell
    obtain ⟨_, _, ⟨T2, L2, k2, n2⟩, -, X2, ⟨Lc2, hQ2, l2, y2, z2⟩, st2⟩ := X0.privateBack hx (y := ym8) hown (mvT hZ (own_w hw 78 rfl)) (mvT hZ (own_w hw 79 rfl)) (own_selp (y := ym8) (mvT hZ (own_w hw 4 rfl)) (Cond.privateMethod_at (mvP hZ (own_w hw 80 rfl) (args := #[]))) (mvT hZ (own_w hw 79 rfl)) (by decide)) (Cond.privateMethod_at (mvP hZ (own_w hw 80 rfl) (args := #[]))) (mvT hZ (own_w hw 81 rfl)) (by decide) (backOf (W := 0) (rm20 l Z a0 hw [] a na kn gn (1 : Int32) h0 n0 Z0 F0 F1 F2 n1 (by decide) g_na) hZ (own_w hw 81 rfl) (own_w hw 5 rfl) (by decide) (by decide)) (g := (mkF m 11 #[sR a, sI (2 : Int32), sI (1 : Int32)] [(.int (1 : Int32)), (.ref a)])) rfl (by rw [hml]; rfl) (Steps.refl _) (a := a) (by rw [e0]; exact q2) q2' (argsL := [(.int (1 : Int32))]) (rest := []) (lenOf own_pd__I_V rfl) rfl (by show 2 * 0 + _ ≤ _; exact Nat.le_of_eq rfl) (hb hby d9_11) (fun _ _ => ⟨rfl, e0, (by decide : 0 + 0 ≤ _), (by decide : 0 + 0 ≤ _)⟩)
    dsimp only [Pt.U, Pt.locs, Pt.cells, Pt.slots] at X2 l2 y2 z2 st2 hQ2
    subst l2 y2 z2
    obtain ⟨rfl, NQ2, K2, fq2_0⟩ := hQ2
    have N3 := Fr.app N0 NQ2
    refine own_st (fun t k => st2.trans k) ?_
    have f4 := F0.keep K2
    have f5 := F1.keep K2 (ninS (Ne.symm n1) nin0)
    have Z6 : n0 ≤ T2.heap.size := Nat.le_trans Z0 K2.1
    have K7 : Keep h0 T2.heap [na] := K0.trans K2 (allS (Or.inl (List.mem_of_getElem? (i := 0) rfl)) all0)
    show own_Go _ _ _ _ T2 (mkF m 14 _ [])
    refine own_st (fun t k => XS.iloadN X2.here hx rfl (hb hby d9_14) rfl k) ?_
    show own_Go _ _ _ _ T2 (mkF m 15 _ [(.int (1 : Int32))])
    refine own_st (fun t k => XS.iconst X2.here hx rfl (hb hby d9_15) k) ?_
    show own_Go _ _ _ _ T2 (mkF m 16 _ [(.int (1 : Int32)), (.int (1 : Int32))])
    refine own_st (fun t k => XS.ishr X2.here hx rfl (hb hby d9_16) rfl k) ?_
    show own_Go _ _ _ _ T2 (mkF m 17 _ [(.int (0 : Int32))])
    refine own_st (fun t k => XS.istoreN X2.here hx rfl (hb hby d9_17) rfl (l' := #[sR a, sI (2 : Int32), sI (0 : Int32)]) rfl k) ?_
    show own_Go _ _ _ _ T2 (mkF m 18 #[sR a, sI (2 : Int32), sI (0 : Int32)] [])
    refine own_st (fun t k => XS.goto X2.here hx rfl (pc0 := 18) (pc' := 4) rfl (hb hby d9_18) (by decide) (by decide) k) ?_
    show own_Go _ _ _ _ T2 (mkF m 4 _ [])
    refine own_st (fun t k => XS.iloadN X2.here hx rfl (hb hby d9_4) rfl k) ?_
    show own_Go _ _ _ _ T2 (mkF m 5 _ [(.int (0 : Int32))])
    refine own_st (fun t k => XS.iconst X2.here hx rfl (hb hby d9_5) k) ?_
    show own_Go _ _ _ _ T2 (mkF m 6 _ [(.int (1 : Int32)), (.int (0 : Int32))])
    refine own_st (fun t k => XS.icmpYes X2.here hx rfl (pc0 := 6) (pc' := 21) rfl (hb hby d9_6) rfl (tlt (by decide : ((0 : Int32) < (1 : Int32)))).1 (by decide) (by decide) k) ?_
    show own_Go _ _ _ _ T2 (mkF m 21 _ [])
    subst hPq
    refine own_out X2 (v := none) (fun _ => rfl) Bd.notSynchronized (fun fs hr => X2.returnOut hx Bd.returns (hb hby d9_21) hr) (by decide) (by decide) ?_
    show Q21 Z a na kn gn (2 : Int32) h0 n0 _ T2.heap _
    have eg : (own_comb gn (1 : Int32).toNatClampNeg) = (own_up gn (2 : Int32)) := by
        first | rfl | (simp only [own_lit0, own_lit1, own_lit2, own_lit3, own_lit4, own_lit5, own_lit6, own_lit7]; rfl)
    have fz8 := fq2_0
    rw [eg] at fz8
    exact ⟨rfl, N3, K7, fz8⟩
  · skip
    show own_Go _ _ _ _ s₁ (mkF m 0 #[sR a, sI (3 : Int32), .unset] [])
    refine own_st (fun t k => XS.iloadN X0.here hx rfl (hb hby d9_0) rfl k) ?_
    show own_Go _ _ _ _ s₁ (mkF m 1 _ [(.int (3 : Int32))])
    refine own_st (fun t k => XS.iconst X0.here hx rfl (hb hby d9_1) k) ?_
    show own_Go _ _ _ _ s₁ (mkF m 2 _ [(.int (1 : Int32)), (.int (3 : Int32))])
    refine own_st (fun t k => XS.ishr X0.here hx rfl (hb hby d9_2) rfl k) ?_
    show own_Go _ _ _ _ s₁ (mkF m 3 _ [(.int (1 : Int32))])
    refine own_st (fun t k => XS.istoreN X0.here hx rfl (hb hby d9_3) rfl (l' := #[sR a, sI (3 : Int32), sI (1 : Int32)]) rfl k) ?_
    show own_Go _ _ _ _ s₁ (mkF m 4 #[sR a, sI (3 : Int32), sI (1 : Int32)] [])
    refine own_st (fun t k => XS.iloadN X0.here hx rfl (hb hby d9_4) rfl k) ?_
    show own_Go _ _ _ _ s₁ (mkF m 5 _ [(.int (1 : Int32))])
    refine own_st (fun t k => XS.iconst X0.here hx rfl (hb hby d9_5) k) ?_
    show own_Go _ _ _ _ s₁ (mkF m 6 _ [(.int (1 : Int32)), (.int (1 : Int32))])
    refine own_st (fun t k => XS.icmpNo X0.here hx rfl (hb hby d9_6) rfl (flt (by decide : ¬ ((1 : Int32) < (1 : Int32)))).1 k) ?_
    show own_Go _ _ _ _ s₁ (mkF m 9 _ [])
    refine own_st (fun t k => XS.aloadN X0.here hx rfl (hb hby d9_9) rfl rfl k) ?_
    show own_Go _ _ _ _ s₁ (mkF m 10 _ [(.ref a)])
    refine own_st (fun t k => XS.iloadN X0.here hx rfl (hb hby d9_10) rfl k) ?_
    show own_Go _ _ _ _ s₁ (mkF m 11 _ [(.int (1 : Int32)), (.ref a)])
    obtain ⟨cq9, q9, q9'⟩ := F0.cell
    obtain ⟨_, _, ⟨T9, L9, k9, n9⟩, -, X9, ⟨Lc9, hQ9, l9, y9, z9⟩, st9⟩ := X0.privateBack hx (y := ym8) hown (mvT hZ (own_w hw 78 rfl)) (mvT hZ (own_w hw 79 rfl)) (own_selp (y := ym8) (mvT hZ (own_w hw 4 rfl)) (Cond.privateMethod_at (mvP hZ (own_w hw 80 rfl) (args := #[]))) (mvT hZ (own_w hw 79 rfl)) (by decide)) (Cond.privateMethod_at (mvP hZ (own_w hw 80 rfl) (args := #[]))) (mvT hZ (own_w hw 81 rfl)) (by decide) (backOf (W := 0) (rm20 l Z a0 hw [] a na kn gn (1 : Int32) h0 n0 Z0 F0 F1 F2 n1 (by decide) g_na) hZ (own_w hw 81 rfl) (own_w hw 5 rfl) (by decide) (by decide)) (g := (mkF m 11 #[sR a, sI (3 : Int32), sI (1 : Int32)] [(.int (1 : Int32)), (.ref a)])) rfl (by rw [hml]; rfl) (Steps.refl _) (a := a) (by rw [e0]; exact q9) q9' (argsL := [(.int (1 : Int32))]) (rest := []) (lenOf own_pd__I_V rfl) rfl (by show 2 * 0 + _ ≤ _; exact Nat.le_of_eq rfl) (hb hby d9_11) (fun _ _ => ⟨rfl, e0, (by decide : 0 + 0 ≤ _), (by decide : 0 + 0 ≤ _)⟩)
    dsimp only [Pt.U, Pt.locs, Pt.cells, Pt.slots] at X9 l9 y9 z9 st9 hQ9
    subst l9 y9 z9
    obtain ⟨rfl, NQ9, K9, fq9_0⟩ := hQ9
    have N10 := Fr.app N0 NQ9
    refine own_st (fun t k => st9.trans k) ?_
    have f11 := F0.keep K9
    have f12 := F1.keep K9 (ninS (Ne.symm n1) nin0)
    have Z13 : n0 ≤ T9.heap.size := Nat.le_trans Z0 K9.1
    have K14 : Keep h0 T9.heap [na] := K0.trans K9 (allS (Or.inl (List.mem_of_getElem? (i := 0) rfl)) all0)
    show own_Go _ _ _ _ T9 (mkF m 14 _ [])
    refine own_st (fun t k => XS.iloadN X9.here hx rfl (hb hby d9_14) rfl k) ?_
    show own_Go _ _ _ _ T9 (mkF m 15 _ [(.int (1 : Int32))])
    refine own_st (fun t k => XS.iconst X9.here hx rfl (hb hby d9_15) k) ?_
    show own_Go _ _ _ _ T9 (mkF m 16 _ [(.int (1 : Int32)), (.int (1 : Int32))])
    refine own_st (fun t k => XS.ishr X9.here hx rfl (hb hby d9_16) rfl k) ?_
    show own_Go _ _ _ _ T9 (mkF m 17 _ [(.int (0 : Int32))])
    refine own_st (fun t k => XS.istoreN X9.here hx rfl (hb hby d9_17) rfl (l' := #[sR a, sI (3 : Int32), sI (0 : Int32)]) rfl k) ?_
    show own_Go _ _ _ _ T9 (mkF m 18 #[sR a, sI (3 : Int32), sI (0 : Int32)] [])
    refine own_st (fun t k => XS.goto X9.here hx rfl (pc0 := 18) (pc' := 4) rfl (hb hby d9_18) (by decide) (by decide) k) ?_
    show own_Go _ _ _ _ T9 (mkF m 4 _ [])
    refine own_st (fun t k => XS.iloadN X9.here hx rfl (hb hby d9_4) rfl k) ?_
    show own_Go _ _ _ _ T9 (mkF m 5 _ [(.int (0 : Int32))])
    refine own_st (fun t k => XS.iconst X9.here hx rfl (hb hby d9_5) k) ?_
    show own_Go _ _ _ _ T9 (mkF m 6 _ [(.int (1 : Int32)), (.int (0 : Int32))])
    refine own_st (fun t k => XS.icmpYes X9.here hx rfl (pc0 := 6) (pc' := 21) rfl (hb hby d9_6) rfl (tlt (by decide : ((0 : Int32) < (1 : Int32)))).1 (by decide) (by decide) k) ?_
    show own_Go _ _ _ _ T9 (mkF m 21 _ [])
    subst hPq
    refine own_out X9 (v := none) (fun _ => rfl) Bd.notSynchronized (fun fs hr => X9.returnOut hx Bd.returns (hb hby d9_21) hr) (by decide) (by decide) ?_
    show Q21 Z a na kn gn (3 : Int32) h0 n0 _ T9.heap _
    have eg : (own_comb gn (1 : Int32).toNatClampNeg) = (own_up gn (3 : Int32)) := by
        first | rfl | (simp only [own_lit0, own_lit1, own_lit2, own_lit3, own_lit4, own_lit5, own_lit6, own_lit7]; rfl)
    have fz15 := fq9_0
    rw [eg] at fz15
    exact ⟨rfl, N10, K14, fz15⟩
  · skip
    show own_Go _ _ _ _ s₁ (mkF m 0 #[sR a, sI (4 : Int32), .unset] [])
    refine own_st (fun t k => XS.iloadN X0.here hx rfl (hb hby d9_0) rfl k) ?_
    show own_Go _ _ _ _ s₁ (mkF m 1 _ [(.int (4 : Int32))])
    refine own_st (fun t k => XS.iconst X0.here hx rfl (hb hby d9_1) k) ?_
    show own_Go _ _ _ _ s₁ (mkF m 2 _ [(.int (1 : Int32)), (.int (4 : Int32))])
    refine own_st (fun t k => XS.ishr X0.here hx rfl (hb hby d9_2) rfl k) ?_
    show own_Go _ _ _ _ s₁ (mkF m 3 _ [(.int (2 : Int32))])
    refine own_st (fun t k => XS.istoreN X0.here hx rfl (hb hby d9_3) rfl (l' := #[sR a, sI (4 : Int32), sI (2 : Int32)]) rfl k) ?_
    show own_Go _ _ _ _ s₁ (mkF m 4 #[sR a, sI (4 : Int32), sI (2 : Int32)] [])
    refine own_st (fun t k => XS.iloadN X0.here hx rfl (hb hby d9_4) rfl k) ?_
    show own_Go _ _ _ _ s₁ (mkF m 5 _ [(.int (2 : Int32))])
    refine own_st (fun t k => XS.iconst X0.here hx rfl (hb hby d9_5) k) ?_
    show own_Go _ _ _ _ s₁ (mkF m 6 _ [(.int (1 : Int32)), (.int (2 : Int32))])
    refine own_st (fun t k => XS.icmpNo X0.here hx rfl (hb hby d9_6) rfl (flt (by decide : ¬ ((2 : Int32) < (1 : Int32)))).1 k) ?_
    show own_Go _ _ _ _ s₁ (mkF m 9 _ [])
    refine own_st (fun t k => XS.aloadN X0.here hx rfl (hb hby d9_9) rfl rfl k) ?_
    show own_Go _ _ _ _ s₁ (mkF m 10 _ [(.ref a)])
    refine own_st (fun t k => XS.iloadN X0.here hx rfl (hb hby d9_10) rfl k) ?_
    show own_Go _ _ _ _ s₁ (mkF m 11 _ [(.int (2 : Int32)), (.ref a)])
    obtain ⟨cq16, q16, q16'⟩ := F0.cell
    obtain ⟨_, _, ⟨T16, L16, k16, n16⟩, -, X16, ⟨Lc16, hQ16, l16, y16, z16⟩, st16⟩ := X0.privateBack hx (y := ym8) hown (mvT hZ (own_w hw 78 rfl)) (mvT hZ (own_w hw 79 rfl)) (own_selp (y := ym8) (mvT hZ (own_w hw 4 rfl)) (Cond.privateMethod_at (mvP hZ (own_w hw 80 rfl) (args := #[]))) (mvT hZ (own_w hw 79 rfl)) (by decide)) (Cond.privateMethod_at (mvP hZ (own_w hw 80 rfl) (args := #[]))) (mvT hZ (own_w hw 81 rfl)) (by decide) (backOf (W := 0) (rm20 l Z a0 hw [] a na kn gn (2 : Int32) h0 n0 Z0 F0 F1 F2 n1 (by decide) g_na) hZ (own_w hw 81 rfl) (own_w hw 5 rfl) (by decide) (by decide)) (g := (mkF m 11 #[sR a, sI (4 : Int32), sI (2 : Int32)] [(.int (2 : Int32)), (.ref a)])) rfl (by rw [hml]; rfl) (Steps.refl _) (a := a) (by rw [e0]; exact q16) q16' (argsL := [(.int (2 : Int32))]) (rest := []) (lenOf own_pd__I_V rfl) rfl (by show 2 * 0 + _ ≤ _; exact Nat.le_of_eq rfl) (hb hby d9_11) (fun _ _ => ⟨rfl, e0, (by decide : 0 + 0 ≤ _), (by decide : 0 + 0 ≤ _)⟩)
    dsimp only [Pt.U, Pt.locs, Pt.cells, Pt.slots] at X16 l16 y16 z16 st16 hQ16
    subst l16 y16 z16
    obtain ⟨rfl, NQ16, K16, fq16_0⟩ := hQ16
    have N17 := Fr.app N0 NQ16
    refine own_st (fun t k => st16.trans k) ?_
    have f18 := F0.keep K16
    have f19 := F1.keep K16 (ninS (Ne.symm n1) nin0)
    have Z20 : n0 ≤ T16.heap.size := Nat.le_trans Z0 K16.1
    have K21 : Keep h0 T16.heap [na] := K0.trans K16 (allS (Or.inl (List.mem_of_getElem? (i := 0) rfl)) all0)
    show own_Go _ _ _ _ T16 (mkF m 14 _ [])
    refine own_st (fun t k => XS.iloadN X16.here hx rfl (hb hby d9_14) rfl k) ?_
    show own_Go _ _ _ _ T16 (mkF m 15 _ [(.int (2 : Int32))])
    refine own_st (fun t k => XS.iconst X16.here hx rfl (hb hby d9_15) k) ?_
    show own_Go _ _ _ _ T16 (mkF m 16 _ [(.int (1 : Int32)), (.int (2 : Int32))])
    refine own_st (fun t k => XS.ishr X16.here hx rfl (hb hby d9_16) rfl k) ?_
    show own_Go _ _ _ _ T16 (mkF m 17 _ [(.int (1 : Int32))])
    refine own_st (fun t k => XS.istoreN X16.here hx rfl (hb hby d9_17) rfl (l' := #[sR a, sI (4 : Int32), sI (1 : Int32)]) rfl k) ?_
    show own_Go _ _ _ _ T16 (mkF m 18 #[sR a, sI (4 : Int32), sI (1 : Int32)] [])
    refine own_st (fun t k => XS.goto X16.here hx rfl (pc0 := 18) (pc' := 4) rfl (hb hby d9_18) (by decide) (by decide) k) ?_
    show own_Go _ _ _ _ T16 (mkF m 4 _ [])
    refine own_st (fun t k => XS.iloadN X16.here hx rfl (hb hby d9_4) rfl k) ?_
    show own_Go _ _ _ _ T16 (mkF m 5 _ [(.int (1 : Int32))])
    refine own_st (fun t k => XS.iconst X16.here hx rfl (hb hby d9_5) k) ?_
    show own_Go _ _ _ _ T16 (mkF m 6 _ [(.int (1 : Int32)), (.int (1 : Int32))])
    refine own_st (fun t k => XS.icmpNo X16.here hx rfl (hb hby d9_6) rfl (flt (by decide : ¬ ((1 : Int32) < (1 : Int32)))).1 k) ?_
    show own_Go _ _ _ _ T16 (mkF m 9 _ [])
    refine own_st (fun t k => XS.aloadN X16.here hx rfl (hb hby d9_9) rfl rfl k) ?_
    show own_Go _ _ _ _ T16 (mkF m 10 _ [(.ref a)])
    refine own_st (fun t k => XS.iloadN X16.here hx rfl (hb hby d9_10) rfl k) ?_
    show own_Go _ _ _ _ T16 (mkF m 11 _ [(.int (1 : Int32)), (.ref a)])
    obtain ⟨cq22, q22, q22'⟩ := f18.cell
    obtain ⟨_, _, ⟨T22, L22, k22, n22⟩, -, X22, ⟨Lc22, hQ22, l22, y22, z22⟩, st22⟩ := X16.privateBack hx (y := ym8) hown (mvT hZ (own_w hw 78 rfl)) (mvT hZ (own_w hw 79 rfl)) (own_selp (y := ym8) (mvT hZ (own_w hw 4 rfl)) (Cond.privateMethod_at (mvP hZ (own_w hw 80 rfl) (args := #[]))) (mvT hZ (own_w hw 79 rfl)) (by decide)) (Cond.privateMethod_at (mvP hZ (own_w hw 80 rfl) (args := #[]))) (mvT hZ (own_w hw 81 rfl)) (by decide) (backOf (W := 0) (rm20 l Z a0 hw [] a na kn (own_comb gn (2 : Int32).toNatClampNeg) (1 : Int32) T16.heap n0 Z20 f18 f19 fq16_0 n1 (by decide) g_na) hZ (own_w hw 81 rfl) (own_w hw 5 rfl) (by decide) (by decide)) (g := (mkF m 11 #[sR a, sI (4 : Int32), sI (1 : Int32)] [(.int (1 : Int32)), (.ref a)])) rfl (by rw [hml]; rfl) (Steps.refl _) (a := a) (by exact q22) q22' (argsL := [(.int (1 : Int32))]) (rest := []) (lenOf own_pd__I_V rfl) rfl (by show 2 * 0 + _ ≤ _; exact Nat.le_of_eq rfl) (hb hby d9_11) (fun _ _ => ⟨rfl, rfl, (by decide : 0 + 0 ≤ _), (by decide : 0 + 0 ≤ _)⟩)
    dsimp only [Pt.U, Pt.locs, Pt.cells, Pt.slots] at X22 l22 y22 z22 st22 hQ22
    subst l22 y22 z22
    obtain ⟨rfl, NQ22, K22, fq22_0⟩ := hQ22
    have N23 := Fr.app N17 NQ22
    refine own_st (fun t k => st22.trans k) ?_
    have f24 := f18.keep K22
    have f25 := f19.keep K22 (ninS (Ne.symm n1) nin0)
    have Z26 : n0 ≤ T22.heap.size := Nat.le_trans Z20 K22.1
    have K27 : Keep h0 T22.heap [na] := K21.trans K22 (allS (Or.inl (List.mem_of_getElem? (i := 0) rfl)) all0)
    show own_Go _ _ _ _ T22 (mkF m 14 _ [])
    refine own_st (fun t k => XS.iloadN X22.here hx rfl (hb hby d9_14) rfl k) ?_
    show own_Go _ _ _ _ T22 (mkF m 15 _ [(.int (1 : Int32))])
    refine own_st (fun t k => XS.iconst X22.here hx rfl (hb hby d9_15) k) ?_
    show own_Go _ _ _ _ T22 (mkF m 16 _ [(.int (1 : Int32)), (.int (1 : Int32))])
    refine own_st (fun t k => XS.ishr X22.here hx rfl (hb hby d9_16) rfl k) ?_
    show own_Go _ _ _ _ T22 (mkF m 17 _ [(.int (0 : Int32))])
    refine own_st (fun t k => XS.istoreN X22.here hx rfl (hb hby d9_17) rfl (l' := #[sR a, sI (4 : Int32), sI (0 : Int32)]) rfl k) ?_
    show own_Go _ _ _ _ T22 (mkF m 18 #[sR a, sI (4 : Int32), sI (0 : Int32)] [])
    refine own_st (fun t k => XS.goto X22.here hx rfl (pc0 := 18) (pc' := 4) rfl (hb hby d9_18) (by decide) (by decide) k) ?_
    show own_Go _ _ _ _ T22 (mkF m 4 _ [])
    refine own_st (fun t k => XS.iloadN X22.here hx rfl (hb hby d9_4) rfl k) ?_
    show own_Go _ _ _ _ T22 (mkF m 5 _ [(.int (0 : Int32))])
    refine own_st (fun t k => XS.iconst X22.here hx rfl (hb hby d9_5) k) ?_
    show own_Go _ _ _ _ T22 (mkF m 6 _ [(.int (1 : Int32)), (.int (0 : Int32))])
    refine own_st (fun t k => XS.icmpYes X22.here hx rfl (pc0 := 6) (pc' := 21) rfl (hb hby d9_6) rfl (tlt (by decide : ((0 : Int32) < (1 : Int32)))).1 (by decide) (by decide) k) ?_
    show own_Go _ _ _ _ T22 (mkF m 21 _ [])
    subst hPq
    refine own_out X22 (v := none) (fun _ => rfl) Bd.notSynchronized (fun fs hr => X22.returnOut hx Bd.returns (hb hby d9_21) hr) (by decide) (by decide) ?_
    show Q21 Z a na kn gn (4 : Int32) h0 n0 _ T22.heap _
    have eg : (own_comb (own_comb gn (2 : Int32).toNatClampNeg) (1 : Int32).toNatClampNeg) = (own_up gn (4 : Int32)) := by
        first | rfl | (simp only [own_lit0, own_lit1, own_lit2, own_lit3, own_lit4, own_lit5, own_lit6, own_lit7]; rfl)
    have fz28 := fq22_0
    rw [eg] at fz28
    exact ⟨rfl, N23, K27, fz28⟩
  · skip
    show own_Go _ _ _ _ s₁ (mkF m 0 #[sR a, sI (5 : Int32), .unset] [])
    refine own_st (fun t k => XS.iloadN X0.here hx rfl (hb hby d9_0) rfl k) ?_
    show own_Go _ _ _ _ s₁ (mkF m 1 _ [(.int (5 : Int32))])
    refine own_st (fun t k => XS.iconst X0.here hx rfl (hb hby d9_1) k) ?_
    show own_Go _ _ _ _ s₁ (mkF m 2 _ [(.int (1 : Int32)), (.int (5 : Int32))])
    refine own_st (fun t k => XS.ishr X0.here hx rfl (hb hby d9_2) rfl k) ?_
    show own_Go _ _ _ _ s₁ (mkF m 3 _ [(.int (2 : Int32))])
    refine own_st (fun t k => XS.istoreN X0.here hx rfl (hb hby d9_3) rfl (l' := #[sR a, sI (5 : Int32), sI (2 : Int32)]) rfl k) ?_
    show own_Go _ _ _ _ s₁ (mkF m 4 #[sR a, sI (5 : Int32), sI (2 : Int32)] [])
    refine own_st (fun t k => XS.iloadN X0.here hx rfl (hb hby d9_4) rfl k) ?_
    show own_Go _ _ _ _ s₁ (mkF m 5 _ [(.int (2 : Int32))])
    refine own_st (fun t k => XS.iconst X0.here hx rfl (hb hby d9_5) k) ?_
    show own_Go _ _ _ _ s₁ (mkF m 6 _ [(.int (1 : Int32)), (.int (2 : Int32))])
    refine own_st (fun t k => XS.icmpNo X0.here hx rfl (hb hby d9_6) rfl (flt (by decide : ¬ ((2 : Int32) < (1 : Int32)))).1 k) ?_
    show own_Go _ _ _ _ s₁ (mkF m 9 _ [])
    refine own_st (fun t k => XS.aloadN X0.here hx rfl (hb hby d9_9) rfl rfl k) ?_
    show own_Go _ _ _ _ s₁ (mkF m 10 _ [(.ref a)])
    refine own_st (fun t k => XS.iloadN X0.here hx rfl (hb hby d9_10) rfl k) ?_
    show own_Go _ _ _ _ s₁ (mkF m 11 _ [(.int (2 : Int32)), (.ref a)])
    obtain ⟨cq29, q29, q29'⟩ := F0.cell
    obtain ⟨_, _, ⟨T29, L29, k29, n29⟩, -, X29, ⟨Lc29, hQ29, l29, y29, z29⟩, st29⟩ := X0.privateBack hx (y := ym8) hown (mvT hZ (own_w hw 78 rfl)) (mvT hZ (own_w hw 79 rfl)) (own_selp (y := ym8) (mvT hZ (own_w hw 4 rfl)) (Cond.privateMethod_at (mvP hZ (own_w hw 80 rfl) (args := #[]))) (mvT hZ (own_w hw 79 rfl)) (by decide)) (Cond.privateMethod_at (mvP hZ (own_w hw 80 rfl) (args := #[]))) (mvT hZ (own_w hw 81 rfl)) (by decide) (backOf (W := 0) (rm20 l Z a0 hw [] a na kn gn (2 : Int32) h0 n0 Z0 F0 F1 F2 n1 (by decide) g_na) hZ (own_w hw 81 rfl) (own_w hw 5 rfl) (by decide) (by decide)) (g := (mkF m 11 #[sR a, sI (5 : Int32), sI (2 : Int32)] [(.int (2 : Int32)), (.ref a)])) rfl (by rw [hml]; rfl) (Steps.refl _) (a := a) (by rw [e0]; exact q29) q29' (argsL := [(.int (2 : Int32))]) (rest := []) (lenOf own_pd__I_V rfl) rfl (by show 2 * 0 + _ ≤ _; exact Nat.le_of_eq rfl) (hb hby d9_11) (fun _ _ => ⟨rfl, e0, (by decide : 0 + 0 ≤ _), (by decide : 0 + 0 ≤ _)⟩)
    dsimp only [Pt.U, Pt.locs, Pt.cells, Pt.slots] at X29 l29 y29 z29 st29 hQ29
    subst l29 y29 z29
    obtain ⟨rfl, NQ29, K29, fq29_0⟩ := hQ29
    have N30 := Fr.app N0 NQ29
    refine own_st (fun t k => st29.trans k) ?_
    have f31 := F0.keep K29
    have f32 := F1.keep K29 (ninS (Ne.symm n1) nin0)
    have Z33 : n0 ≤ T29.heap.size := Nat.le_trans Z0 K29.1
    have K34 : Keep h0 T29.heap [na] := K0.trans K29 (allS (Or.inl (List.mem_of_getElem? (i := 0) rfl)) all0)
    show own_Go _ _ _ _ T29 (mkF m 14 _ [])
    refine own_st (fun t k => XS.iloadN X29.here hx rfl (hb hby d9_14) rfl k) ?_
    show own_Go _ _ _ _ T29 (mkF m 15 _ [(.int (2 : Int32))])
    refine own_st (fun t k => XS.iconst X29.here hx rfl (hb hby d9_15) k) ?_
    show own_Go _ _ _ _ T29 (mkF m 16 _ [(.int (1 : Int32)), (.int (2 : Int32))])
    refine own_st (fun t k => XS.ishr X29.here hx rfl (hb hby d9_16) rfl k) ?_
    show own_Go _ _ _ _ T29 (mkF m 17 _ [(.int (1 : Int32))])
    refine own_st (fun t k => XS.istoreN X29.here hx rfl (hb hby d9_17) rfl (l' := #[sR a, sI (5 : Int32), sI (1 : Int32)]) rfl k) ?_
    show own_Go _ _ _ _ T29 (mkF m 18 #[sR a, sI (5 : Int32), sI (1 : Int32)] [])
    refine own_st (fun t k => XS.goto X29.here hx rfl (pc0 := 18) (pc' := 4) rfl (hb hby d9_18) (by decide) (by decide) k) ?_
    show own_Go _ _ _ _ T29 (mkF m 4 _ [])
    refine own_st (fun t k => XS.iloadN X29.here hx rfl (hb hby d9_4) rfl k) ?_
    show own_Go _ _ _ _ T29 (mkF m 5 _ [(.int (1 : Int32))])
    refine own_st (fun t k => XS.iconst X29.here hx rfl (hb hby d9_5) k) ?_
    show own_Go _ _ _ _ T29 (mkF m 6 _ [(.int (1 : Int32)), (.int (1 : Int32))])
    refine own_st (fun t k => XS.icmpNo X29.here hx rfl (hb hby d9_6) rfl (flt (by decide : ¬ ((1 : Int32) < (1 : Int32)))).1 k) ?_
    show own_Go _ _ _ _ T29 (mkF m 9 _ [])
    refine own_st (fun t k => XS.aloadN X29.here hx rfl (hb hby d9_9) rfl rfl k) ?_
    show own_Go _ _ _ _ T29 (mkF m 10 _ [(.ref a)])
    refine own_st (fun t k => XS.iloadN X29.here hx rfl (hb hby d9_10) rfl k) ?_
    show own_Go _ _ _ _ T29 (mkF m 11 _ [(.int (1 : Int32)), (.ref a)])
    obtain ⟨cq35, q35, q35'⟩ := f31.cell
    obtain ⟨_, _, ⟨T35, L35, k35, n35⟩, -, X35, ⟨Lc35, hQ35, l35, y35, z35⟩, st35⟩ := X29.privateBack hx (y := ym8) hown (mvT hZ (own_w hw 78 rfl)) (mvT hZ (own_w hw 79 rfl)) (own_selp (y := ym8) (mvT hZ (own_w hw 4 rfl)) (Cond.privateMethod_at (mvP hZ (own_w hw 80 rfl) (args := #[]))) (mvT hZ (own_w hw 79 rfl)) (by decide)) (Cond.privateMethod_at (mvP hZ (own_w hw 80 rfl) (args := #[]))) (mvT hZ (own_w hw 81 rfl)) (by decide) (backOf (W := 0) (rm20 l Z a0 hw [] a na kn (own_comb gn (2 : Int32).toNatClampNeg) (1 : Int32) T29.heap n0 Z33 f31 f32 fq29_0 n1 (by decide) g_na) hZ (own_w hw 81 rfl) (own_w hw 5 rfl) (by decide) (by decide)) (g := (mkF m 11 #[sR a, sI (5 : Int32), sI (1 : Int32)] [(.int (1 : Int32)), (.ref a)])) rfl (by rw [hml]; rfl) (Steps.refl _) (a := a) (by exact q35) q35' (argsL := [(.int (1 : Int32))]) (rest := []) (lenOf own_pd__I_V rfl) rfl (by show 2 * 0 + _ ≤ _; exact Nat.le_of_eq rfl) (hb hby d9_11) (fun _ _ => ⟨rfl, rfl, (by decide : 0 + 0 ≤ _), (by decide : 0 + 0 ≤ _)⟩)
    dsimp only [Pt.U, Pt.locs, Pt.cells, Pt.slots] at X35 l35 y35 z35 st35 hQ35
    subst l35 y35 z35
    obtain ⟨rfl, NQ35, K35, fq35_0⟩ := hQ35
    have N36 := Fr.app N30 NQ35
    refine own_st (fun t k => st35.trans k) ?_
    have f37 := f31.keep K35
    have f38 := f32.keep K35 (ninS (Ne.symm n1) nin0)
    have Z39 : n0 ≤ T35.heap.size := Nat.le_trans Z33 K35.1
    have K40 : Keep h0 T35.heap [na] := K34.trans K35 (allS (Or.inl (List.mem_of_getElem? (i := 0) rfl)) all0)
    show own_Go _ _ _ _ T35 (mkF m 14 _ [])
    refine own_st (fun t k => XS.iloadN X35.here hx rfl (hb hby d9_14) rfl k) ?_
    show own_Go _ _ _ _ T35 (mkF m 15 _ [(.int (1 : Int32))])
    refine own_st (fun t k => XS.iconst X35.here hx rfl (hb hby d9_15) k) ?_
    show own_Go _ _ _ _ T35 (mkF m 16 _ [(.int (1 : Int32)), (.int (1 : Int32))])
    refine own_st (fun t k => XS.ishr X35.here hx rfl (hb hby d9_16) rfl k) ?_
    show own_Go _ _ _ _ T35 (mkF m 17 _ [(.int (0 : Int32))])
    refine own_st (fun t k => XS.istoreN X35.here hx rfl (hb hby d9_17) rfl (l' := #[sR a, sI (5 : Int32), sI (0 : Int32)]) rfl k) ?_
    show own_Go _ _ _ _ T35 (mkF m 18 #[sR a, sI (5 : Int32), sI (0 : Int32)] [])
    refine own_st (fun t k => XS.goto X35.here hx rfl (pc0 := 18) (pc' := 4) rfl (hb hby d9_18) (by decide) (by decide) k) ?_
    show own_Go _ _ _ _ T35 (mkF m 4 _ [])
    refine own_st (fun t k => XS.iloadN X35.here hx rfl (hb hby d9_4) rfl k) ?_
    show own_Go _ _ _ _ T35 (mkF m 5 _ [(.int (0 : Int32))])
    refine own_st (fun t k => XS.iconst X35.here hx rfl (hb hby d9_5) k) ?_
    show own_Go _ _ _ _ T35 (mkF m 6 _ [(.int (1 : Int32)), (.int (0 : Int32))])
    refine own_st (fun t k => XS.icmpYes X35.here hx rfl (pc0 := 6) (pc' := 21) rfl (hb hby d9_6) rfl (tlt (by decide : ((0 : Int32) < (1 : Int32)))).1 (by decide) (by decide) k) ?_
    show own_Go _ _ _ _ T35 (mkF m 21 _ [])
    subst hPq
    refine own_out X35 (v := none) (fun _ => rfl) Bd.notSynchronized (fun fs hr => X35.returnOut hx Bd.returns (hb hby d9_21) hr) (by decide) (by decide) ?_
    show Q21 Z a na kn gn (5 : Int32) h0 n0 _ T35.heap _
    have eg : (own_comb (own_comb gn (2 : Int32).toNatClampNeg) (1 : Int32).toNatClampNeg) = (own_up gn (5 : Int32)) := by
        first | rfl | (simp only [own_lit0, own_lit1, own_lit2, own_lit3, own_lit4, own_lit5, own_lit6, own_lit7]; rfl)
    have fz41 := fq35_0
    rw [eg] at fz41
    exact ⟨rfl, N36, K40, fz41⟩
  · skip
    show own_Go _ _ _ _ s₁ (mkF m 0 #[sR a, sI (6 : Int32), .unset] [])
    refine own_st (fun t k => XS.iloadN X0.here hx rfl (hb hby d9_0) rfl k) ?_
    show own_Go _ _ _ _ s₁ (mkF m 1 _ [(.int (6 : Int32))])
    refine own_st (fun t k => XS.iconst X0.here hx rfl (hb hby d9_1) k) ?_
    show own_Go _ _ _ _ s₁ (mkF m 2 _ [(.int (1 : Int32)), (.int (6 : Int32))])
    refine own_st (fun t k => XS.ishr X0.here hx rfl (hb hby d9_2) rfl k) ?_
    show own_Go _ _ _ _ s₁ (mkF m 3 _ [(.int (3 : Int32))])
    refine own_st (fun t k => XS.istoreN X0.here hx rfl (hb hby d9_3) rfl (l' := #[sR a, sI (6 : Int32), sI (3 : Int32)]) rfl k) ?_
    show own_Go _ _ _ _ s₁ (mkF m 4 #[sR a, sI (6 : Int32), sI (3 : Int32)] [])
    refine own_st (fun t k => XS.iloadN X0.here hx rfl (hb hby d9_4) rfl k) ?_
    show own_Go _ _ _ _ s₁ (mkF m 5 _ [(.int (3 : Int32))])
    refine own_st (fun t k => XS.iconst X0.here hx rfl (hb hby d9_5) k) ?_
    show own_Go _ _ _ _ s₁ (mkF m 6 _ [(.int (1 : Int32)), (.int (3 : Int32))])
    refine own_st (fun t k => XS.icmpNo X0.here hx rfl (hb hby d9_6) rfl (flt (by decide : ¬ ((3 : Int32) < (1 : Int32)))).1 k) ?_
    show own_Go _ _ _ _ s₁ (mkF m 9 _ [])
    refine own_st (fun t k => XS.aloadN X0.here hx rfl (hb hby d9_9) rfl rfl k) ?_
    show own_Go _ _ _ _ s₁ (mkF m 10 _ [(.ref a)])
    refine own_st (fun t k => XS.iloadN X0.here hx rfl (hb hby d9_10) rfl k) ?_
    show own_Go _ _ _ _ s₁ (mkF m 11 _ [(.int (3 : Int32)), (.ref a)])
    obtain ⟨cq42, q42, q42'⟩ := F0.cell
    obtain ⟨_, _, ⟨T42, L42, k42, n42⟩, -, X42, ⟨Lc42, hQ42, l42, y42, z42⟩, st42⟩ := X0.privateBack hx (y := ym8) hown (mvT hZ (own_w hw 78 rfl)) (mvT hZ (own_w hw 79 rfl)) (own_selp (y := ym8) (mvT hZ (own_w hw 4 rfl)) (Cond.privateMethod_at (mvP hZ (own_w hw 80 rfl) (args := #[]))) (mvT hZ (own_w hw 79 rfl)) (by decide)) (Cond.privateMethod_at (mvP hZ (own_w hw 80 rfl) (args := #[]))) (mvT hZ (own_w hw 81 rfl)) (by decide) (backOf (W := 0) (rm20 l Z a0 hw [] a na kn gn (3 : Int32) h0 n0 Z0 F0 F1 F2 n1 (by decide) g_na) hZ (own_w hw 81 rfl) (own_w hw 5 rfl) (by decide) (by decide)) (g := (mkF m 11 #[sR a, sI (6 : Int32), sI (3 : Int32)] [(.int (3 : Int32)), (.ref a)])) rfl (by rw [hml]; rfl) (Steps.refl _) (a := a) (by rw [e0]; exact q42) q42' (argsL := [(.int (3 : Int32))]) (rest := []) (lenOf own_pd__I_V rfl) rfl (by show 2 * 0 + _ ≤ _; exact Nat.le_of_eq rfl) (hb hby d9_11) (fun _ _ => ⟨rfl, e0, (by decide : 0 + 0 ≤ _), (by decide : 0 + 0 ≤ _)⟩)
    dsimp only [Pt.U, Pt.locs, Pt.cells, Pt.slots] at X42 l42 y42 z42 st42 hQ42
    subst l42 y42 z42
    obtain ⟨rfl, NQ42, K42, fq42_0⟩ := hQ42
    have N43 := Fr.app N0 NQ42
    refine own_st (fun t k => st42.trans k) ?_
    have f44 := F0.keep K42
    have f45 := F1.keep K42 (ninS (Ne.symm n1) nin0)
    have Z46 : n0 ≤ T42.heap.size := Nat.le_trans Z0 K42.1
    have K47 : Keep h0 T42.heap [na] := K0.trans K42 (allS (Or.inl (List.mem_of_getElem? (i := 0) rfl)) all0)
    show own_Go _ _ _ _ T42 (mkF m 14 _ [])
    refine own_st (fun t k => XS.iloadN X42.here hx rfl (hb hby d9_14) rfl k) ?_
    show own_Go _ _ _ _ T42 (mkF m 15 _ [(.int (3 : Int32))])
    refine own_st (fun t k => XS.iconst X42.here hx rfl (hb hby d9_15) k) ?_
    show own_Go _ _ _ _ T42 (mkF m 16 _ [(.int (1 : Int32)), (.int (3 : Int32))])
    refine own_st (fun t k => XS.ishr X42.here hx rfl (hb hby d9_16) rfl k) ?_
    show own_Go _ _ _ _ T42 (mkF m 17 _ [(.int (1 : Int32))])
    refine own_st (fun t k => XS.istoreN X42.here hx rfl (hb hby d9_17) rfl (l' := #[sR a, sI (6 : Int32), sI (1 : Int32)]) rfl k) ?_
    show own_Go _ _ _ _ T42 (mkF m 18 #[sR a, sI (6 : Int32), sI (1 : Int32)] [])
    refine own_st (fun t k => XS.goto X42.here hx rfl (pc0 := 18) (pc' := 4) rfl (hb hby d9_18) (by decide) (by decide) k) ?_
    show own_Go _ _ _ _ T42 (mkF m 4 _ [])
    refine own_st (fun t k => XS.iloadN X42.here hx rfl (hb hby d9_4) rfl k) ?_
    show own_Go _ _ _ _ T42 (mkF m 5 _ [(.int (1 : Int32))])
    refine own_st (fun t k => XS.iconst X42.here hx rfl (hb hby d9_5) k) ?_
    show own_Go _ _ _ _ T42 (mkF m 6 _ [(.int (1 : Int32)), (.int (1 : Int32))])
    refine own_st (fun t k => XS.icmpNo X42.here hx rfl (hb hby d9_6) rfl (flt (by decide : ¬ ((1 : Int32) < (1 : Int32)))).1 k) ?_
    show own_Go _ _ _ _ T42 (mkF m 9 _ [])
    refine own_st (fun t k => XS.aloadN X42.here hx rfl (hb hby d9_9) rfl rfl k) ?_
    show own_Go _ _ _ _ T42 (mkF m 10 _ [(.ref a)])
    refine own_st (fun t k => XS.iloadN X42.here hx rfl (hb hby d9_10) rfl k) ?_
    show own_Go _ _ _ _ T42 (mkF m 11 _ [(.int (1 : Int32)), (.ref a)])
    obtain ⟨cq48, q48, q48'⟩ := f44.cell
    obtain ⟨_, _, ⟨T48, L48, k48, n48⟩, -, X48, ⟨Lc48, hQ48, l48, y48, z48⟩, st48⟩ := X42.privateBack hx (y := ym8) hown (mvT hZ (own_w hw 78 rfl)) (mvT hZ (own_w hw 79 rfl)) (own_selp (y := ym8) (mvT hZ (own_w hw 4 rfl)) (Cond.privateMethod_at (mvP hZ (own_w hw 80 rfl) (args := #[]))) (mvT hZ (own_w hw 79 rfl)) (by decide)) (Cond.privateMethod_at (mvP hZ (own_w hw 80 rfl) (args := #[]))) (mvT hZ (own_w hw 81 rfl)) (by decide) (backOf (W := 0) (rm20 l Z a0 hw [] a na kn (own_comb gn (3 : Int32).toNatClampNeg) (1 : Int32) T42.heap n0 Z46 f44 f45 fq42_0 n1 (by decide) g_na) hZ (own_w hw 81 rfl) (own_w hw 5 rfl) (by decide) (by decide)) (g := (mkF m 11 #[sR a, sI (6 : Int32), sI (1 : Int32)] [(.int (1 : Int32)), (.ref a)])) rfl (by rw [hml]; rfl) (Steps.refl _) (a := a) (by exact q48) q48' (argsL := [(.int (1 : Int32))]) (rest := []) (lenOf own_pd__I_V rfl) rfl (by show 2 * 0 + _ ≤ _; exact Nat.le_of_eq rfl) (hb hby d9_11) (fun _ _ => ⟨rfl, rfl, (by decide : 0 + 0 ≤ _), (by decide : 0 + 0 ≤ _)⟩)
    dsimp only [Pt.U, Pt.locs, Pt.cells, Pt.slots] at X48 l48 y48 z48 st48 hQ48
    subst l48 y48 z48
    obtain ⟨rfl, NQ48, K48, fq48_0⟩ := hQ48
    have N49 := Fr.app N43 NQ48
    refine own_st (fun t k => st48.trans k) ?_
    have f50 := f44.keep K48
    have f51 := f45.keep K48 (ninS (Ne.symm n1) nin0)
    have Z52 : n0 ≤ T48.heap.size := Nat.le_trans Z46 K48.1
    have K53 : Keep h0 T48.heap [na] := K47.trans K48 (allS (Or.inl (List.mem_of_getElem? (i := 0) rfl)) all0)
    show own_Go _ _ _ _ T48 (mkF m 14 _ [])
    refine own_st (fun t k => XS.iloadN X48.here hx rfl (hb hby d9_14) rfl k) ?_
    show own_Go _ _ _ _ T48 (mkF m 15 _ [(.int (1 : Int32))])
    refine own_st (fun t k => XS.iconst X48.here hx rfl (hb hby d9_15) k) ?_
    show own_Go _ _ _ _ T48 (mkF m 16 _ [(.int (1 : Int32)), (.int (1 : Int32))])
    refine own_st (fun t k => XS.ishr X48.here hx rfl (hb hby d9_16) rfl k) ?_
    show own_Go _ _ _ _ T48 (mkF m 17 _ [(.int (0 : Int32))])
    refine own_st (fun t k => XS.istoreN X48.here hx rfl (hb hby d9_17) rfl (l' := #[sR a, sI (6 : Int32), sI (0 : Int32)]) rfl k) ?_
    show own_Go _ _ _ _ T48 (mkF m 18 #[sR a, sI (6 : Int32), sI (0 : Int32)] [])
    refine own_st (fun t k => XS.goto X48.here hx rfl (pc0 := 18) (pc' := 4) rfl (hb hby d9_18) (by decide) (by decide) k) ?_
    show own_Go _ _ _ _ T48 (mkF m 4 _ [])
    refine own_st (fun t k => XS.iloadN X48.here hx rfl (hb hby d9_4) rfl k) ?_
    show own_Go _ _ _ _ T48 (mkF m 5 _ [(.int (0 : Int32))])
    refine own_st (fun t k => XS.iconst X48.here hx rfl (hb hby d9_5) k) ?_
    show own_Go _ _ _ _ T48 (mkF m 6 _ [(.int (1 : Int32)), (.int (0 : Int32))])
    refine own_st (fun t k => XS.icmpYes X48.here hx rfl (pc0 := 6) (pc' := 21) rfl (hb hby d9_6) rfl (tlt (by decide : ((0 : Int32) < (1 : Int32)))).1 (by decide) (by decide) k) ?_
    show own_Go _ _ _ _ T48 (mkF m 21 _ [])
    subst hPq
    refine own_out X48 (v := none) (fun _ => rfl) Bd.notSynchronized (fun fs hr => X48.returnOut hx Bd.returns (hb hby d9_21) hr) (by decide) (by decide) ?_
    show Q21 Z a na kn gn (6 : Int32) h0 n0 _ T48.heap _
    have eg : (own_comb (own_comb gn (3 : Int32).toNatClampNeg) (1 : Int32).toNatClampNeg) = (own_up gn (6 : Int32)) := by
        first | rfl | (simp only [own_lit0, own_lit1, own_lit2, own_lit3, own_lit4, own_lit5, own_lit6, own_lit7]; rfl)
    have fz54 := fq48_0
    rw [eg] at fz54
    exact ⟨rfl, N49, K53, fz54⟩
  · skip
    show own_Go _ _ _ _ s₁ (mkF m 0 #[sR a, sI (7 : Int32), .unset] [])
    refine own_st (fun t k => XS.iloadN X0.here hx rfl (hb hby d9_0) rfl k) ?_
    show own_Go _ _ _ _ s₁ (mkF m 1 _ [(.int (7 : Int32))])
    refine own_st (fun t k => XS.iconst X0.here hx rfl (hb hby d9_1) k) ?_
    show own_Go _ _ _ _ s₁ (mkF m 2 _ [(.int (1 : Int32)), (.int (7 : Int32))])
    refine own_st (fun t k => XS.ishr X0.here hx rfl (hb hby d9_2) rfl k) ?_
    show own_Go _ _ _ _ s₁ (mkF m 3 _ [(.int (3 : Int32))])
    refine own_st (fun t k => XS.istoreN X0.here hx rfl (hb hby d9_3) rfl (l' := #[sR a, sI (7 : Int32), sI (3 : Int32)]) rfl k) ?_
    show own_Go _ _ _ _ s₁ (mkF m 4 #[sR a, sI (7 : Int32), sI (3 : Int32)] [])
    refine own_st (fun t k => XS.iloadN X0.here hx rfl (hb hby d9_4) rfl k) ?_
    show own_Go _ _ _ _ s₁ (mkF m 5 _ [(.int (3 : Int32))])
    refine own_st (fun t k => XS.iconst X0.here hx rfl (hb hby d9_5) k) ?_
    show own_Go _ _ _ _ s₁ (mkF m 6 _ [(.int (1 : Int32)), (.int (3 : Int32))])
    refine own_st (fun t k => XS.icmpNo X0.here hx rfl (hb hby d9_6) rfl (flt (by decide : ¬ ((3 : Int32) < (1 : Int32)))).1 k) ?_
    show own_Go _ _ _ _ s₁ (mkF m 9 _ [])
    refine own_st (fun t k => XS.aloadN X0.here hx rfl (hb hby d9_9) rfl rfl k) ?_
    show own_Go _ _ _ _ s₁ (mkF m 10 _ [(.ref a)])
    refine own_st (fun t k => XS.iloadN X0.here hx rfl (hb hby d9_10) rfl k) ?_
    show own_Go _ _ _ _ s₁ (mkF m 11 _ [(.int (3 : Int32)), (.ref a)])
    obtain ⟨cq55, q55, q55'⟩ := F0.cell
    obtain ⟨_, _, ⟨T55, L55, k55, n55⟩, -, X55, ⟨Lc55, hQ55, l55, y55, z55⟩, st55⟩ := X0.privateBack hx (y := ym8) hown (mvT hZ (own_w hw 78 rfl)) (mvT hZ (own_w hw 79 rfl)) (own_selp (y := ym8) (mvT hZ (own_w hw 4 rfl)) (Cond.privateMethod_at (mvP hZ (own_w hw 80 rfl) (args := #[]))) (mvT hZ (own_w hw 79 rfl)) (by decide)) (Cond.privateMethod_at (mvP hZ (own_w hw 80 rfl) (args := #[]))) (mvT hZ (own_w hw 81 rfl)) (by decide) (backOf (W := 0) (rm20 l Z a0 hw [] a na kn gn (3 : Int32) h0 n0 Z0 F0 F1 F2 n1 (by decide) g_na) hZ (own_w hw 81 rfl) (own_w hw 5 rfl) (by decide) (by decide)) (g := (mkF m 11 #[sR a, sI (7 : Int32), sI (3 : Int32)] [(.int (3 : Int32)), (.ref a)])) rfl (by rw [hml]; rfl) (Steps.refl _) (a := a) (by rw [e0]; exact q55) q55' (argsL := [(.int (3 : Int32))]) (rest := []) (lenOf own_pd__I_V rfl) rfl (by show 2 * 0 + _ ≤ _; exact Nat.le_of_eq rfl) (hb hby d9_11) (fun _ _ => ⟨rfl, e0, (by decide : 0 + 0 ≤ _), (by decide : 0 + 0 ≤ _)⟩)
    dsimp only [Pt.U, Pt.locs, Pt.cells, Pt.slots] at X55 l55 y55 z55 st55 hQ55
    subst l55 y55 z55
    obtain ⟨rfl, NQ55, K55, fq55_0⟩ := hQ55
    have N56 := Fr.app N0 NQ55
    refine own_st (fun t k => st55.trans k) ?_
    have f57 := F0.keep K55
    have f58 := F1.keep K55 (ninS (Ne.symm n1) nin0)
    have Z59 : n0 ≤ T55.heap.size := Nat.le_trans Z0 K55.1
    have K60 : Keep h0 T55.heap [na] := K0.trans K55 (allS (Or.inl (List.mem_of_getElem? (i := 0) rfl)) all0)
    show own_Go _ _ _ _ T55 (mkF m 14 _ [])
    refine own_st (fun t k => XS.iloadN X55.here hx rfl (hb hby d9_14) rfl k) ?_
    show own_Go _ _ _ _ T55 (mkF m 15 _ [(.int (3 : Int32))])
    refine own_st (fun t k => XS.iconst X55.here hx rfl (hb hby d9_15) k) ?_
    show own_Go _ _ _ _ T55 (mkF m 16 _ [(.int (1 : Int32)), (.int (3 : Int32))])
    refine own_st (fun t k => XS.ishr X55.here hx rfl (hb hby d9_16) rfl k) ?_
    show own_Go _ _ _ _ T55 (mkF m 17 _ [(.int (1 : Int32))])
    refine own_st (fun t k => XS.istoreN X55.here hx rfl (hb hby d9_17) rfl (l' := #[sR a, sI (7 : Int32), sI (1 : Int32)]) rfl k) ?_
    show own_Go _ _ _ _ T55 (mkF m 18 #[sR a, sI (7 : Int32), sI (1 : Int32)] [])
    refine own_st (fun t k => XS.goto X55.here hx rfl (pc0 := 18) (pc' := 4) rfl (hb hby d9_18) (by decide) (by decide) k) ?_
    show own_Go _ _ _ _ T55 (mkF m 4 _ [])
    refine own_st (fun t k => XS.iloadN X55.here hx rfl (hb hby d9_4) rfl k) ?_
    show own_Go _ _ _ _ T55 (mkF m 5 _ [(.int (1 : Int32))])
    refine own_st (fun t k => XS.iconst X55.here hx rfl (hb hby d9_5) k) ?_
    show own_Go _ _ _ _ T55 (mkF m 6 _ [(.int (1 : Int32)), (.int (1 : Int32))])
    refine own_st (fun t k => XS.icmpNo X55.here hx rfl (hb hby d9_6) rfl (flt (by decide : ¬ ((1 : Int32) < (1 : Int32)))).1 k) ?_
    show own_Go _ _ _ _ T55 (mkF m 9 _ [])
    refine own_st (fun t k => XS.aloadN X55.here hx rfl (hb hby d9_9) rfl rfl k) ?_
    show own_Go _ _ _ _ T55 (mkF m 10 _ [(.ref a)])
    refine own_st (fun t k => XS.iloadN X55.here hx rfl (hb hby d9_10) rfl k) ?_
    show own_Go _ _ _ _ T55 (mkF m 11 _ [(.int (1 : Int32)), (.ref a)])
    obtain ⟨cq61, q61, q61'⟩ := f57.cell
    obtain ⟨_, _, ⟨T61, L61, k61, n61⟩, -, X61, ⟨Lc61, hQ61, l61, y61, z61⟩, st61⟩ := X55.privateBack hx (y := ym8) hown (mvT hZ (own_w hw 78 rfl)) (mvT hZ (own_w hw 79 rfl)) (own_selp (y := ym8) (mvT hZ (own_w hw 4 rfl)) (Cond.privateMethod_at (mvP hZ (own_w hw 80 rfl) (args := #[]))) (mvT hZ (own_w hw 79 rfl)) (by decide)) (Cond.privateMethod_at (mvP hZ (own_w hw 80 rfl) (args := #[]))) (mvT hZ (own_w hw 81 rfl)) (by decide) (backOf (W := 0) (rm20 l Z a0 hw [] a na kn (own_comb gn (3 : Int32).toNatClampNeg) (1 : Int32) T55.heap n0 Z59 f57 f58 fq55_0 n1 (by decide) g_na) hZ (own_w hw 81 rfl) (own_w hw 5 rfl) (by decide) (by decide)) (g := (mkF m 11 #[sR a, sI (7 : Int32), sI (1 : Int32)] [(.int (1 : Int32)), (.ref a)])) rfl (by rw [hml]; rfl) (Steps.refl _) (a := a) (by exact q61) q61' (argsL := [(.int (1 : Int32))]) (rest := []) (lenOf own_pd__I_V rfl) rfl (by show 2 * 0 + _ ≤ _; exact Nat.le_of_eq rfl) (hb hby d9_11) (fun _ _ => ⟨rfl, rfl, (by decide : 0 + 0 ≤ _), (by decide : 0 + 0 ≤ _)⟩)
    dsimp only [Pt.U, Pt.locs, Pt.cells, Pt.slots] at X61 l61 y61 z61 st61 hQ61
    subst l61 y61 z61
    obtain ⟨rfl, NQ61, K61, fq61_0⟩ := hQ61
    have N62 := Fr.app N56 NQ61
    refine own_st (fun t k => st61.trans k) ?_
    have f63 := f57.keep K61
    have f64 := f58.keep K61 (ninS (Ne.symm n1) nin0)
    have Z65 : n0 ≤ T61.heap.size := Nat.le_trans Z59 K61.1
    have K66 : Keep h0 T61.heap [na] := K60.trans K61 (allS (Or.inl (List.mem_of_getElem? (i := 0) rfl)) all0)
    show own_Go _ _ _ _ T61 (mkF m 14 _ [])
    refine own_st (fun t k => XS.iloadN X61.here hx rfl (hb hby d9_14) rfl k) ?_
    show own_Go _ _ _ _ T61 (mkF m 15 _ [(.int (1 : Int32))])
    refine own_st (fun t k => XS.iconst X61.here hx rfl (hb hby d9_15) k) ?_
    show own_Go _ _ _ _ T61 (mkF m 16 _ [(.int (1 : Int32)), (.int (1 : Int32))])
    refine own_st (fun t k => XS.ishr X61.here hx rfl (hb hby d9_16) rfl k) ?_
    show own_Go _ _ _ _ T61 (mkF m 17 _ [(.int (0 : Int32))])
    refine own_st (fun t k => XS.istoreN X61.here hx rfl (hb hby d9_17) rfl (l' := #[sR a, sI (7 : Int32), sI (0 : Int32)]) rfl k) ?_
    show own_Go _ _ _ _ T61 (mkF m 18 #[sR a, sI (7 : Int32), sI (0 : Int32)] [])
    refine own_st (fun t k => XS.goto X61.here hx rfl (pc0 := 18) (pc' := 4) rfl (hb hby d9_18) (by decide) (by decide) k) ?_
    show own_Go _ _ _ _ T61 (mkF m 4 _ [])
    refine own_st (fun t k => XS.iloadN X61.here hx rfl (hb hby d9_4) rfl k) ?_
    show own_Go _ _ _ _ T61 (mkF m 5 _ [(.int (0 : Int32))])
    refine own_st (fun t k => XS.iconst X61.here hx rfl (hb hby d9_5) k) ?_
    show own_Go _ _ _ _ T61 (mkF m 6 _ [(.int (1 : Int32)), (.int (0 : Int32))])
    refine own_st (fun t k => XS.icmpYes X61.here hx rfl (pc0 := 6) (pc' := 21) rfl (hb hby d9_6) rfl (tlt (by decide : ((0 : Int32) < (1 : Int32)))).1 (by decide) (by decide) k) ?_
    show own_Go _ _ _ _ T61 (mkF m 21 _ [])
    subst hPq
    refine own_out X61 (v := none) (fun _ => rfl) Bd.notSynchronized (fun fs hr => X61.returnOut hx Bd.returns (hb hby d9_21) hr) (by decide) (by decide) ?_
    show Q21 Z a na kn gn (7 : Int32) h0 n0 _ T61.heap _
    have eg : (own_comb (own_comb gn (3 : Int32).toNatClampNeg) (1 : Int32).toNatClampNeg) = (own_up gn (7 : Int32)) := by
        first | rfl | (simp only [own_lit0, own_lit1, own_lit2, own_lit3, own_lit4, own_lit5, own_lit6, own_lit7]; rfl)
    have fz67 := fq61_0
    rw [eg] at fz67
    exact ⟨rfl, N62, K66, fz67⟩
theorem d10_0 : decode qc10 0 = .ok (.iconst 4, 1) := by decide +kernel
theorem d10_1 : decode qc10 1 = .ok (.aload_n 0, 1) := by decide +kernel
theorem d10_2 : decode qc10 2 = .ok (.getfield 30, 3) := by decide +kernel
theorem d10_5 : decode qc10 5 = .ok (.iload_n 1, 1) := by decide +kernel
theorem d10_6 : decode qc10 6 = .ok (.iadd, 1) := by decide +kernel
theorem d10_7 : decode qc10 7 = .ok (.imul, 1) := by decide +kernel
theorem d10_8 : decode qc10 8 = .ok (.istore_n 2, 1) := by decide +kernel
theorem d10_9 : decode qc10 9 = .ok (.aload_n 0, 1) := by decide +kernel
theorem d10_10 : decode qc10 10 = .ok (.aload_n 0, 1) := by decide +kernel
theorem d10_11 : decode qc10 11 = .ok (.getfield 30, 3) := by decide +kernel
theorem d10_14 : decode qc10 14 = .ok (.iload_n 1, 1) := by decide +kernel
theorem d10_15 : decode qc10 15 = .ok (.iadd, 1) := by decide +kernel
theorem d10_16 : decode qc10 16 = .ok (.lconst 0, 1) := by decide +kernel
theorem d10_17 : decode qc10 17 = .ok (.ldc2_w 38, 3) := by decide +kernel
theorem d10_20 : decode qc10 20 = .ok (.aload_n 0, 1) := by decide +kernel
theorem d10_21 : decode qc10 21 = .ok (.getfield 15, 3) := by decide +kernel
theorem d10_24 : decode qc10 24 = .ok (.iload_n 2, 1) := by decide +kernel
theorem d10_25 : decode qc10 25 = .ok (.iconst 2, 1) := by decide +kernel
theorem d10_26 : decode qc10 26 = .ok (.iadd, 1) := by decide +kernel
theorem d10_27 : decode qc10 27 = .ok (.laload, 1) := by decide +kernel
theorem d10_28 : decode qc10 28 = .ok (.aload_n 0, 1) := by decide +kernel
theorem d10_29 : decode qc10 29 = .ok (.getfield 15, 3) := by decide +kernel
theorem d10_32 : decode qc10 32 = .ok (.iload_n 2, 1) := by decide +kernel
theorem d10_33 : decode qc10 33 = .ok (.iconst 3, 1) := by decide +kernel
theorem d10_34 : decode qc10 34 = .ok (.iadd, 1) := by decide +kernel
theorem d10_35 : decode qc10 35 = .ok (.laload, 1) := by decide +kernel
theorem d10_36 : decode qc10 36 = .ok (.invokevirtual 34, 3) := by decide +kernel
theorem d10_39 : decode qc10 39 = .ok (.aload_n 0, 1) := by decide +kernel
theorem d10_40 : decode qc10 40 = .ok (.aload_n 0, 1) := by decide +kernel
theorem d10_41 : decode qc10 41 = .ok (.getfield 30, 3) := by decide +kernel
theorem d10_44 : decode qc10 44 = .ok (.iload_n 1, 1) := by decide +kernel
theorem d10_45 : decode qc10 45 = .ok (.iadd, 1) := by decide +kernel
theorem d10_46 : decode qc10 46 = .ok (.invokevirtual 44, 3) := by decide +kernel
theorem d10_49 : decode qc10 49 = .ok (.return_, 1) := by decide +kernel
theorem own_pn22 : plainName "com/example/tidemark/tidemark/core/ThetaLambdaTree" = true := by first | (simp [plainName, overriddenIn]; done) | decide +kernel
theorem own_ef22 (m : MethodId) (a : Addr) (x1 : Int32) : entryFrame m #[(.ref a), (.int x1)] 3 = mkF m 0 #[sR a, sI x1, .unset] [] := by first | (simp [entryFrame, mkF, argsToLocals, Value.category]; done) | rfl
def Q22 (Z : State) (a : Addr) (na : Addr) (kn : ClassId) (gn : Nat → Int64) (x1 : Int32) (lq : Int32) (h0 : Heap) (n0 : Nat) (v : Option Value) (h : Heap) (L : List Loc) : Prop := v = none ∧ Fr n0 L ∧ Keep h0 h [na] ∧ own_AJ Z h na kn (32 : Int32) (own_up (own_gray gn (lq + x1).toNatClampNeg) (lq + x1))
set_option maxRecDepth 65536 in
set_option maxHeartbeats 4000000 in
theorem rm22 (l : Launch) (Z : State) (a0 : Array Value) (hw : ∀ d ∈ tables_1, d.before a0 Z = true) (ws : List Jvm.Cond) (a : Addr) (na : Addr) (kn : ClassId) (gn : Nat → Int64) (x1 : Int32) (lq : Int32) (h0 : Heap) (n0 : Nat) (Z0 : n0 ≤ h0.size) (F0 : Exa Z h0 a "com/example/tidemark/tidemark/core/ThetaLambdaTree") (F1 : Fld Z h0 a "com/example/tidemark/tidemark/core/ThetaLambdaTree" "nodes" "[J" (.ref na)) (F2 : own_AJ Z h0 na kn (32 : Int32) gn) (F3 : Fld Z h0 a "com/example/tidemark/tidemark/core/ThetaLambdaTree" "leaves" "I" (.int lq)) (n1 : na ≠ a) (hn : ¬ (lq + x1) < (1 : Int32) ∧ (lq + x1) < (8 : Int32)) (g_na : n0 ≤ na) :
    MetFree l ym10 (head1 (Jvm.Cond.code ym10 prog_46_method_4_code 3 none :: ws) (⟨3, 0, 0, 62⟩ : Room)) (fun aW U => aW = #[(.ref a), (.int x1)] ∧ Z.Warmed39 U.vm ∧ U.heap = h0) (fun _ _ _ _ _ => True) (fun _ U o U' => ∃ v L, o = .returned v ∧ Q22 Z a na kn gn x1 lq h0 n0 v U'.heap L ∧ FrameEnd U o U' L (⟨3, 0, 0, 62⟩ : Room).cells (⟨3, 0, 0, 62⟩ : Room).slots) := by
  refine MetFree.of_bodySF (plainFor_of_name own_pn22) hisR ?_
  intro p e s m args below meth c s₁ Bd hml0 hP hK
  obtain ⟨rfl, hZ, hh⟩ := hP
  have hx := Bd.exec
  have hby := Bd.bytes
  have hml : c.maxLocals = 3 := hml0
  have hown : s.vm.findClass "com/example/tidemark/tidemark/core/ThetaLambdaTree" = some m.cls := findClass_of_methodNamed Bd.named
  have hnm := (name_of_methodNamed Bd.named Bd.method).1
  have X0 : Stand p l e (⟨3, 0, 0, 62⟩ : Room) s m #[(.ref a), (.int x1)] below meth c s₁ [] 0 0 := Stand.of_body Bd
  have e0 : s₁.heap = h0 := by rw [← hh, Bd.state]; rfl
  have N0 := Fr.nil n0
  have K0 : Keep h0 h0 [na] := Keep.refl _ _
  obtain ⟨Pq, hPq⟩ : ∃ P, P = own_P s below (fun v h L => Q22 Z a na kn gn x1 lq h0 n0 v h L) (⟨3, 0, 0, 62⟩ : Room).cells (⟨3, 0, 0, 62⟩ : Room).slots := ⟨_, rfl⟩
  suffices hgo : own_Go p.tables e below Pq s₁ (mkF m 0 #[sR a, sI x1, .unset] []) by
    subst hPq
    obtain ⟨t, k1, k2, o, k3, k4⟩ := hgo
    exact ⟨t, o, castTop (own_ef22 m a x1) k1, k2, k3, k4⟩
  show own_Go _ _ _ _ s₁ (mkF m 0 #[sR a, sI x1, .unset] [])
  refine own_st (fun t k => XS.iconst X0.here hx rfl (hb hby d10_0) k) ?_
  show own_Go _ _ _ _ s₁ (mkF m 1 _ [(.int (4 : Int32))])
  refine own_st (fun t k => XS.aloadN X0.here hx rfl (hb hby d10_1) rfl rfl k) ?_
  show own_Go _ _ _ _ s₁ (mkF m 2 _ [(.ref a), (.int (4 : Int32))])
  obtain ⟨T1, X1, e1, st1⟩ := getF X0 hx hZ hown (host := "") (Or.inl (own_w hw 35 rfl)) Via.refl e0 F3 (g := (mkF m 2 #[sR a, sI x1, .unset] [(.ref a), (.int (4 : Int32))])) rfl rfl (hb hby d10_2)
  refine own_st st1 ?_
  show own_Go _ _ _ _ T1 (mkF m 5 _ [(.int lq), (.int (4 : Int32))])
  refine own_st (fun t k => XS.iloadN X1.here hx rfl (hb hby d10_5) rfl k) ?_
  show own_Go _ _ _ _ T1 (mkF m 6 _ [(.int x1), (.int lq), (.int (4 : Int32))])
  refine own_st (fun t k => XS.iadd X1.here hx rfl (hb hby d10_6) rfl k) ?_
  show own_Go _ _ _ _ T1 (mkF m 7 _ [(.int (lq + x1)), (.int (4 : Int32))])
  refine own_st (fun t k => XS.imul X1.here hx rfl (hb hby d10_7) rfl k) ?_
  show own_Go _ _ _ _ T1 (mkF m 8 _ [(.int ((4 : Int32) * (lq + x1)))])
  refine own_st (fun t k => XS.istoreN X1.here hx rfl (hb hby d10_8) rfl (l' := #[sR a, sI x1, sI ((4 : Int32) * (lq + x1))]) rfl k) ?_
  show own_Go _ _ _ _ T1 (mkF m 9 #[sR a, sI x1, sI ((4 : Int32) * (lq + x1))] [])
  refine own_st (fun t k => XS.aloadN X1.here hx rfl (hb hby d10_9) rfl rfl k) ?_
  show own_Go _ _ _ _ T1 (mkF m 10 _ [(.ref a)])
  refine own_st (fun t k => XS.aloadN X1.here hx rfl (hb hby d10_10) rfl rfl k) ?_
  show own_Go _ _ _ _ T1 (mkF m 11 _ [(.ref a), (.ref a)])
  obtain ⟨T2, X2, e2, st2⟩ := getF X1 hx hZ hown (host := "") (Or.inl (own_w hw 35 rfl)) Via.refl e1 F3 (g := (mkF m 11 #[sR a, sI x1, sI ((4 : Int32) * (lq + x1))] [(.ref a), (.ref a)])) rfl rfl (hb hby d10_11)
  refine own_st st2 ?_
  show own_Go _ _ _ _ T2 (mkF m 14 _ [(.int lq), (.ref a)])
  refine own_st (fun t k => XS.iloadN X2.here hx rfl (hb hby d10_14) rfl k) ?_
  show own_Go _ _ _ _ T2 (mkF m 15 _ [(.int x1), (.int lq), (.ref a)])
  refine own_st (fun t k => XS.iadd X2.here hx rfl (hb hby d10_15) rfl k) ?_
  show own_Go _ _ _ _ T2 (mkF m 16 _ [(.int (lq + x1)), (.ref a)])
  refine own_st (fun t k => XS.lconst X2.here hx rfl (hb hby d10_16) k) ?_
  show own_Go _ _ _ _ T2 (mkF m 17 _ [(.long (0 : Int64)), (.int (lq + x1)), (.ref a)])
  refine own_st (fun t k => X2.ldc2Long hx hown (mvT hZ (own_w hw 63 rfl)) (g := (mkF m 17 #[sR a, sI x1, sI ((4 : Int32) * (lq + x1))] [(.long (0 : Int64)), (.int (lq + x1)), (.ref a)])) rfl (hb hby d10_17) _ k) ?_
  show own_Go _ _ _ _ T2 (mkF m 20 _ [(.long (-4611686018427387904 : Int64)), (.long (0 : Int64)), (.int (lq + x1)), (.ref a)])
  refine own_st (fun t k => XS.aloadN X2.here hx rfl (hb hby d10_20) rfl rfl k) ?_
  show own_Go _ _ _ _ T2 (mkF m 21 _ [(.ref a), (.long (-4611686018427387904 : Int64)), (.long (0 : Int64)), (.int (lq + x1)), (.ref a)])
  obtain ⟨T3, X3, e3, st3⟩ := getF X2 hx hZ hown (host := "") (Or.inl (own_w hw 28 rfl)) Via.refl e2 F1 (g := (mkF m 21 #[sR a, sI x1, sI ((4 : Int32) * (lq + x1))] [(.ref a), (.long (-4611686018427387904 : Int64)), (.long (0 : Int64)), (.int (lq + x1)), (.ref a)])) rfl rfl (hb hby d10_21)
  refine own_st st3 ?_
  show own_Go _ _ _ _ T3 (mkF m 24 _ [(.ref na), (.long (-4611686018427387904 : Int64)), (.long (0 : Int64)), (.int (lq + x1)), (.ref a)])
  refine own_st (fun t k => XS.iloadN X3.here hx rfl (hb hby d10_24) rfl k) ?_
  show own_Go _ _ _ _ T3 (mkF m 25 _ [(.int ((4 : Int32) * (lq + x1))), (.ref na), (.long (-4611686018427387904 : Int64)), (.long (0 : Int64)), (.int (lq + x1)), (.ref a)])
  refine own_st (fun t k => XS.iconst X3.here hx rfl (hb hby d10_25) k) ?_
  show own_Go _ _ _ _ T3 (mkF m 26 _ [(.int (2 : Int32)), (.int ((4 : Int32) * (lq + x1))), (.ref na), (.long (-4611686018427387904 : Int64)), (.long (0 : Int64)), (.int (lq + x1)), (.ref a)])
  refine own_st (fun t k => XS.iadd X3.here hx rfl (hb hby d10_26) rfl k) ?_
  show own_Go _ _ _ _ T3 (mkF m 27 _ [(.int (((4 : Int32) * (lq + x1)) + (2 : Int32))), (.ref na), (.long (-4611686018427387904 : Int64)), (.long (0 : Int64)), (.int (lq + x1)), (.ref a)])
  obtain ⟨c4, Ar4, q4, S4, N4, H4⟩ := id F2
  refine own_st (fun t k => X3.laload hx (j := (((4 : Int32) * (lq + x1)) + (2 : Int32))) (v := (.long (gn (((4 : Int32) * (lq + x1)) + (2 : Int32)).toNatClampNeg))) (by rw [e3]; exact Ar4.1) (State.isArrayOf_alike hZ.alike Ar4.2.1) Ar4.2.2 (inb_of S4 (own_ixn hn 2 (by decide)).2) (H4 _ (own_lt (inb_of S4 (own_ixn hn 2 (by decide)).2))) (g := (mkF m 27 #[sR a, sI x1, sI ((4 : Int32) * (lq + x1))] [(.int (((4 : Int32) * (lq + x1)) + (2 : Int32))), (.ref na), (.long (-4611686018427387904 : Int64)), (.long (0 : Int64)), (.int (lq + x1)), (.ref a)])) rfl rfl (hb hby d10_27) _ k) ?_
  show own_Go _ _ _ _ T3 (mkF m 28 _ [(.long (gn (((4 : Int32) * (lq + x1)) + (2 : Int32)).toNatClampNeg)), (.long (-4611686018427387904 : Int64)), (.long (0 : Int64)), (.int (lq + x1)), (.ref a)])
  refine own_st (fun t k => XS.aloadN X3.here hx rfl (hb hby d10_28) rfl rfl k) ?_
  show own_Go _ _ _ _ T3 (mkF m 29 _ [(.ref a), (.long (gn (((4 : Int32) * (lq + x1)) + (2 : Int32)).toNatClampNeg)), (.long (-4611686018427387904 : Int64)), (.long (0 : Int64)), (.int (lq + x1)), (.ref a)])
  obtain ⟨T5, X5, e5, st5⟩ := getF X3 hx hZ hown (host := "") (Or.inl (own_w hw 28 rfl)) Via.refl e3 F1 (g := (mkF m 29 #[sR a, sI x1, sI ((4 : Int32) * (lq + x1))] [(.ref a), (.long (gn (((4 : Int32) * (lq + x1)) + (2 : Int32)).toNatClampNeg)), (.long (-4611686018427387904 : Int64)), (.long (0 : Int64)), (.int (lq + x1)), (.ref a)])) rfl rfl (hb hby d10_29)
  refine own_st st5 ?_
  show own_Go _ _ _ _ T5 (mkF m 32 _ [(.ref na), (.long (gn (((4 : Int32) * (lq + x1)) + (2 : Int32)).toNatClampNeg)), (.long (-4611686018427387904 : Int64)), (.long (0 : Int64)), (.int (lq + x1)), (.ref a)])
  refine own_st (fun t k => XS.iloadN X5.here hx rfl (hb hby d10_32) rfl k) ?_
  show own_Go _ _ _ _ T5 (mkF m 33 _ [(.int ((4 : Int32) * (lq + x1))), (.ref na), (.long (gn (((4 : Int32) * (lq + x1)) + (2 : Int32)).toNatClampNeg)), (.long (-4611686018427387904 : Int64)), (.long (0 : Int64)), (.int (lq + x1)), (.ref a)])
  refine own_st (fun t k => XS.iconst X5.here hx rfl (hb hby d10_33) k) ?_
  show own_Go _ _ _ _ T5 (mkF m 34 _ [(.int (3 : Int32)), (.int ((4 : Int32) * (lq + x1))), (.ref na), (.long (gn (((4 : Int32) * (lq + x1)) + (2 : Int32)).toNatClampNeg)), (.long (-4611686018427387904 : Int64)), (.long (0 : Int64)), (.int (lq + x1)), (.ref a)])
  refine own_st (fun t k => XS.iadd X5.here hx rfl (hb hby d10_34) rfl k) ?_
  show own_Go _ _ _ _ T5 (mkF m 35 _ [(.int (((4 : Int32) * (lq + x1)) + (3 : Int32))), (.ref na), (.long (gn (((4 : Int32) * (lq + x1)) + (2 : Int32)).toNatClampNeg)), (.long (-4611686018427387904 : Int64)), (.long (0 : Int64)), (.int (lq + x1)), (.ref a)])
  obtain ⟨c6, Ar6, q6, S6, N6, H6⟩ := id F2
  refine own_st (fun t k => X5.laload hx (j := (((4 : Int32) * (lq + x1)) + (3 : Int32))) (v := (.long (gn (((4 : Int32) * (lq + x1)) + (3 : Int32)).toNatClampNeg))) (by rw [e5]; exact Ar6.1) (State.isArrayOf_alike hZ.alike Ar6.2.1) Ar6.2.2 (inb_of S6 (own_ixn hn 3 (by decide)).2) (H6 _ (own_lt (inb_of S6 (own_ixn hn 3 (by decide)).2))) (g := (mkF m 35 #[sR a, sI x1, sI ((4 : Int32) * (lq + x1))] [(.int (((4 : Int32) * (lq + x1)) + (3 : Int32))), (.ref na), (.long (gn (((4 : Int32) * (lq + x1)) + (2 : Int32)).toNatClampNeg)), (.long (-4611686018427387904 : Int64)), (.long (0 : Int64)), (.int (lq + x1)), (.ref a)])) rfl rfl (hb hby d10_35) _ k) ?_
  show own_Go _ _ _ _ T5 (mkF m 36 _ [(.long (gn (((4 : Int32) * (lq + x1)) + (3 : Int32)).toNatClampNeg)), (.long (gn (((4 : Int32) * (lq + x1)) + (2 : Int32)).toNatClampNeg)), (.long (-4611686018427387904 : Int64)), (.long (0 : Int64)), (.int (lq + x1)), (.ref a)])
  obtain ⟨cq7, q7, q7'⟩ := F0.cell
  obtain ⟨_, _, ⟨T7, L7, k7, n7⟩, -, X7, ⟨Lc7, hQ7, l7, y7, z7⟩, st7⟩ := X5.privateBack hx (y := ym7) hown (mvT hZ (own_w hw 37 rfl)) (mvT hZ (own_w hw 38 rfl)) (own_selp (y := ym7) (mvT hZ (own_w hw 4 rfl)) (Cond.privateMethod_at (mvP hZ (own_w hw 39 rfl) (args := #[]))) (mvT hZ (own_w hw 38 rfl)) (by decide)) (Cond.privateMethod_at (mvP hZ (own_w hw 39 rfl) (args := #[]))) (mvT hZ (own_w hw 40 rfl)) (by decide) (backOf (W := 0) (rm19 l Z a0 hw [] a na kn gn (lq + x1) (0 : Int64) (-4611686018427387904 : Int64) (gn (((4 : Int32) * (lq + x1)) + (2 : Int32)).toNatClampNeg) (gn (((4 : Int32) * (lq + x1)) + (3 : Int32)).toNatClampNeg) h0 n0 Z0 F0 F1 F2 n1 hn g_na) hZ (own_w hw 40 rfl) (own_w hw 5 rfl) (by decide) (by decide)) (g := (mkF m 36 #[sR a, sI x1, sI ((4 : Int32) * (lq + x1))] [(.long (gn (((4 : Int32) * (lq + x1)) + (3 : Int32)).toNatClampNeg)), (.long (gn (((4 : Int32) * (lq + x1)) + (2 : Int32)).toNatClampNeg)), (.long (-4611686018427387904 : Int64)), (.long (0 : Int64)), (.int (lq + x1)), (.ref a)])) rfl (by rw [hml]; rfl) (Steps.refl _) (a := a) (by rw [e5]; exact q7) q7' (argsL := [(.int (lq + x1)), (.long (0 : Int64)), (.long (-4611686018427387904 : Int64)), (.long (gn (((4 : Int32) * (lq + x1)) + (2 : Int32)).toNatClampNeg)), (.long (gn (((4 : Int32) * (lq + x1)) + (3 : Int32)).toNatClampNeg))]) (rest := []) (lenOf own_pd__IJJJJ_V rfl) rfl (by show 2 * 0 + _ ≤ _; exact Nat.le_of_eq rfl) (hb hby d10_36) (fun _ _ => ⟨rfl, e5, (by decide : 0 + 0 ≤ _), (by decide : 0 + 0 ≤ _)⟩)
  dsimp only [Pt.U, Pt.locs, Pt.cells, Pt.slots] at X7 l7 y7 z7 st7 hQ7
  subst l7 y7 z7
  obtain ⟨rfl, NQ7, K7, fq7_0⟩ := hQ7
  have N8 := Fr.app N0 NQ7
  refine own_st (fun t k => st7.trans k) ?_
  have f9 := F0.keep K7
  have f10 := F1.keep K7 (ninS (Ne.symm n1) nin0)
  have f11 := F3.keep K7 (ninS (Ne.symm n1) nin0)
  have Z12 : n0 ≤ T7.heap.size := Nat.le_trans Z0 K7.1
  have K13 : Keep h0 T7.heap [na] := K0.trans K7 (allS (Or.inl (List.mem_of_getElem? (i := 0) rfl)) all0)
  show own_Go _ _ _ _ T7 (mkF m 39 _ [])
  refine own_st (fun t k => XS.aloadN X7.here hx rfl (hb hby d10_39) rfl rfl k) ?_
  show own_Go _ _ _ _ T7 (mkF m 40 _ [(.ref a)])
  refine own_st (fun t k => XS.aloadN X7.here hx rfl (hb hby d10_40) rfl rfl k) ?_
  show own_Go _ _ _ _ T7 (mkF m 41 _ [(.ref a), (.ref a)])
  obtain ⟨T14, X14, e14, st14⟩ := getF X7 hx hZ hown (host := "") (Or.inl (own_w hw 35 rfl)) Via.refl rfl f11 (g := (mkF m 41 #[sR a, sI x1, sI ((4 : Int32) * (lq + x1))] [(.ref a), (.ref a)])) rfl rfl (hb hby d10_41)
  refine own_st st14 ?_
  show own_Go _ _ _ _ T14 (mkF m 44 _ [(.int lq), (.ref a)])
  refine own_st (fun t k => XS.iloadN X14.here hx rfl (hb hby d10_44) rfl k) ?_
  show own_Go _ _ _ _ T14 (mkF m 45 _ [(.int x1), (.int lq), (.ref a)])
  refine own_st (fun t k => XS.iadd X14.here hx rfl (hb hby d10_45) rfl k) ?_
  show own_Go _ _ _ _ T14 (mkF m 46 _ [(.int (lq + x1)), (.ref a)])
  obtain ⟨cq15, q15, q15'⟩ := f9.cell
  obtain ⟨_, _, ⟨T15, L15, k15, n15⟩, -, X15, ⟨Lc15, hQ15, l15, y15, z15⟩, st15⟩ := X14.privateBack hx (y := ym9) hown (mvT hZ (own_w hw 64 rfl)) (mvT hZ (own_w hw 65 rfl)) (own_selp (y := ym9) (mvT hZ (own_w hw 4 rfl)) (Cond.privateMethod_at (mvP hZ (own_w hw 66 rfl) (args := #[]))) (mvT hZ (own_w hw 65 rfl)) (by decide)) (Cond.privateMethod_at (mvP hZ (own_w hw 66 rfl) (args := #[]))) (mvT hZ (own_w hw 67 rfl)) (by decide) (backOf (W := 0) (rm21 l Z a0 hw [] a na kn (own_set gn (lq + x1).toNatClampNeg (0 : Int64) (-4611686018427387904 : Int64) (gn (((4 : Int32) * (lq + x1)) + (2 : Int32)).toNatClampNeg) (gn (((4 : Int32) * (lq + x1)) + (3 : Int32)).toNatClampNeg)) (lq + x1) T7.heap n0 Z12 f9 f10 fq7_0 n1 hn g_na) hZ (own_w hw 67 rfl) (own_w hw 5 rfl) (by decide) (by decide)) (g := (mkF m 46 #[sR a, sI x1, sI ((4 : Int32) * (lq + x1))] [(.int (lq + x1)), (.ref a)])) rfl (by rw [hml]; rfl) (Steps.refl _) (a := a) (by rw [e14]; exact q15) q15' (argsL := [(.int (lq + x1))]) (rest := []) (lenOf own_pd__I_V rfl) rfl (by show 2 * 0 + _ ≤ _; exact Nat.le_of_eq rfl) (hb hby d10_46) (fun _ _ => ⟨rfl, e14, (by decide : 0 + 0 ≤ _), (by decide : 0 + 0 ≤ _)⟩)
  dsimp only [Pt.U, Pt.locs, Pt.cells, Pt.slots] at X15 l15 y15 z15 st15 hQ15
  subst l15 y15 z15
  obtain ⟨rfl, NQ15, K15, fq15_0⟩ := hQ15
  have N16 := Fr.app N8 NQ15
  refine own_st (fun t k => st15.trans k) ?_
  have f17 := f9.keep K15
  have f18 := f10.keep K15 (ninS (Ne.symm n1) nin0)
  have f19 := f11.keep K15 (ninS (Ne.symm n1) nin0)
  have Z20 : n0 ≤ T15.heap.size := Nat.le_trans Z12 K15.1
  have K21 : Keep h0 T15.heap [na] := K13.trans K15 (allS (Or.inl (List.mem_of_getElem? (i := 0) rfl)) all0)
  show own_Go _ _ _ _ T15 (mkF m 49 _ [])
  subst hPq
  refine own_out X15 (v := none) (fun _ => rfl) Bd.notSynchronized (fun fs hr => X15.returnOut hx Bd.returns (hb hby d10_49) hr) (by decide) (by decide) ?_
  show Q22 Z a na kn gn x1 lq h0 n0 _ T15.heap _
  have eg : (own_up (own_set gn (lq + x1).toNatClampNeg (0 : Int64) (-4611686018427387904 : Int64) (gn (((4 : Int32) * (lq + x1)) + (2 : Int32)).toNatClampNeg) (gn (((4 : Int32) * (lq + x1)) + (3 : Int32)).toNatClampNeg)) (lq + x1)) = (own_up (own_gray gn (lq + x1).toNatClampNeg) (lq + x1)) := by
      unfold own_gray
      rw [(own_ixn hn 2 (by decide)).1, (own_ixn hn 3 (by decide)).1]; rfl
  have fz22 := fq15_0
  rw [eg] at fz22
  exact ⟨rfl, N16, K21, fz22⟩
theorem d11_0 : decode qc11 0 = .ok (.aload_n 0, 1) := by decide +kernel
theorem d11_1 : decode qc11 1 = .ok (.aload_n 0, 1) := by decide +kernel
theorem d11_2 : decode qc11 2 = .ok (.getfield 30, 3) := by decide +kernel
theorem d11_5 : decode qc11 5 = .ok (.iload_n 1, 1) := by decide +kernel
theorem d11_6 : decode qc11 6 = .ok (.iadd, 1) := by decide +kernel
theorem d11_7 : decode qc11 7 = .ok (.lconst 0, 1) := by decide +kernel
theorem d11_8 : decode qc11 8 = .ok (.ldc2_w 38, 3) := by decide +kernel
theorem d11_11 : decode qc11 11 = .ok (.lconst 0, 1) := by decide +kernel
theorem d11_12 : decode qc11 12 = .ok (.ldc2_w 38, 3) := by decide +kernel
theorem d11_15 : decode qc11 15 = .ok (.invokevirtual 34, 3) := by decide +kernel
theorem d11_18 : decode qc11 18 = .ok (.aload_n 0, 1) := by decide +kernel
theorem d11_19 : decode qc11 19 = .ok (.aload_n 0, 1) := by decide +kernel
theorem d11_20 : decode qc11 20 = .ok (.getfield 30, 3) := by decide +kernel
theorem d11_23 : decode qc11 23 = .ok (.iload_n 1, 1) := by decide +kernel
theorem d11_24 : decode qc11 24 = .ok (.iadd, 1) := by decide +kernel
theorem d11_25 : decode qc11 25 = .ok (.invokevirtual 44, 3) := by decide +kernel
theorem d11_28 : decode qc11 28 = .ok (.return_, 1) := by decide +kernel
theorem own_pn23 : plainName "com/example/tidemark/tidemark/core/ThetaLambdaTree" = true := by first | (simp [plainName, overriddenIn]; done) | decide +kernel
theorem own_ef23 (m : MethodId) (a : Addr) (x1 : Int32) : entryFrame m #[(.ref a), (.int x1)] 2 = mkF m 0 #[sR a, sI x1] [] := by first | (simp [entryFrame, mkF, argsToLocals, Value.category]; done) | rfl
def Q23 (Z : State) (a : Addr) (na : Addr) (kn : ClassId) (gn : Nat → Int64) (x1 : Int32) (lq : Int32) (h0 : Heap) (n0 : Nat) (v : Option Value) (h : Heap) (L : List Loc) : Prop := v = none ∧ Fr n0 L ∧ Keep h0 h [na] ∧ own_AJ Z h na kn (32 : Int32) (own_up (own_rem gn (lq + x1).toNatClampNeg) (lq + x1))
set_option maxRecDepth 65536 in
set_option maxHeartbeats 4000000 in
theorem rm23 (l : Launch) (Z : State) (a0 : Array Value) (hw : ∀ d ∈ tables_1, d.before a0 Z = true) (ws : List Jvm.Cond) (a : Addr) (na : Addr) (kn : ClassId) (gn : Nat → Int64) (x1 : Int32) (lq : Int32) (h0 : Heap) (n0 : Nat) (Z0 : n0 ≤ h0.size) (F0 : Exa Z h0 a "com/example/tidemark/tidemark/core/ThetaLambdaTree") (F1 : Fld Z h0 a "com/example/tidemark/tidemark/core/ThetaLambdaTree" "nodes" "[J" (.ref na)) (F2 : own_AJ Z h0 na kn (32 : Int32) gn) (F3 : Fld Z h0 a "com/example/tidemark/tidemark/core/ThetaLambdaTree" "leaves" "I" (.int lq)) (n1 : na ≠ a) (hn : ¬ (lq + x1) < (1 : Int32) ∧ (lq + x1) < (8 : Int32)) (g_na : n0 ≤ na) :
    MetFree l ym11 (head1 (Jvm.Cond.code ym11 prog_46_method_5_code 2 none :: ws) (⟨3, 0, 0, 62⟩ : Room)) (fun aW U => aW = #[(.ref a), (.int x1)] ∧ Z.Warmed39 U.vm ∧ U.heap = h0) (fun _ _ _ _ _ => True) (fun _ U o U' => ∃ v L, o = .returned v ∧ Q23 Z a na kn gn x1 lq h0 n0 v U'.heap L ∧ FrameEnd U o U' L (⟨3, 0, 0, 62⟩ : Room).cells (⟨3, 0, 0, 62⟩ : Room).slots) := by
  refine MetFree.of_bodySF (plainFor_of_name own_pn23) hisR ?_
  intro p e s m args below meth c s₁ Bd hml0 hP hK
  obtain ⟨rfl, hZ, hh⟩ := hP
  have hx := Bd.exec
  have hby := Bd.bytes
  have hml : c.maxLocals = 2 := hml0
  have hown : s.vm.findClass "com/example/tidemark/tidemark/core/ThetaLambdaTree" = some m.cls := findClass_of_methodNamed Bd.named
  have hnm := (name_of_methodNamed Bd.named Bd.method).1
  have X0 : Stand p l e (⟨3, 0, 0, 62⟩ : Room) s m #[(.ref a), (.int x1)] below meth c s₁ [] 0 0 := Stand.of_body Bd
  have e0 : s₁.heap = h0 := by rw [← hh, Bd.state]; rfl
  have N0 := Fr.nil n0
  have K0 : Keep h0 h0 [na] := Keep.refl _ _
  obtain ⟨Pq, hPq⟩ : ∃ P, P = own_P s below (fun v h L => Q23 Z a na kn gn x1 lq h0 n0 v h L) (⟨3, 0, 0, 62⟩ : Room).cells (⟨3, 0, 0, 62⟩ : Room).slots := ⟨_, rfl⟩
  suffices hgo : own_Go p.tables e below Pq s₁ (mkF m 0 #[sR a, sI x1] []) by
    subst hPq
    obtain ⟨t, k1, k2, o, k3, k4⟩ := hgo
    exact ⟨t, o, castTop (own_ef23 m a x1) k1, k2, k3, k4⟩
  show own_Go _ _ _ _ s₁ (mkF m 0 #[sR a, sI x1] [])
  refine own_st (fun t k => XS.aloadN X0.here hx rfl (hb hby d11_0) rfl rfl k) ?_
  show own_Go _ _ _ _ s₁ (mkF m 1 _ [(.ref a)])
  refine own_st (fun t k => XS.aloadN X0.here hx rfl (hb hby d11_1) rfl rfl k) ?_
  show own_Go _ _ _ _ s₁ (mkF m 2 _ [(.ref a), (.ref a)])
  obtain ⟨T1, X1, e1, st1⟩ := getF X0 hx hZ hown (host := "") (Or.inl (own_w hw 35 rfl)) Via.refl e0 F3 (g := (mkF m 2 #[sR a, sI x1] [(.ref a), (.ref a)])) rfl rfl (hb hby d11_2)
  refine own_st st1 ?_
  show own_Go _ _ _ _ T1 (mkF m 5 _ [(.int lq), (.ref a)])
  refine own_st (fun t k => XS.iloadN X1.here hx rfl (hb hby d11_5) rfl k) ?_
  show own_Go _ _ _ _ T1 (mkF m 6 _ [(.int x1), (.int lq), (.ref a)])
  refine own_st (fun t k => XS.iadd X1.here hx rfl (hb hby d11_6) rfl k) ?_
  show own_Go _ _ _ _ T1 (mkF m 7 _ [(.int (lq + x1)), (.ref a)])
  refine own_st (fun t k => XS.lconst X1.here hx rfl (hb hby d11_7) k) ?_
  show own_Go _ _ _ _ T1 (mkF m 8 _ [(.long (0 : Int64)), (.int (lq + x1)), (.ref a)])
  refine own_st (fun t k => X1.ldc2Long hx hown (mvT hZ (own_w hw 63 rfl)) (g := (mkF m 8 #[sR a, sI x1] [(.long (0 : Int64)), (.int (lq + x1)), (.ref a)])) rfl (hb hby d11_8) _ k) ?_
  show own_Go _ _ _ _ T1 (mkF m 11 _ [(.long (-4611686018427387904 : Int64)), (.long (0 : Int64)), (.int (lq + x1)), (.ref a)])
  refine own_st (fun t k => XS.lconst X1.here hx rfl (hb hby d11_11) k) ?_
  show own_Go _ _ _ _ T1 (mkF m 12 _ [(.long (0 : Int64)), (.long (-4611686018427387904 : Int64)), (.long (0 : Int64)), (.int (lq + x1)), (.ref a)])
  refine own_st (fun t k => X1.ldc2Long hx hown (mvT hZ (own_w hw 63 rfl)) (g := (mkF m 12 #[sR a, sI x1] [(.long (0 : Int64)), (.long (-4611686018427387904 : Int64)), (.long (0 : Int64)), (.int (lq + x1)), (.ref a)])) rfl (hb hby d11_12) _ k) ?_
  show own_Go _ _ _ _ T1 (mkF m 15 _ [(.long (-4611686018427387904 : Int64)), (.long (0 : Int64)), (.long (-4611686018427387904 : Int64)), (.long (0 : Int64)), (.int (lq + x1)), (.ref a)])
  obtain ⟨cq2, q2, q2'⟩ := F0.cell
  obtain ⟨_, _, ⟨T2, L2, k2, n2⟩, -, X2, ⟨Lc2, hQ2, l2, y2, z2⟩, st2⟩ := X1.privateBack hx (y := ym7) hown (mvT hZ (own_w hw 37 rfl)) (mvT hZ (own_w hw 38 rfl)) (own_selp (y := ym7) (mvT hZ (own_w hw 4 rfl)) (Cond.privateMethod_at (mvP hZ (own_w hw 39 rfl) (args := #[]))) (mvT hZ (own_w hw 38 rfl)) (by decide)) (Cond.privateMethod_at (mvP hZ (own_w hw 39 rfl) (args := #[]))) (mvT hZ (own_w hw 40 rfl)) (by decide) (backOf (W := 0) (rm19 l Z a0 hw [] a na kn gn (lq + x1) (0 : Int64) (-4611686018427387904 : Int64) (0 : Int64) (-4611686018427387904 : Int64) h0 n0 Z0 F0 F1 F2 n1 hn g_na) hZ (own_w hw 40 rfl) (own_w hw 5 rfl) (by decide) (by decide)) (g := (mkF m 15 #[sR a, sI x1] [(.long (-4611686018427387904 : Int64)), (.long (0 : Int64)), (.long (-4611686018427387904 : Int64)), (.long (0 : Int64)), (.int (lq + x1)), (.ref a)])) rfl (by rw [hml]; rfl) (Steps.refl _) (a := a) (by rw [e1]; exact q2) q2' (argsL := [(.int (lq + x1)), (.long (0 : Int64)), (.long (-4611686018427387904 : Int64)), (.long (0 : Int64)), (.long (-4611686018427387904 : Int64))]) (rest := []) (lenOf own_pd__IJJJJ_V rfl) rfl (by show 2 * 0 + _ ≤ _; exact Nat.le_of_eq rfl) (hb hby d11_15) (fun _ _ => ⟨rfl, e1, (by decide : 0 + 0 ≤ _), (by decide : 0 + 0 ≤ _)⟩)
  dsimp only [Pt.U, Pt.locs, Pt.cells, Pt.slots] at X2 l2 y2 z2 st2 hQ2
  subst l2 y2 z2
  obtain ⟨rfl, NQ2, K2, fq2_0⟩ := hQ2
  have N3 := Fr.app N0 NQ2
  refine own_st (fun t k => st2.trans k) ?_
  have f4 := F0.keep K2
  have f5 := F1.keep K2 (ninS (Ne.symm n1) nin0)
  have f6 := F3.keep K2 (ninS (Ne.symm n1) nin0)
  have Z7 : n0 ≤ T2.heap.size := Nat.le_trans Z0 K2.1
  have K8 : Keep h0 T2.heap [na] := K0.trans K2 (allS (Or.inl (List.mem_of_getElem? (i := 0) rfl)) all0)
  show own_Go _ _ _ _ T2 (mkF m 18 _ [])
  refine own_st (fun t k => XS.aloadN X2.here hx rfl (hb hby d11_18) rfl rfl k) ?_
  show own_Go _ _ _ _ T2 (mkF m 19 _ [(.ref a)])
  refine own_st (fun t k => XS.aloadN X2.here hx rfl (hb hby d11_19) rfl rfl k) ?_
  show own_Go _ _ _ _ T2 (mkF m 20 _ [(.ref a), (.ref a)])
  obtain ⟨T9, X9, e9, st9⟩ := getF X2 hx hZ hown (host := "") (Or.inl (own_w hw 35 rfl)) Via.refl rfl f6 (g := (mkF m 20 #[sR a, sI x1] [(.ref a), (.ref a)])) rfl rfl (hb hby d11_20)
  refine own_st st9 ?_
  show own_Go _ _ _ _ T9 (mkF m 23 _ [(.int lq), (.ref a)])
  refine own_st (fun t k => XS.iloadN X9.here hx rfl (hb hby d11_23) rfl k) ?_
  show own_Go _ _ _ _ T9 (mkF m 24 _ [(.int x1), (.int lq), (.ref a)])
  refine own_st (fun t k => XS.iadd X9.here hx rfl (hb hby d11_24) rfl k) ?_
  show own_Go _ _ _ _ T9 (mkF m 25 _ [(.int (lq + x1)), (.ref a)])
  obtain ⟨cq10, q10, q10'⟩ := f4.cell
  obtain ⟨_, _, ⟨T10, L10, k10, n10⟩, -, X10, ⟨Lc10, hQ10, l10, y10, z10⟩, st10⟩ := X9.privateBack hx (y := ym9) hown (mvT hZ (own_w hw 64 rfl)) (mvT hZ (own_w hw 65 rfl)) (own_selp (y := ym9) (mvT hZ (own_w hw 4 rfl)) (Cond.privateMethod_at (mvP hZ (own_w hw 66 rfl) (args := #[]))) (mvT hZ (own_w hw 65 rfl)) (by decide)) (Cond.privateMethod_at (mvP hZ (own_w hw 66 rfl) (args := #[]))) (mvT hZ (own_w hw 67 rfl)) (by decide) (backOf (W := 0) (rm21 l Z a0 hw [] a na kn (own_set gn (lq + x1).toNatClampNeg (0 : Int64) (-4611686018427387904 : Int64) (0 : Int64) (-4611686018427387904 : Int64)) (lq + x1) T2.heap n0 Z7 f4 f5 fq2_0 n1 hn g_na) hZ (own_w hw 67 rfl) (own_w hw 5 rfl) (by decide) (by decide)) (g := (mkF m 25 #[sR a, sI x1] [(.int (lq + x1)), (.ref a)])) rfl (by rw [hml]; rfl) (Steps.refl _) (a := a) (by rw [e9]; exact q10) q10' (argsL := [(.int (lq + x1))]) (rest := []) (lenOf own_pd__I_V rfl) rfl (by show 2 * 0 + _ ≤ _; exact Nat.le_of_eq rfl) (hb hby d11_25) (fun _ _ => ⟨rfl, e9, (by decide : 0 + 0 ≤ _), (by decide : 0 + 0 ≤ _)⟩)
  dsimp only [Pt.U, Pt.locs, Pt.cells, Pt.slots] at X10 l10 y10 z10 st10 hQ10
  subst l10 y10 z10
  obtain ⟨rfl, NQ10, K10, fq10_0⟩ := hQ10
  have N11 := Fr.app N3 NQ10
  refine own_st (fun t k => st10.trans k) ?_
  have f12 := f4.keep K10
  have f13 := f5.keep K10 (ninS (Ne.symm n1) nin0)
  have f14 := f6.keep K10 (ninS (Ne.symm n1) nin0)
  have Z15 : n0 ≤ T10.heap.size := Nat.le_trans Z7 K10.1
  have K16 : Keep h0 T10.heap [na] := K8.trans K10 (allS (Or.inl (List.mem_of_getElem? (i := 0) rfl)) all0)
  show own_Go _ _ _ _ T10 (mkF m 28 _ [])
  subst hPq
  refine own_out X10 (v := none) (fun _ => rfl) Bd.notSynchronized (fun fs hr => X10.returnOut hx Bd.returns (hb hby d11_28) hr) (by decide) (by decide) ?_
  show Q23 Z a na kn gn x1 lq h0 n0 _ T10.heap _
  have eg : (own_up (own_set gn (lq + x1).toNatClampNeg (0 : Int64) (-4611686018427387904 : Int64) (0 : Int64) (-4611686018427387904 : Int64)) (lq + x1)) = (own_up (own_rem gn (lq + x1).toNatClampNeg) (lq + x1)) := by
      rfl
  have fz17 := fq10_0
  rw [eg] at fz17
  exact ⟨rfl, N11, K16, fz17⟩
theorem d12_0 : decode qc12 0 = .ok (.iload_n 1, 1) := by decide +kernel
theorem d12_1 : decode qc12 1 = .ok (.iload_n 3, 1) := by decide +kernel
theorem d12_2 : decode qc12 2 = .ok (.if_icmp .lt 4, 3) := by decide +kernel
theorem d12_5 : decode qc12 5 = .ok (.return_, 1) := by decide +kernel
theorem d12_6 : decode qc12 6 = .ok (.iload_n 2, 1) := by decide +kernel
theorem d12_7 : decode qc12 7 = .ok (.iconst 1, 1) := by decide +kernel
theorem d12_8 : decode qc12 8 = .ok (.if_icmp .ne 11, 3) := by decide +kernel
theorem d12_11 : decode qc12 11 = .ok (.aload_n 0, 1) := by decide +kernel
theorem d12_12 : decode qc12 12 = .ok (.iload_n 1, 1) := by decide +kernel
theorem d12_13 : decode qc12 13 = .ok (.invokevirtual 36, 3) := by decide +kernel
theorem d12_16 : decode qc12 16 = .ok (.goto 13, 3) := by decide +kernel
theorem d12_19 : decode qc12 19 = .ok (.iload_n 2, 1) := by decide +kernel
theorem d12_20 : decode qc12 20 = .ok (.iconst 2, 1) := by decide +kernel
theorem d12_21 : decode qc12 21 = .ok (.if_icmp .ne 8, 3) := by decide +kernel
theorem d12_24 : decode qc12 24 = .ok (.aload_n 0, 1) := by decide +kernel
theorem d12_25 : decode qc12 25 = .ok (.iload_n 1, 1) := by decide +kernel
theorem d12_26 : decode qc12 26 = .ok (.invokevirtual 39, 3) := by decide +kernel
theorem d12_29 : decode qc12 29 = .ok (.return_, 1) := by decide +kernel
theorem own_pn24 : plainName "com/example/tidemark/tidemark/core/ThetaLambdaTreeResponsibleGrayPinLaw" = true := by first | (simp [plainName, overriddenIn]; done) | decide +kernel
theorem own_ef24 (m : MethodId) (a : Addr) (x1 : Int32) (x2 : Int32) (x3 : Int32) : entryFrame m #[(.ref a), (.int x1), (.int x2), (.int x3)] 4 = mkF m 0 #[sR a, sI x1, sI x2, sI x3] [] := by first | (simp [entryFrame, mkF, argsToLocals, Value.category]; done) | rfl
def Q24 (Z : State) (a : Addr) (na : Addr) (kn : ClassId) (gn : Nat → Int64) (x1 : Int32) (x2 : Int32) (x3 : Int32) (lq : Int32) (h0 : Heap) (n0 : Nat) (v : Option Value) (h : Heap) (L : List Loc) : Prop := v = none ∧ Fr n0 L ∧ Keep h0 h [na] ∧ own_AJ Z h na kn (32 : Int32) (own_apl gn lq x1 x2 x3)
set_option maxRecDepth 65536 in
set_option maxHeartbeats 4000000 in
theorem rm24 (l : Launch) (Z : State) (a0 : Array Value) (hw : ∀ d ∈ tables_1, d.before a0 Z = true) (ws : List Jvm.Cond) (a : Addr) (na : Addr) (kn : ClassId) (gn : Nat → Int64) (x1 : Int32) (x2 : Int32) (x3 : Int32) (lq : Int32) (h0 : Heap) (n0 : Nat) (Z0 : n0 ≤ h0.size) (F0 : Exa Z h0 a "com/example/tidemark/tidemark/core/ThetaLambdaTree") (F1 : Fld Z h0 a "com/example/tidemark/tidemark/core/ThetaLambdaTree" "nodes" "[J" (.ref na)) (F2 : own_AJ Z h0 na kn (32 : Int32) gn) (F3 : Fld Z h0 a "com/example/tidemark/tidemark/core/ThetaLambdaTree" "leaves" "I" (.int lq)) (n1 : na ≠ a) (hn : x1 < x3 → ¬ (lq + x1) < (1 : Int32) ∧ (lq + x1) < (8 : Int32)) (g_na : n0 ≤ na) :
    MetFree l ym12 (head1 (Jvm.Cond.code ym12 method_3_code 4 none :: ws) (⟨4, 0, 0, 76⟩ : Room)) (fun aW U => aW = #[(.ref a), (.int x1), (.int x2), (.int x3)] ∧ Z.Warmed39 U.vm ∧ U.heap = h0) (fun _ _ _ _ _ => True) (fun _ U o U' => ∃ v L, o = .returned v ∧ Q24 Z a na kn gn x1 x2 x3 lq h0 n0 v U'.heap L ∧ FrameEnd U o U' L (⟨4, 0, 0, 76⟩ : Room).cells (⟨4, 0, 0, 76⟩ : Room).slots) := by
  refine MetFree.of_bodySF (plainFor_of_name own_pn24) hisR ?_
  intro p e s m args below meth c s₁ Bd hml0 hP hK
  obtain ⟨rfl, hZ, hh⟩ := hP
  have hx := Bd.exec
  have hby := Bd.bytes
  have hml : c.maxLocals = 4 := hml0
  have hown : s.vm.findClass "com/example/tidemark/tidemark/core/ThetaLambdaTreeResponsibleGrayPinLaw" = some m.cls := findClass_of_methodNamed Bd.named
  have hnm := (name_of_methodNamed Bd.named Bd.method).1
  have X0 : Stand p l e (⟨4, 0, 0, 76⟩ : Room) s m #[(.ref a), (.int x1), (.int x2), (.int x3)] below meth c s₁ [] 0 0 := Stand.of_body Bd
  have e0 : s₁.heap = h0 := by rw [← hh, Bd.state]; rfl
  have N0 := Fr.nil n0
  have K0 : Keep h0 h0 [na] := Keep.refl _ _
  obtain ⟨Pq, hPq⟩ : ∃ P, P = own_P s below (fun v h L => Q24 Z a na kn gn x1 x2 x3 lq h0 n0 v h L) (⟨4, 0, 0, 76⟩ : Room).cells (⟨4, 0, 0, 76⟩ : Room).slots := ⟨_, rfl⟩
  suffices hgo : own_Go p.tables e below Pq s₁ (mkF m 0 #[sR a, sI x1, sI x2, sI x3] []) by
    subst hPq
    obtain ⟨t, k1, k2, o, k3, k4⟩ := hgo
    exact ⟨t, o, castTop (own_ef24 m a x1 x2 x3) k1, k2, k3, k4⟩
  show own_Go _ _ _ _ s₁ (mkF m 0 #[sR a, sI x1, sI x2, sI x3] [])
  refine own_st (fun t k => XS.iloadN X0.here hx rfl (hb hby d12_0) rfl k) ?_
  show own_Go _ _ _ _ s₁ (mkF m 1 _ [(.int x1)])
  refine own_st (fun t k => XS.iloadN X0.here hx rfl (hb hby d12_1) rfl k) ?_
  show own_Go _ _ _ _ s₁ (mkF m 2 _ [(.int x3), (.int x1)])
  by_cases c1 : x1 < x3
  · skip
    refine own_st (fun t k => XS.icmpYes X0.here hx rfl (pc0 := 2) (pc' := 6) rfl (hb hby d12_2) rfl (tlt c1).1 (by decide) (by decide) k) ?_
    show own_Go _ _ _ _ s₁ (mkF m 6 _ [])
    refine own_st (fun t k => XS.iloadN X0.here hx rfl (hb hby d12_6) rfl k) ?_
    show own_Go _ _ _ _ s₁ (mkF m 7 _ [(.int x2)])
    refine own_st (fun t k => XS.iconst X0.here hx rfl (hb hby d12_7) k) ?_
    show own_Go _ _ _ _ s₁ (mkF m 8 _ [(.int (1 : Int32)), (.int x2)])
    by_cases c2 : x2 = (1 : Int32)
    · skip
      refine own_st (fun t k => XS.icmpNo X0.here hx rfl (hb hby d12_8) rfl (teq c2).2 k) ?_
      show own_Go _ _ _ _ s₁ (mkF m 11 _ [])
      refine own_st (fun t k => XS.aloadN X0.here hx rfl (hb hby d12_11) rfl rfl k) ?_
      show own_Go _ _ _ _ s₁ (mkF m 12 _ [(.ref a)])
      refine own_st (fun t k => XS.iloadN X0.here hx rfl (hb hby d12_12) rfl k) ?_
      show own_Go _ _ _ _ s₁ (mkF m 13 _ [(.int x1), (.ref a)])
      obtain ⟨cq3, kq3, q3a, q3b, q3c⟩ := isOf hZ e0 F0
      obtain ⟨_, _, ⟨T3, L3, k3, n3⟩, -, X3, ⟨Lc3, hQ3, l3, y3, z3⟩, st3⟩ := X0.virtualBack hx (y := ym10) (z := ym10) hown (mvT hZ (own_w hw 68 rfl)) (mvT hZ (own_w hw 69 rfl)) (notFace_of_selects (args := #[]) (mvT hZ (own_w hw 71 rfl))) (mvT hZ (own_w hw 71 rfl)) (mvT hZ (own_w hw 70 rfl)) (by decide) (backOf (W := 0) (rm22 l Z a0 hw [] a na kn gn x1 lq h0 n0 Z0 F0 F1 F2 F3 n1 (hn c1) g_na) hZ (own_w hw 72 rfl) (own_w hw 5 rfl) (by decide) (by decide)) q3a q3c (g := (mkF m 13 #[sR a, sI x1, sI x2, sI x3] [(.int x1), (.ref a)])) rfl (by rw [hml]; rfl) (Steps.refl _) (argsL := [(.int x1)]) (rest := []) (lenOf own_pd__I_V rfl) rfl (by show 2 * 0 + _ ≤ _; exact Nat.le_of_eq rfl) (hb hby d12_13) (fun _ _ => ⟨rfl, e0, (by decide : 0 + 0 ≤ _), (by decide : 0 + 0 ≤ _)⟩)
      dsimp only [Pt.U, Pt.locs, Pt.cells, Pt.slots] at X3 l3 y3 z3 st3 hQ3
      subst l3 y3 z3
      obtain ⟨rfl, NQ3, K3, fq3_0⟩ := hQ3
      have N4 := Fr.app N0 NQ3
      refine own_st (fun t k => st3.trans k) ?_
      have f5 := F0.keep K3
      have f6 := F1.keep K3 (ninS (Ne.symm n1) nin0)
      have f7 := F3.keep K3 (ninS (Ne.symm n1) nin0)
      have Z8 : n0 ≤ T3.heap.size := Nat.le_trans Z0 K3.1
      have K9 : Keep h0 T3.heap [na] := K0.trans K3 (allS (Or.inl (List.mem_of_getElem? (i := 0) rfl)) all0)
      show own_Go _ _ _ _ T3 (mkF m 16 _ [])
      refine own_st (fun t k => XS.goto X3.here hx rfl (pc0 := 16) (pc' := 29) rfl (hb hby d12_16) (by decide) (by decide) k) ?_
      show own_Go _ _ _ _ T3 (mkF m 29 _ [])
      subst hPq
      refine own_out X3 (v := none) (fun _ => rfl) Bd.notSynchronized (fun fs hr => X3.returnOut hx Bd.returns (hb hby d12_29) hr) (by decide) (by decide) ?_
      show Q24 Z a na kn gn x1 x2 x3 lq h0 n0 _ T3.heap _
      have eg : (own_up (own_gray gn (lq + x1).toNatClampNeg) (lq + x1)) = (own_apl gn lq x1 x2 x3) := by
          unfold own_apl
          rw [if_pos c1, if_pos c2]
      have fz10 := fq3_0
      rw [eg] at fz10
      exact ⟨rfl, N4, K9, fz10⟩
    · skip
      refine own_st (fun t k => XS.icmpYes X0.here hx rfl (pc0 := 8) (pc' := 19) rfl (hb hby d12_8) rfl (feq c2).2 (by decide) (by decide) k) ?_
      show own_Go _ _ _ _ s₁ (mkF m 19 _ [])
      refine own_st (fun t k => XS.iloadN X0.here hx rfl (hb hby d12_19) rfl k) ?_
      show own_Go _ _ _ _ s₁ (mkF m 20 _ [(.int x2)])
      refine own_st (fun t k => XS.iconst X0.here hx rfl (hb hby d12_20) k) ?_
      show own_Go _ _ _ _ s₁ (mkF m 21 _ [(.int (2 : Int32)), (.int x2)])
      by_cases c11 : x2 = (2 : Int32)
      · skip
        refine own_st (fun t k => XS.icmpNo X0.here hx rfl (hb hby d12_21) rfl (teq c11).2 k) ?_
        show own_Go _ _ _ _ s₁ (mkF m 24 _ [])
        refine own_st (fun t k => XS.aloadN X0.here hx rfl (hb hby d12_24) rfl rfl k) ?_
        show own_Go _ _ _ _ s₁ (mkF m 25 _ [(.ref a)])
        refine own_st (fun t k => XS.iloadN X0.here hx rfl (hb hby d12_25) rfl k) ?_
        show own_Go _ _ _ _ s₁ (mkF m 26 _ [(.int x1), (.ref a)])
        obtain ⟨cq12, kq12, q12a, q12b, q12c⟩ := isOf hZ e0 F0
        obtain ⟨_, _, ⟨T12, L12, k12, n12⟩, -, X12, ⟨Lc12, hQ12, l12, y12, z12⟩, st12⟩ := X0.virtualBack hx (y := ym11) (z := ym11) hown (mvT hZ (own_w hw 58 rfl)) (mvT hZ (own_w hw 59 rfl)) (notFace_of_selects (args := #[]) (mvT hZ (own_w hw 61 rfl))) (mvT hZ (own_w hw 61 rfl)) (mvT hZ (own_w hw 60 rfl)) (by decide) (backOf (W := 0) (rm23 l Z a0 hw [] a na kn gn x1 lq h0 n0 Z0 F0 F1 F2 F3 n1 (hn c1) g_na) hZ (own_w hw 62 rfl) (own_w hw 5 rfl) (by decide) (by decide)) q12a q12c (g := (mkF m 26 #[sR a, sI x1, sI x2, sI x3] [(.int x1), (.ref a)])) rfl (by rw [hml]; rfl) (Steps.refl _) (argsL := [(.int x1)]) (rest := []) (lenOf own_pd__I_V rfl) rfl (by show 2 * 0 + _ ≤ _; exact Nat.le_of_eq rfl) (hb hby d12_26) (fun _ _ => ⟨rfl, e0, (by decide : 0 + 0 ≤ _), (by decide : 0 + 0 ≤ _)⟩)
        dsimp only [Pt.U, Pt.locs, Pt.cells, Pt.slots] at X12 l12 y12 z12 st12 hQ12
        subst l12 y12 z12
        obtain ⟨rfl, NQ12, K12, fq12_0⟩ := hQ12
        have N13 := Fr.app N0 NQ12
        refine own_st (fun t k => st12.trans k) ?_
        have f14 := F0.keep K12
        have f15 := F1.keep K12 (ninS (Ne.symm n1) nin0)
        have f16 := F3.keep K12 (ninS (Ne.symm n1) nin0)
        have Z17 : n0 ≤ T12.heap.size := Nat.le_trans Z0 K12.1
        have K18 : Keep h0 T12.heap [na] := K0.trans K12 (allS (Or.inl (List.mem_of_getElem? (i := 0) rfl)) all0)
        show own_Go _ _ _ _ T12 (mkF m 29 _ [])
        subst hPq
        refine own_out X12 (v := none) (fun _ => rfl) Bd.notSynchronized (fun fs hr => X12.returnOut hx Bd.returns (hb hby d12_29) hr) (by decide) (by decide) ?_
        show Q24 Z a na kn gn x1 x2 x3 lq h0 n0 _ T12.heap _
        have eg : (own_up (own_rem gn (lq + x1).toNatClampNeg) (lq + x1)) = (own_apl gn lq x1 x2 x3) := by
            unfold own_apl
            rw [if_pos c1, if_neg c2, if_pos c11]
        have fz19 := fq12_0
        rw [eg] at fz19
        exact ⟨rfl, N13, K18, fz19⟩
      · skip
        refine own_st (fun t k => XS.icmpYes X0.here hx rfl (pc0 := 21) (pc' := 29) rfl (hb hby d12_21) rfl (feq c11).2 (by decide) (by decide) k) ?_
        show own_Go _ _ _ _ s₁ (mkF m 29 _ [])
        subst hPq
        refine own_out X0 (v := none) (fun _ => rfl) Bd.notSynchronized (fun fs hr => X0.returnOut hx Bd.returns (hb hby d12_29) hr) (by decide) (by decide) ?_
        show Q24 Z a na kn gn x1 x2 x3 lq h0 n0 _ s₁.heap _
        rw [e0]
        have eg : gn = (own_apl gn lq x1 x2 x3) := by
            unfold own_apl
            rw [if_pos c1, if_neg c2, if_neg c11]
        have fz20 := F2
        rw [eg] at fz20
        exact ⟨rfl, N0, K0, fz20⟩
  · skip
    refine own_st (fun t k => XS.icmpNo X0.here hx rfl (hb hby d12_2) rfl (flt c1).1 k) ?_
    show own_Go _ _ _ _ s₁ (mkF m 5 _ [])
    subst hPq
    refine own_out X0 (v := none) (fun _ => rfl) Bd.notSynchronized (fun fs hr => X0.returnOut hx Bd.returns (hb hby d12_5) hr) (by decide) (by decide) ?_
    show Q24 Z a na kn gn x1 x2 x3 lq h0 n0 _ s₁.heap _
    rw [e0]
    have eg : gn = (own_apl gn lq x1 x2 x3) := by
        unfold own_apl
        rw [if_neg c1]
    have fz21 := F2
    rw [eg] at fz21
    exact ⟨rfl, N0, K0, fz21⟩
def own_fill1 (gn : Nat → Int64) (xc : Int64) (go ge : Nat → Int64) : Nat → Int64 := (own_set gn 1 (ge 0) ((xc * (go 0)) + (ge 0)) (ge 0) ((xc * (go 0)) + (ge 0)))
def own_fill2 (gn : Nat → Int64) (xc : Int64) (go ge : Nat → Int64) : Nat → Int64 := (own_comb (own_set (own_set gn 2 (ge 0) ((xc * (go 0)) + (ge 0)) (ge 0) ((xc * (go 0)) + (ge 0))) 3 (ge 1) ((xc * (go 1)) + (ge 1)) (ge 1) ((xc * (go 1)) + (ge 1))) 1)
def own_fill3 (gn : Nat → Int64) (xc : Int64) (go ge : Nat → Int64) : Nat → Int64 := (own_comb (own_comb (own_comb (own_set (own_set (own_set (own_set gn 4 (ge 0) ((xc * (go 0)) + (ge 0)) (ge 0) ((xc * (go 0)) + (ge 0))) 5 (ge 1) ((xc * (go 1)) + (ge 1)) (ge 1) ((xc * (go 1)) + (ge 1))) 6 (ge 2) ((xc * (go 2)) + (ge 2)) (ge 2) ((xc * (go 2)) + (ge 2))) 7 0 (-4611686018427387904 : Int64) 0 (-4611686018427387904 : Int64)) 3) 2) 1)
def own_fill4 (gn : Nat → Int64) (xc : Int64) (go ge : Nat → Int64) : Nat → Int64 := (own_comb (own_comb (own_comb (own_set (own_set (own_set (own_set gn 4 (ge 0) ((xc * (go 0)) + (ge 0)) (ge 0) ((xc * (go 0)) + (ge 0))) 5 (ge 1) ((xc * (go 1)) + (ge 1)) (ge 1) ((xc * (go 1)) + (ge 1))) 6 (ge 2) ((xc * (go 2)) + (ge 2)) (ge 2) ((xc * (go 2)) + (ge 2))) 7 (ge 3) ((xc * (go 3)) + (ge 3)) (ge 3) ((xc * (go 3)) + (ge 3))) 3) 2) 1)
def own_lv (x : Int32) : Int32 := if x = 1 then 1 else if x = 2 then 2 else 4
def own_fill (gn : Nat → Int64) (xc : Int64) (go ge : Nat → Int64) (x : Int32) : Nat → Int64 := if x = 1 then own_fill1 gn xc go ge else if x = 2 then own_fill2 gn xc go ge else if x = 3 then own_fill3 gn xc go ge else own_fill4 gn xc go ge
theorem d13_0 : decode qc13 0 = .ok (.aload_n 0, 1) := by decide +kernel
theorem d13_1 : decode qc13 1 = .ok (.iload_n 1, 1) := by decide +kernel
theorem d13_2 : decode qc13 2 = .ok (.invokestatic 11, 3) := by decide +kernel
theorem d13_5 : decode qc13 5 = .ok (.putfield 30, 3) := by decide +kernel
theorem d13_8 : decode qc13 8 = .ok (.iconst 0, 1) := by decide +kernel
theorem d13_9 : decode qc13 9 = .ok (.istore 6, 2) := by decide +kernel
theorem d13_11 : decode qc13 11 = .ok (.iload 6, 2) := by decide +kernel
theorem d13_13 : decode qc13 13 = .ok (.aload_n 0, 1) := by decide +kernel
theorem d13_14 : decode qc13 14 = .ok (.getfield 30, 3) := by decide +kernel
theorem d13_17 : decode qc13 17 = .ok (.if_icmp .ge 77, 3) := by decide +kernel
theorem d13_20 : decode qc13 20 = .ok (.iload 6, 2) := by decide +kernel
theorem d13_22 : decode qc13 22 = .ok (.iload_n 1, 1) := by decide +kernel
theorem d13_23 : decode qc13 23 = .ok (.if_icmp .ge 46, 3) := by decide +kernel
theorem d13_26 : decode qc13 26 = .ok (.lload_n 2, 1) := by decide +kernel
theorem d13_27 : decode qc13 27 = .ok (.aload 4, 2) := by decide +kernel
theorem d13_29 : decode qc13 29 = .ok (.iload 6, 2) := by decide +kernel
theorem d13_31 : decode qc13 31 = .ok (.laload, 1) := by decide +kernel
theorem d13_32 : decode qc13 32 = .ok (.lmul, 1) := by decide +kernel
theorem d13_33 : decode qc13 33 = .ok (.aload 5, 2) := by decide +kernel
theorem d13_35 : decode qc13 35 = .ok (.iload 6, 2) := by decide +kernel
theorem d13_37 : decode qc13 37 = .ok (.laload, 1) := by decide +kernel
theorem d13_38 : decode qc13 38 = .ok (.ladd, 1) := by decide +kernel
theorem d13_39 : decode qc13 39 = .ok (.lstore 7, 2) := by decide +kernel
theorem d13_41 : decode qc13 41 = .ok (.aload_n 0, 1) := by decide +kernel
theorem d13_42 : decode qc13 42 = .ok (.aload_n 0, 1) := by decide +kernel
theorem d13_43 : decode qc13 43 = .ok (.getfield 30, 3) := by decide +kernel
theorem d13_46 : decode qc13 46 = .ok (.iload 6, 2) := by decide +kernel
theorem d13_48 : decode qc13 48 = .ok (.iadd, 1) := by decide +kernel
theorem d13_49 : decode qc13 49 = .ok (.aload 5, 2) := by decide +kernel
theorem d13_51 : decode qc13 51 = .ok (.iload 6, 2) := by decide +kernel
theorem d13_53 : decode qc13 53 = .ok (.laload, 1) := by decide +kernel
theorem d13_54 : decode qc13 54 = .ok (.lload 7, 2) := by decide +kernel
theorem d13_56 : decode qc13 56 = .ok (.aload 5, 2) := by decide +kernel
theorem d13_58 : decode qc13 58 = .ok (.iload 6, 2) := by decide +kernel
theorem d13_60 : decode qc13 60 = .ok (.laload, 1) := by decide +kernel
theorem d13_61 : decode qc13 61 = .ok (.lload 7, 2) := by decide +kernel
theorem d13_63 : decode qc13 63 = .ok (.invokevirtual 34, 3) := by decide +kernel
theorem d13_66 : decode qc13 66 = .ok (.goto 22, 3) := by decide +kernel
theorem d13_69 : decode qc13 69 = .ok (.aload_n 0, 1) := by decide +kernel
theorem d13_70 : decode qc13 70 = .ok (.aload_n 0, 1) := by decide +kernel
theorem d13_71 : decode qc13 71 = .ok (.getfield 30, 3) := by decide +kernel
theorem d13_74 : decode qc13 74 = .ok (.iload 6, 2) := by decide +kernel
theorem d13_76 : decode qc13 76 = .ok (.iadd, 1) := by decide +kernel
theorem d13_77 : decode qc13 77 = .ok (.lconst 0, 1) := by decide +kernel
theorem d13_78 : decode qc13 78 = .ok (.ldc2_w 38, 3) := by decide +kernel
theorem d13_81 : decode qc13 81 = .ok (.lconst 0, 1) := by decide +kernel
theorem d13_82 : decode qc13 82 = .ok (.ldc2_w 38, 3) := by decide +kernel
theorem d13_85 : decode qc13 85 = .ok (.invokevirtual 34, 3) := by decide +kernel
theorem d13_88 : decode qc13 88 = .ok (.iinc 6 1, 3) := by decide +kernel
theorem d13_91 : decode qc13 91 = .ok (.goto (-80), 3) := by decide +kernel
theorem d13_94 : decode qc13 94 = .ok (.aload_n 0, 1) := by decide +kernel
theorem d13_95 : decode qc13 95 = .ok (.getfield 30, 3) := by decide +kernel
theorem d13_98 : decode qc13 98 = .ok (.iconst 1, 1) := by decide +kernel
theorem d13_99 : decode qc13 99 = .ok (.isub, 1) := by decide +kernel
theorem d13_100 : decode qc13 100 = .ok (.istore 6, 2) := by decide +kernel
theorem d13_102 : decode qc13 102 = .ok (.iload 6, 2) := by decide +kernel
theorem d13_104 : decode qc13 104 = .ok (.iconst 1, 1) := by decide +kernel
theorem d13_105 : decode qc13 105 = .ok (.if_icmp .lt 15, 3) := by decide +kernel
theorem d13_108 : decode qc13 108 = .ok (.aload_n 0, 1) := by decide +kernel
theorem d13_109 : decode qc13 109 = .ok (.iload 6, 2) := by decide +kernel
theorem d13_111 : decode qc13 111 = .ok (.invokevirtual 40, 3) := by decide +kernel
theorem d13_114 : decode qc13 114 = .ok (.iinc 6 (-1), 3) := by decide +kernel
theorem d13_117 : decode qc13 117 = .ok (.goto (-15), 3) := by decide +kernel
theorem d13_120 : decode qc13 120 = .ok (.return_, 1) := by decide +kernel
theorem own_pn25 : plainName "com/example/tidemark/tidemark/core/ThetaLambdaTree" = true := by first | (simp [plainName, overriddenIn]; done) | decide +kernel
theorem own_ef25 (m : MethodId) (a : Addr) (x1 : Int32) (xc : Int64) (oa : Addr) (ea : Addr) : entryFrame m #[(.ref a), (.int x1), (.long xc), (.ref oa), (.ref ea)] 9 = mkF m 0 #[sR a, sI x1, sJ xc, .second, sR oa, sR ea, .unset, .unset, .unset] [] := by first | (simp [entryFrame, mkF, argsToLocals, Value.category]; done) | rfl
def Q25 (Z : State) (a : Addr) (x1 : Int32) (xc : Int64) (oa : Addr) (ea : Addr) (na : Addr) (kn : ClassId) (gn : Nat → Int64) (ko : ClassId) (go : Nat → Int64) (ke : ClassId) (ge : Nat → Int64) (l0 : Int32) (h0 : Heap) (n0 : Nat) (v : Option Value) (h : Heap) (L : List Loc) : Prop := v = none ∧ Fr n0 L ∧ Keep h0 h [na, a] ∧ Exa Z h a "com/example/tidemark/tidemark/core/ThetaLambdaTree" ∧ Fld Z h a "com/example/tidemark/tidemark/core/ThetaLambdaTree" "nodes" "[J" (.ref na) ∧ Fld Z h a "com/example/tidemark/tidemark/core/ThetaLambdaTree" "leaves" "I" (.int (own_lv x1)) ∧ own_AJ Z h na kn (32 : Int32) (own_fill gn xc go ge x1)
set_option maxRecDepth 65536 in
set_option maxHeartbeats 4000000 in
theorem rm25 (l : Launch) (Z : State) (a0 : Array Value) (hw : ∀ d ∈ tables_1, d.before a0 Z = true) (ws : List Jvm.Cond) (a : Addr) (x1 : Int32) (xc : Int64) (oa : Addr) (ea : Addr) (na : Addr) (kn : ClassId) (gn : Nat → Int64) (ko : ClassId) (go : Nat → Int64) (ke : ClassId) (ge : Nat → Int64) (l0 : Int32) (h0 : Heap) (n0 : Nat) (Z0 : n0 ≤ h0.size) (F0 : Exa Z h0 a "com/example/tidemark/tidemark/core/ThetaLambdaTree") (F1 : Fld Z h0 a "com/example/tidemark/tidemark/core/ThetaLambdaTree" "nodes" "[J" (.ref na)) (F2 : own_AJ Z h0 na kn (32 : Int32) gn) (F3 : Fld Z h0 a "com/example/tidemark/tidemark/core/ThetaLambdaTree" "leaves" "I" (.int l0)) (F4 : own_AJ Z h0 oa ko (4 : Int32) go) (F5 : own_AJ Z h0 ea ke (4 : Int32) ge) (n1 : na ≠ a) (n2 : oa ≠ na) (n3 : ea ≠ na) (n4 : oa ≠ a) (n5 : ea ≠ a) (hc : x1 = 1 ∨ x1 = 2 ∨ x1 = 3 ∨ x1 = 4) (g_na : n0 ≤ na) (g_a : n0 ≤ a) :
    MetFree l ym13 (head1 (Jvm.Cond.code ym13 prog_46_method_3_code 9 none :: ws) (⟨3, 0, 0, 48⟩ : Room)) (fun aW U => aW = #[(.ref a), (.int x1), (.long xc), (.ref oa), (.ref ea)] ∧ Z.Warmed39 U.vm ∧ U.heap = h0) (fun _ _ _ _ _ => True) (fun _ U o U' => ∃ v L, o = .returned v ∧ Q25 Z a x1 xc oa ea na kn gn ko go ke ge l0 h0 n0 v U'.heap L ∧ FrameEnd U o U' L (⟨3, 0, 0, 48⟩ : Room).cells (⟨3, 0, 0, 48⟩ : Room).slots) := by
  refine MetFree.of_bodySF (plainFor_of_name own_pn25) hisR ?_
  intro p e s m args below meth c s₁ Bd hml0 hP hK
  obtain ⟨rfl, hZ, hh⟩ := hP
  have hx := Bd.exec
  have hby := Bd.bytes
  have hml : c.maxLocals = 9 := hml0
  have hown : s.vm.findClass "com/example/tidemark/tidemark/core/ThetaLambdaTree" = some m.cls := findClass_of_methodNamed Bd.named
  have hnm := (name_of_methodNamed Bd.named Bd.method).1
  have X0 : Stand p l e (⟨3, 0, 0, 48⟩ : Room) s m #[(.ref a), (.int x1), (.long xc), (.ref oa), (.ref ea)] below meth c s₁ [] 0 0 := Stand.of_body Bd
  have e0 : s₁.heap = h0 := by rw [← hh, Bd.state]; rfl
  have N0 := Fr.nil n0
  have K0 : Keep h0 h0 [na, a] := Keep.refl _ _
  obtain ⟨Pq, hPq⟩ : ∃ P, P = own_P s below (fun v h L => Q25 Z a x1 xc oa ea na kn gn ko go ke ge l0 h0 n0 v h L) (⟨3, 0, 0, 48⟩ : Room).cells (⟨3, 0, 0, 48⟩ : Room).slots := ⟨_, rfl⟩
  suffices hgo : own_Go p.tables e below Pq s₁ (mkF m 0 #[sR a, sI x1, sJ xc, .second, sR oa, sR ea, .unset, .unset, .unset] []) by
    subst hPq
    obtain ⟨t, k1, k2, o, k3, k4⟩ := hgo
    exact ⟨t, o, castTop (own_ef25 m a x1 xc oa ea) k1, k2, k3, k4⟩
  show own_Go _ _ _ _ s₁ (mkF m 0 #[sR a, sI x1, sJ xc, .second, sR oa, sR ea, .unset, .unset, .unset] [])
  rcases hc with rfl | rfl | rfl | rfl
  · skip
    show own_Go _ _ _ _ s₁ (mkF m 0 #[sR a, sI (1 : Int32), sJ xc, .second, sR oa, sR ea, .unset, .unset, .unset] [])
    refine own_st (fun t k => XS.aloadN X0.here hx rfl (hb hby d13_0) rfl rfl k) ?_
    show own_Go _ _ _ _ s₁ (mkF m 1 _ [(.ref a)])
    refine own_st (fun t k => XS.iloadN X0.here hx rfl (hb hby d13_1) rfl k) ?_
    show own_Go _ _ _ _ s₁ (mkF m 2 _ [(.int (1 : Int32)), (.ref a)])
    obtain ⟨_, _, ⟨T1, L1, k1, n1⟩, -, X1, ⟨Lc1, hQ1, l1, y1, z1⟩, st1⟩ := Jvm.LawKit.callS X0 hx (y := ym4) hown (mvT hZ (own_w hw 12 rfl)) (mvT hZ (own_w hw 13 rfl)) (mvT hZ (own_w hw 5 rfl)) (mvT hZ (own_w hw 14 rfl)) (by decide) (backOf (W := 1) (rm4 l Z a0 hw []  h0 n0 Z0 ) hZ (own_w hw 14 rfl) (own_w hw 5 rfl) (by decide) (by decide)) (g := (mkF m 2 #[sR a, sI (1 : Int32), sJ xc, .second, sR oa, sR ea, .unset, .unset, .unset] [(.int (1 : Int32)), (.ref a)])) rfl (by rw [hml]; rfl) (argsL := [(.int (1 : Int32))]) (rest := [(.ref a)]) (lenOf own_pd__I_I rfl) rfl (by show 2 * 0 + _ ≤ _; exact Nat.le_of_eq rfl) (hb hby d13_2) (fun _ _ => ⟨rfl, e0, (by decide : 0 + 0 ≤ _), (by decide : 0 + 0 ≤ _)⟩)
    dsimp only [Pt.U, Pt.locs, Pt.cells, Pt.slots] at X1 l1 y1 z1 st1 hQ1
    subst l1 y1 z1
    obtain ⟨rfl, NQ1, eq1⟩ := hQ1
    have N2 := Fr.app N0 NQ1
    refine own_st st1 ?_
    show own_Go _ _ _ _ T1 (mkF m 5 _ [(.int (1 : Int32)), (.ref a)])
    obtain ⟨T3, h3, X3, e3, W3, st3⟩ := putF X1 hx hZ hown (host := "") (Or.inl (own_w hw 35 rfl)) Via.refl eq1 F3 F0 (Or.inl (own_w hw 36 rfl)) (own_w hw 4 rfl) (ty := .int) (by decide) rfl rfl (g := (mkF m 5 #[sR a, sI (1 : Int32), sJ xc, .second, sR oa, sR ea, .unset, .unset, .unset] [(.int (1 : Int32)), (.ref a)])) rfl rfl (hb hby d13_5)
    refine own_st st3 ?_
    have f4 := F0.wr W3
    have f5 := F1.other W3 (Or.inr (slot_ne (Or.inr (own_w hw 29 rfl)) (Or.inl (own_w hw 36 rfl)) (by decide) (t := (.array .long)) (t' := .int) (by decide) (by decide)))
    have f6 := F2.other W3 n1
    have f7 := F4.other W3 n4
    have f8 := F5.other W3 n5
    have N9 := Fr.snoc X3 N2 g_a
    have Z10 : n0 ≤ h3.size := Nat.le_trans Z0 (Nat.le_of_eq W3.size.symm)
    have K11 : Keep h0 h3 [na, a] := K0.wr W3 (Or.inl (List.mem_of_getElem? (i := 1) rfl))
    have f12 := F3.same W3
    show own_Go _ _ _ _ T3 (mkF m 8 _ [])
    refine own_st (fun t k => XS.iconst X3.here hx rfl (hb hby d13_8) k) ?_
    show own_Go _ _ _ _ T3 (mkF m 9 _ [(.int (0 : Int32))])
    refine own_st (fun t k => XS.istore X3.here hx rfl (hb hby d13_9) rfl (l' := #[sR a, sI (1 : Int32), sJ xc, .second, sR oa, sR ea, sI (0 : Int32), .unset, .unset]) rfl k) ?_
    show own_Go _ _ _ _ T3 (mkF m 11 #[sR a, sI (1 : Int32), sJ xc, .second, sR oa, sR ea, sI (0 : Int32), .unset, .unset] [])
    refine own_st (fun t k => XS.iload X3.here hx rfl (hb hby d13_11) rfl k) ?_
    show own_Go _ _ _ _ T3 (mkF m 13 _ [(.int (0 : Int32))])
    refine own_st (fun t k => XS.aloadN X3.here hx rfl (hb hby d13_13) rfl rfl k) ?_
    show own_Go _ _ _ _ T3 (mkF m 14 _ [(.ref a), (.int (0 : Int32))])
    obtain ⟨T13, X13, e13, st13⟩ := getF X3 hx hZ hown (host := "") (Or.inl (own_w hw 35 rfl)) Via.refl e3 f12 (g := (mkF m 14 #[sR a, sI (1 : Int32), sJ xc, .second, sR oa, sR ea, sI (0 : Int32), .unset, .unset] [(.ref a), (.int (0 : Int32))])) rfl rfl (hb hby d13_14)
    refine own_st st13 ?_
    show own_Go _ _ _ _ T13 (mkF m 17 _ [(.int (1 : Int32)), (.int (0 : Int32))])
    refine own_st (fun t k => XS.icmpNo X13.here hx rfl (hb hby d13_17) rfl (tlt (by decide : ((0 : Int32) < (1 : Int32)))).2.1 k) ?_
    show own_Go _ _ _ _ T13 (mkF m 20 _ [])
    refine own_st (fun t k => XS.iload X13.here hx rfl (hb hby d13_20) rfl k) ?_
    show own_Go _ _ _ _ T13 (mkF m 22 _ [(.int (0 : Int32))])
    refine own_st (fun t k => XS.iloadN X13.here hx rfl (hb hby d13_22) rfl k) ?_
    show own_Go _ _ _ _ T13 (mkF m 23 _ [(.int (1 : Int32)), (.int (0 : Int32))])
    refine own_st (fun t k => XS.icmpNo X13.here hx rfl (hb hby d13_23) rfl (tlt (by decide : ((0 : Int32) < (1 : Int32)))).2.1 k) ?_
    show own_Go _ _ _ _ T13 (mkF m 26 _ [])
    refine own_st (fun t k => XS.lloadN X13.here hx rfl (hb hby d13_26) rfl k) ?_
    show own_Go _ _ _ _ T13 (mkF m 27 _ [(.long xc)])
    refine own_st (fun t k => XS.aload X13.here hx rfl (hb hby d13_27) rfl rfl k) ?_
    show own_Go _ _ _ _ T13 (mkF m 29 _ [(.ref oa), (.long xc)])
    refine own_st (fun t k => XS.iload X13.here hx rfl (hb hby d13_29) rfl k) ?_
    show own_Go _ _ _ _ T13 (mkF m 31 _ [(.int (0 : Int32)), (.ref oa), (.long xc)])
    obtain ⟨c14, Ar14, q14, S14, N14, H14⟩ := id f7
    refine own_st (fun t k => X13.laload hx (j := (0 : Int32)) (v := (.long (go 0))) (by rw [e13]; exact Ar14.1) (State.isArrayOf_alike hZ.alike Ar14.2.1) Ar14.2.2 (inb_of S14 ⟨by decide, by decide⟩) (H14 _ (own_lt (inb_of S14 ⟨by decide, by decide⟩))) (g := (mkF m 31 #[sR a, sI (1 : Int32), sJ xc, .second, sR oa, sR ea, sI (0 : Int32), .unset, .unset] [(.int (0 : Int32)), (.ref oa), (.long xc)])) rfl rfl (hb hby d13_31) _ k) ?_
    show own_Go _ _ _ _ T13 (mkF m 32 _ [(.long (go 0)), (.long xc)])
    refine own_st (fun t k => XS.lmul X13.here hx rfl (hb hby d13_32) rfl k) ?_
    show own_Go _ _ _ _ T13 (mkF m 33 _ [(.long (xc * (go 0)))])
    refine own_st (fun t k => XS.aload X13.here hx rfl (hb hby d13_33) rfl rfl k) ?_
    show own_Go _ _ _ _ T13 (mkF m 35 _ [(.ref ea), (.long (xc * (go 0)))])
    refine own_st (fun t k => XS.iload X13.here hx rfl (hb hby d13_35) rfl k) ?_
    show own_Go _ _ _ _ T13 (mkF m 37 _ [(.int (0 : Int32)), (.ref ea), (.long (xc * (go 0)))])
    obtain ⟨c15, Ar15, q15, S15, N15, H15⟩ := id f8
    refine own_st (fun t k => X13.laload hx (j := (0 : Int32)) (v := (.long (ge 0))) (by rw [e13]; exact Ar15.1) (State.isArrayOf_alike hZ.alike Ar15.2.1) Ar15.2.2 (inb_of S15 ⟨by decide, by decide⟩) (H15 _ (own_lt (inb_of S15 ⟨by decide, by decide⟩))) (g := (mkF m 37 #[sR a, sI (1 : Int32), sJ xc, .second, sR oa, sR ea, sI (0 : Int32), .unset, .unset] [(.int (0 : Int32)), (.ref ea), (.long (xc * (go 0)))])) rfl rfl (hb hby d13_37) _ k) ?_
    show own_Go _ _ _ _ T13 (mkF m 38 _ [(.long (ge 0)), (.long (xc * (go 0)))])
    refine own_st (fun t k => XS.ladd X13.here hx rfl (hb hby d13_38) rfl k) ?_
    show own_Go _ _ _ _ T13 (mkF m 39 _ [(.long ((xc * (go 0)) + (ge 0)))])
    refine own_st (fun t k => XS.lstore X13.here hx rfl (hb hby d13_39) rfl (l' := #[sR a, sI (1 : Int32), sJ xc, .second, sR oa, sR ea, sI (0 : Int32), sJ ((xc * (go 0)) + (ge 0)), .second]) rfl k) ?_
    show own_Go _ _ _ _ T13 (mkF m 41 #[sR a, sI (1 : Int32), sJ xc, .second, sR oa, sR ea, sI (0 : Int32), sJ ((xc * (go 0)) + (ge 0)), .second] [])
    refine own_st (fun t k => XS.aloadN X13.here hx rfl (hb hby d13_41) rfl rfl k) ?_
    show own_Go _ _ _ _ T13 (mkF m 42 _ [(.ref a)])
    refine own_st (fun t k => XS.aloadN X13.here hx rfl (hb hby d13_42) rfl rfl k) ?_
    show own_Go _ _ _ _ T13 (mkF m 43 _ [(.ref a), (.ref a)])
    obtain ⟨T16, X16, e16, st16⟩ := getF X13 hx hZ hown (host := "") (Or.inl (own_w hw 35 rfl)) Via.refl e13 f12 (g := (mkF m 43 #[sR a, sI (1 : Int32), sJ xc, .second, sR oa, sR ea, sI (0 : Int32), sJ ((xc * (go 0)) + (ge 0)), .second] [(.ref a), (.ref a)])) rfl rfl (hb hby d13_43)
    refine own_st st16 ?_
    show own_Go _ _ _ _ T16 (mkF m 46 _ [(.int (1 : Int32)), (.ref a)])
    refine own_st (fun t k => XS.iload X16.here hx rfl (hb hby d13_46) rfl k) ?_
    show own_Go _ _ _ _ T16 (mkF m 48 _ [(.int (0 : Int32)), (.int (1 : Int32)), (.ref a)])
    refine own_st (fun t k => XS.iadd X16.here hx rfl (hb hby d13_48) rfl k) ?_
    show own_Go _ _ _ _ T16 (mkF m 49 _ [(.int (1 : Int32)), (.ref a)])
    refine own_st (fun t k => XS.aload X16.here hx rfl (hb hby d13_49) rfl rfl k) ?_
    show own_Go _ _ _ _ T16 (mkF m 51 _ [(.ref ea), (.int (1 : Int32)), (.ref a)])
    refine own_st (fun t k => XS.iload X16.here hx rfl (hb hby d13_51) rfl k) ?_
    show own_Go _ _ _ _ T16 (mkF m 53 _ [(.int (0 : Int32)), (.ref ea), (.int (1 : Int32)), (.ref a)])
    obtain ⟨c17, Ar17, q17, S17, N17, H17⟩ := id f8
    refine own_st (fun t k => X16.laload hx (j := (0 : Int32)) (v := (.long (ge 0))) (by rw [e16]; exact Ar17.1) (State.isArrayOf_alike hZ.alike Ar17.2.1) Ar17.2.2 (inb_of S17 ⟨by decide, by decide⟩) (H17 _ (own_lt (inb_of S17 ⟨by decide, by decide⟩))) (g := (mkF m 53 #[sR a, sI (1 : Int32), sJ xc, .second, sR oa, sR ea, sI (0 : Int32), sJ ((xc * (go 0)) + (ge 0)), .second] [(.int (0 : Int32)), (.ref ea), (.int (1 : Int32)), (.ref a)])) rfl rfl (hb hby d13_53) _ k) ?_
    show own_Go _ _ _ _ T16 (mkF m 54 _ [(.long (ge 0)), (.int (1 : Int32)), (.ref a)])
    refine own_st (fun t k => XS.lload X16.here hx rfl (hb hby d13_54) rfl k) ?_
    show own_Go _ _ _ _ T16 (mkF m 56 _ [(.long ((xc * (go 0)) + (ge 0))), (.long (ge 0)), (.int (1 : Int32)), (.ref a)])
    refine own_st (fun t k => XS.aload X16.here hx rfl (hb hby d13_56) rfl rfl k) ?_
    show own_Go _ _ _ _ T16 (mkF m 58 _ [(.ref ea), (.long ((xc * (go 0)) + (ge 0))), (.long (ge 0)), (.int (1 : Int32)), (.ref a)])
    refine own_st (fun t k => XS.iload X16.here hx rfl (hb hby d13_58) rfl k) ?_
    show own_Go _ _ _ _ T16 (mkF m 60 _ [(.int (0 : Int32)), (.ref ea), (.long ((xc * (go 0)) + (ge 0))), (.long (ge 0)), (.int (1 : Int32)), (.ref a)])
    obtain ⟨c18, Ar18, q18, S18, N18, H18⟩ := id f8
    refine own_st (fun t k => X16.laload hx (j := (0 : Int32)) (v := (.long (ge 0))) (by rw [e16]; exact Ar18.1) (State.isArrayOf_alike hZ.alike Ar18.2.1) Ar18.2.2 (inb_of S18 ⟨by decide, by decide⟩) (H18 _ (own_lt (inb_of S18 ⟨by decide, by decide⟩))) (g := (mkF m 60 #[sR a, sI (1 : Int32), sJ xc, .second, sR oa, sR ea, sI (0 : Int32), sJ ((xc * (go 0)) + (ge 0)), .second] [(.int (0 : Int32)), (.ref ea), (.long ((xc * (go 0)) + (ge 0))), (.long (ge 0)), (.int (1 : Int32)), (.ref a)])) rfl rfl (hb hby d13_60) _ k) ?_
    show own_Go _ _ _ _ T16 (mkF m 61 _ [(.long (ge 0)), (.long ((xc * (go 0)) + (ge 0))), (.long (ge 0)), (.int (1 : Int32)), (.ref a)])
    refine own_st (fun t k => XS.lload X16.here hx rfl (hb hby d13_61) rfl k) ?_
    show own_Go _ _ _ _ T16 (mkF m 63 _ [(.long ((xc * (go 0)) + (ge 0))), (.long (ge 0)), (.long ((xc * (go 0)) + (ge 0))), (.long (ge 0)), (.int (1 : Int32)), (.ref a)])
    obtain ⟨cq19, q19, q19'⟩ := f4.cell
    obtain ⟨_, _, ⟨T19, L19, k19, n19⟩, -, X19, ⟨Lc19, hQ19, l19, y19, z19⟩, st19⟩ := X16.privateBack hx (y := ym7) hown (mvT hZ (own_w hw 37 rfl)) (mvT hZ (own_w hw 38 rfl)) (own_selp (y := ym7) (mvT hZ (own_w hw 4 rfl)) (Cond.privateMethod_at (mvP hZ (own_w hw 39 rfl) (args := #[]))) (mvT hZ (own_w hw 38 rfl)) (by decide)) (Cond.privateMethod_at (mvP hZ (own_w hw 39 rfl) (args := #[]))) (mvT hZ (own_w hw 40 rfl)) (by decide) (backOf (W := 0) (rm19 l Z a0 hw [] a na kn gn (1 : Int32) (ge 0) ((xc * (go 0)) + (ge 0)) (ge 0) ((xc * (go 0)) + (ge 0)) h3 n0 Z10 f4 f5 f6 n1 (by decide) g_na) hZ (own_w hw 40 rfl) (own_w hw 5 rfl) (by decide) (by decide)) (g := (mkF m 63 #[sR a, sI (1 : Int32), sJ xc, .second, sR oa, sR ea, sI (0 : Int32), sJ ((xc * (go 0)) + (ge 0)), .second] [(.long ((xc * (go 0)) + (ge 0))), (.long (ge 0)), (.long ((xc * (go 0)) + (ge 0))), (.long (ge 0)), (.int (1 : Int32)), (.ref a)])) rfl (by rw [hml]; rfl) (Steps.refl _) (a := a) (by rw [e16]; exact q19) q19' (argsL := [(.int (1 : Int32)), (.long (ge 0)), (.long ((xc * (go 0)) + (ge 0))), (.long (ge 0)), (.long ((xc * (go 0)) + (ge 0)))]) (rest := []) (lenOf own_pd__IJJJJ_V rfl) rfl (by show 2 * 0 + _ ≤ _; exact Nat.le_of_eq rfl) (hb hby d13_63) (fun _ _ => ⟨rfl, e16, (by decide : 0 + 0 ≤ _), (by decide : 0 + 0 ≤ _)⟩)
    dsimp only [Pt.U, Pt.locs, Pt.cells, Pt.slots] at X19 l19 y19 z19 st19 hQ19
    subst l19 y19 z19
    obtain ⟨rfl, NQ19, K19, fq19_0⟩ := hQ19
    have N20 := Fr.app N9 NQ19
    refine own_st (fun t k => st19.trans k) ?_
    have f21 := f4.keep K19
    have f22 := f5.keep K19 (ninS (Ne.symm n1) nin0)
    have f23 := f7.keep K19 (ninS n2 nin0)
    have f24 := f8.keep K19 (ninS n3 nin0)
    have f25 := f12.keep K19 (ninS (Ne.symm n1) nin0)
    have Z26 : n0 ≤ T19.heap.size := Nat.le_trans Z10 K19.1
    have K27 : Keep h0 T19.heap [na, a] := K11.trans K19 (allS (Or.inl (List.mem_of_getElem? (i := 0) rfl)) all0)
    show own_Go _ _ _ _ T19 (mkF m 66 _ [])
    refine own_st (fun t k => XS.goto X19.here hx rfl (pc0 := 66) (pc' := 88) rfl (hb hby d13_66) (by decide) (by decide) k) ?_
    show own_Go _ _ _ _ T19 (mkF m 88 _ [])
    refine own_st (fun t k => XS.iinc X19.here hx rfl (hb hby d13_88) rfl (l' := #[sR a, sI (1 : Int32), sJ xc, .second, sR oa, sR ea, sI (1 : Int32), sJ ((xc * (go 0)) + (ge 0)), .second]) rfl k) ?_
    show own_Go _ _ _ _ T19 (mkF m 91 #[sR a, sI (1 : Int32), sJ xc, .second, sR oa, sR ea, sI (1 : Int32), sJ ((xc * (go 0)) + (ge 0)), .second] [])
    show own_Go _ _ _ _ T19 (mkF m 91 _ [])
    refine own_st (fun t k => XS.goto X19.here hx rfl (pc0 := 91) (pc' := 11) rfl (hb hby d13_91) (by decide) (by decide) k) ?_
    show own_Go _ _ _ _ T19 (mkF m 11 _ [])
    refine own_st (fun t k => XS.iload X19.here hx rfl (hb hby d13_11) rfl k) ?_
    show own_Go _ _ _ _ T19 (mkF m 13 _ [(.int (1 : Int32))])
    refine own_st (fun t k => XS.aloadN X19.here hx rfl (hb hby d13_13) rfl rfl k) ?_
    show own_Go _ _ _ _ T19 (mkF m 14 _ [(.ref a), (.int (1 : Int32))])
    obtain ⟨T28, X28, e28, st28⟩ := getF X19 hx hZ hown (host := "") (Or.inl (own_w hw 35 rfl)) Via.refl rfl f25 (g := (mkF m 14 #[sR a, sI (1 : Int32), sJ xc, .second, sR oa, sR ea, sI (1 : Int32), sJ ((xc * (go 0)) + (ge 0)), .second] [(.ref a), (.int (1 : Int32))])) rfl rfl (hb hby d13_14)
    refine own_st st28 ?_
    show own_Go _ _ _ _ T28 (mkF m 17 _ [(.int (1 : Int32)), (.int (1 : Int32))])
    refine own_st (fun t k => XS.icmpYes X28.here hx rfl (pc0 := 17) (pc' := 94) rfl (hb hby d13_17) rfl (flt (by decide : ¬ ((1 : Int32) < (1 : Int32)))).2.1 (by decide) (by decide) k) ?_
    show own_Go _ _ _ _ T28 (mkF m 94 _ [])
    refine own_st (fun t k => XS.aloadN X28.here hx rfl (hb hby d13_94) rfl rfl k) ?_
    show own_Go _ _ _ _ T28 (mkF m 95 _ [(.ref a)])
    obtain ⟨T29, X29, e29, st29⟩ := getF X28 hx hZ hown (host := "") (Or.inl (own_w hw 35 rfl)) Via.refl e28 f25 (g := (mkF m 95 #[sR a, sI (1 : Int32), sJ xc, .second, sR oa, sR ea, sI (1 : Int32), sJ ((xc * (go 0)) + (ge 0)), .second] [(.ref a)])) rfl rfl (hb hby d13_95)
    refine own_st st29 ?_
    show own_Go _ _ _ _ T29 (mkF m 98 _ [(.int (1 : Int32))])
    refine own_st (fun t k => XS.iconst X29.here hx rfl (hb hby d13_98) k) ?_
    show own_Go _ _ _ _ T29 (mkF m 99 _ [(.int (1 : Int32)), (.int (1 : Int32))])
    refine own_st (fun t k => XS.isub X29.here hx rfl (hb hby d13_99) rfl k) ?_
    show own_Go _ _ _ _ T29 (mkF m 100 _ [(.int (0 : Int32))])
    refine own_st (fun t k => XS.istore X29.here hx rfl (hb hby d13_100) rfl (l' := #[sR a, sI (1 : Int32), sJ xc, .second, sR oa, sR ea, sI (0 : Int32), sJ ((xc * (go 0)) + (ge 0)), .second]) rfl k) ?_
    show own_Go _ _ _ _ T29 (mkF m 102 #[sR a, sI (1 : Int32), sJ xc, .second, sR oa, sR ea, sI (0 : Int32), sJ ((xc * (go 0)) + (ge 0)), .second] [])
    refine own_st (fun t k => XS.iload X29.here hx rfl (hb hby d13_102) rfl k) ?_
    show own_Go _ _ _ _ T29 (mkF m 104 _ [(.int (0 : Int32))])
    refine own_st (fun t k => XS.iconst X29.here hx rfl (hb hby d13_104) k) ?_
    show own_Go _ _ _ _ T29 (mkF m 105 _ [(.int (1 : Int32)), (.int (0 : Int32))])
    refine own_st (fun t k => XS.icmpYes X29.here hx rfl (pc0 := 105) (pc' := 120) rfl (hb hby d13_105) rfl (tlt (by decide : ((0 : Int32) < (1 : Int32)))).1 (by decide) (by decide) k) ?_
    show own_Go _ _ _ _ T29 (mkF m 120 _ [])
    subst hPq
    refine own_out X29 (v := none) (fun _ => rfl) Bd.notSynchronized (fun fs hr => X29.returnOut hx Bd.returns (hb hby d13_120) hr) (by decide) (by decide) ?_
    show Q25 Z a (1 : Int32) xc oa ea na kn gn ko go ke ge l0 h0 n0 _ T29.heap _
    rw [e29]
    have eg30 : (own_set gn (1 : Int32).toNatClampNeg (ge 0) ((xc * (go 0)) + (ge 0)) (ge 0) ((xc * (go 0)) + (ge 0))) = own_fill1 gn xc go ge := by simp only [own_lit0, own_lit1, own_lit2, own_lit3, own_lit4, own_lit5, own_lit6, own_lit7]; rfl
    have fz30 := fq19_0
    rw [eg30] at fz30
    exact ⟨rfl, N20, K27, f21, f22, f25, fz30⟩
  · skip
    show own_Go _ _ _ _ s₁ (mkF m 0 #[sR a, sI (2 : Int32), sJ xc, .second, sR oa, sR ea, .unset, .unset, .unset] [])
    refine own_st (fun t k => XS.aloadN X0.here hx rfl (hb hby d13_0) rfl rfl k) ?_
    show own_Go _ _ _ _ s₁ (mkF m 1 _ [(.ref a)])
    refine own_st (fun t k => XS.iloadN X0.here hx rfl (hb hby d13_1) rfl k) ?_
    show own_Go _ _ _ _ s₁ (mkF m 2 _ [(.int (2 : Int32)), (.ref a)])
    obtain ⟨_, _, ⟨T31, L31, k31, n31⟩, -, X31, ⟨Lc31, hQ31, l31, y31, z31⟩, st31⟩ := Jvm.LawKit.callS X0 hx (y := ym4) hown (mvT hZ (own_w hw 12 rfl)) (mvT hZ (own_w hw 13 rfl)) (mvT hZ (own_w hw 5 rfl)) (mvT hZ (own_w hw 14 rfl)) (by decide) (backOf (W := 1) (rm8 l Z a0 hw []  h0 n0 Z0 ) hZ (own_w hw 14 rfl) (own_w hw 5 rfl) (by decide) (by decide)) (g := (mkF m 2 #[sR a, sI (2 : Int32), sJ xc, .second, sR oa, sR ea, .unset, .unset, .unset] [(.int (2 : Int32)), (.ref a)])) rfl (by rw [hml]; rfl) (argsL := [(.int (2 : Int32))]) (rest := [(.ref a)]) (lenOf own_pd__I_I rfl) rfl (by show 2 * 0 + _ ≤ _; exact Nat.le_of_eq rfl) (hb hby d13_2) (fun _ _ => ⟨rfl, e0, (by decide : 0 + 0 ≤ _), (by decide : 0 + 0 ≤ _)⟩)
    dsimp only [Pt.U, Pt.locs, Pt.cells, Pt.slots] at X31 l31 y31 z31 st31 hQ31
    subst l31 y31 z31
    obtain ⟨rfl, NQ31, eq31⟩ := hQ31
    have N32 := Fr.app N0 NQ31
    refine own_st st31 ?_
    show own_Go _ _ _ _ T31 (mkF m 5 _ [(.int (2 : Int32)), (.ref a)])
    obtain ⟨T33, h33, X33, e33, W33, st33⟩ := putF X31 hx hZ hown (host := "") (Or.inl (own_w hw 35 rfl)) Via.refl eq31 F3 F0 (Or.inl (own_w hw 36 rfl)) (own_w hw 4 rfl) (ty := .int) (by decide) rfl rfl (g := (mkF m 5 #[sR a, sI (2 : Int32), sJ xc, .second, sR oa, sR ea, .unset, .unset, .unset] [(.int (2 : Int32)), (.ref a)])) rfl rfl (hb hby d13_5)
    refine own_st st33 ?_
    have f34 := F0.wr W33
    have f35 := F1.other W33 (Or.inr (slot_ne (Or.inr (own_w hw 29 rfl)) (Or.inl (own_w hw 36 rfl)) (by decide) (t := (.array .long)) (t' := .int) (by decide) (by decide)))
    have f36 := F2.other W33 n1
    have f37 := F4.other W33 n4
    have f38 := F5.other W33 n5
    have N39 := Fr.snoc X33 N32 g_a
    have Z40 : n0 ≤ h33.size := Nat.le_trans Z0 (Nat.le_of_eq W33.size.symm)
    have K41 : Keep h0 h33 [na, a] := K0.wr W33 (Or.inl (List.mem_of_getElem? (i := 1) rfl))
    have f42 := F3.same W33
    show own_Go _ _ _ _ T33 (mkF m 8 _ [])
    refine own_st (fun t k => XS.iconst X33.here hx rfl (hb hby d13_8) k) ?_
    show own_Go _ _ _ _ T33 (mkF m 9 _ [(.int (0 : Int32))])
    refine own_st (fun t k => XS.istore X33.here hx rfl (hb hby d13_9) rfl (l' := #[sR a, sI (2 : Int32), sJ xc, .second, sR oa, sR ea, sI (0 : Int32), .unset, .unset]) rfl k) ?_
    show own_Go _ _ _ _ T33 (mkF m 11 #[sR a, sI (2 : Int32), sJ xc, .second, sR oa, sR ea, sI (0 : Int32), .unset, .unset] [])
    refine own_st (fun t k => XS.iload X33.here hx rfl (hb hby d13_11) rfl k) ?_
    show own_Go _ _ _ _ T33 (mkF m 13 _ [(.int (0 : Int32))])
    refine own_st (fun t k => XS.aloadN X33.here hx rfl (hb hby d13_13) rfl rfl k) ?_
    show own_Go _ _ _ _ T33 (mkF m 14 _ [(.ref a), (.int (0 : Int32))])
    obtain ⟨T43, X43, e43, st43⟩ := getF X33 hx hZ hown (host := "") (Or.inl (own_w hw 35 rfl)) Via.refl e33 f42 (g := (mkF m 14 #[sR a, sI (2 : Int32), sJ xc, .second, sR oa, sR ea, sI (0 : Int32), .unset, .unset] [(.ref a), (.int (0 : Int32))])) rfl rfl (hb hby d13_14)
    refine own_st st43 ?_
    show own_Go _ _ _ _ T43 (mkF m 17 _ [(.int (2 : Int32)), (.int (0 : Int32))])
    refine own_st (fun t k => XS.icmpNo X43.here hx rfl (hb hby d13_17) rfl (tlt (by decide : ((0 : Int32) < (2 : Int32)))).2.1 k) ?_
    show own_Go _ _ _ _ T43 (mkF m 20 _ [])
    refine own_st (fun t k => XS.iload X43.here hx rfl (hb hby d13_20) rfl k) ?_
    show own_Go _ _ _ _ T43 (mkF m 22 _ [(.int (0 : Int32))])
    refine own_st (fun t k => XS.iloadN X43.here hx rfl (hb hby d13_22) rfl k) ?_
    show own_Go _ _ _ _ T43 (mkF m 23 _ [(.int (2 : Int32)), (.int (0 : Int32))])
    refine own_st (fun t k => XS.icmpNo X43.here hx rfl (hb hby d13_23) rfl (tlt (by decide : ((0 : Int32) < (2 : Int32)))).2.1 k) ?_
    show own_Go _ _ _ _ T43 (mkF m 26 _ [])
    refine own_st (fun t k => XS.lloadN X43.here hx rfl (hb hby d13_26) rfl k) ?_
    show own_Go _ _ _ _ T43 (mkF m 27 _ [(.long xc)])
    refine own_st (fun t k => XS.aload X43.here hx rfl (hb hby d13_27) rfl rfl k) ?_
    show own_Go _ _ _ _ T43 (mkF m 29 _ [(.ref oa), (.long xc)])
    refine own_st (fun t k => XS.iload X43.here hx rfl (hb hby d13_29) rfl k) ?_
    show own_Go _ _ _ _ T43 (mkF m 31 _ [(.int (0 : Int32)), (.ref oa), (.long xc)])
    obtain ⟨c44, Ar44, q44, S44, N44, H44⟩ := id f37
    refine own_st (fun t k => X43.laload hx (j := (0 : Int32)) (v := (.long (go 0))) (by rw [e43]; exact Ar44.1) (State.isArrayOf_alike hZ.alike Ar44.2.1) Ar44.2.2 (inb_of S44 ⟨by decide, by decide⟩) (H44 _ (own_lt (inb_of S44 ⟨by decide, by decide⟩))) (g := (mkF m 31 #[sR a, sI (2 : Int32), sJ xc, .second, sR oa, sR ea, sI (0 : Int32), .unset, .unset] [(.int (0 : Int32)), (.ref oa), (.long xc)])) rfl rfl (hb hby d13_31) _ k) ?_
    show own_Go _ _ _ _ T43 (mkF m 32 _ [(.long (go 0)), (.long xc)])
    refine own_st (fun t k => XS.lmul X43.here hx rfl (hb hby d13_32) rfl k) ?_
    show own_Go _ _ _ _ T43 (mkF m 33 _ [(.long (xc * (go 0)))])
    refine own_st (fun t k => XS.aload X43.here hx rfl (hb hby d13_33) rfl rfl k) ?_
    show own_Go _ _ _ _ T43 (mkF m 35 _ [(.ref ea), (.long (xc * (go 0)))])
    refine own_st (fun t k => XS.iload X43.here hx rfl (hb hby d13_35) rfl k) ?_
    show own_Go _ _ _ _ T43 (mkF m 37 _ [(.int (0 : Int32)), (.ref ea), (.long (xc * (go 0)))])
    obtain ⟨c45, Ar45, q45, S45, N45, H45⟩ := id f38
    refine own_st (fun t k => X43.laload hx (j := (0 : Int32)) (v := (.long (ge 0))) (by rw [e43]; exact Ar45.1) (State.isArrayOf_alike hZ.alike Ar45.2.1) Ar45.2.2 (inb_of S45 ⟨by decide, by decide⟩) (H45 _ (own_lt (inb_of S45 ⟨by decide, by decide⟩))) (g := (mkF m 37 #[sR a, sI (2 : Int32), sJ xc, .second, sR oa, sR ea, sI (0 : Int32), .unset, .unset] [(.int (0 : Int32)), (.ref ea), (.long (xc * (go 0)))])) rfl rfl (hb hby d13_37) _ k) ?_
    show own_Go _ _ _ _ T43 (mkF m 38 _ [(.long (ge 0)), (.long (xc * (go 0)))])
    refine own_st (fun t k => XS.ladd X43.here hx rfl (hb hby d13_38) rfl k) ?_
    show own_Go _ _ _ _ T43 (mkF m 39 _ [(.long ((xc * (go 0)) + (ge 0)))])
    refine own_st (fun t k => XS.lstore X43.here hx rfl (hb hby d13_39) rfl (l' := #[sR a, sI (2 : Int32), sJ xc, .second, sR oa, sR ea, sI (0 : Int32), sJ ((xc * (go 0)) + (ge 0)), .second]) rfl k) ?_
    show own_Go _ _ _ _ T43 (mkF m 41 #[sR a, sI (2 : Int32), sJ xc, .second, sR oa, sR ea, sI (0 : Int32), sJ ((xc * (go 0)) + (ge 0)), .second] [])
    refine own_st (fun t k => XS.aloadN X43.here hx rfl (hb hby d13_41) rfl rfl k) ?_
    show own_Go _ _ _ _ T43 (mkF m 42 _ [(.ref a)])
    refine own_st (fun t k => XS.aloadN X43.here hx rfl (hb hby d13_42) rfl rfl k) ?_
    show own_Go _ _ _ _ T43 (mkF m 43 _ [(.ref a), (.ref a)])
    obtain ⟨T46, X46, e46, st46⟩ := getF X43 hx hZ hown (host := "") (Or.inl (own_w hw 35 rfl)) Via.refl e43 f42 (g := (mkF m 43 #[sR a, sI (2 : Int32), sJ xc, .second, sR oa, sR ea, sI (0 : Int32), sJ ((xc * (go 0)) + (ge 0)), .second] [(.ref a), (.ref a)])) rfl rfl (hb hby d13_43)
    refine own_st st46 ?_
    show own_Go _ _ _ _ T46 (mkF m 46 _ [(.int (2 : Int32)), (.ref a)])
    refine own_st (fun t k => XS.iload X46.here hx rfl (hb hby d13_46) rfl k) ?_
    show own_Go _ _ _ _ T46 (mkF m 48 _ [(.int (0 : Int32)), (.int (2 : Int32)), (.ref a)])
    refine own_st (fun t k => XS.iadd X46.here hx rfl (hb hby d13_48) rfl k) ?_
    show own_Go _ _ _ _ T46 (mkF m 49 _ [(.int (2 : Int32)), (.ref a)])
    refine own_st (fun t k => XS.aload X46.here hx rfl (hb hby d13_49) rfl rfl k) ?_
    show own_Go _ _ _ _ T46 (mkF m 51 _ [(.ref ea), (.int (2 : Int32)), (.ref a)])
    refine own_st (fun t k => XS.iload X46.here hx rfl (hb hby d13_51) rfl k) ?_
    show own_Go _ _ _ _ T46 (mkF m 53 _ [(.int (0 : Int32)), (.ref ea), (.int (2 : Int32)), (.ref a)])
    obtain ⟨c47, Ar47, q47, S47, N47, H47⟩ := id f38
    refine own_st (fun t k => X46.laload hx (j := (0 : Int32)) (v := (.long (ge 0))) (by rw [e46]; exact Ar47.1) (State.isArrayOf_alike hZ.alike Ar47.2.1) Ar47.2.2 (inb_of S47 ⟨by decide, by decide⟩) (H47 _ (own_lt (inb_of S47 ⟨by decide, by decide⟩))) (g := (mkF m 53 #[sR a, sI (2 : Int32), sJ xc, .second, sR oa, sR ea, sI (0 : Int32), sJ ((xc * (go 0)) + (ge 0)), .second] [(.int (0 : Int32)), (.ref ea), (.int (2 : Int32)), (.ref a)])) rfl rfl (hb hby d13_53) _ k) ?_
    show own_Go _ _ _ _ T46 (mkF m 54 _ [(.long (ge 0)), (.int (2 : Int32)), (.ref a)])
    refine own_st (fun t k => XS.lload X46.here hx rfl (hb hby d13_54) rfl k) ?_
    show own_Go _ _ _ _ T46 (mkF m 56 _ [(.long ((xc * (go 0)) + (ge 0))), (.long (ge 0)), (.int (2 : Int32)), (.ref a)])
    refine own_st (fun t k => XS.aload X46.here hx rfl (hb hby d13_56) rfl rfl k) ?_
    show own_Go _ _ _ _ T46 (mkF m 58 _ [(.ref ea), (.long ((xc * (go 0)) + (ge 0))), (.long (ge 0)), (.int (2 : Int32)), (.ref a)])
    refine own_st (fun t k => XS.iload X46.here hx rfl (hb hby d13_58) rfl k) ?_
    show own_Go _ _ _ _ T46 (mkF m 60 _ [(.int (0 : Int32)), (.ref ea), (.long ((xc * (go 0)) + (ge 0))), (.long (ge 0)), (.int (2 : Int32)), (.ref a)])
    obtain ⟨c48, Ar48, q48, S48, N48, H48⟩ := id f38
    refine own_st (fun t k => X46.laload hx (j := (0 : Int32)) (v := (.long (ge 0))) (by rw [e46]; exact Ar48.1) (State.isArrayOf_alike hZ.alike Ar48.2.1) Ar48.2.2 (inb_of S48 ⟨by decide, by decide⟩) (H48 _ (own_lt (inb_of S48 ⟨by decide, by decide⟩))) (g := (mkF m 60 #[sR a, sI (2 : Int32), sJ xc, .second, sR oa, sR ea, sI (0 : Int32), sJ ((xc * (go 0)) + (ge 0)), .second] [(.int (0 : Int32)), (.ref ea), (.long ((xc * (go 0)) + (ge 0))), (.long (ge 0)), (.int (2 : Int32)), (.ref a)])) rfl rfl (hb hby d13_60) _ k) ?_
    show own_Go _ _ _ _ T46 (mkF m 61 _ [(.long (ge 0)), (.long ((xc * (go 0)) + (ge 0))), (.long (ge 0)), (.int (2 : Int32)), (.ref a)])
    refine own_st (fun t k => XS.lload X46.here hx rfl (hb hby d13_61) rfl k) ?_
    show own_Go _ _ _ _ T46 (mkF m 63 _ [(.long ((xc * (go 0)) + (ge 0))), (.long (ge 0)), (.long ((xc * (go 0)) + (ge 0))), (.long (ge 0)), (.int (2 : Int32)), (.ref a)])
    obtain ⟨cq49, q49, q49'⟩ := f34.cell
    obtain ⟨_, _, ⟨T49, L49, k49, n49⟩, -, X49, ⟨Lc49, hQ49, l49, y49, z49⟩, st49⟩ := X46.privateBack hx (y := ym7) hown (mvT hZ (own_w hw 37 rfl)) (mvT hZ (own_w hw 38 rfl)) (own_selp (y := ym7) (mvT hZ (own_w hw 4 rfl)) (Cond.privateMethod_at (mvP hZ (own_w hw 39 rfl) (args := #[]))) (mvT hZ (own_w hw 38 rfl)) (by decide)) (Cond.privateMethod_at (mvP hZ (own_w hw 39 rfl) (args := #[]))) (mvT hZ (own_w hw 40 rfl)) (by decide) (backOf (W := 0) (rm19 l Z a0 hw [] a na kn gn (2 : Int32) (ge 0) ((xc * (go 0)) + (ge 0)) (ge 0) ((xc * (go 0)) + (ge 0)) h33 n0 Z40 f34 f35 f36 n1 (by decide) g_na) hZ (own_w hw 40 rfl) (own_w hw 5 rfl) (by decide) (by decide)) (g := (mkF m 63 #[sR a, sI (2 : Int32), sJ xc, .second, sR oa, sR ea, sI (0 : Int32), sJ ((xc * (go 0)) + (ge 0)), .second] [(.long ((xc * (go 0)) + (ge 0))), (.long (ge 0)), (.long ((xc * (go 0)) + (ge 0))), (.long (ge 0)), (.int (2 : Int32)), (.ref a)])) rfl (by rw [hml]; rfl) (Steps.refl _) (a := a) (by rw [e46]; exact q49) q49' (argsL := [(.int (2 : Int32)), (.long (ge 0)), (.long ((xc * (go 0)) + (ge 0))), (.long (ge 0)), (.long ((xc * (go 0)) + (ge 0)))]) (rest := []) (lenOf own_pd__IJJJJ_V rfl) rfl (by show 2 * 0 + _ ≤ _; exact Nat.le_of_eq rfl) (hb hby d13_63) (fun _ _ => ⟨rfl, e46, (by decide : 0 + 0 ≤ _), (by decide : 0 + 0 ≤ _)⟩)
    dsimp only [Pt.U, Pt.locs, Pt.cells, Pt.slots] at X49 l49 y49 z49 st49 hQ49
    subst l49 y49 z49
    obtain ⟨rfl, NQ49, K49, fq49_0⟩ := hQ49
    have N50 := Fr.app N39 NQ49
    refine own_st (fun t k => st49.trans k) ?_
    have f51 := f34.keep K49
    have f52 := f35.keep K49 (ninS (Ne.symm n1) nin0)
    have f53 := f37.keep K49 (ninS n2 nin0)
    have f54 := f38.keep K49 (ninS n3 nin0)
    have f55 := f42.keep K49 (ninS (Ne.symm n1) nin0)
    have Z56 : n0 ≤ T49.heap.size := Nat.le_trans Z40 K49.1
    have K57 : Keep h0 T49.heap [na, a] := K41.trans K49 (allS (Or.inl (List.mem_of_getElem? (i := 0) rfl)) all0)
    show own_Go _ _ _ _ T49 (mkF m 66 _ [])
    refine own_st (fun t k => XS.goto X49.here hx rfl (pc0 := 66) (pc' := 88) rfl (hb hby d13_66) (by decide) (by decide) k) ?_
    show own_Go _ _ _ _ T49 (mkF m 88 _ [])
    refine own_st (fun t k => XS.iinc X49.here hx rfl (hb hby d13_88) rfl (l' := #[sR a, sI (2 : Int32), sJ xc, .second, sR oa, sR ea, sI (1 : Int32), sJ ((xc * (go 0)) + (ge 0)), .second]) rfl k) ?_
    show own_Go _ _ _ _ T49 (mkF m 91 #[sR a, sI (2 : Int32), sJ xc, .second, sR oa, sR ea, sI (1 : Int32), sJ ((xc * (go 0)) + (ge 0)), .second] [])
    show own_Go _ _ _ _ T49 (mkF m 91 _ [])
    refine own_st (fun t k => XS.goto X49.here hx rfl (pc0 := 91) (pc' := 11) rfl (hb hby d13_91) (by decide) (by decide) k) ?_
    show own_Go _ _ _ _ T49 (mkF m 11 _ [])
    refine own_st (fun t k => XS.iload X49.here hx rfl (hb hby d13_11) rfl k) ?_
    show own_Go _ _ _ _ T49 (mkF m 13 _ [(.int (1 : Int32))])
    refine own_st (fun t k => XS.aloadN X49.here hx rfl (hb hby d13_13) rfl rfl k) ?_
    show own_Go _ _ _ _ T49 (mkF m 14 _ [(.ref a), (.int (1 : Int32))])
    obtain ⟨T58, X58, e58, st58⟩ := getF X49 hx hZ hown (host := "") (Or.inl (own_w hw 35 rfl)) Via.refl rfl f55 (g := (mkF m 14 #[sR a, sI (2 : Int32), sJ xc, .second, sR oa, sR ea, sI (1 : Int32), sJ ((xc * (go 0)) + (ge 0)), .second] [(.ref a), (.int (1 : Int32))])) rfl rfl (hb hby d13_14)
    refine own_st st58 ?_
    show own_Go _ _ _ _ T58 (mkF m 17 _ [(.int (2 : Int32)), (.int (1 : Int32))])
    refine own_st (fun t k => XS.icmpNo X58.here hx rfl (hb hby d13_17) rfl (tlt (by decide : ((1 : Int32) < (2 : Int32)))).2.1 k) ?_
    show own_Go _ _ _ _ T58 (mkF m 20 _ [])
    refine own_st (fun t k => XS.iload X58.here hx rfl (hb hby d13_20) rfl k) ?_
    show own_Go _ _ _ _ T58 (mkF m 22 _ [(.int (1 : Int32))])
    refine own_st (fun t k => XS.iloadN X58.here hx rfl (hb hby d13_22) rfl k) ?_
    show own_Go _ _ _ _ T58 (mkF m 23 _ [(.int (2 : Int32)), (.int (1 : Int32))])
    refine own_st (fun t k => XS.icmpNo X58.here hx rfl (hb hby d13_23) rfl (tlt (by decide : ((1 : Int32) < (2 : Int32)))).2.1 k) ?_
    show own_Go _ _ _ _ T58 (mkF m 26 _ [])
    refine own_st (fun t k => XS.lloadN X58.here hx rfl (hb hby d13_26) rfl k) ?_
    show own_Go _ _ _ _ T58 (mkF m 27 _ [(.long xc)])
    refine own_st (fun t k => XS.aload X58.here hx rfl (hb hby d13_27) rfl rfl k) ?_
    show own_Go _ _ _ _ T58 (mkF m 29 _ [(.ref oa), (.long xc)])
    refine own_st (fun t k => XS.iload X58.here hx rfl (hb hby d13_29) rfl k) ?_
    show own_Go _ _ _ _ T58 (mkF m 31 _ [(.int (1 : Int32)), (.ref oa), (.long xc)])
    obtain ⟨c59, Ar59, q59, S59, N59, H59⟩ := id f53
    refine own_st (fun t k => X58.laload hx (j := (1 : Int32)) (v := (.long (go 1))) (by rw [e58]; exact Ar59.1) (State.isArrayOf_alike hZ.alike Ar59.2.1) Ar59.2.2 (inb_of S59 ⟨by decide, by decide⟩) (H59 _ (own_lt (inb_of S59 ⟨by decide, by decide⟩))) (g := (mkF m 31 #[sR a, sI (2 : Int32), sJ xc, .second, sR oa, sR ea, sI (1 : Int32), sJ ((xc * (go 0)) + (ge 0)), .second] [(.int (1 : Int32)), (.ref oa), (.long xc)])) rfl rfl (hb hby d13_31) _ k) ?_
    show own_Go _ _ _ _ T58 (mkF m 32 _ [(.long (go 1)), (.long xc)])
    refine own_st (fun t k => XS.lmul X58.here hx rfl (hb hby d13_32) rfl k) ?_
    show own_Go _ _ _ _ T58 (mkF m 33 _ [(.long (xc * (go 1)))])
    refine own_st (fun t k => XS.aload X58.here hx rfl (hb hby d13_33) rfl rfl k) ?_
    show own_Go _ _ _ _ T58 (mkF m 35 _ [(.ref ea), (.long (xc * (go 1)))])
    refine own_st (fun t k => XS.iload X58.here hx rfl (hb hby d13_35) rfl k) ?_
    show own_Go _ _ _ _ T58 (mkF m 37 _ [(.int (1 : Int32)), (.ref ea), (.long (xc * (go 1)))])
    obtain ⟨c60, Ar60, q60, S60, N60, H60⟩ := id f54
    refine own_st (fun t k => X58.laload hx (j := (1 : Int32)) (v := (.long (ge 1))) (by rw [e58]; exact Ar60.1) (State.isArrayOf_alike hZ.alike Ar60.2.1) Ar60.2.2 (inb_of S60 ⟨by decide, by decide⟩) (H60 _ (own_lt (inb_of S60 ⟨by decide, by decide⟩))) (g := (mkF m 37 #[sR a, sI (2 : Int32), sJ xc, .second, sR oa, sR ea, sI (1 : Int32), sJ ((xc * (go 0)) + (ge 0)), .second] [(.int (1 : Int32)), (.ref ea), (.long (xc * (go 1)))])) rfl rfl (hb hby d13_37) _ k) ?_
    show own_Go _ _ _ _ T58 (mkF m 38 _ [(.long (ge 1)), (.long (xc * (go 1)))])
    refine own_st (fun t k => XS.ladd X58.here hx rfl (hb hby d13_38) rfl k) ?_
    show own_Go _ _ _ _ T58 (mkF m 39 _ [(.long ((xc * (go 1)) + (ge 1)))])
    refine own_st (fun t k => XS.lstore X58.here hx rfl (hb hby d13_39) rfl (l' := #[sR a, sI (2 : Int32), sJ xc, .second, sR oa, sR ea, sI (1 : Int32), sJ ((xc * (go 1)) + (ge 1)), .second]) rfl k) ?_
    show own_Go _ _ _ _ T58 (mkF m 41 #[sR a, sI (2 : Int32), sJ xc, .second, sR oa, sR ea, sI (1 : Int32), sJ ((xc * (go 1)) + (ge 1)), .second] [])
    refine own_st (fun t k => XS.aloadN X58.here hx rfl (hb hby d13_41) rfl rfl k) ?_
    show own_Go _ _ _ _ T58 (mkF m 42 _ [(.ref a)])
    refine own_st (fun t k => XS.aloadN X58.here hx rfl (hb hby d13_42) rfl rfl k) ?_
    show own_Go _ _ _ _ T58 (mkF m 43 _ [(.ref a), (.ref a)])
    obtain ⟨T61, X61, e61, st61⟩ := getF X58 hx hZ hown (host := "") (Or.inl (own_w hw 35 rfl)) Via.refl e58 f55 (g := (mkF m 43 #[sR a, sI (2 : Int32), sJ xc, .second, sR oa, sR ea, sI (1 : Int32), sJ ((xc * (go 1)) + (ge 1)), .second] [(.ref a), (.ref a)])) rfl rfl (hb hby d13_43)
    refine own_st st61 ?_
    show own_Go _ _ _ _ T61 (mkF m 46 _ [(.int (2 : Int32)), (.ref a)])
    refine own_st (fun t k => XS.iload X61.here hx rfl (hb hby d13_46) rfl k) ?_
    show own_Go _ _ _ _ T61 (mkF m 48 _ [(.int (1 : Int32)), (.int (2 : Int32)), (.ref a)])
    refine own_st (fun t k => XS.iadd X61.here hx rfl (hb hby d13_48) rfl k) ?_
    show own_Go _ _ _ _ T61 (mkF m 49 _ [(.int (3 : Int32)), (.ref a)])
    refine own_st (fun t k => XS.aload X61.here hx rfl (hb hby d13_49) rfl rfl k) ?_
    show own_Go _ _ _ _ T61 (mkF m 51 _ [(.ref ea), (.int (3 : Int32)), (.ref a)])
    refine own_st (fun t k => XS.iload X61.here hx rfl (hb hby d13_51) rfl k) ?_
    show own_Go _ _ _ _ T61 (mkF m 53 _ [(.int (1 : Int32)), (.ref ea), (.int (3 : Int32)), (.ref a)])
    obtain ⟨c62, Ar62, q62, S62, N62, H62⟩ := id f54
    refine own_st (fun t k => X61.laload hx (j := (1 : Int32)) (v := (.long (ge 1))) (by rw [e61]; exact Ar62.1) (State.isArrayOf_alike hZ.alike Ar62.2.1) Ar62.2.2 (inb_of S62 ⟨by decide, by decide⟩) (H62 _ (own_lt (inb_of S62 ⟨by decide, by decide⟩))) (g := (mkF m 53 #[sR a, sI (2 : Int32), sJ xc, .second, sR oa, sR ea, sI (1 : Int32), sJ ((xc * (go 1)) + (ge 1)), .second] [(.int (1 : Int32)), (.ref ea), (.int (3 : Int32)), (.ref a)])) rfl rfl (hb hby d13_53) _ k) ?_
    show own_Go _ _ _ _ T61 (mkF m 54 _ [(.long (ge 1)), (.int (3 : Int32)), (.ref a)])
    refine own_st (fun t k => XS.lload X61.here hx rfl (hb hby d13_54) rfl k) ?_
    show own_Go _ _ _ _ T61 (mkF m 56 _ [(.long ((xc * (go 1)) + (ge 1))), (.long (ge 1)), (.int (3 : Int32)), (.ref a)])
    refine own_st (fun t k => XS.aload X61.here hx rfl (hb hby d13_56) rfl rfl k) ?_
    show own_Go _ _ _ _ T61 (mkF m 58 _ [(.ref ea), (.long ((xc * (go 1)) + (ge 1))), (.long (ge 1)), (.int (3 : Int32)), (.ref a)])
    refine own_st (fun t k => XS.iload X61.here hx rfl (hb hby d13_58) rfl k) ?_
    show own_Go _ _ _ _ T61 (mkF m 60 _ [(.int (1 : Int32)), (.ref ea), (.long ((xc * (go 1)) + (ge 1))), (.long (ge 1)), (.int (3 : Int32)), (.ref a)])
    obtain ⟨c63, Ar63, q63, S63, N63, H63⟩ := id f54
    refine own_st (fun t k => X61.laload hx (j := (1 : Int32)) (v := (.long (ge 1))) (by rw [e61]; exact Ar63.1) (State.isArrayOf_alike hZ.alike Ar63.2.1) Ar63.2.2 (inb_of S63 ⟨by decide, by decide⟩) (H63 _ (own_lt (inb_of S63 ⟨by decide, by decide⟩))) (g := (mkF m 60 #[sR a, sI (2 : Int32), sJ xc, .second, sR oa, sR ea, sI (1 : Int32), sJ ((xc * (go 1)) + (ge 1)), .second] [(.int (1 : Int32)), (.ref ea), (.long ((xc * (go 1)) + (ge 1))), (.long (ge 1)), (.int (3 : Int32)), (.ref a)])) rfl rfl (hb hby d13_60) _ k) ?_
    show own_Go _ _ _ _ T61 (mkF m 61 _ [(.long (ge 1)), (.long ((xc * (go 1)) + (ge 1))), (.long (ge 1)), (.int (3 : Int32)), (.ref a)])
    refine own_st (fun t k => XS.lload X61.here hx rfl (hb hby d13_61) rfl k) ?_
    show own_Go _ _ _ _ T61 (mkF m 63 _ [(.long ((xc * (go 1)) + (ge 1))), (.long (ge 1)), (.long ((xc * (go 1)) + (ge 1))), (.long (ge 1)), (.int (3 : Int32)), (.ref a)])
    obtain ⟨cq64, q64, q64'⟩ := f51.cell
    obtain ⟨_, _, ⟨T64, L64, k64, n64⟩, -, X64, ⟨Lc64, hQ64, l64, y64, z64⟩, st64⟩ := X61.privateBack hx (y := ym7) hown (mvT hZ (own_w hw 37 rfl)) (mvT hZ (own_w hw 38 rfl)) (own_selp (y := ym7) (mvT hZ (own_w hw 4 rfl)) (Cond.privateMethod_at (mvP hZ (own_w hw 39 rfl) (args := #[]))) (mvT hZ (own_w hw 38 rfl)) (by decide)) (Cond.privateMethod_at (mvP hZ (own_w hw 39 rfl) (args := #[]))) (mvT hZ (own_w hw 40 rfl)) (by decide) (backOf (W := 0) (rm19 l Z a0 hw [] a na kn (own_set gn (2 : Int32).toNatClampNeg (ge 0) ((xc * (go 0)) + (ge 0)) (ge 0) ((xc * (go 0)) + (ge 0))) (3 : Int32) (ge 1) ((xc * (go 1)) + (ge 1)) (ge 1) ((xc * (go 1)) + (ge 1)) T49.heap n0 Z56 f51 f52 fq49_0 n1 (by decide) g_na) hZ (own_w hw 40 rfl) (own_w hw 5 rfl) (by decide) (by decide)) (g := (mkF m 63 #[sR a, sI (2 : Int32), sJ xc, .second, sR oa, sR ea, sI (1 : Int32), sJ ((xc * (go 1)) + (ge 1)), .second] [(.long ((xc * (go 1)) + (ge 1))), (.long (ge 1)), (.long ((xc * (go 1)) + (ge 1))), (.long (ge 1)), (.int (3 : Int32)), (.ref a)])) rfl (by rw [hml]; rfl) (Steps.refl _) (a := a) (by rw [e61]; exact q64) q64' (argsL := [(.int (3 : Int32)), (.long (ge 1)), (.long ((xc * (go 1)) + (ge 1))), (.long (ge 1)), (.long ((xc * (go 1)) + (ge 1)))]) (rest := []) (lenOf own_pd__IJJJJ_V rfl) rfl (by show 2 * 0 + _ ≤ _; exact Nat.le_of_eq rfl) (hb hby d13_63) (fun _ _ => ⟨rfl, e61, (by decide : 0 + 0 ≤ _), (by decide : 0 + 0 ≤ _)⟩)
    dsimp only [Pt.U, Pt.locs, Pt.cells, Pt.slots] at X64 l64 y64 z64 st64 hQ64
    subst l64 y64 z64
    obtain ⟨rfl, NQ64, K64, fq64_0⟩ := hQ64
    have N65 := Fr.app N50 NQ64
    refine own_st (fun t k => st64.trans k) ?_
    have f66 := f51.keep K64
    have f67 := f52.keep K64 (ninS (Ne.symm n1) nin0)
    have f68 := f53.keep K64 (ninS n2 nin0)
    have f69 := f54.keep K64 (ninS n3 nin0)
    have f70 := f55.keep K64 (ninS (Ne.symm n1) nin0)
    have Z71 : n0 ≤ T64.heap.size := Nat.le_trans Z56 K64.1
    have K72 : Keep h0 T64.heap [na, a] := K57.trans K64 (allS (Or.inl (List.mem_of_getElem? (i := 0) rfl)) all0)
    show own_Go _ _ _ _ T64 (mkF m 66 _ [])
    refine own_st (fun t k => XS.goto X64.here hx rfl (pc0 := 66) (pc' := 88) rfl (hb hby d13_66) (by decide) (by decide) k) ?_
    show own_Go _ _ _ _ T64 (mkF m 88 _ [])
    refine own_st (fun t k => XS.iinc X64.here hx rfl (hb hby d13_88) rfl (l' := #[sR a, sI (2 : Int32), sJ xc, .second, sR oa, sR ea, sI (2 : Int32), sJ ((xc * (go 1)) + (ge 1)), .second]) rfl k) ?_
    show own_Go _ _ _ _ T64 (mkF m 91 #[sR a, sI (2 : Int32), sJ xc, .second, sR oa, sR ea, sI (2 : Int32), sJ ((xc * (go 1)) + (ge 1)), .second] [])
    show own_Go _ _ _ _ T64 (mkF m 91 _ [])
    refine own_st (fun t k => XS.goto X64.here hx rfl (pc0 := 91) (pc' := 11) rfl (hb hby d13_91) (by decide) (by decide) k) ?_
    show own_Go _ _ _ _ T64 (mkF m 11 _ [])
    refine own_st (fun t k => XS.iload X64.here hx rfl (hb hby d13_11) rfl k) ?_
    show own_Go _ _ _ _ T64 (mkF m 13 _ [(.int (2 : Int32))])
    refine own_st (fun t k => XS.aloadN X64.here hx rfl (hb hby d13_13) rfl rfl k) ?_
    show own_Go _ _ _ _ T64 (mkF m 14 _ [(.ref a), (.int (2 : Int32))])
    obtain ⟨T73, X73, e73, st73⟩ := getF X64 hx hZ hown (host := "") (Or.inl (own_w hw 35 rfl)) Via.refl rfl f70 (g := (mkF m 14 #[sR a, sI (2 : Int32), sJ xc, .second, sR oa, sR ea, sI (2 : Int32), sJ ((xc * (go 1)) + (ge 1)), .second] [(.ref a), (.int (2 : Int32))])) rfl rfl (hb hby d13_14)
    refine own_st st73 ?_
    show own_Go _ _ _ _ T73 (mkF m 17 _ [(.int (2 : Int32)), (.int (2 : Int32))])
    refine own_st (fun t k => XS.icmpYes X73.here hx rfl (pc0 := 17) (pc' := 94) rfl (hb hby d13_17) rfl (flt (by decide : ¬ ((2 : Int32) < (2 : Int32)))).2.1 (by decide) (by decide) k) ?_
    show own_Go _ _ _ _ T73 (mkF m 94 _ [])
    refine own_st (fun t k => XS.aloadN X73.here hx rfl (hb hby d13_94) rfl rfl k) ?_
    show own_Go _ _ _ _ T73 (mkF m 95 _ [(.ref a)])
    obtain ⟨T74, X74, e74, st74⟩ := getF X73 hx hZ hown (host := "") (Or.inl (own_w hw 35 rfl)) Via.refl e73 f70 (g := (mkF m 95 #[sR a, sI (2 : Int32), sJ xc, .second, sR oa, sR ea, sI (2 : Int32), sJ ((xc * (go 1)) + (ge 1)), .second] [(.ref a)])) rfl rfl (hb hby d13_95)
    refine own_st st74 ?_
    show own_Go _ _ _ _ T74 (mkF m 98 _ [(.int (2 : Int32))])
    refine own_st (fun t k => XS.iconst X74.here hx rfl (hb hby d13_98) k) ?_
    show own_Go _ _ _ _ T74 (mkF m 99 _ [(.int (1 : Int32)), (.int (2 : Int32))])
    refine own_st (fun t k => XS.isub X74.here hx rfl (hb hby d13_99) rfl k) ?_
    show own_Go _ _ _ _ T74 (mkF m 100 _ [(.int (1 : Int32))])
    refine own_st (fun t k => XS.istore X74.here hx rfl (hb hby d13_100) rfl (l' := #[sR a, sI (2 : Int32), sJ xc, .second, sR oa, sR ea, sI (1 : Int32), sJ ((xc * (go 1)) + (ge 1)), .second]) rfl k) ?_
    show own_Go _ _ _ _ T74 (mkF m 102 #[sR a, sI (2 : Int32), sJ xc, .second, sR oa, sR ea, sI (1 : Int32), sJ ((xc * (go 1)) + (ge 1)), .second] [])
    refine own_st (fun t k => XS.iload X74.here hx rfl (hb hby d13_102) rfl k) ?_
    show own_Go _ _ _ _ T74 (mkF m 104 _ [(.int (1 : Int32))])
    refine own_st (fun t k => XS.iconst X74.here hx rfl (hb hby d13_104) k) ?_
    show own_Go _ _ _ _ T74 (mkF m 105 _ [(.int (1 : Int32)), (.int (1 : Int32))])
    refine own_st (fun t k => XS.icmpNo X74.here hx rfl (hb hby d13_105) rfl (flt (by decide : ¬ ((1 : Int32) < (1 : Int32)))).1 k) ?_
    show own_Go _ _ _ _ T74 (mkF m 108 _ [])
    refine own_st (fun t k => XS.aloadN X74.here hx rfl (hb hby d13_108) rfl rfl k) ?_
    show own_Go _ _ _ _ T74 (mkF m 109 _ [(.ref a)])
    refine own_st (fun t k => XS.iload X74.here hx rfl (hb hby d13_109) rfl k) ?_
    show own_Go _ _ _ _ T74 (mkF m 111 _ [(.int (1 : Int32)), (.ref a)])
    obtain ⟨cq75, q75, q75'⟩ := f66.cell
    obtain ⟨_, _, ⟨T75, L75, k75, n75⟩, -, X75, ⟨Lc75, hQ75, l75, y75, z75⟩, st75⟩ := X74.privateBack hx (y := ym8) hown (mvT hZ (own_w hw 78 rfl)) (mvT hZ (own_w hw 79 rfl)) (own_selp (y := ym8) (mvT hZ (own_w hw 4 rfl)) (Cond.privateMethod_at (mvP hZ (own_w hw 80 rfl) (args := #[]))) (mvT hZ (own_w hw 79 rfl)) (by decide)) (Cond.privateMethod_at (mvP hZ (own_w hw 80 rfl) (args := #[]))) (mvT hZ (own_w hw 81 rfl)) (by decide) (backOf (W := 0) (rm20 l Z a0 hw [] a na kn (own_set (own_set gn (2 : Int32).toNatClampNeg (ge 0) ((xc * (go 0)) + (ge 0)) (ge 0) ((xc * (go 0)) + (ge 0))) (3 : Int32).toNatClampNeg (ge 1) ((xc * (go 1)) + (ge 1)) (ge 1) ((xc * (go 1)) + (ge 1))) (1 : Int32) T64.heap n0 Z71 f66 f67 fq64_0 n1 (by decide) g_na) hZ (own_w hw 81 rfl) (own_w hw 5 rfl) (by decide) (by decide)) (g := (mkF m 111 #[sR a, sI (2 : Int32), sJ xc, .second, sR oa, sR ea, sI (1 : Int32), sJ ((xc * (go 1)) + (ge 1)), .second] [(.int (1 : Int32)), (.ref a)])) rfl (by rw [hml]; rfl) (Steps.refl _) (a := a) (by rw [e74]; exact q75) q75' (argsL := [(.int (1 : Int32))]) (rest := []) (lenOf own_pd__I_V rfl) rfl (by show 2 * 0 + _ ≤ _; exact Nat.le_of_eq rfl) (hb hby d13_111) (fun _ _ => ⟨rfl, e74, (by decide : 0 + 0 ≤ _), (by decide : 0 + 0 ≤ _)⟩)
    dsimp only [Pt.U, Pt.locs, Pt.cells, Pt.slots] at X75 l75 y75 z75 st75 hQ75
    subst l75 y75 z75
    obtain ⟨rfl, NQ75, K75, fq75_0⟩ := hQ75
    have N76 := Fr.app N65 NQ75
    refine own_st (fun t k => st75.trans k) ?_
    have f77 := f66.keep K75
    have f78 := f67.keep K75 (ninS (Ne.symm n1) nin0)
    have f79 := f68.keep K75 (ninS n2 nin0)
    have f80 := f69.keep K75 (ninS n3 nin0)
    have f81 := f70.keep K75 (ninS (Ne.symm n1) nin0)
    have Z82 : n0 ≤ T75.heap.size := Nat.le_trans Z71 K75.1
    have K83 : Keep h0 T75.heap [na, a] := K72.trans K75 (allS (Or.inl (List.mem_of_getElem? (i := 0) rfl)) all0)
    show own_Go _ _ _ _ T75 (mkF m 114 _ [])
    refine own_st (fun t k => XS.iinc X75.here hx rfl (hb hby d13_114) rfl (l' := #[sR a, sI (2 : Int32), sJ xc, .second, sR oa, sR ea, sI (0 : Int32), sJ ((xc * (go 1)) + (ge 1)), .second]) rfl k) ?_
    show own_Go _ _ _ _ T75 (mkF m 117 #[sR a, sI (2 : Int32), sJ xc, .second, sR oa, sR ea, sI (0 : Int32), sJ ((xc * (go 1)) + (ge 1)), .second] [])
    show own_Go _ _ _ _ T75 (mkF m 117 _ [])
    refine own_st (fun t k => XS.goto X75.here hx rfl (pc0 := 117) (pc' := 102) rfl (hb hby d13_117) (by decide) (by decide) k) ?_
    show own_Go _ _ _ _ T75 (mkF m 102 _ [])
    refine own_st (fun t k => XS.iload X75.here hx rfl (hb hby d13_102) rfl k) ?_
    show own_Go _ _ _ _ T75 (mkF m 104 _ [(.int (0 : Int32))])
    refine own_st (fun t k => XS.iconst X75.here hx rfl (hb hby d13_104) k) ?_
    show own_Go _ _ _ _ T75 (mkF m 105 _ [(.int (1 : Int32)), (.int (0 : Int32))])
    refine own_st (fun t k => XS.icmpYes X75.here hx rfl (pc0 := 105) (pc' := 120) rfl (hb hby d13_105) rfl (tlt (by decide : ((0 : Int32) < (1 : Int32)))).1 (by decide) (by decide) k) ?_
    show own_Go _ _ _ _ T75 (mkF m 120 _ [])
    subst hPq
    refine own_out X75 (v := none) (fun _ => rfl) Bd.notSynchronized (fun fs hr => X75.returnOut hx Bd.returns (hb hby d13_120) hr) (by decide) (by decide) ?_
    show Q25 Z a (2 : Int32) xc oa ea na kn gn ko go ke ge l0 h0 n0 _ T75.heap _
    have eg84 : (own_comb (own_set (own_set gn (2 : Int32).toNatClampNeg (ge 0) ((xc * (go 0)) + (ge 0)) (ge 0) ((xc * (go 0)) + (ge 0))) (3 : Int32).toNatClampNeg (ge 1) ((xc * (go 1)) + (ge 1)) (ge 1) ((xc * (go 1)) + (ge 1))) (1 : Int32).toNatClampNeg) = own_fill2 gn xc go ge := by simp only [own_lit0, own_lit1, own_lit2, own_lit3, own_lit4, own_lit5, own_lit6, own_lit7]; rfl
    have fz84 := fq75_0
    rw [eg84] at fz84
    exact ⟨rfl, N76, K83, f77, f78, f81, fz84⟩
  · skip
    show own_Go _ _ _ _ s₁ (mkF m 0 #[sR a, sI (3 : Int32), sJ xc, .second, sR oa, sR ea, .unset, .unset, .unset] [])
    refine own_st (fun t k => XS.aloadN X0.here hx rfl (hb hby d13_0) rfl rfl k) ?_
    show own_Go _ _ _ _ s₁ (mkF m 1 _ [(.ref a)])
    refine own_st (fun t k => XS.iloadN X0.here hx rfl (hb hby d13_1) rfl k) ?_
    show own_Go _ _ _ _ s₁ (mkF m 2 _ [(.int (3 : Int32)), (.ref a)])
    obtain ⟨_, _, ⟨T85, L85, k85, n85⟩, -, X85, ⟨Lc85, hQ85, l85, y85, z85⟩, st85⟩ := Jvm.LawKit.callS X0 hx (y := ym4) hown (mvT hZ (own_w hw 12 rfl)) (mvT hZ (own_w hw 13 rfl)) (mvT hZ (own_w hw 5 rfl)) (mvT hZ (own_w hw 14 rfl)) (by decide) (backOf (W := 1) (rm12 l Z a0 hw []  h0 n0 Z0 ) hZ (own_w hw 14 rfl) (own_w hw 5 rfl) (by decide) (by decide)) (g := (mkF m 2 #[sR a, sI (3 : Int32), sJ xc, .second, sR oa, sR ea, .unset, .unset, .unset] [(.int (3 : Int32)), (.ref a)])) rfl (by rw [hml]; rfl) (argsL := [(.int (3 : Int32))]) (rest := [(.ref a)]) (lenOf own_pd__I_I rfl) rfl (by show 2 * 0 + _ ≤ _; exact Nat.le_of_eq rfl) (hb hby d13_2) (fun _ _ => ⟨rfl, e0, (by decide : 0 + 0 ≤ _), (by decide : 0 + 0 ≤ _)⟩)
    dsimp only [Pt.U, Pt.locs, Pt.cells, Pt.slots] at X85 l85 y85 z85 st85 hQ85
    subst l85 y85 z85
    obtain ⟨rfl, NQ85, eq85⟩ := hQ85
    have N86 := Fr.app N0 NQ85
    refine own_st st85 ?_
    show own_Go _ _ _ _ T85 (mkF m 5 _ [(.int (4 : Int32)), (.ref a)])
    obtain ⟨T87, h87, X87, e87, W87, st87⟩ := putF X85 hx hZ hown (host := "") (Or.inl (own_w hw 35 rfl)) Via.refl eq85 F3 F0 (Or.inl (own_w hw 36 rfl)) (own_w hw 4 rfl) (ty := .int) (by decide) rfl rfl (g := (mkF m 5 #[sR a, sI (3 : Int32), sJ xc, .second, sR oa, sR ea, .unset, .unset, .unset] [(.int (4 : Int32)), (.ref a)])) rfl rfl (hb hby d13_5)
    refine own_st st87 ?_
    have f88 := F0.wr W87
    have f89 := F1.other W87 (Or.inr (slot_ne (Or.inr (own_w hw 29 rfl)) (Or.inl (own_w hw 36 rfl)) (by decide) (t := (.array .long)) (t' := .int) (by decide) (by decide)))
    have f90 := F2.other W87 n1
    have f91 := F4.other W87 n4
    have f92 := F5.other W87 n5
    have N93 := Fr.snoc X87 N86 g_a
    have Z94 : n0 ≤ h87.size := Nat.le_trans Z0 (Nat.le_of_eq W87.size.symm)
    have K95 : Keep h0 h87 [na, a] := K0.wr W87 (Or.inl (List.mem_of_getElem? (i := 1) rfl))
    have f96 := F3.same W87
    show own_Go _ _ _ _ T87 (mkF m 8 _ [])
    refine own_st (fun t k => XS.iconst X87.here hx rfl (hb hby d13_8) k) ?_
    show own_Go _ _ _ _ T87 (mkF m 9 _ [(.int (0 : Int32))])
    refine own_st (fun t k => XS.istore X87.here hx rfl (hb hby d13_9) rfl (l' := #[sR a, sI (3 : Int32), sJ xc, .second, sR oa, sR ea, sI (0 : Int32), .unset, .unset]) rfl k) ?_
    show own_Go _ _ _ _ T87 (mkF m 11 #[sR a, sI (3 : Int32), sJ xc, .second, sR oa, sR ea, sI (0 : Int32), .unset, .unset] [])
    refine own_st (fun t k => XS.iload X87.here hx rfl (hb hby d13_11) rfl k) ?_
    show own_Go _ _ _ _ T87 (mkF m 13 _ [(.int (0 : Int32))])
    refine own_st (fun t k => XS.aloadN X87.here hx rfl (hb hby d13_13) rfl rfl k) ?_
    show own_Go _ _ _ _ T87 (mkF m 14 _ [(.ref a), (.int (0 : Int32))])
    obtain ⟨T97, X97, e97, st97⟩ := getF X87 hx hZ hown (host := "") (Or.inl (own_w hw 35 rfl)) Via.refl e87 f96 (g := (mkF m 14 #[sR a, sI (3 : Int32), sJ xc, .second, sR oa, sR ea, sI (0 : Int32), .unset, .unset] [(.ref a), (.int (0 : Int32))])) rfl rfl (hb hby d13_14)
    refine own_st st97 ?_
    show own_Go _ _ _ _ T97 (mkF m 17 _ [(.int (4 : Int32)), (.int (0 : Int32))])
    refine own_st (fun t k => XS.icmpNo X97.here hx rfl (hb hby d13_17) rfl (tlt (by decide : ((0 : Int32) < (4 : Int32)))).2.1 k) ?_
    show own_Go _ _ _ _ T97 (mkF m 20 _ [])
    refine own_st (fun t k => XS.iload X97.here hx rfl (hb hby d13_20) rfl k) ?_
    show own_Go _ _ _ _ T97 (mkF m 22 _ [(.int (0 : Int32))])
    refine own_st (fun t k => XS.iloadN X97.here hx rfl (hb hby d13_22) rfl k) ?_
    show own_Go _ _ _ _ T97 (mkF m 23 _ [(.int (3 : Int32)), (.int (0 : Int32))])
    refine own_st (fun t k => XS.icmpNo X97.here hx rfl (hb hby d13_23) rfl (tlt (by decide : ((0 : Int32) < (3 : Int32)))).2.1 k) ?_
    show own_Go _ _ _ _ T97 (mkF m 26 _ [])
    refine own_st (fun t k => XS.lloadN X97.here hx rfl (hb hby d13_26) rfl k) ?_
    show own_Go _ _ _ _ T97 (mkF m 27 _ [(.long xc)])
    refine own_st (fun t k => XS.aload X97.here hx rfl (hb hby d13_27) rfl rfl k) ?_
    show own_Go _ _ _ _ T97 (mkF m 29 _ [(.ref oa), (.long xc)])
    refine own_st (fun t k => XS.iload X97.here hx rfl (hb hby d13_29) rfl k) ?_
    show own_Go _ _ _ _ T97 (mkF m 31 _ [(.int (0 : Int32)), (.ref oa), (.long xc)])
    obtain ⟨c98, Ar98, q98, S98, N98, H98⟩ := id f91
    refine own_st (fun t k => X97.laload hx (j := (0 : Int32)) (v := (.long (go 0))) (by rw [e97]; exact Ar98.1) (State.isArrayOf_alike hZ.alike Ar98.2.1) Ar98.2.2 (inb_of S98 ⟨by decide, by decide⟩) (H98 _ (own_lt (inb_of S98 ⟨by decide, by decide⟩))) (g := (mkF m 31 #[sR a, sI (3 : Int32), sJ xc, .second, sR oa, sR ea, sI (0 : Int32), .unset, .unset] [(.int (0 : Int32)), (.ref oa), (.long xc)])) rfl rfl (hb hby d13_31) _ k) ?_
    show own_Go _ _ _ _ T97 (mkF m 32 _ [(.long (go 0)), (.long xc)])
    refine own_st (fun t k => XS.lmul X97.here hx rfl (hb hby d13_32) rfl k) ?_
    show own_Go _ _ _ _ T97 (mkF m 33 _ [(.long (xc * (go 0)))])
    refine own_st (fun t k => XS.aload X97.here hx rfl (hb hby d13_33) rfl rfl k) ?_
    show own_Go _ _ _ _ T97 (mkF m 35 _ [(.ref ea), (.long (xc * (go 0)))])
    refine own_st (fun t k => XS.iload X97.here hx rfl (hb hby d13_35) rfl k) ?_
    show own_Go _ _ _ _ T97 (mkF m 37 _ [(.int (0 : Int32)), (.ref ea), (.long (xc * (go 0)))])
    obtain ⟨c99, Ar99, q99, S99, N99, H99⟩ := id f92
    refine own_st (fun t k => X97.laload hx (j := (0 : Int32)) (v := (.long (ge 0))) (by rw [e97]; exact Ar99.1) (State.isArrayOf_alike hZ.alike Ar99.2.1) Ar99.2.2 (inb_of S99 ⟨by decide, by decide⟩) (H99 _ (own_lt (inb_of S99 ⟨by decide, by decide⟩))) (g := (mkF m 37 #[sR a, sI (3 : Int32), sJ xc, .second, sR oa, sR ea, sI (0 : Int32), .unset, .unset] [(.int (0 : Int32)), (.ref ea), (.long (xc * (go 0)))])) rfl rfl (hb hby d13_37) _ k) ?_
    show own_Go _ _ _ _ T97 (mkF m 38 _ [(.long (ge 0)), (.long (xc * (go 0)))])
    refine own_st (fun t k => XS.ladd X97.here hx rfl (hb hby d13_38) rfl k) ?_
    show own_Go _ _ _ _ T97 (mkF m 39 _ [(.long ((xc * (go 0)) + (ge 0)))])
    refine own_st (fun t k => XS.lstore X97.here hx rfl (hb hby d13_39) rfl (l' := #[sR a, sI (3 : Int32), sJ xc, .second, sR oa, sR ea, sI (0 : Int32), sJ ((xc * (go 0)) + (ge 0)), .second]) rfl k) ?_
    show own_Go _ _ _ _ T97 (mkF m 41 #[sR a, sI (3 : Int32), sJ xc, .second, sR oa, sR ea, sI (0 : Int32), sJ ((xc * (go 0)) + (ge 0)), .second] [])
    refine own_st (fun t k => XS.aloadN X97.here hx rfl (hb hby d13_41) rfl rfl k) ?_
    show own_Go _ _ _ _ T97 (mkF m 42 _ [(.ref a)])
    refine own_st (fun t k => XS.aloadN X97.here hx rfl (hb hby d13_42) rfl rfl k) ?_
    show own_Go _ _ _ _ T97 (mkF m 43 _ [(.ref a), (.ref a)])
    obtain ⟨T100, X100, e100, st100⟩ := getF X97 hx hZ hown (host := "") (Or.inl (own_w hw 35 rfl)) Via.refl e97 f96 (g := (mkF m 43 #[sR a, sI (3 : Int32), sJ xc, .second, sR oa, sR ea, sI (0 : Int32), sJ ((xc * (go 0)) + (ge 0)), .second] [(.ref a), (.ref a)])) rfl rfl (hb hby d13_43)
    refine own_st st100 ?_
    show own_Go _ _ _ _ T100 (mkF m 46 _ [(.int (4 : Int32)), (.ref a)])
    refine own_st (fun t k => XS.iload X100.here hx rfl (hb hby d13_46) rfl k) ?_
    show own_Go _ _ _ _ T100 (mkF m 48 _ [(.int (0 : Int32)), (.int (4 : Int32)), (.ref a)])
    refine own_st (fun t k => XS.iadd X100.here hx rfl (hb hby d13_48) rfl k) ?_
    show own_Go _ _ _ _ T100 (mkF m 49 _ [(.int (4 : Int32)), (.ref a)])
    refine own_st (fun t k => XS.aload X100.here hx rfl (hb hby d13_49) rfl rfl k) ?_
    show own_Go _ _ _ _ T100 (mkF m 51 _ [(.ref ea), (.int (4 : Int32)), (.ref a)])
    refine own_st (fun t k => XS.iload X100.here hx rfl (hb hby d13_51) rfl k) ?_
    show own_Go _ _ _ _ T100 (mkF m 53 _ [(.int (0 : Int32)), (.ref ea), (.int (4 : Int32)), (.ref a)])
    obtain ⟨c101, Ar101, q101, S101, N101, H101⟩ := id f92
    refine own_st (fun t k => X100.laload hx (j := (0 : Int32)) (v := (.long (ge 0))) (by rw [e100]; exact Ar101.1) (State.isArrayOf_alike hZ.alike Ar101.2.1) Ar101.2.2 (inb_of S101 ⟨by decide, by decide⟩) (H101 _ (own_lt (inb_of S101 ⟨by decide, by decide⟩))) (g := (mkF m 53 #[sR a, sI (3 : Int32), sJ xc, .second, sR oa, sR ea, sI (0 : Int32), sJ ((xc * (go 0)) + (ge 0)), .second] [(.int (0 : Int32)), (.ref ea), (.int (4 : Int32)), (.ref a)])) rfl rfl (hb hby d13_53) _ k) ?_
    show own_Go _ _ _ _ T100 (mkF m 54 _ [(.long (ge 0)), (.int (4 : Int32)), (.ref a)])
    refine own_st (fun t k => XS.lload X100.here hx rfl (hb hby d13_54) rfl k) ?_
    show own_Go _ _ _ _ T100 (mkF m 56 _ [(.long ((xc * (go 0)) + (ge 0))), (.long (ge 0)), (.int (4 : Int32)), (.ref a)])
    refine own_st (fun t k => XS.aload X100.here hx rfl (hb hby d13_56) rfl rfl k) ?_
    show own_Go _ _ _ _ T100 (mkF m 58 _ [(.ref ea), (.long ((xc * (go 0)) + (ge 0))), (.long (ge 0)), (.int (4 : Int32)), (.ref a)])
    refine own_st (fun t k => XS.iload X100.here hx rfl (hb hby d13_58) rfl k) ?_
    show own_Go _ _ _ _ T100 (mkF m 60 _ [(.int (0 : Int32)), (.ref ea), (.long ((xc * (go 0)) + (ge 0))), (.long (ge 0)), (.int (4 : Int32)), (.ref a)])
    obtain ⟨c102, Ar102, q102, S102, N102, H102⟩ := id f92
    refine own_st (fun t k => X100.laload hx (j := (0 : Int32)) (v := (.long (ge 0))) (by rw [e100]; exact Ar102.1) (State.isArrayOf_alike hZ.alike Ar102.2.1) Ar102.2.2 (inb_of S102 ⟨by decide, by decide⟩) (H102 _ (own_lt (inb_of S102 ⟨by decide, by decide⟩))) (g := (mkF m 60 #[sR a, sI (3 : Int32), sJ xc, .second, sR oa, sR ea, sI (0 : Int32), sJ ((xc * (go 0)) + (ge 0)), .second] [(.int (0 : Int32)), (.ref ea), (.long ((xc * (go 0)) + (ge 0))), (.long (ge 0)), (.int (4 : Int32)), (.ref a)])) rfl rfl (hb hby d13_60) _ k) ?_
    show own_Go _ _ _ _ T100 (mkF m 61 _ [(.long (ge 0)), (.long ((xc * (go 0)) + (ge 0))), (.long (ge 0)), (.int (4 : Int32)), (.ref a)])
    refine own_st (fun t k => XS.lload X100.here hx rfl (hb hby d13_61) rfl k) ?_
    show own_Go _ _ _ _ T100 (mkF m 63 _ [(.long ((xc * (go 0)) + (ge 0))), (.long (ge 0)), (.long ((xc * (go 0)) + (ge 0))), (.long (ge 0)), (.int (4 : Int32)), (.ref a)])
    obtain ⟨cq103, q103, q103'⟩ := f88.cell
    obtain ⟨_, _, ⟨T103, L103, k103, n103⟩, -, X103, ⟨Lc103, hQ103, l103, y103, z103⟩, st103⟩ := X100.privateBack hx (y := ym7) hown (mvT hZ (own_w hw 37 rfl)) (mvT hZ (own_w hw 38 rfl)) (own_selp (y := ym7) (mvT hZ (own_w hw 4 rfl)) (Cond.privateMethod_at (mvP hZ (own_w hw 39 rfl) (args := #[]))) (mvT hZ (own_w hw 38 rfl)) (by decide)) (Cond.privateMethod_at (mvP hZ (own_w hw 39 rfl) (args := #[]))) (mvT hZ (own_w hw 40 rfl)) (by decide) (backOf (W := 0) (rm19 l Z a0 hw [] a na kn gn (4 : Int32) (ge 0) ((xc * (go 0)) + (ge 0)) (ge 0) ((xc * (go 0)) + (ge 0)) h87 n0 Z94 f88 f89 f90 n1 (by decide) g_na) hZ (own_w hw 40 rfl) (own_w hw 5 rfl) (by decide) (by decide)) (g := (mkF m 63 #[sR a, sI (3 : Int32), sJ xc, .second, sR oa, sR ea, sI (0 : Int32), sJ ((xc * (go 0)) + (ge 0)), .second] [(.long ((xc * (go 0)) + (ge 0))), (.long (ge 0)), (.long ((xc * (go 0)) + (ge 0))), (.long (ge 0)), (.int (4 : Int32)), (.ref a)])) rfl (by rw [hml]; rfl) (Steps.refl _) (a := a) (by rw [e100]; exact q103) q103' (argsL := [(.int (4 : Int32)), (.long (ge 0)), (.long ((xc * (go 0)) + (ge 0))), (.long (ge 0)), (.long ((xc * (go 0)) + (ge 0)))]) (rest := []) (lenOf own_pd__IJJJJ_V rfl) rfl (by show 2 * 0 + _ ≤ _; exact Nat.le_of_eq rfl) (hb hby d13_63) (fun _ _ => ⟨rfl, e100, (by decide : 0 + 0 ≤ _), (by decide : 0 + 0 ≤ _)⟩)
    dsimp only [Pt.U, Pt.locs, Pt.cells, Pt.slots] at X103 l103 y103 z103 st103 hQ103
    subst l103 y103 z103
    obtain ⟨rfl, NQ103, K103, fq103_0⟩ := hQ103
    have N104 := Fr.app N93 NQ103
    refine own_st (fun t k => st103.trans k) ?_
    have f105 := f88.keep K103
    have f106 := f89.keep K103 (ninS (Ne.symm n1) nin0)
    have f107 := f91.keep K103 (ninS n2 nin0)
    have f108 := f92.keep K103 (ninS n3 nin0)
    have f109 := f96.keep K103 (ninS (Ne.symm n1) nin0)
    have Z110 : n0 ≤ T103.heap.size := Nat.le_trans Z94 K103.1
    have K111 : Keep h0 T103.heap [na, a] := K95.trans K103 (allS (Or.inl (List.mem_of_getElem? (i := 0) rfl)) all0)
    show own_Go _ _ _ _ T103 (mkF m 66 _ [])
    refine own_st (fun t k => XS.goto X103.here hx rfl (pc0 := 66) (pc' := 88) rfl (hb hby d13_66) (by decide) (by decide) k) ?_
    show own_Go _ _ _ _ T103 (mkF m 88 _ [])
    refine own_st (fun t k => XS.iinc X103.here hx rfl (hb hby d13_88) rfl (l' := #[sR a, sI (3 : Int32), sJ xc, .second, sR oa, sR ea, sI (1 : Int32), sJ ((xc * (go 0)) + (ge 0)), .second]) rfl k) ?_
    show own_Go _ _ _ _ T103 (mkF m 91 #[sR a, sI (3 : Int32), sJ xc, .second, sR oa, sR ea, sI (1 : Int32), sJ ((xc * (go 0)) + (ge 0)), .second] [])
    show own_Go _ _ _ _ T103 (mkF m 91 _ [])
    refine own_st (fun t k => XS.goto X103.here hx rfl (pc0 := 91) (pc' := 11) rfl (hb hby d13_91) (by decide) (by decide) k) ?_
    show own_Go _ _ _ _ T103 (mkF m 11 _ [])
    refine own_st (fun t k => XS.iload X103.here hx rfl (hb hby d13_11) rfl k) ?_
    show own_Go _ _ _ _ T103 (mkF m 13 _ [(.int (1 : Int32))])
    refine own_st (fun t k => XS.aloadN X103.here hx rfl (hb hby d13_13) rfl rfl k) ?_
    show own_Go _ _ _ _ T103 (mkF m 14 _ [(.ref a), (.int (1 : Int32))])
    obtain ⟨T112, X112, e112, st112⟩ := getF X103 hx hZ hown (host := "") (Or.inl (own_w hw 35 rfl)) Via.refl rfl f109 (g := (mkF m 14 #[sR a, sI (3 : Int32), sJ xc, .second, sR oa, sR ea, sI (1 : Int32), sJ ((xc * (go 0)) + (ge 0)), .second] [(.ref a), (.int (1 : Int32))])) rfl rfl (hb hby d13_14)
    refine own_st st112 ?_
    show own_Go _ _ _ _ T112 (mkF m 17 _ [(.int (4 : Int32)), (.int (1 : Int32))])
    refine own_st (fun t k => XS.icmpNo X112.here hx rfl (hb hby d13_17) rfl (tlt (by decide : ((1 : Int32) < (4 : Int32)))).2.1 k) ?_
    show own_Go _ _ _ _ T112 (mkF m 20 _ [])
    refine own_st (fun t k => XS.iload X112.here hx rfl (hb hby d13_20) rfl k) ?_
    show own_Go _ _ _ _ T112 (mkF m 22 _ [(.int (1 : Int32))])
    refine own_st (fun t k => XS.iloadN X112.here hx rfl (hb hby d13_22) rfl k) ?_
    show own_Go _ _ _ _ T112 (mkF m 23 _ [(.int (3 : Int32)), (.int (1 : Int32))])
    refine own_st (fun t k => XS.icmpNo X112.here hx rfl (hb hby d13_23) rfl (tlt (by decide : ((1 : Int32) < (3 : Int32)))).2.1 k) ?_
    show own_Go _ _ _ _ T112 (mkF m 26 _ [])
    refine own_st (fun t k => XS.lloadN X112.here hx rfl (hb hby d13_26) rfl k) ?_
    show own_Go _ _ _ _ T112 (mkF m 27 _ [(.long xc)])
    refine own_st (fun t k => XS.aload X112.here hx rfl (hb hby d13_27) rfl rfl k) ?_
    show own_Go _ _ _ _ T112 (mkF m 29 _ [(.ref oa), (.long xc)])
    refine own_st (fun t k => XS.iload X112.here hx rfl (hb hby d13_29) rfl k) ?_
    show own_Go _ _ _ _ T112 (mkF m 31 _ [(.int (1 : Int32)), (.ref oa), (.long xc)])
    obtain ⟨c113, Ar113, q113, S113, N113, H113⟩ := id f107
    refine own_st (fun t k => X112.laload hx (j := (1 : Int32)) (v := (.long (go 1))) (by rw [e112]; exact Ar113.1) (State.isArrayOf_alike hZ.alike Ar113.2.1) Ar113.2.2 (inb_of S113 ⟨by decide, by decide⟩) (H113 _ (own_lt (inb_of S113 ⟨by decide, by decide⟩))) (g := (mkF m 31 #[sR a, sI (3 : Int32), sJ xc, .second, sR oa, sR ea, sI (1 : Int32), sJ ((xc * (go 0)) + (ge 0)), .second] [(.int (1 : Int32)), (.ref oa), (.long xc)])) rfl rfl (hb hby d13_31) _ k) ?_
    show own_Go _ _ _ _ T112 (mkF m 32 _ [(.long (go 1)), (.long xc)])
    refine own_st (fun t k => XS.lmul X112.here hx rfl (hb hby d13_32) rfl k) ?_
    show own_Go _ _ _ _ T112 (mkF m 33 _ [(.long (xc * (go 1)))])
    refine own_st (fun t k => XS.aload X112.here hx rfl (hb hby d13_33) rfl rfl k) ?_
    show own_Go _ _ _ _ T112 (mkF m 35 _ [(.ref ea), (.long (xc * (go 1)))])
    refine own_st (fun t k => XS.iload X112.here hx rfl (hb hby d13_35) rfl k) ?_
    show own_Go _ _ _ _ T112 (mkF m 37 _ [(.int (1 : Int32)), (.ref ea), (.long (xc * (go 1)))])
    obtain ⟨c114, Ar114, q114, S114, N114, H114⟩ := id f108
    refine own_st (fun t k => X112.laload hx (j := (1 : Int32)) (v := (.long (ge 1))) (by rw [e112]; exact Ar114.1) (State.isArrayOf_alike hZ.alike Ar114.2.1) Ar114.2.2 (inb_of S114 ⟨by decide, by decide⟩) (H114 _ (own_lt (inb_of S114 ⟨by decide, by decide⟩))) (g := (mkF m 37 #[sR a, sI (3 : Int32), sJ xc, .second, sR oa, sR ea, sI (1 : Int32), sJ ((xc * (go 0)) + (ge 0)), .second] [(.int (1 : Int32)), (.ref ea), (.long (xc * (go 1)))])) rfl rfl (hb hby d13_37) _ k) ?_
    show own_Go _ _ _ _ T112 (mkF m 38 _ [(.long (ge 1)), (.long (xc * (go 1)))])
    refine own_st (fun t k => XS.ladd X112.here hx rfl (hb hby d13_38) rfl k) ?_
    show own_Go _ _ _ _ T112 (mkF m 39 _ [(.long ((xc * (go 1)) + (ge 1)))])
    refine own_st (fun t k => XS.lstore X112.here hx rfl (hb hby d13_39) rfl (l' := #[sR a, sI (3 : Int32), sJ xc, .second, sR oa, sR ea, sI (1 : Int32), sJ ((xc * (go 1)) + (ge 1)), .second]) rfl k) ?_
    show own_Go _ _ _ _ T112 (mkF m 41 #[sR a, sI (3 : Int32), sJ xc, .second, sR oa, sR ea, sI (1 : Int32), sJ ((xc * (go 1)) + (ge 1)), .second] [])
    refine own_st (fun t k => XS.aloadN X112.here hx rfl (hb hby d13_41) rfl rfl k) ?_
    show own_Go _ _ _ _ T112 (mkF m 42 _ [(.ref a)])
    refine own_st (fun t k => XS.aloadN X112.here hx rfl (hb hby d13_42) rfl rfl k) ?_
    show own_Go _ _ _ _ T112 (mkF m 43 _ [(.ref a), (.ref a)])
    obtain ⟨T115, X115, e115, st115⟩ := getF X112 hx hZ hown (host := "") (Or.inl (own_w hw 35 rfl)) Via.refl e112 f109 (g := (mkF m 43 #[sR a, sI (3 : Int32), sJ xc, .second, sR oa, sR ea, sI (1 : Int32), sJ ((xc * (go 1)) + (ge 1)), .second] [(.ref a), (.ref a)])) rfl rfl (hb hby d13_43)
    refine own_st st115 ?_
    show own_Go _ _ _ _ T115 (mkF m 46 _ [(.int (4 : Int32)), (.ref a)])
    refine own_st (fun t k => XS.iload X115.here hx rfl (hb hby d13_46) rfl k) ?_
    show own_Go _ _ _ _ T115 (mkF m 48 _ [(.int (1 : Int32)), (.int (4 : Int32)), (.ref a)])
    refine own_st (fun t k => XS.iadd X115.here hx rfl (hb hby d13_48) rfl k) ?_
    show own_Go _ _ _ _ T115 (mkF m 49 _ [(.int (5 : Int32)), (.ref a)])
    refine own_st (fun t k => XS.aload X115.here hx rfl (hb hby d13_49) rfl rfl k) ?_
    show own_Go _ _ _ _ T115 (mkF m 51 _ [(.ref ea), (.int (5 : Int32)), (.ref a)])
    refine own_st (fun t k => XS.iload X115.here hx rfl (hb hby d13_51) rfl k) ?_
    show own_Go _ _ _ _ T115 (mkF m 53 _ [(.int (1 : Int32)), (.ref ea), (.int (5 : Int32)), (.ref a)])
    obtain ⟨c116, Ar116, q116, S116, N116, H116⟩ := id f108
    refine own_st (fun t k => X115.laload hx (j := (1 : Int32)) (v := (.long (ge 1))) (by rw [e115]; exact Ar116.1) (State.isArrayOf_alike hZ.alike Ar116.2.1) Ar116.2.2 (inb_of S116 ⟨by decide, by decide⟩) (H116 _ (own_lt (inb_of S116 ⟨by decide, by decide⟩))) (g := (mkF m 53 #[sR a, sI (3 : Int32), sJ xc, .second, sR oa, sR ea, sI (1 : Int32), sJ ((xc * (go 1)) + (ge 1)), .second] [(.int (1 : Int32)), (.ref ea), (.int (5 : Int32)), (.ref a)])) rfl rfl (hb hby d13_53) _ k) ?_
    show own_Go _ _ _ _ T115 (mkF m 54 _ [(.long (ge 1)), (.int (5 : Int32)), (.ref a)])
    refine own_st (fun t k => XS.lload X115.here hx rfl (hb hby d13_54) rfl k) ?_
    show own_Go _ _ _ _ T115 (mkF m 56 _ [(.long ((xc * (go 1)) + (ge 1))), (.long (ge 1)), (.int (5 : Int32)), (.ref a)])
    refine own_st (fun t k => XS.aload X115.here hx rfl (hb hby d13_56) rfl rfl k) ?_
    show own_Go _ _ _ _ T115 (mkF m 58 _ [(.ref ea), (.long ((xc * (go 1)) + (ge 1))), (.long (ge 1)), (.int (5 : Int32)), (.ref a)])
    refine own_st (fun t k => XS.iload X115.here hx rfl (hb hby d13_58) rfl k) ?_
    show own_Go _ _ _ _ T115 (mkF m 60 _ [(.int (1 : Int32)), (.ref ea), (.long ((xc * (go 1)) + (ge 1))), (.long (ge 1)), (.int (5 : Int32)), (.ref a)])
    obtain ⟨c117, Ar117, q117, S117, N117, H117⟩ := id f108
    refine own_st (fun t k => X115.laload hx (j := (1 : Int32)) (v := (.long (ge 1))) (by rw [e115]; exact Ar117.1) (State.isArrayOf_alike hZ.alike Ar117.2.1) Ar117.2.2 (inb_of S117 ⟨by decide, by decide⟩) (H117 _ (own_lt (inb_of S117 ⟨by decide, by decide⟩))) (g := (mkF m 60 #[sR a, sI (3 : Int32), sJ xc, .second, sR oa, sR ea, sI (1 : Int32), sJ ((xc * (go 1)) + (ge 1)), .second] [(.int (1 : Int32)), (.ref ea), (.long ((xc * (go 1)) + (ge 1))), (.long (ge 1)), (.int (5 : Int32)), (.ref a)])) rfl rfl (hb hby d13_60) _ k) ?_
    show own_Go _ _ _ _ T115 (mkF m 61 _ [(.long (ge 1)), (.long ((xc * (go 1)) + (ge 1))), (.long (ge 1)), (.int (5 : Int32)), (.ref a)])
    refine own_st (fun t k => XS.lload X115.here hx rfl (hb hby d13_61) rfl k) ?_
    show own_Go _ _ _ _ T115 (mkF m 63 _ [(.long ((xc * (go 1)) + (ge 1))), (.long (ge 1)), (.long ((xc * (go 1)) + (ge 1))), (.long (ge 1)), (.int (5 : Int32)), (.ref a)])
    obtain ⟨cq118, q118, q118'⟩ := f105.cell
    obtain ⟨_, _, ⟨T118, L118, k118, n118⟩, -, X118, ⟨Lc118, hQ118, l118, y118, z118⟩, st118⟩ := X115.privateBack hx (y := ym7) hown (mvT hZ (own_w hw 37 rfl)) (mvT hZ (own_w hw 38 rfl)) (own_selp (y := ym7) (mvT hZ (own_w hw 4 rfl)) (Cond.privateMethod_at (mvP hZ (own_w hw 39 rfl) (args := #[]))) (mvT hZ (own_w hw 38 rfl)) (by decide)) (Cond.privateMethod_at (mvP hZ (own_w hw 39 rfl) (args := #[]))) (mvT hZ (own_w hw 40 rfl)) (by decide) (backOf (W := 0) (rm19 l Z a0 hw [] a na kn (own_set gn (4 : Int32).toNatClampNeg (ge 0) ((xc * (go 0)) + (ge 0)) (ge 0) ((xc * (go 0)) + (ge 0))) (5 : Int32) (ge 1) ((xc * (go 1)) + (ge 1)) (ge 1) ((xc * (go 1)) + (ge 1)) T103.heap n0 Z110 f105 f106 fq103_0 n1 (by decide) g_na) hZ (own_w hw 40 rfl) (own_w hw 5 rfl) (by decide) (by decide)) (g := (mkF m 63 #[sR a, sI (3 : Int32), sJ xc, .second, sR oa, sR ea, sI (1 : Int32), sJ ((xc * (go 1)) + (ge 1)), .second] [(.long ((xc * (go 1)) + (ge 1))), (.long (ge 1)), (.long ((xc * (go 1)) + (ge 1))), (.long (ge 1)), (.int (5 : Int32)), (.ref a)])) rfl (by rw [hml]; rfl) (Steps.refl _) (a := a) (by rw [e115]; exact q118) q118' (argsL := [(.int (5 : Int32)), (.long (ge 1)), (.long ((xc * (go 1)) + (ge 1))), (.long (ge 1)), (.long ((xc * (go 1)) + (ge 1)))]) (rest := []) (lenOf own_pd__IJJJJ_V rfl) rfl (by show 2 * 0 + _ ≤ _; exact Nat.le_of_eq rfl) (hb hby d13_63) (fun _ _ => ⟨rfl, e115, (by decide : 0 + 0 ≤ _), (by decide : 0 + 0 ≤ _)⟩)
    dsimp only [Pt.U, Pt.locs, Pt.cells, Pt.slots] at X118 l118 y118 z118 st118 hQ118
    subst l118 y118 z118
    obtain ⟨rfl, NQ118, K118, fq118_0⟩ := hQ118
    have N119 := Fr.app N104 NQ118
    refine own_st (fun t k => st118.trans k) ?_
    have f120 := f105.keep K118
    have f121 := f106.keep K118 (ninS (Ne.symm n1) nin0)
    have f122 := f107.keep K118 (ninS n2 nin0)
    have f123 := f108.keep K118 (ninS n3 nin0)
    have f124 := f109.keep K118 (ninS (Ne.symm n1) nin0)
    have Z125 : n0 ≤ T118.heap.size := Nat.le_trans Z110 K118.1
    have K126 : Keep h0 T118.heap [na, a] := K111.trans K118 (allS (Or.inl (List.mem_of_getElem? (i := 0) rfl)) all0)
    show own_Go _ _ _ _ T118 (mkF m 66 _ [])
    refine own_st (fun t k => XS.goto X118.here hx rfl (pc0 := 66) (pc' := 88) rfl (hb hby d13_66) (by decide) (by decide) k) ?_
    show own_Go _ _ _ _ T118 (mkF m 88 _ [])
    refine own_st (fun t k => XS.iinc X118.here hx rfl (hb hby d13_88) rfl (l' := #[sR a, sI (3 : Int32), sJ xc, .second, sR oa, sR ea, sI (2 : Int32), sJ ((xc * (go 1)) + (ge 1)), .second]) rfl k) ?_
    show own_Go _ _ _ _ T118 (mkF m 91 #[sR a, sI (3 : Int32), sJ xc, .second, sR oa, sR ea, sI (2 : Int32), sJ ((xc * (go 1)) + (ge 1)), .second] [])
    show own_Go _ _ _ _ T118 (mkF m 91 _ [])
    refine own_st (fun t k => XS.goto X118.here hx rfl (pc0 := 91) (pc' := 11) rfl (hb hby d13_91) (by decide) (by decide) k) ?_
    show own_Go _ _ _ _ T118 (mkF m 11 _ [])
    refine own_st (fun t k => XS.iload X118.here hx rfl (hb hby d13_11) rfl k) ?_
    show own_Go _ _ _ _ T118 (mkF m 13 _ [(.int (2 : Int32))])
    refine own_st (fun t k => XS.aloadN X118.here hx rfl (hb hby d13_13) rfl rfl k) ?_
    show own_Go _ _ _ _ T118 (mkF m 14 _ [(.ref a), (.int (2 : Int32))])
    obtain ⟨T127, X127, e127, st127⟩ := getF X118 hx hZ hown (host := "") (Or.inl (own_w hw 35 rfl)) Via.refl rfl f124 (g := (mkF m 14 #[sR a, sI (3 : Int32), sJ xc, .second, sR oa, sR ea, sI (2 : Int32), sJ ((xc * (go 1)) + (ge 1)), .second] [(.ref a), (.int (2 : Int32))])) rfl rfl (hb hby d13_14)
    refine own_st st127 ?_
    show own_Go _ _ _ _ T127 (mkF m 17 _ [(.int (4 : Int32)), (.int (2 : Int32))])
    refine own_st (fun t k => XS.icmpNo X127.here hx rfl (hb hby d13_17) rfl (tlt (by decide : ((2 : Int32) < (4 : Int32)))).2.1 k) ?_
    show own_Go _ _ _ _ T127 (mkF m 20 _ [])
    refine own_st (fun t k => XS.iload X127.here hx rfl (hb hby d13_20) rfl k) ?_
    show own_Go _ _ _ _ T127 (mkF m 22 _ [(.int (2 : Int32))])
    refine own_st (fun t k => XS.iloadN X127.here hx rfl (hb hby d13_22) rfl k) ?_
    show own_Go _ _ _ _ T127 (mkF m 23 _ [(.int (3 : Int32)), (.int (2 : Int32))])
    refine own_st (fun t k => XS.icmpNo X127.here hx rfl (hb hby d13_23) rfl (tlt (by decide : ((2 : Int32) < (3 : Int32)))).2.1 k) ?_
    show own_Go _ _ _ _ T127 (mkF m 26 _ [])
    refine own_st (fun t k => XS.lloadN X127.here hx rfl (hb hby d13_26) rfl k) ?_
    show own_Go _ _ _ _ T127 (mkF m 27 _ [(.long xc)])
    refine own_st (fun t k => XS.aload X127.here hx rfl (hb hby d13_27) rfl rfl k) ?_
    show own_Go _ _ _ _ T127 (mkF m 29 _ [(.ref oa), (.long xc)])
    refine own_st (fun t k => XS.iload X127.here hx rfl (hb hby d13_29) rfl k) ?_
    show own_Go _ _ _ _ T127 (mkF m 31 _ [(.int (2 : Int32)), (.ref oa), (.long xc)])
    obtain ⟨c128, Ar128, q128, S128, N128, H128⟩ := id f122
    refine own_st (fun t k => X127.laload hx (j := (2 : Int32)) (v := (.long (go 2))) (by rw [e127]; exact Ar128.1) (State.isArrayOf_alike hZ.alike Ar128.2.1) Ar128.2.2 (inb_of S128 ⟨by decide, by decide⟩) (H128 _ (own_lt (inb_of S128 ⟨by decide, by decide⟩))) (g := (mkF m 31 #[sR a, sI (3 : Int32), sJ xc, .second, sR oa, sR ea, sI (2 : Int32), sJ ((xc * (go 1)) + (ge 1)), .second] [(.int (2 : Int32)), (.ref oa), (.long xc)])) rfl rfl (hb hby d13_31) _ k) ?_
    show own_Go _ _ _ _ T127 (mkF m 32 _ [(.long (go 2)), (.long xc)])
    refine own_st (fun t k => XS.lmul X127.here hx rfl (hb hby d13_32) rfl k) ?_
    show own_Go _ _ _ _ T127 (mkF m 33 _ [(.long (xc * (go 2)))])
    refine own_st (fun t k => XS.aload X127.here hx rfl (hb hby d13_33) rfl rfl k) ?_
    show own_Go _ _ _ _ T127 (mkF m 35 _ [(.ref ea), (.long (xc * (go 2)))])
    refine own_st (fun t k => XS.iload X127.here hx rfl (hb hby d13_35) rfl k) ?_
    show own_Go _ _ _ _ T127 (mkF m 37 _ [(.int (2 : Int32)), (.ref ea), (.long (xc * (go 2)))])
    obtain ⟨c129, Ar129, q129, S129, N129, H129⟩ := id f123
    refine own_st (fun t k => X127.laload hx (j := (2 : Int32)) (v := (.long (ge 2))) (by rw [e127]; exact Ar129.1) (State.isArrayOf_alike hZ.alike Ar129.2.1) Ar129.2.2 (inb_of S129 ⟨by decide, by decide⟩) (H129 _ (own_lt (inb_of S129 ⟨by decide, by decide⟩))) (g := (mkF m 37 #[sR a, sI (3 : Int32), sJ xc, .second, sR oa, sR ea, sI (2 : Int32), sJ ((xc * (go 1)) + (ge 1)), .second] [(.int (2 : Int32)), (.ref ea), (.long (xc * (go 2)))])) rfl rfl (hb hby d13_37) _ k) ?_
    show own_Go _ _ _ _ T127 (mkF m 38 _ [(.long (ge 2)), (.long (xc * (go 2)))])
    refine own_st (fun t k => XS.ladd X127.here hx rfl (hb hby d13_38) rfl k) ?_
    show own_Go _ _ _ _ T127 (mkF m 39 _ [(.long ((xc * (go 2)) + (ge 2)))])
    refine own_st (fun t k => XS.lstore X127.here hx rfl (hb hby d13_39) rfl (l' := #[sR a, sI (3 : Int32), sJ xc, .second, sR oa, sR ea, sI (2 : Int32), sJ ((xc * (go 2)) + (ge 2)), .second]) rfl k) ?_
    show own_Go _ _ _ _ T127 (mkF m 41 #[sR a, sI (3 : Int32), sJ xc, .second, sR oa, sR ea, sI (2 : Int32), sJ ((xc * (go 2)) + (ge 2)), .second] [])
    refine own_st (fun t k => XS.aloadN X127.here hx rfl (hb hby d13_41) rfl rfl k) ?_
    show own_Go _ _ _ _ T127 (mkF m 42 _ [(.ref a)])
    refine own_st (fun t k => XS.aloadN X127.here hx rfl (hb hby d13_42) rfl rfl k) ?_
    show own_Go _ _ _ _ T127 (mkF m 43 _ [(.ref a), (.ref a)])
    obtain ⟨T130, X130, e130, st130⟩ := getF X127 hx hZ hown (host := "") (Or.inl (own_w hw 35 rfl)) Via.refl e127 f124 (g := (mkF m 43 #[sR a, sI (3 : Int32), sJ xc, .second, sR oa, sR ea, sI (2 : Int32), sJ ((xc * (go 2)) + (ge 2)), .second] [(.ref a), (.ref a)])) rfl rfl (hb hby d13_43)
    refine own_st st130 ?_
    show own_Go _ _ _ _ T130 (mkF m 46 _ [(.int (4 : Int32)), (.ref a)])
    refine own_st (fun t k => XS.iload X130.here hx rfl (hb hby d13_46) rfl k) ?_
    show own_Go _ _ _ _ T130 (mkF m 48 _ [(.int (2 : Int32)), (.int (4 : Int32)), (.ref a)])
    refine own_st (fun t k => XS.iadd X130.here hx rfl (hb hby d13_48) rfl k) ?_
    show own_Go _ _ _ _ T130 (mkF m 49 _ [(.int (6 : Int32)), (.ref a)])
    refine own_st (fun t k => XS.aload X130.here hx rfl (hb hby d13_49) rfl rfl k) ?_
    show own_Go _ _ _ _ T130 (mkF m 51 _ [(.ref ea), (.int (6 : Int32)), (.ref a)])
    refine own_st (fun t k => XS.iload X130.here hx rfl (hb hby d13_51) rfl k) ?_
    show own_Go _ _ _ _ T130 (mkF m 53 _ [(.int (2 : Int32)), (.ref ea), (.int (6 : Int32)), (.ref a)])
    obtain ⟨c131, Ar131, q131, S131, N131, H131⟩ := id f123
    refine own_st (fun t k => X130.laload hx (j := (2 : Int32)) (v := (.long (ge 2))) (by rw [e130]; exact Ar131.1) (State.isArrayOf_alike hZ.alike Ar131.2.1) Ar131.2.2 (inb_of S131 ⟨by decide, by decide⟩) (H131 _ (own_lt (inb_of S131 ⟨by decide, by decide⟩))) (g := (mkF m 53 #[sR a, sI (3 : Int32), sJ xc, .second, sR oa, sR ea, sI (2 : Int32), sJ ((xc * (go 2)) + (ge 2)), .second] [(.int (2 : Int32)), (.ref ea), (.int (6 : Int32)), (.ref a)])) rfl rfl (hb hby d13_53) _ k) ?_
    show own_Go _ _ _ _ T130 (mkF m 54 _ [(.long (ge 2)), (.int (6 : Int32)), (.ref a)])
    refine own_st (fun t k => XS.lload X130.here hx rfl (hb hby d13_54) rfl k) ?_
    show own_Go _ _ _ _ T130 (mkF m 56 _ [(.long ((xc * (go 2)) + (ge 2))), (.long (ge 2)), (.int (6 : Int32)), (.ref a)])
    refine own_st (fun t k => XS.aload X130.here hx rfl (hb hby d13_56) rfl rfl k) ?_
    show own_Go _ _ _ _ T130 (mkF m 58 _ [(.ref ea), (.long ((xc * (go 2)) + (ge 2))), (.long (ge 2)), (.int (6 : Int32)), (.ref a)])
    refine own_st (fun t k => XS.iload X130.here hx rfl (hb hby d13_58) rfl k) ?_
    show own_Go _ _ _ _ T130 (mkF m 60 _ [(.int (2 : Int32)), (.ref ea), (.long ((xc * (go 2)) + (ge 2))), (.long (ge 2)), (.int (6 : Int32)), (.ref a)])
    obtain ⟨c132, Ar132, q132, S132, N132, H132⟩ := id f123
    refine own_st (fun t k => X130.laload hx (j := (2 : Int32)) (v := (.long (ge 2))) (by rw [e130]; exact Ar132.1) (State.isArrayOf_alike hZ.alike Ar132.2.1) Ar132.2.2 (inb_of S132 ⟨by decide, by decide⟩) (H132 _ (own_lt (inb_of S132 ⟨by decide, by decide⟩))) (g := (mkF m 60 #[sR a, sI (3 : Int32), sJ xc, .second, sR oa, sR ea, sI (2 : Int32), sJ ((xc * (go 2)) + (ge 2)), .second] [(.int (2 : Int32)), (.ref ea), (.long ((xc * (go 2)) + (ge 2))), (.long (ge 2)), (.int (6 : Int32)), (.ref a)])) rfl rfl (hb hby d13_60) _ k) ?_
    show own_Go _ _ _ _ T130 (mkF m 61 _ [(.long (ge 2)), (.long ((xc * (go 2)) + (ge 2))), (.long (ge 2)), (.int (6 : Int32)), (.ref a)])
    refine own_st (fun t k => XS.lload X130.here hx rfl (hb hby d13_61) rfl k) ?_
    show own_Go _ _ _ _ T130 (mkF m 63 _ [(.long ((xc * (go 2)) + (ge 2))), (.long (ge 2)), (.long ((xc * (go 2)) + (ge 2))), (.long (ge 2)), (.int (6 : Int32)), (.ref a)])
    obtain ⟨cq133, q133, q133'⟩ := f120.cell
    obtain ⟨_, _, ⟨T133, L133, k133, n133⟩, -, X133, ⟨Lc133, hQ133, l133, y133, z133⟩, st133⟩ := X130.privateBack hx (y := ym7) hown (mvT hZ (own_w hw 37 rfl)) (mvT hZ (own_w hw 38 rfl)) (own_selp (y := ym7) (mvT hZ (own_w hw 4 rfl)) (Cond.privateMethod_at (mvP hZ (own_w hw 39 rfl) (args := #[]))) (mvT hZ (own_w hw 38 rfl)) (by decide)) (Cond.privateMethod_at (mvP hZ (own_w hw 39 rfl) (args := #[]))) (mvT hZ (own_w hw 40 rfl)) (by decide) (backOf (W := 0) (rm19 l Z a0 hw [] a na kn (own_set (own_set gn (4 : Int32).toNatClampNeg (ge 0) ((xc * (go 0)) + (ge 0)) (ge 0) ((xc * (go 0)) + (ge 0))) (5 : Int32).toNatClampNeg (ge 1) ((xc * (go 1)) + (ge 1)) (ge 1) ((xc * (go 1)) + (ge 1))) (6 : Int32) (ge 2) ((xc * (go 2)) + (ge 2)) (ge 2) ((xc * (go 2)) + (ge 2)) T118.heap n0 Z125 f120 f121 fq118_0 n1 (by decide) g_na) hZ (own_w hw 40 rfl) (own_w hw 5 rfl) (by decide) (by decide)) (g := (mkF m 63 #[sR a, sI (3 : Int32), sJ xc, .second, sR oa, sR ea, sI (2 : Int32), sJ ((xc * (go 2)) + (ge 2)), .second] [(.long ((xc * (go 2)) + (ge 2))), (.long (ge 2)), (.long ((xc * (go 2)) + (ge 2))), (.long (ge 2)), (.int (6 : Int32)), (.ref a)])) rfl (by rw [hml]; rfl) (Steps.refl _) (a := a) (by rw [e130]; exact q133) q133' (argsL := [(.int (6 : Int32)), (.long (ge 2)), (.long ((xc * (go 2)) + (ge 2))), (.long (ge 2)), (.long ((xc * (go 2)) + (ge 2)))]) (rest := []) (lenOf own_pd__IJJJJ_V rfl) rfl (by show 2 * 0 + _ ≤ _; exact Nat.le_of_eq rfl) (hb hby d13_63) (fun _ _ => ⟨rfl, e130, (by decide : 0 + 0 ≤ _), (by decide : 0 + 0 ≤ _)⟩)
    dsimp only [Pt.U, Pt.locs, Pt.cells, Pt.slots] at X133 l133 y133 z133 st133 hQ133
    subst l133 y133 z133
    obtain ⟨rfl, NQ133, K133, fq133_0⟩ := hQ133
    have N134 := Fr.app N119 NQ133
    refine own_st (fun t k => st133.trans k) ?_
    have f135 := f120.keep K133
    have f136 := f121.keep K133 (ninS (Ne.symm n1) nin0)
    have f137 := f122.keep K133 (ninS n2 nin0)
    have f138 := f123.keep K133 (ninS n3 nin0)
    have f139 := f124.keep K133 (ninS (Ne.symm n1) nin0)
    have Z140 : n0 ≤ T133.heap.size := Nat.le_trans Z125 K133.1
    have K141 : Keep h0 T133.heap [na, a] := K126.trans K133 (allS (Or.inl (List.mem_of_getElem? (i := 0) rfl)) all0)
    show own_Go _ _ _ _ T133 (mkF m 66 _ [])
    refine own_st (fun t k => XS.goto X133.here hx rfl (pc0 := 66) (pc' := 88) rfl (hb hby d13_66) (by decide) (by decide) k) ?_
    show own_Go _ _ _ _ T133 (mkF m 88 _ [])
    refine own_st (fun t k => XS.iinc X133.here hx rfl (hb hby d13_88) rfl (l' := #[sR a, sI (3 : Int32), sJ xc, .second, sR oa, sR ea, sI (3 : Int32), sJ ((xc * (go 2)) + (ge 2)), .second]) rfl k) ?_
    show own_Go _ _ _ _ T133 (mkF m 91 #[sR a, sI (3 : Int32), sJ xc, .second, sR oa, sR ea, sI (3 : Int32), sJ ((xc * (go 2)) + (ge 2)), .second] [])
    show own_Go _ _ _ _ T133 (mkF m 91 _ [])
    refine own_st (fun t k => XS.goto X133.here hx rfl (pc0 := 91) (pc' := 11) rfl (hb hby d13_91) (by decide) (by decide) k) ?_
    show own_Go _ _ _ _ T133 (mkF m 11 _ [])
    refine own_st (fun t k => XS.iload X133.here hx rfl (hb hby d13_11) rfl k) ?_
    show own_Go _ _ _ _ T133 (mkF m 13 _ [(.int (3 : Int32))])
    refine own_st (fun t k => XS.aloadN X133.here hx rfl (hb hby d13_13) rfl rfl k) ?_
    show own_Go _ _ _ _ T133 (mkF m 14 _ [(.ref a), (.int (3 : Int32))])
    obtain ⟨T142, X142, e142, st142⟩ := getF X133 hx hZ hown (host := "") (Or.inl (own_w hw 35 rfl)) Via.refl rfl f139 (g := (mkF m 14 #[sR a, sI (3 : Int32), sJ xc, .second, sR oa, sR ea, sI (3 : Int32), sJ ((xc * (go 2)) + (ge 2)), .second] [(.ref a), (.int (3 : Int32))])) rfl rfl (hb hby d13_14)
    refine own_st st142 ?_
    show own_Go _ _ _ _ T142 (mkF m 17 _ [(.int (4 : Int32)), (.int (3 : Int32))])
    refine own_st (fun t k => XS.icmpNo X142.here hx rfl (hb hby d13_17) rfl (tlt (by decide : ((3 : Int32) < (4 : Int32)))).2.1 k) ?_
    show own_Go _ _ _ _ T142 (mkF m 20 _ [])
    refine own_st (fun t k => XS.iload X142.here hx rfl (hb hby d13_20) rfl k) ?_
    show own_Go _ _ _ _ T142 (mkF m 22 _ [(.int (3 : Int32))])
    refine own_st (fun t k => XS.iloadN X142.here hx rfl (hb hby d13_22) rfl k) ?_
    show own_Go _ _ _ _ T142 (mkF m 23 _ [(.int (3 : Int32)), (.int (3 : Int32))])
    refine own_st (fun t k => XS.icmpYes X142.here hx rfl (pc0 := 23) (pc' := 69) rfl (hb hby d13_23) rfl (flt (by decide : ¬ ((3 : Int32) < (3 : Int32)))).2.1 (by decide) (by decide) k) ?_
    show own_Go _ _ _ _ T142 (mkF m 69 _ [])
    refine own_st (fun t k => XS.aloadN X142.here hx rfl (hb hby d13_69) rfl rfl k) ?_
    show own_Go _ _ _ _ T142 (mkF m 70 _ [(.ref a)])
    refine own_st (fun t k => XS.aloadN X142.here hx rfl (hb hby d13_70) rfl rfl k) ?_
    show own_Go _ _ _ _ T142 (mkF m 71 _ [(.ref a), (.ref a)])
    obtain ⟨T143, X143, e143, st143⟩ := getF X142 hx hZ hown (host := "") (Or.inl (own_w hw 35 rfl)) Via.refl e142 f139 (g := (mkF m 71 #[sR a, sI (3 : Int32), sJ xc, .second, sR oa, sR ea, sI (3 : Int32), sJ ((xc * (go 2)) + (ge 2)), .second] [(.ref a), (.ref a)])) rfl rfl (hb hby d13_71)
    refine own_st st143 ?_
    show own_Go _ _ _ _ T143 (mkF m 74 _ [(.int (4 : Int32)), (.ref a)])
    refine own_st (fun t k => XS.iload X143.here hx rfl (hb hby d13_74) rfl k) ?_
    show own_Go _ _ _ _ T143 (mkF m 76 _ [(.int (3 : Int32)), (.int (4 : Int32)), (.ref a)])
    refine own_st (fun t k => XS.iadd X143.here hx rfl (hb hby d13_76) rfl k) ?_
    show own_Go _ _ _ _ T143 (mkF m 77 _ [(.int (7 : Int32)), (.ref a)])
    refine own_st (fun t k => XS.lconst X143.here hx rfl (hb hby d13_77) k) ?_
    show own_Go _ _ _ _ T143 (mkF m 78 _ [(.long (0 : Int64)), (.int (7 : Int32)), (.ref a)])
    refine own_st (fun t k => X143.ldc2Long hx hown (mvT hZ (own_w hw 63 rfl)) (g := (mkF m 78 #[sR a, sI (3 : Int32), sJ xc, .second, sR oa, sR ea, sI (3 : Int32), sJ ((xc * (go 2)) + (ge 2)), .second] [(.long (0 : Int64)), (.int (7 : Int32)), (.ref a)])) rfl (hb hby d13_78) _ k) ?_
    show own_Go _ _ _ _ T143 (mkF m 81 _ [(.long (-4611686018427387904 : Int64)), (.long (0 : Int64)), (.int (7 : Int32)), (.ref a)])
    refine own_st (fun t k => XS.lconst X143.here hx rfl (hb hby d13_81) k) ?_
    show own_Go _ _ _ _ T143 (mkF m 82 _ [(.long (0 : Int64)), (.long (-4611686018427387904 : Int64)), (.long (0 : Int64)), (.int (7 : Int32)), (.ref a)])
    refine own_st (fun t k => X143.ldc2Long hx hown (mvT hZ (own_w hw 63 rfl)) (g := (mkF m 82 #[sR a, sI (3 : Int32), sJ xc, .second, sR oa, sR ea, sI (3 : Int32), sJ ((xc * (go 2)) + (ge 2)), .second] [(.long (0 : Int64)), (.long (-4611686018427387904 : Int64)), (.long (0 : Int64)), (.int (7 : Int32)), (.ref a)])) rfl (hb hby d13_82) _ k) ?_
    show own_Go _ _ _ _ T143 (mkF m 85 _ [(.long (-4611686018427387904 : Int64)), (.long (0 : Int64)), (.long (-4611686018427387904 : Int64)), (.long (0 : Int64)), (.int (7 : Int32)), (.ref a)])
    obtain ⟨cq144, q144, q144'⟩ := f135.cell
    obtain ⟨_, _, ⟨T144, L144, k144, n144⟩, -, X144, ⟨Lc144, hQ144, l144, y144, z144⟩, st144⟩ := X143.privateBack hx (y := ym7) hown (mvT hZ (own_w hw 37 rfl)) (mvT hZ (own_w hw 38 rfl)) (own_selp (y := ym7) (mvT hZ (own_w hw 4 rfl)) (Cond.privateMethod_at (mvP hZ (own_w hw 39 rfl) (args := #[]))) (mvT hZ (own_w hw 38 rfl)) (by decide)) (Cond.privateMethod_at (mvP hZ (own_w hw 39 rfl) (args := #[]))) (mvT hZ (own_w hw 40 rfl)) (by decide) (backOf (W := 0) (rm19 l Z a0 hw [] a na kn (own_set (own_set (own_set gn (4 : Int32).toNatClampNeg (ge 0) ((xc * (go 0)) + (ge 0)) (ge 0) ((xc * (go 0)) + (ge 0))) (5 : Int32).toNatClampNeg (ge 1) ((xc * (go 1)) + (ge 1)) (ge 1) ((xc * (go 1)) + (ge 1))) (6 : Int32).toNatClampNeg (ge 2) ((xc * (go 2)) + (ge 2)) (ge 2) ((xc * (go 2)) + (ge 2))) (7 : Int32) (0 : Int64) (-4611686018427387904 : Int64) (0 : Int64) (-4611686018427387904 : Int64) T133.heap n0 Z140 f135 f136 fq133_0 n1 (by decide) g_na) hZ (own_w hw 40 rfl) (own_w hw 5 rfl) (by decide) (by decide)) (g := (mkF m 85 #[sR a, sI (3 : Int32), sJ xc, .second, sR oa, sR ea, sI (3 : Int32), sJ ((xc * (go 2)) + (ge 2)), .second] [(.long (-4611686018427387904 : Int64)), (.long (0 : Int64)), (.long (-4611686018427387904 : Int64)), (.long (0 : Int64)), (.int (7 : Int32)), (.ref a)])) rfl (by rw [hml]; rfl) (Steps.refl _) (a := a) (by rw [e143]; exact q144) q144' (argsL := [(.int (7 : Int32)), (.long (0 : Int64)), (.long (-4611686018427387904 : Int64)), (.long (0 : Int64)), (.long (-4611686018427387904 : Int64))]) (rest := []) (lenOf own_pd__IJJJJ_V rfl) rfl (by show 2 * 0 + _ ≤ _; exact Nat.le_of_eq rfl) (hb hby d13_85) (fun _ _ => ⟨rfl, e143, (by decide : 0 + 0 ≤ _), (by decide : 0 + 0 ≤ _)⟩)
    dsimp only [Pt.U, Pt.locs, Pt.cells, Pt.slots] at X144 l144 y144 z144 st144 hQ144
    subst l144 y144 z144
    obtain ⟨rfl, NQ144, K144, fq144_0⟩ := hQ144
    have N145 := Fr.app N134 NQ144
    refine own_st (fun t k => st144.trans k) ?_
    have f146 := f135.keep K144
    have f147 := f136.keep K144 (ninS (Ne.symm n1) nin0)
    have f148 := f137.keep K144 (ninS n2 nin0)
    have f149 := f138.keep K144 (ninS n3 nin0)
    have f150 := f139.keep K144 (ninS (Ne.symm n1) nin0)
    have Z151 : n0 ≤ T144.heap.size := Nat.le_trans Z140 K144.1
    have K152 : Keep h0 T144.heap [na, a] := K141.trans K144 (allS (Or.inl (List.mem_of_getElem? (i := 0) rfl)) all0)
    show own_Go _ _ _ _ T144 (mkF m 88 _ [])
    refine own_st (fun t k => XS.iinc X144.here hx rfl (hb hby d13_88) rfl (l' := #[sR a, sI (3 : Int32), sJ xc, .second, sR oa, sR ea, sI (4 : Int32), sJ ((xc * (go 2)) + (ge 2)), .second]) rfl k) ?_
    show own_Go _ _ _ _ T144 (mkF m 91 #[sR a, sI (3 : Int32), sJ xc, .second, sR oa, sR ea, sI (4 : Int32), sJ ((xc * (go 2)) + (ge 2)), .second] [])
    show own_Go _ _ _ _ T144 (mkF m 91 _ [])
    refine own_st (fun t k => XS.goto X144.here hx rfl (pc0 := 91) (pc' := 11) rfl (hb hby d13_91) (by decide) (by decide) k) ?_
    show own_Go _ _ _ _ T144 (mkF m 11 _ [])
    refine own_st (fun t k => XS.iload X144.here hx rfl (hb hby d13_11) rfl k) ?_
    show own_Go _ _ _ _ T144 (mkF m 13 _ [(.int (4 : Int32))])
    refine own_st (fun t k => XS.aloadN X144.here hx rfl (hb hby d13_13) rfl rfl k) ?_
    show own_Go _ _ _ _ T144 (mkF m 14 _ [(.ref a), (.int (4 : Int32))])
    obtain ⟨T153, X153, e153, st153⟩ := getF X144 hx hZ hown (host := "") (Or.inl (own_w hw 35 rfl)) Via.refl rfl f150 (g := (mkF m 14 #[sR a, sI (3 : Int32), sJ xc, .second, sR oa, sR ea, sI (4 : Int32), sJ ((xc * (go 2)) + (ge 2)), .second] [(.ref a), (.int (4 : Int32))])) rfl rfl (hb hby d13_14)
    refine own_st st153 ?_
    show own_Go _ _ _ _ T153 (mkF m 17 _ [(.int (4 : Int32)), (.int (4 : Int32))])
    refine own_st (fun t k => XS.icmpYes X153.here hx rfl (pc0 := 17) (pc' := 94) rfl (hb hby d13_17) rfl (flt (by decide : ¬ ((4 : Int32) < (4 : Int32)))).2.1 (by decide) (by decide) k) ?_
    show own_Go _ _ _ _ T153 (mkF m 94 _ [])
    refine own_st (fun t k => XS.aloadN X153.here hx rfl (hb hby d13_94) rfl rfl k) ?_
    show own_Go _ _ _ _ T153 (mkF m 95 _ [(.ref a)])
    obtain ⟨T154, X154, e154, st154⟩ := getF X153 hx hZ hown (host := "") (Or.inl (own_w hw 35 rfl)) Via.refl e153 f150 (g := (mkF m 95 #[sR a, sI (3 : Int32), sJ xc, .second, sR oa, sR ea, sI (4 : Int32), sJ ((xc * (go 2)) + (ge 2)), .second] [(.ref a)])) rfl rfl (hb hby d13_95)
    refine own_st st154 ?_
    show own_Go _ _ _ _ T154 (mkF m 98 _ [(.int (4 : Int32))])
    refine own_st (fun t k => XS.iconst X154.here hx rfl (hb hby d13_98) k) ?_
    show own_Go _ _ _ _ T154 (mkF m 99 _ [(.int (1 : Int32)), (.int (4 : Int32))])
    refine own_st (fun t k => XS.isub X154.here hx rfl (hb hby d13_99) rfl k) ?_
    show own_Go _ _ _ _ T154 (mkF m 100 _ [(.int (3 : Int32))])
    refine own_st (fun t k => XS.istore X154.here hx rfl (hb hby d13_100) rfl (l' := #[sR a, sI (3 : Int32), sJ xc, .second, sR oa, sR ea, sI (3 : Int32), sJ ((xc * (go 2)) + (ge 2)), .second]) rfl k) ?_
    show own_Go _ _ _ _ T154 (mkF m 102 #[sR a, sI (3 : Int32), sJ xc, .second, sR oa, sR ea, sI (3 : Int32), sJ ((xc * (go 2)) + (ge 2)), .second] [])
    refine own_st (fun t k => XS.iload X154.here hx rfl (hb hby d13_102) rfl k) ?_
    show own_Go _ _ _ _ T154 (mkF m 104 _ [(.int (3 : Int32))])
    refine own_st (fun t k => XS.iconst X154.here hx rfl (hb hby d13_104) k) ?_
    show own_Go _ _ _ _ T154 (mkF m 105 _ [(.int (1 : Int32)), (.int (3 : Int32))])
    refine own_st (fun t k => XS.icmpNo X154.here hx rfl (hb hby d13_105) rfl (flt (by decide : ¬ ((3 : Int32) < (1 : Int32)))).1 k) ?_
    show own_Go _ _ _ _ T154 (mkF m 108 _ [])
    refine own_st (fun t k => XS.aloadN X154.here hx rfl (hb hby d13_108) rfl rfl k) ?_
    show own_Go _ _ _ _ T154 (mkF m 109 _ [(.ref a)])
    refine own_st (fun t k => XS.iload X154.here hx rfl (hb hby d13_109) rfl k) ?_
    show own_Go _ _ _ _ T154 (mkF m 111 _ [(.int (3 : Int32)), (.ref a)])
    obtain ⟨cq155, q155, q155'⟩ := f146.cell
    obtain ⟨_, _, ⟨T155, L155, k155, n155⟩, -, X155, ⟨Lc155, hQ155, l155, y155, z155⟩, st155⟩ := X154.privateBack hx (y := ym8) hown (mvT hZ (own_w hw 78 rfl)) (mvT hZ (own_w hw 79 rfl)) (own_selp (y := ym8) (mvT hZ (own_w hw 4 rfl)) (Cond.privateMethod_at (mvP hZ (own_w hw 80 rfl) (args := #[]))) (mvT hZ (own_w hw 79 rfl)) (by decide)) (Cond.privateMethod_at (mvP hZ (own_w hw 80 rfl) (args := #[]))) (mvT hZ (own_w hw 81 rfl)) (by decide) (backOf (W := 0) (rm20 l Z a0 hw [] a na kn (own_set (own_set (own_set (own_set gn (4 : Int32).toNatClampNeg (ge 0) ((xc * (go 0)) + (ge 0)) (ge 0) ((xc * (go 0)) + (ge 0))) (5 : Int32).toNatClampNeg (ge 1) ((xc * (go 1)) + (ge 1)) (ge 1) ((xc * (go 1)) + (ge 1))) (6 : Int32).toNatClampNeg (ge 2) ((xc * (go 2)) + (ge 2)) (ge 2) ((xc * (go 2)) + (ge 2))) (7 : Int32).toNatClampNeg (0 : Int64) (-4611686018427387904 : Int64) (0 : Int64) (-4611686018427387904 : Int64)) (3 : Int32) T144.heap n0 Z151 f146 f147 fq144_0 n1 (by decide) g_na) hZ (own_w hw 81 rfl) (own_w hw 5 rfl) (by decide) (by decide)) (g := (mkF m 111 #[sR a, sI (3 : Int32), sJ xc, .second, sR oa, sR ea, sI (3 : Int32), sJ ((xc * (go 2)) + (ge 2)), .second] [(.int (3 : Int32)), (.ref a)])) rfl (by rw [hml]; rfl) (Steps.refl _) (a := a) (by rw [e154]; exact q155) q155' (argsL := [(.int (3 : Int32))]) (rest := []) (lenOf own_pd__I_V rfl) rfl (by show 2 * 0 + _ ≤ _; exact Nat.le_of_eq rfl) (hb hby d13_111) (fun _ _ => ⟨rfl, e154, (by decide : 0 + 0 ≤ _), (by decide : 0 + 0 ≤ _)⟩)
    dsimp only [Pt.U, Pt.locs, Pt.cells, Pt.slots] at X155 l155 y155 z155 st155 hQ155
    subst l155 y155 z155
    obtain ⟨rfl, NQ155, K155, fq155_0⟩ := hQ155
    have N156 := Fr.app N145 NQ155
    refine own_st (fun t k => st155.trans k) ?_
    have f157 := f146.keep K155
    have f158 := f147.keep K155 (ninS (Ne.symm n1) nin0)
    have f159 := f148.keep K155 (ninS n2 nin0)
    have f160 := f149.keep K155 (ninS n3 nin0)
    have f161 := f150.keep K155 (ninS (Ne.symm n1) nin0)
    have Z162 : n0 ≤ T155.heap.size := Nat.le_trans Z151 K155.1
    have K163 : Keep h0 T155.heap [na, a] := K152.trans K155 (allS (Or.inl (List.mem_of_getElem? (i := 0) rfl)) all0)
    show own_Go _ _ _ _ T155 (mkF m 114 _ [])
    refine own_st (fun t k => XS.iinc X155.here hx rfl (hb hby d13_114) rfl (l' := #[sR a, sI (3 : Int32), sJ xc, .second, sR oa, sR ea, sI (2 : Int32), sJ ((xc * (go 2)) + (ge 2)), .second]) rfl k) ?_
    show own_Go _ _ _ _ T155 (mkF m 117 #[sR a, sI (3 : Int32), sJ xc, .second, sR oa, sR ea, sI (2 : Int32), sJ ((xc * (go 2)) + (ge 2)), .second] [])
    show own_Go _ _ _ _ T155 (mkF m 117 _ [])
    refine own_st (fun t k => XS.goto X155.here hx rfl (pc0 := 117) (pc' := 102) rfl (hb hby d13_117) (by decide) (by decide) k) ?_
    show own_Go _ _ _ _ T155 (mkF m 102 _ [])
    refine own_st (fun t k => XS.iload X155.here hx rfl (hb hby d13_102) rfl k) ?_
    show own_Go _ _ _ _ T155 (mkF m 104 _ [(.int (2 : Int32))])
    refine own_st (fun t k => XS.iconst X155.here hx rfl (hb hby d13_104) k) ?_
    show own_Go _ _ _ _ T155 (mkF m 105 _ [(.int (1 : Int32)), (.int (2 : Int32))])
    refine own_st (fun t k => XS.icmpNo X155.here hx rfl (hb hby d13_105) rfl (flt (by decide : ¬ ((2 : Int32) < (1 : Int32)))).1 k) ?_
    show own_Go _ _ _ _ T155 (mkF m 108 _ [])
    refine own_st (fun t k => XS.aloadN X155.here hx rfl (hb hby d13_108) rfl rfl k) ?_
    show own_Go _ _ _ _ T155 (mkF m 109 _ [(.ref a)])
    refine own_st (fun t k => XS.iload X155.here hx rfl (hb hby d13_109) rfl k) ?_
    show own_Go _ _ _ _ T155 (mkF m 111 _ [(.int (2 : Int32)), (.ref a)])
    obtain ⟨cq164, q164, q164'⟩ := f157.cell
    obtain ⟨_, _, ⟨T164, L164, k164, n164⟩, -, X164, ⟨Lc164, hQ164, l164, y164, z164⟩, st164⟩ := X155.privateBack hx (y := ym8) hown (mvT hZ (own_w hw 78 rfl)) (mvT hZ (own_w hw 79 rfl)) (own_selp (y := ym8) (mvT hZ (own_w hw 4 rfl)) (Cond.privateMethod_at (mvP hZ (own_w hw 80 rfl) (args := #[]))) (mvT hZ (own_w hw 79 rfl)) (by decide)) (Cond.privateMethod_at (mvP hZ (own_w hw 80 rfl) (args := #[]))) (mvT hZ (own_w hw 81 rfl)) (by decide) (backOf (W := 0) (rm20 l Z a0 hw [] a na kn (own_comb (own_set (own_set (own_set (own_set gn (4 : Int32).toNatClampNeg (ge 0) ((xc * (go 0)) + (ge 0)) (ge 0) ((xc * (go 0)) + (ge 0))) (5 : Int32).toNatClampNeg (ge 1) ((xc * (go 1)) + (ge 1)) (ge 1) ((xc * (go 1)) + (ge 1))) (6 : Int32).toNatClampNeg (ge 2) ((xc * (go 2)) + (ge 2)) (ge 2) ((xc * (go 2)) + (ge 2))) (7 : Int32).toNatClampNeg (0 : Int64) (-4611686018427387904 : Int64) (0 : Int64) (-4611686018427387904 : Int64)) (3 : Int32).toNatClampNeg) (2 : Int32) T155.heap n0 Z162 f157 f158 fq155_0 n1 (by decide) g_na) hZ (own_w hw 81 rfl) (own_w hw 5 rfl) (by decide) (by decide)) (g := (mkF m 111 #[sR a, sI (3 : Int32), sJ xc, .second, sR oa, sR ea, sI (2 : Int32), sJ ((xc * (go 2)) + (ge 2)), .second] [(.int (2 : Int32)), (.ref a)])) rfl (by rw [hml]; rfl) (Steps.refl _) (a := a) (by exact q164) q164' (argsL := [(.int (2 : Int32))]) (rest := []) (lenOf own_pd__I_V rfl) rfl (by show 2 * 0 + _ ≤ _; exact Nat.le_of_eq rfl) (hb hby d13_111) (fun _ _ => ⟨rfl, rfl, (by decide : 0 + 0 ≤ _), (by decide : 0 + 0 ≤ _)⟩)
    dsimp only [Pt.U, Pt.locs, Pt.cells, Pt.slots] at X164 l164 y164 z164 st164 hQ164
    subst l164 y164 z164
    obtain ⟨rfl, NQ164, K164, fq164_0⟩ := hQ164
    have N165 := Fr.app N156 NQ164
    refine own_st (fun t k => st164.trans k) ?_
    have f166 := f157.keep K164
    have f167 := f158.keep K164 (ninS (Ne.symm n1) nin0)
    have f168 := f159.keep K164 (ninS n2 nin0)
    have f169 := f160.keep K164 (ninS n3 nin0)
    have f170 := f161.keep K164 (ninS (Ne.symm n1) nin0)
    have Z171 : n0 ≤ T164.heap.size := Nat.le_trans Z162 K164.1
    have K172 : Keep h0 T164.heap [na, a] := K163.trans K164 (allS (Or.inl (List.mem_of_getElem? (i := 0) rfl)) all0)
    show own_Go _ _ _ _ T164 (mkF m 114 _ [])
    refine own_st (fun t k => XS.iinc X164.here hx rfl (hb hby d13_114) rfl (l' := #[sR a, sI (3 : Int32), sJ xc, .second, sR oa, sR ea, sI (1 : Int32), sJ ((xc * (go 2)) + (ge 2)), .second]) rfl k) ?_
    show own_Go _ _ _ _ T164 (mkF m 117 #[sR a, sI (3 : Int32), sJ xc, .second, sR oa, sR ea, sI (1 : Int32), sJ ((xc * (go 2)) + (ge 2)), .second] [])
    show own_Go _ _ _ _ T164 (mkF m 117 _ [])
    refine own_st (fun t k => XS.goto X164.here hx rfl (pc0 := 117) (pc' := 102) rfl (hb hby d13_117) (by decide) (by decide) k) ?_
    show own_Go _ _ _ _ T164 (mkF m 102 _ [])
    refine own_st (fun t k => XS.iload X164.here hx rfl (hb hby d13_102) rfl k) ?_
    show own_Go _ _ _ _ T164 (mkF m 104 _ [(.int (1 : Int32))])
    refine own_st (fun t k => XS.iconst X164.here hx rfl (hb hby d13_104) k) ?_
    show own_Go _ _ _ _ T164 (mkF m 105 _ [(.int (1 : Int32)), (.int (1 : Int32))])
    refine own_st (fun t k => XS.icmpNo X164.here hx rfl (hb hby d13_105) rfl (flt (by decide : ¬ ((1 : Int32) < (1 : Int32)))).1 k) ?_
    show own_Go _ _ _ _ T164 (mkF m 108 _ [])
    refine own_st (fun t k => XS.aloadN X164.here hx rfl (hb hby d13_108) rfl rfl k) ?_
    show own_Go _ _ _ _ T164 (mkF m 109 _ [(.ref a)])
    refine own_st (fun t k => XS.iload X164.here hx rfl (hb hby d13_109) rfl k) ?_
    show own_Go _ _ _ _ T164 (mkF m 111 _ [(.int (1 : Int32)), (.ref a)])
    obtain ⟨cq173, q173, q173'⟩ := f166.cell
    obtain ⟨_, _, ⟨T173, L173, k173, n173⟩, -, X173, ⟨Lc173, hQ173, l173, y173, z173⟩, st173⟩ := X164.privateBack hx (y := ym8) hown (mvT hZ (own_w hw 78 rfl)) (mvT hZ (own_w hw 79 rfl)) (own_selp (y := ym8) (mvT hZ (own_w hw 4 rfl)) (Cond.privateMethod_at (mvP hZ (own_w hw 80 rfl) (args := #[]))) (mvT hZ (own_w hw 79 rfl)) (by decide)) (Cond.privateMethod_at (mvP hZ (own_w hw 80 rfl) (args := #[]))) (mvT hZ (own_w hw 81 rfl)) (by decide) (backOf (W := 0) (rm20 l Z a0 hw [] a na kn (own_comb (own_comb (own_set (own_set (own_set (own_set gn (4 : Int32).toNatClampNeg (ge 0) ((xc * (go 0)) + (ge 0)) (ge 0) ((xc * (go 0)) + (ge 0))) (5 : Int32).toNatClampNeg (ge 1) ((xc * (go 1)) + (ge 1)) (ge 1) ((xc * (go 1)) + (ge 1))) (6 : Int32).toNatClampNeg (ge 2) ((xc * (go 2)) + (ge 2)) (ge 2) ((xc * (go 2)) + (ge 2))) (7 : Int32).toNatClampNeg (0 : Int64) (-4611686018427387904 : Int64) (0 : Int64) (-4611686018427387904 : Int64)) (3 : Int32).toNatClampNeg) (2 : Int32).toNatClampNeg) (1 : Int32) T164.heap n0 Z171 f166 f167 fq164_0 n1 (by decide) g_na) hZ (own_w hw 81 rfl) (own_w hw 5 rfl) (by decide) (by decide)) (g := (mkF m 111 #[sR a, sI (3 : Int32), sJ xc, .second, sR oa, sR ea, sI (1 : Int32), sJ ((xc * (go 2)) + (ge 2)), .second] [(.int (1 : Int32)), (.ref a)])) rfl (by rw [hml]; rfl) (Steps.refl _) (a := a) (by exact q173) q173' (argsL := [(.int (1 : Int32))]) (rest := []) (lenOf own_pd__I_V rfl) rfl (by show 2 * 0 + _ ≤ _; exact Nat.le_of_eq rfl) (hb hby d13_111) (fun _ _ => ⟨rfl, rfl, (by decide : 0 + 0 ≤ _), (by decide : 0 + 0 ≤ _)⟩)
    dsimp only [Pt.U, Pt.locs, Pt.cells, Pt.slots] at X173 l173 y173 z173 st173 hQ173
    subst l173 y173 z173
    obtain ⟨rfl, NQ173, K173, fq173_0⟩ := hQ173
    have N174 := Fr.app N165 NQ173
    refine own_st (fun t k => st173.trans k) ?_
    have f175 := f166.keep K173
    have f176 := f167.keep K173 (ninS (Ne.symm n1) nin0)
    have f177 := f168.keep K173 (ninS n2 nin0)
    have f178 := f169.keep K173 (ninS n3 nin0)
    have f179 := f170.keep K173 (ninS (Ne.symm n1) nin0)
    have Z180 : n0 ≤ T173.heap.size := Nat.le_trans Z171 K173.1
    have K181 : Keep h0 T173.heap [na, a] := K172.trans K173 (allS (Or.inl (List.mem_of_getElem? (i := 0) rfl)) all0)
    show own_Go _ _ _ _ T173 (mkF m 114 _ [])
    refine own_st (fun t k => XS.iinc X173.here hx rfl (hb hby d13_114) rfl (l' := #[sR a, sI (3 : Int32), sJ xc, .second, sR oa, sR ea, sI (0 : Int32), sJ ((xc * (go 2)) + (ge 2)), .second]) rfl k) ?_
    show own_Go _ _ _ _ T173 (mkF m 117 #[sR a, sI (3 : Int32), sJ xc, .second, sR oa, sR ea, sI (0 : Int32), sJ ((xc * (go 2)) + (ge 2)), .second] [])
    show own_Go _ _ _ _ T173 (mkF m 117 _ [])
    refine own_st (fun t k => XS.goto X173.here hx rfl (pc0 := 117) (pc' := 102) rfl (hb hby d13_117) (by decide) (by decide) k) ?_
    show own_Go _ _ _ _ T173 (mkF m 102 _ [])
    refine own_st (fun t k => XS.iload X173.here hx rfl (hb hby d13_102) rfl k) ?_
    show own_Go _ _ _ _ T173 (mkF m 104 _ [(.int (0 : Int32))])
    refine own_st (fun t k => XS.iconst X173.here hx rfl (hb hby d13_104) k) ?_
    show own_Go _ _ _ _ T173 (mkF m 105 _ [(.int (1 : Int32)), (.int (0 : Int32))])
    refine own_st (fun t k => XS.icmpYes X173.here hx rfl (pc0 := 105) (pc' := 120) rfl (hb hby d13_105) rfl (tlt (by decide : ((0 : Int32) < (1 : Int32)))).1 (by decide) (by decide) k) ?_
    show own_Go _ _ _ _ T173 (mkF m 120 _ [])
    subst hPq
    refine own_out X173 (v := none) (fun _ => rfl) Bd.notSynchronized (fun fs hr => X173.returnOut hx Bd.returns (hb hby d13_120) hr) (by decide) (by decide) ?_
    show Q25 Z a (3 : Int32) xc oa ea na kn gn ko go ke ge l0 h0 n0 _ T173.heap _
    have eg182 : (own_comb (own_comb (own_comb (own_set (own_set (own_set (own_set gn (4 : Int32).toNatClampNeg (ge 0) ((xc * (go 0)) + (ge 0)) (ge 0) ((xc * (go 0)) + (ge 0))) (5 : Int32).toNatClampNeg (ge 1) ((xc * (go 1)) + (ge 1)) (ge 1) ((xc * (go 1)) + (ge 1))) (6 : Int32).toNatClampNeg (ge 2) ((xc * (go 2)) + (ge 2)) (ge 2) ((xc * (go 2)) + (ge 2))) (7 : Int32).toNatClampNeg (0 : Int64) (-4611686018427387904 : Int64) (0 : Int64) (-4611686018427387904 : Int64)) (3 : Int32).toNatClampNeg) (2 : Int32).toNatClampNeg) (1 : Int32).toNatClampNeg) = own_fill3 gn xc go ge := by simp only [own_lit0, own_lit1, own_lit2, own_lit3, own_lit4, own_lit5, own_lit6, own_lit7]; rfl
    have fz182 := fq173_0
    rw [eg182] at fz182
    exact ⟨rfl, N174, K181, f175, f176, f179, fz182⟩
  · skip
    show own_Go _ _ _ _ s₁ (mkF m 0 #[sR a, sI (4 : Int32), sJ xc, .second, sR oa, sR ea, .unset, .unset, .unset] [])
    refine own_st (fun t k => XS.aloadN X0.here hx rfl (hb hby d13_0) rfl rfl k) ?_
    show own_Go _ _ _ _ s₁ (mkF m 1 _ [(.ref a)])
    refine own_st (fun t k => XS.iloadN X0.here hx rfl (hb hby d13_1) rfl k) ?_
    show own_Go _ _ _ _ s₁ (mkF m 2 _ [(.int (4 : Int32)), (.ref a)])
    obtain ⟨_, _, ⟨T183, L183, k183, n183⟩, -, X183, ⟨Lc183, hQ183, l183, y183, z183⟩, st183⟩ := Jvm.LawKit.callS X0 hx (y := ym4) hown (mvT hZ (own_w hw 12 rfl)) (mvT hZ (own_w hw 13 rfl)) (mvT hZ (own_w hw 5 rfl)) (mvT hZ (own_w hw 14 rfl)) (by decide) (backOf (W := 1) (rm16 l Z a0 hw []  h0 n0 Z0 ) hZ (own_w hw 14 rfl) (own_w hw 5 rfl) (by decide) (by decide)) (g := (mkF m 2 #[sR a, sI (4 : Int32), sJ xc, .second, sR oa, sR ea, .unset, .unset, .unset] [(.int (4 : Int32)), (.ref a)])) rfl (by rw [hml]; rfl) (argsL := [(.int (4 : Int32))]) (rest := [(.ref a)]) (lenOf own_pd__I_I rfl) rfl (by show 2 * 0 + _ ≤ _; exact Nat.le_of_eq rfl) (hb hby d13_2) (fun _ _ => ⟨rfl, e0, (by decide : 0 + 0 ≤ _), (by decide : 0 + 0 ≤ _)⟩)
    dsimp only [Pt.U, Pt.locs, Pt.cells, Pt.slots] at X183 l183 y183 z183 st183 hQ183
    subst l183 y183 z183
    obtain ⟨rfl, NQ183, eq183⟩ := hQ183
    have N184 := Fr.app N0 NQ183
    refine own_st st183 ?_
    show own_Go _ _ _ _ T183 (mkF m 5 _ [(.int (4 : Int32)), (.ref a)])
    obtain ⟨T185, h185, X185, e185, W185, st185⟩ := putF X183 hx hZ hown (host := "") (Or.inl (own_w hw 35 rfl)) Via.refl eq183 F3 F0 (Or.inl (own_w hw 36 rfl)) (own_w hw 4 rfl) (ty := .int) (by decide) rfl rfl (g := (mkF m 5 #[sR a, sI (4 : Int32), sJ xc, .second, sR oa, sR ea, .unset, .unset, .unset] [(.int (4 : Int32)), (.ref a)])) rfl rfl (hb hby d13_5)
    refine own_st st185 ?_
    have f186 := F0.wr W185
    have f187 := F1.other W185 (Or.inr (slot_ne (Or.inr (own_w hw 29 rfl)) (Or.inl (own_w hw 36 rfl)) (by decide) (t := (.array .long)) (t' := .int) (by decide) (by decide)))
    have f188 := F2.other W185 n1
    have f189 := F4.other W185 n4
    have f190 := F5.other W185 n5
    have N191 := Fr.snoc X185 N184 g_a
    have Z192 : n0 ≤ h185.size := Nat.le_trans Z0 (Nat.le_of_eq W185.size.symm)
    have K193 : Keep h0 h185 [na, a] := K0.wr W185 (Or.inl (List.mem_of_getElem? (i := 1) rfl))
    have f194 := F3.same W185
    show own_Go _ _ _ _ T185 (mkF m 8 _ [])
    refine own_st (fun t k => XS.iconst X185.here hx rfl (hb hby d13_8) k) ?_
    show own_Go _ _ _ _ T185 (mkF m 9 _ [(.int (0 : Int32))])
    refine own_st (fun t k => XS.istore X185.here hx rfl (hb hby d13_9) rfl (l' := #[sR a, sI (4 : Int32), sJ xc, .second, sR oa, sR ea, sI (0 : Int32), .unset, .unset]) rfl k) ?_
    show own_Go _ _ _ _ T185 (mkF m 11 #[sR a, sI (4 : Int32), sJ xc, .second, sR oa, sR ea, sI (0 : Int32), .unset, .unset] [])
    refine own_st (fun t k => XS.iload X185.here hx rfl (hb hby d13_11) rfl k) ?_
    show own_Go _ _ _ _ T185 (mkF m 13 _ [(.int (0 : Int32))])
    refine own_st (fun t k => XS.aloadN X185.here hx rfl (hb hby d13_13) rfl rfl k) ?_
    show own_Go _ _ _ _ T185 (mkF m 14 _ [(.ref a), (.int (0 : Int32))])
    obtain ⟨T195, X195, e195, st195⟩ := getF X185 hx hZ hown (host := "") (Or.inl (own_w hw 35 rfl)) Via.refl e185 f194 (g := (mkF m 14 #[sR a, sI (4 : Int32), sJ xc, .second, sR oa, sR ea, sI (0 : Int32), .unset, .unset] [(.ref a), (.int (0 : Int32))])) rfl rfl (hb hby d13_14)
    refine own_st st195 ?_
    show own_Go _ _ _ _ T195 (mkF m 17 _ [(.int (4 : Int32)), (.int (0 : Int32))])
    refine own_st (fun t k => XS.icmpNo X195.here hx rfl (hb hby d13_17) rfl (tlt (by decide : ((0 : Int32) < (4 : Int32)))).2.1 k) ?_
    show own_Go _ _ _ _ T195 (mkF m 20 _ [])
    refine own_st (fun t k => XS.iload X195.here hx rfl (hb hby d13_20) rfl k) ?_
    show own_Go _ _ _ _ T195 (mkF m 22 _ [(.int (0 : Int32))])
    refine own_st (fun t k => XS.iloadN X195.here hx rfl (hb hby d13_22) rfl k) ?_
    show own_Go _ _ _ _ T195 (mkF m 23 _ [(.int (4 : Int32)), (.int (0 : Int32))])
    refine own_st (fun t k => XS.icmpNo X195.here hx rfl (hb hby d13_23) rfl (tlt (by decide : ((0 : Int32) < (4 : Int32)))).2.1 k) ?_
    show own_Go _ _ _ _ T195 (mkF m 26 _ [])
    refine own_st (fun t k => XS.lloadN X195.here hx rfl (hb hby d13_26) rfl k) ?_
    show own_Go _ _ _ _ T195 (mkF m 27 _ [(.long xc)])
    refine own_st (fun t k => XS.aload X195.here hx rfl (hb hby d13_27) rfl rfl k) ?_
    show own_Go _ _ _ _ T195 (mkF m 29 _ [(.ref oa), (.long xc)])
    refine own_st (fun t k => XS.iload X195.here hx rfl (hb hby d13_29) rfl k) ?_
    show own_Go _ _ _ _ T195 (mkF m 31 _ [(.int (0 : Int32)), (.ref oa), (.long xc)])
    obtain ⟨c196, Ar196, q196, S196, N196, H196⟩ := id f189
    refine own_st (fun t k => X195.laload hx (j := (0 : Int32)) (v := (.long (go 0))) (by rw [e195]; exact Ar196.1) (State.isArrayOf_alike hZ.alike Ar196.2.1) Ar196.2.2 (inb_of S196 ⟨by decide, by decide⟩) (H196 _ (own_lt (inb_of S196 ⟨by decide, by decide⟩))) (g := (mkF m 31 #[sR a, sI (4 : Int32), sJ xc, .second, sR oa, sR ea, sI (0 : Int32), .unset, .unset] [(.int (0 : Int32)), (.ref oa), (.long xc)])) rfl rfl (hb hby d13_31) _ k) ?_
    show own_Go _ _ _ _ T195 (mkF m 32 _ [(.long (go 0)), (.long xc)])
    refine own_st (fun t k => XS.lmul X195.here hx rfl (hb hby d13_32) rfl k) ?_
    show own_Go _ _ _ _ T195 (mkF m 33 _ [(.long (xc * (go 0)))])
    refine own_st (fun t k => XS.aload X195.here hx rfl (hb hby d13_33) rfl rfl k) ?_
    show own_Go _ _ _ _ T195 (mkF m 35 _ [(.ref ea), (.long (xc * (go 0)))])
    refine own_st (fun t k => XS.iload X195.here hx rfl (hb hby d13_35) rfl k) ?_
    show own_Go _ _ _ _ T195 (mkF m 37 _ [(.int (0 : Int32)), (.ref ea), (.long (xc * (go 0)))])
    obtain ⟨c197, Ar197, q197, S197, N197, H197⟩ := id f190
    refine own_st (fun t k => X195.laload hx (j := (0 : Int32)) (v := (.long (ge 0))) (by rw [e195]; exact Ar197.1) (State.isArrayOf_alike hZ.alike Ar197.2.1) Ar197.2.2 (inb_of S197 ⟨by decide, by decide⟩) (H197 _ (own_lt (inb_of S197 ⟨by decide, by decide⟩))) (g := (mkF m 37 #[sR a, sI (4 : Int32), sJ xc, .second, sR oa, sR ea, sI (0 : Int32), .unset, .unset] [(.int (0 : Int32)), (.ref ea), (.long (xc * (go 0)))])) rfl rfl (hb hby d13_37) _ k) ?_
    show own_Go _ _ _ _ T195 (mkF m 38 _ [(.long (ge 0)), (.long (xc * (go 0)))])
    refine own_st (fun t k => XS.ladd X195.here hx rfl (hb hby d13_38) rfl k) ?_
    show own_Go _ _ _ _ T195 (mkF m 39 _ [(.long ((xc * (go 0)) + (ge 0)))])
    refine own_st (fun t k => XS.lstore X195.here hx rfl (hb hby d13_39) rfl (l' := #[sR a, sI (4 : Int32), sJ xc, .second, sR oa, sR ea, sI (0 : Int32), sJ ((xc * (go 0)) + (ge 0)), .second]) rfl k) ?_
    show own_Go _ _ _ _ T195 (mkF m 41 #[sR a, sI (4 : Int32), sJ xc, .second, sR oa, sR ea, sI (0 : Int32), sJ ((xc * (go 0)) + (ge 0)), .second] [])
    refine own_st (fun t k => XS.aloadN X195.here hx rfl (hb hby d13_41) rfl rfl k) ?_
    show own_Go _ _ _ _ T195 (mkF m 42 _ [(.ref a)])
    refine own_st (fun t k => XS.aloadN X195.here hx rfl (hb hby d13_42) rfl rfl k) ?_
    show own_Go _ _ _ _ T195 (mkF m 43 _ [(.ref a), (.ref a)])
    obtain ⟨T198, X198, e198, st198⟩ := getF X195 hx hZ hown (host := "") (Or.inl (own_w hw 35 rfl)) Via.refl e195 f194 (g := (mkF m 43 #[sR a, sI (4 : Int32), sJ xc, .second, sR oa, sR ea, sI (0 : Int32), sJ ((xc * (go 0)) + (ge 0)), .second] [(.ref a), (.ref a)])) rfl rfl (hb hby d13_43)
    refine own_st st198 ?_
    show own_Go _ _ _ _ T198 (mkF m 46 _ [(.int (4 : Int32)), (.ref a)])
    refine own_st (fun t k => XS.iload X198.here hx rfl (hb hby d13_46) rfl k) ?_
    show own_Go _ _ _ _ T198 (mkF m 48 _ [(.int (0 : Int32)), (.int (4 : Int32)), (.ref a)])
    refine own_st (fun t k => XS.iadd X198.here hx rfl (hb hby d13_48) rfl k) ?_
    show own_Go _ _ _ _ T198 (mkF m 49 _ [(.int (4 : Int32)), (.ref a)])
    refine own_st (fun t k => XS.aload X198.here hx rfl (hb hby d13_49) rfl rfl k) ?_
    show own_Go _ _ _ _ T198 (mkF m 51 _ [(.ref ea), (.int (4 : Int32)), (.ref a)])
    refine own_st (fun t k => XS.iload X198.here hx rfl (hb hby d13_51) rfl k) ?_
    show own_Go _ _ _ _ T198 (mkF m 53 _ [(.int (0 : Int32)), (.ref ea), (.int (4 : Int32)), (.ref a)])
    obtain ⟨c199, Ar199, q199, S199, N199, H199⟩ := id f190
    refine own_st (fun t k => X198.laload hx (j := (0 : Int32)) (v := (.long (ge 0))) (by rw [e198]; exact Ar199.1) (State.isArrayOf_alike hZ.alike Ar199.2.1) Ar199.2.2 (inb_of S199 ⟨by decide, by decide⟩) (H199 _ (own_lt (inb_of S199 ⟨by decide, by decide⟩))) (g := (mkF m 53 #[sR a, sI (4 : Int32), sJ xc, .second, sR oa, sR ea, sI (0 : Int32), sJ ((xc * (go 0)) + (ge 0)), .second] [(.int (0 : Int32)), (.ref ea), (.int (4 : Int32)), (.ref a)])) rfl rfl (hb hby d13_53) _ k) ?_
    show own_Go _ _ _ _ T198 (mkF m 54 _ [(.long (ge 0)), (.int (4 : Int32)), (.ref a)])
    refine own_st (fun t k => XS.lload X198.here hx rfl (hb hby d13_54) rfl k) ?_
    show own_Go _ _ _ _ T198 (mkF m 56 _ [(.long ((xc * (go 0)) + (ge 0))), (.long (ge 0)), (.int (4 : Int32)), (.ref a)])
    refine own_st (fun t k => XS.aload X198.here hx rfl (hb hby d13_56) rfl rfl k) ?_
    show own_Go _ _ _ _ T198 (mkF m 58 _ [(.ref ea), (.long ((xc * (go 0)) + (ge 0))), (.long (ge 0)), (.int (4 : Int32)), (.ref a)])
    refine own_st (fun t k => XS.iload X198.here hx rfl (hb hby d13_58) rfl k) ?_
    show own_Go _ _ _ _ T198 (mkF m 60 _ [(.int (0 : Int32)), (.ref ea), (.long ((xc * (go 0)) + (ge 0))), (.long (ge 0)), (.int (4 : Int32)), (.ref a)])
    obtain ⟨c200, Ar200, q200, S200, N200, H200⟩ := id f190
    refine own_st (fun t k => X198.laload hx (j := (0 : Int32)) (v := (.long (ge 0))) (by rw [e198]; exact Ar200.1) (State.isArrayOf_alike hZ.alike Ar200.2.1) Ar200.2.2 (inb_of S200 ⟨by decide, by decide⟩) (H200 _ (own_lt (inb_of S200 ⟨by decide, by decide⟩))) (g := (mkF m 60 #[sR a, sI (4 : Int32), sJ xc, .second, sR oa, sR ea, sI (0 : Int32), sJ ((xc * (go 0)) + (ge 0)), .second] [(.int (0 : Int32)), (.ref ea), (.long ((xc * (go 0)) + (ge 0))), (.long (ge 0)), (.int (4 : Int32)), (.ref a)])) rfl rfl (hb hby d13_60) _ k) ?_
    show own_Go _ _ _ _ T198 (mkF m 61 _ [(.long (ge 0)), (.long ((xc * (go 0)) + (ge 0))), (.long (ge 0)), (.int (4 : Int32)), (.ref a)])
    refine own_st (fun t k => XS.lload X198.here hx rfl (hb hby d13_61) rfl k) ?_
    show own_Go _ _ _ _ T198 (mkF m 63 _ [(.long ((xc * (go 0)) + (ge 0))), (.long (ge 0)), (.long ((xc * (go 0)) + (ge 0))), (.long (ge 0)), (.int (4 : Int32)), (.ref a)])
    obtain ⟨cq201, q201, q201'⟩ := f186.cell
    obtain ⟨_, _, ⟨T201, L201, k201, n201⟩, -, X201, ⟨Lc201, hQ201, l201, y201, z201⟩, st201⟩ := X198.privateBack hx (y := ym7) hown (mvT hZ (own_w hw 37 rfl)) (mvT hZ (own_w hw 38 rfl)) (own_selp (y := ym7) (mvT hZ (own_w hw 4 rfl)) (Cond.privateMethod_at (mvP hZ (own_w hw 39 rfl) (args := #[]))) (mvT hZ (own_w hw 38 rfl)) (by decide)) (Cond.privateMethod_at (mvP hZ (own_w hw 39 rfl) (args := #[]))) (mvT hZ (own_w hw 40 rfl)) (by decide) (backOf (W := 0) (rm19 l Z a0 hw [] a na kn gn (4 : Int32) (ge 0) ((xc * (go 0)) + (ge 0)) (ge 0) ((xc * (go 0)) + (ge 0)) h185 n0 Z192 f186 f187 f188 n1 (by decide) g_na) hZ (own_w hw 40 rfl) (own_w hw 5 rfl) (by decide) (by decide)) (g := (mkF m 63 #[sR a, sI (4 : Int32), sJ xc, .second, sR oa, sR ea, sI (0 : Int32), sJ ((xc * (go 0)) + (ge 0)), .second] [(.long ((xc * (go 0)) + (ge 0))), (.long (ge 0)), (.long ((xc * (go 0)) + (ge 0))), (.long (ge 0)), (.int (4 : Int32)), (.ref a)])) rfl (by rw [hml]; rfl) (Steps.refl _) (a := a) (by rw [e198]; exact q201) q201' (argsL := [(.int (4 : Int32)), (.long (ge 0)), (.long ((xc * (go 0)) + (ge 0))), (.long (ge 0)), (.long ((xc * (go 0)) + (ge 0)))]) (rest := []) (lenOf own_pd__IJJJJ_V rfl) rfl (by show 2 * 0 + _ ≤ _; exact Nat.le_of_eq rfl) (hb hby d13_63) (fun _ _ => ⟨rfl, e198, (by decide : 0 + 0 ≤ _), (by decide : 0 + 0 ≤ _)⟩)
    dsimp only [Pt.U, Pt.locs, Pt.cells, Pt.slots] at X201 l201 y201 z201 st201 hQ201
    subst l201 y201 z201
    obtain ⟨rfl, NQ201, K201, fq201_0⟩ := hQ201
    have N202 := Fr.app N191 NQ201
    refine own_st (fun t k => st201.trans k) ?_
    have f203 := f186.keep K201
    have f204 := f187.keep K201 (ninS (Ne.symm n1) nin0)
    have f205 := f189.keep K201 (ninS n2 nin0)
    have f206 := f190.keep K201 (ninS n3 nin0)
    have f207 := f194.keep K201 (ninS (Ne.symm n1) nin0)
    have Z208 : n0 ≤ T201.heap.size := Nat.le_trans Z192 K201.1
    have K209 : Keep h0 T201.heap [na, a] := K193.trans K201 (allS (Or.inl (List.mem_of_getElem? (i := 0) rfl)) all0)
    show own_Go _ _ _ _ T201 (mkF m 66 _ [])
    refine own_st (fun t k => XS.goto X201.here hx rfl (pc0 := 66) (pc' := 88) rfl (hb hby d13_66) (by decide) (by decide) k) ?_
    show own_Go _ _ _ _ T201 (mkF m 88 _ [])
    refine own_st (fun t k => XS.iinc X201.here hx rfl (hb hby d13_88) rfl (l' := #[sR a, sI (4 : Int32), sJ xc, .second, sR oa, sR ea, sI (1 : Int32), sJ ((xc * (go 0)) + (ge 0)), .second]) rfl k) ?_
    show own_Go _ _ _ _ T201 (mkF m 91 #[sR a, sI (4 : Int32), sJ xc, .second, sR oa, sR ea, sI (1 : Int32), sJ ((xc * (go 0)) + (ge 0)), .second] [])
    show own_Go _ _ _ _ T201 (mkF m 91 _ [])
    refine own_st (fun t k => XS.goto X201.here hx rfl (pc0 := 91) (pc' := 11) rfl (hb hby d13_91) (by decide) (by decide) k) ?_
    show own_Go _ _ _ _ T201 (mkF m 11 _ [])
    refine own_st (fun t k => XS.iload X201.here hx rfl (hb hby d13_11) rfl k) ?_
    show own_Go _ _ _ _ T201 (mkF m 13 _ [(.int (1 : Int32))])
    refine own_st (fun t k => XS.aloadN X201.here hx rfl (hb hby d13_13) rfl rfl k) ?_
    show own_Go _ _ _ _ T201 (mkF m 14 _ [(.ref a), (.int (1 : Int32))])
    obtain ⟨T210, X210, e210, st210⟩ := getF X201 hx hZ hown (host := "") (Or.inl (own_w hw 35 rfl)) Via.refl rfl f207 (g := (mkF m 14 #[sR a, sI (4 : Int32), sJ xc, .second, sR oa, sR ea, sI (1 : Int32), sJ ((xc * (go 0)) + (ge 0)), .second] [(.ref a), (.int (1 : Int32))])) rfl rfl (hb hby d13_14)
    refine own_st st210 ?_
    show own_Go _ _ _ _ T210 (mkF m 17 _ [(.int (4 : Int32)), (.int (1 : Int32))])
    refine own_st (fun t k => XS.icmpNo X210.here hx rfl (hb hby d13_17) rfl (tlt (by decide : ((1 : Int32) < (4 : Int32)))).2.1 k) ?_
    show own_Go _ _ _ _ T210 (mkF m 20 _ [])
    refine own_st (fun t k => XS.iload X210.here hx rfl (hb hby d13_20) rfl k) ?_
    show own_Go _ _ _ _ T210 (mkF m 22 _ [(.int (1 : Int32))])
    refine own_st (fun t k => XS.iloadN X210.here hx rfl (hb hby d13_22) rfl k) ?_
    show own_Go _ _ _ _ T210 (mkF m 23 _ [(.int (4 : Int32)), (.int (1 : Int32))])
    refine own_st (fun t k => XS.icmpNo X210.here hx rfl (hb hby d13_23) rfl (tlt (by decide : ((1 : Int32) < (4 : Int32)))).2.1 k) ?_
    show own_Go _ _ _ _ T210 (mkF m 26 _ [])
    refine own_st (fun t k => XS.lloadN X210.here hx rfl (hb hby d13_26) rfl k) ?_
    show own_Go _ _ _ _ T210 (mkF m 27 _ [(.long xc)])
    refine own_st (fun t k => XS.aload X210.here hx rfl (hb hby d13_27) rfl rfl k) ?_
    show own_Go _ _ _ _ T210 (mkF m 29 _ [(.ref oa), (.long xc)])
    refine own_st (fun t k => XS.iload X210.here hx rfl (hb hby d13_29) rfl k) ?_
    show own_Go _ _ _ _ T210 (mkF m 31 _ [(.int (1 : Int32)), (.ref oa), (.long xc)])
    obtain ⟨c211, Ar211, q211, S211, N211, H211⟩ := id f205
    refine own_st (fun t k => X210.laload hx (j := (1 : Int32)) (v := (.long (go 1))) (by rw [e210]; exact Ar211.1) (State.isArrayOf_alike hZ.alike Ar211.2.1) Ar211.2.2 (inb_of S211 ⟨by decide, by decide⟩) (H211 _ (own_lt (inb_of S211 ⟨by decide, by decide⟩))) (g := (mkF m 31 #[sR a, sI (4 : Int32), sJ xc, .second, sR oa, sR ea, sI (1 : Int32), sJ ((xc * (go 0)) + (ge 0)), .second] [(.int (1 : Int32)), (.ref oa), (.long xc)])) rfl rfl (hb hby d13_31) _ k) ?_
    show own_Go _ _ _ _ T210 (mkF m 32 _ [(.long (go 1)), (.long xc)])
    refine own_st (fun t k => XS.lmul X210.here hx rfl (hb hby d13_32) rfl k) ?_
    show own_Go _ _ _ _ T210 (mkF m 33 _ [(.long (xc * (go 1)))])
    refine own_st (fun t k => XS.aload X210.here hx rfl (hb hby d13_33) rfl rfl k) ?_
    show own_Go _ _ _ _ T210 (mkF m 35 _ [(.ref ea), (.long (xc * (go 1)))])
    refine own_st (fun t k => XS.iload X210.here hx rfl (hb hby d13_35) rfl k) ?_
    show own_Go _ _ _ _ T210 (mkF m 37 _ [(.int (1 : Int32)), (.ref ea), (.long (xc * (go 1)))])
    obtain ⟨c212, Ar212, q212, S212, N212, H212⟩ := id f206
    refine own_st (fun t k => X210.laload hx (j := (1 : Int32)) (v := (.long (ge 1))) (by rw [e210]; exact Ar212.1) (State.isArrayOf_alike hZ.alike Ar212.2.1) Ar212.2.2 (inb_of S212 ⟨by decide, by decide⟩) (H212 _ (own_lt (inb_of S212 ⟨by decide, by decide⟩))) (g := (mkF m 37 #[sR a, sI (4 : Int32), sJ xc, .second, sR oa, sR ea, sI (1 : Int32), sJ ((xc * (go 0)) + (ge 0)), .second] [(.int (1 : Int32)), (.ref ea), (.long (xc * (go 1)))])) rfl rfl (hb hby d13_37) _ k) ?_
    show own_Go _ _ _ _ T210 (mkF m 38 _ [(.long (ge 1)), (.long (xc * (go 1)))])
    refine own_st (fun t k => XS.ladd X210.here hx rfl (hb hby d13_38) rfl k) ?_
    show own_Go _ _ _ _ T210 (mkF m 39 _ [(.long ((xc * (go 1)) + (ge 1)))])
    refine own_st (fun t k => XS.lstore X210.here hx rfl (hb hby d13_39) rfl (l' := #[sR a, sI (4 : Int32), sJ xc, .second, sR oa, sR ea, sI (1 : Int32), sJ ((xc * (go 1)) + (ge 1)), .second]) rfl k) ?_
    show own_Go _ _ _ _ T210 (mkF m 41 #[sR a, sI (4 : Int32), sJ xc, .second, sR oa, sR ea, sI (1 : Int32), sJ ((xc * (go 1)) + (ge 1)), .second] [])
    refine own_st (fun t k => XS.aloadN X210.here hx rfl (hb hby d13_41) rfl rfl k) ?_
    show own_Go _ _ _ _ T210 (mkF m 42 _ [(.ref a)])
    refine own_st (fun t k => XS.aloadN X210.here hx rfl (hb hby d13_42) rfl rfl k) ?_
    show own_Go _ _ _ _ T210 (mkF m 43 _ [(.ref a), (.ref a)])
    obtain ⟨T213, X213, e213, st213⟩ := getF X210 hx hZ hown (host := "") (Or.inl (own_w hw 35 rfl)) Via.refl e210 f207 (g := (mkF m 43 #[sR a, sI (4 : Int32), sJ xc, .second, sR oa, sR ea, sI (1 : Int32), sJ ((xc * (go 1)) + (ge 1)), .second] [(.ref a), (.ref a)])) rfl rfl (hb hby d13_43)
    refine own_st st213 ?_
    show own_Go _ _ _ _ T213 (mkF m 46 _ [(.int (4 : Int32)), (.ref a)])
    refine own_st (fun t k => XS.iload X213.here hx rfl (hb hby d13_46) rfl k) ?_
    show own_Go _ _ _ _ T213 (mkF m 48 _ [(.int (1 : Int32)), (.int (4 : Int32)), (.ref a)])
    refine own_st (fun t k => XS.iadd X213.here hx rfl (hb hby d13_48) rfl k) ?_
    show own_Go _ _ _ _ T213 (mkF m 49 _ [(.int (5 : Int32)), (.ref a)])
    refine own_st (fun t k => XS.aload X213.here hx rfl (hb hby d13_49) rfl rfl k) ?_
    show own_Go _ _ _ _ T213 (mkF m 51 _ [(.ref ea), (.int (5 : Int32)), (.ref a)])
    refine own_st (fun t k => XS.iload X213.here hx rfl (hb hby d13_51) rfl k) ?_
    show own_Go _ _ _ _ T213 (mkF m 53 _ [(.int (1 : Int32)), (.ref ea), (.int (5 : Int32)), (.ref a)])
    obtain ⟨c214, Ar214, q214, S214, N214, H214⟩ := id f206
    refine own_st (fun t k => X213.laload hx (j := (1 : Int32)) (v := (.long (ge 1))) (by rw [e213]; exact Ar214.1) (State.isArrayOf_alike hZ.alike Ar214.2.1) Ar214.2.2 (inb_of S214 ⟨by decide, by decide⟩) (H214 _ (own_lt (inb_of S214 ⟨by decide, by decide⟩))) (g := (mkF m 53 #[sR a, sI (4 : Int32), sJ xc, .second, sR oa, sR ea, sI (1 : Int32), sJ ((xc * (go 1)) + (ge 1)), .second] [(.int (1 : Int32)), (.ref ea), (.int (5 : Int32)), (.ref a)])) rfl rfl (hb hby d13_53) _ k) ?_
    show own_Go _ _ _ _ T213 (mkF m 54 _ [(.long (ge 1)), (.int (5 : Int32)), (.ref a)])
    refine own_st (fun t k => XS.lload X213.here hx rfl (hb hby d13_54) rfl k) ?_
    show own_Go _ _ _ _ T213 (mkF m 56 _ [(.long ((xc * (go 1)) + (ge 1))), (.long (ge 1)), (.int (5 : Int32)), (.ref a)])
    refine own_st (fun t k => XS.aload X213.here hx rfl (hb hby d13_56) rfl rfl k) ?_
    show own_Go _ _ _ _ T213 (mkF m 58 _ [(.ref ea), (.long ((xc * (go 1)) + (ge 1))), (.long (ge 1)), (.int (5 : Int32)), (.ref a)])
    refine own_st (fun t k => XS.iload X213.here hx rfl (hb hby d13_58) rfl k) ?_
    show own_Go _ _ _ _ T213 (mkF m 60 _ [(.int (1 : Int32)), (.ref ea), (.long ((xc * (go 1)) + (ge 1))), (.long (ge 1)), (.int (5 : Int32)), (.ref a)])
    obtain ⟨c215, Ar215, q215, S215, N215, H215⟩ := id f206
    refine own_st (fun t k => X213.laload hx (j := (1 : Int32)) (v := (.long (ge 1))) (by rw [e213]; exact Ar215.1) (State.isArrayOf_alike hZ.alike Ar215.2.1) Ar215.2.2 (inb_of S215 ⟨by decide, by decide⟩) (H215 _ (own_lt (inb_of S215 ⟨by decide, by decide⟩))) (g := (mkF m 60 #[sR a, sI (4 : Int32), sJ xc, .second, sR oa, sR ea, sI (1 : Int32), sJ ((xc * (go 1)) + (ge 1)), .second] [(.int (1 : Int32)), (.ref ea), (.long ((xc * (go 1)) + (ge 1))), (.long (ge 1)), (.int (5 : Int32)), (.ref a)])) rfl rfl (hb hby d13_60) _ k) ?_
    show own_Go _ _ _ _ T213 (mkF m 61 _ [(.long (ge 1)), (.long ((xc * (go 1)) + (ge 1))), (.long (ge 1)), (.int (5 : Int32)), (.ref a)])
    refine own_st (fun t k => XS.lload X213.here hx rfl (hb hby d13_61) rfl k) ?_
    show own_Go _ _ _ _ T213 (mkF m 63 _ [(.long ((xc * (go 1)) + (ge 1))), (.long (ge 1)), (.long ((xc * (go 1)) + (ge 1))), (.long (ge 1)), (.int (5 : Int32)), (.ref a)])
    obtain ⟨cq216, q216, q216'⟩ := f203.cell
    obtain ⟨_, _, ⟨T216, L216, k216, n216⟩, -, X216, ⟨Lc216, hQ216, l216, y216, z216⟩, st216⟩ := X213.privateBack hx (y := ym7) hown (mvT hZ (own_w hw 37 rfl)) (mvT hZ (own_w hw 38 rfl)) (own_selp (y := ym7) (mvT hZ (own_w hw 4 rfl)) (Cond.privateMethod_at (mvP hZ (own_w hw 39 rfl) (args := #[]))) (mvT hZ (own_w hw 38 rfl)) (by decide)) (Cond.privateMethod_at (mvP hZ (own_w hw 39 rfl) (args := #[]))) (mvT hZ (own_w hw 40 rfl)) (by decide) (backOf (W := 0) (rm19 l Z a0 hw [] a na kn (own_set gn (4 : Int32).toNatClampNeg (ge 0) ((xc * (go 0)) + (ge 0)) (ge 0) ((xc * (go 0)) + (ge 0))) (5 : Int32) (ge 1) ((xc * (go 1)) + (ge 1)) (ge 1) ((xc * (go 1)) + (ge 1)) T201.heap n0 Z208 f203 f204 fq201_0 n1 (by decide) g_na) hZ (own_w hw 40 rfl) (own_w hw 5 rfl) (by decide) (by decide)) (g := (mkF m 63 #[sR a, sI (4 : Int32), sJ xc, .second, sR oa, sR ea, sI (1 : Int32), sJ ((xc * (go 1)) + (ge 1)), .second] [(.long ((xc * (go 1)) + (ge 1))), (.long (ge 1)), (.long ((xc * (go 1)) + (ge 1))), (.long (ge 1)), (.int (5 : Int32)), (.ref a)])) rfl (by rw [hml]; rfl) (Steps.refl _) (a := a) (by rw [e213]; exact q216) q216' (argsL := [(.int (5 : Int32)), (.long (ge 1)), (.long ((xc * (go 1)) + (ge 1))), (.long (ge 1)), (.long ((xc * (go 1)) + (ge 1)))]) (rest := []) (lenOf own_pd__IJJJJ_V rfl) rfl (by show 2 * 0 + _ ≤ _; exact Nat.le_of_eq rfl) (hb hby d13_63) (fun _ _ => ⟨rfl, e213, (by decide : 0 + 0 ≤ _), (by decide : 0 + 0 ≤ _)⟩)
    dsimp only [Pt.U, Pt.locs, Pt.cells, Pt.slots] at X216 l216 y216 z216 st216 hQ216
    subst l216 y216 z216
    obtain ⟨rfl, NQ216, K216, fq216_0⟩ := hQ216
    have N217 := Fr.app N202 NQ216
    refine own_st (fun t k => st216.trans k) ?_
    have f218 := f203.keep K216
    have f219 := f204.keep K216 (ninS (Ne.symm n1) nin0)
    have f220 := f205.keep K216 (ninS n2 nin0)
    have f221 := f206.keep K216 (ninS n3 nin0)
    have f222 := f207.keep K216 (ninS (Ne.symm n1) nin0)
    have Z223 : n0 ≤ T216.heap.size := Nat.le_trans Z208 K216.1
    have K224 : Keep h0 T216.heap [na, a] := K209.trans K216 (allS (Or.inl (List.mem_of_getElem? (i := 0) rfl)) all0)
    show own_Go _ _ _ _ T216 (mkF m 66 _ [])
    refine own_st (fun t k => XS.goto X216.here hx rfl (pc0 := 66) (pc' := 88) rfl (hb hby d13_66) (by decide) (by decide) k) ?_
    show own_Go _ _ _ _ T216 (mkF m 88 _ [])
    refine own_st (fun t k => XS.iinc X216.here hx rfl (hb hby d13_88) rfl (l' := #[sR a, sI (4 : Int32), sJ xc, .second, sR oa, sR ea, sI (2 : Int32), sJ ((xc * (go 1)) + (ge 1)), .second]) rfl k) ?_
    show own_Go _ _ _ _ T216 (mkF m 91 #[sR a, sI (4 : Int32), sJ xc, .second, sR oa, sR ea, sI (2 : Int32), sJ ((xc * (go 1)) + (ge 1)), .second] [])
    show own_Go _ _ _ _ T216 (mkF m 91 _ [])
    refine own_st (fun t k => XS.goto X216.here hx rfl (pc0 := 91) (pc' := 11) rfl (hb hby d13_91) (by decide) (by decide) k) ?_
    show own_Go _ _ _ _ T216 (mkF m 11 _ [])
    refine own_st (fun t k => XS.iload X216.here hx rfl (hb hby d13_11) rfl k) ?_
    show own_Go _ _ _ _ T216 (mkF m 13 _ [(.int (2 : Int32))])
    refine own_st (fun t k => XS.aloadN X216.here hx rfl (hb hby d13_13) rfl rfl k) ?_
    show own_Go _ _ _ _ T216 (mkF m 14 _ [(.ref a), (.int (2 : Int32))])
    obtain ⟨T225, X225, e225, st225⟩ := getF X216 hx hZ hown (host := "") (Or.inl (own_w hw 35 rfl)) Via.refl rfl f222 (g := (mkF m 14 #[sR a, sI (4 : Int32), sJ xc, .second, sR oa, sR ea, sI (2 : Int32), sJ ((xc * (go 1)) + (ge 1)), .second] [(.ref a), (.int (2 : Int32))])) rfl rfl (hb hby d13_14)
    refine own_st st225 ?_
    show own_Go _ _ _ _ T225 (mkF m 17 _ [(.int (4 : Int32)), (.int (2 : Int32))])
    refine own_st (fun t k => XS.icmpNo X225.here hx rfl (hb hby d13_17) rfl (tlt (by decide : ((2 : Int32) < (4 : Int32)))).2.1 k) ?_
    show own_Go _ _ _ _ T225 (mkF m 20 _ [])
    refine own_st (fun t k => XS.iload X225.here hx rfl (hb hby d13_20) rfl k) ?_
    show own_Go _ _ _ _ T225 (mkF m 22 _ [(.int (2 : Int32))])
    refine own_st (fun t k => XS.iloadN X225.here hx rfl (hb hby d13_22) rfl k) ?_
    show own_Go _ _ _ _ T225 (mkF m 23 _ [(.int (4 : Int32)), (.int (2 : Int32))])
    refine own_st (fun t k => XS.icmpNo X225.here hx rfl (hb hby d13_23) rfl (tlt (by decide : ((2 : Int32) < (4 : Int32)))).2.1 k) ?_
    show own_Go _ _ _ _ T225 (mkF m 26 _ [])
    refine own_st (fun t k => XS.lloadN X225.here hx rfl (hb hby d13_26) rfl k) ?_
    show own_Go _ _ _ _ T225 (mkF m 27 _ [(.long xc)])
    refine own_st (fun t k => XS.aload X225.here hx rfl (hb hby d13_27) rfl rfl k) ?_
    show own_Go _ _ _ _ T225 (mkF m 29 _ [(.ref oa), (.long xc)])
    refine own_st (fun t k => XS.iload X225.here hx rfl (hb hby d13_29) rfl k) ?_
    show own_Go _ _ _ _ T225 (mkF m 31 _ [(.int (2 : Int32)), (.ref oa), (.long xc)])
    obtain ⟨c226, Ar226, q226, S226, N226, H226⟩ := id f220
    refine own_st (fun t k => X225.laload hx (j := (2 : Int32)) (v := (.long (go 2))) (by rw [e225]; exact Ar226.1) (State.isArrayOf_alike hZ.alike Ar226.2.1) Ar226.2.2 (inb_of S226 ⟨by decide, by decide⟩) (H226 _ (own_lt (inb_of S226 ⟨by decide, by decide⟩))) (g := (mkF m 31 #[sR a, sI (4 : Int32), sJ xc, .second, sR oa, sR ea, sI (2 : Int32), sJ ((xc * (go 1)) + (ge 1)), .second] [(.int (2 : Int32)), (.ref oa), (.long xc)])) rfl rfl (hb hby d13_31) _ k) ?_
    show own_Go _ _ _ _ T225 (mkF m 32 _ [(.long (go 2)), (.long xc)])
    refine own_st (fun t k => XS.lmul X225.here hx rfl (hb hby d13_32) rfl k) ?_
    show own_Go _ _ _ _ T225 (mkF m 33 _ [(.long (xc * (go 2)))])
    refine own_st (fun t k => XS.aload X225.here hx rfl (hb hby d13_33) rfl rfl k) ?_
    show own_Go _ _ _ _ T225 (mkF m 35 _ [(.ref ea), (.long (xc * (go 2)))])
    refine own_st (fun t k => XS.iload X225.here hx rfl (hb hby d13_35) rfl k) ?_
    show own_Go _ _ _ _ T225 (mkF m 37 _ [(.int (2 : Int32)), (.ref ea), (.long (xc * (go 2)))])
    obtain ⟨c227, Ar227, q227, S227, N227, H227⟩ := id f221
    refine own_st (fun t k => X225.laload hx (j := (2 : Int32)) (v := (.long (ge 2))) (by rw [e225]; exact Ar227.1) (State.isArrayOf_alike hZ.alike Ar227.2.1) Ar227.2.2 (inb_of S227 ⟨by decide, by decide⟩) (H227 _ (own_lt (inb_of S227 ⟨by decide, by decide⟩))) (g := (mkF m 37 #[sR a, sI (4 : Int32), sJ xc, .second, sR oa, sR ea, sI (2 : Int32), sJ ((xc * (go 1)) + (ge 1)), .second] [(.int (2 : Int32)), (.ref ea), (.long (xc * (go 2)))])) rfl rfl (hb hby d13_37) _ k) ?_
    show own_Go _ _ _ _ T225 (mkF m 38 _ [(.long (ge 2)), (.long (xc * (go 2)))])
    refine own_st (fun t k => XS.ladd X225.here hx rfl (hb hby d13_38) rfl k) ?_
    show own_Go _ _ _ _ T225 (mkF m 39 _ [(.long ((xc * (go 2)) + (ge 2)))])
    refine own_st (fun t k => XS.lstore X225.here hx rfl (hb hby d13_39) rfl (l' := #[sR a, sI (4 : Int32), sJ xc, .second, sR oa, sR ea, sI (2 : Int32), sJ ((xc * (go 2)) + (ge 2)), .second]) rfl k) ?_
    show own_Go _ _ _ _ T225 (mkF m 41 #[sR a, sI (4 : Int32), sJ xc, .second, sR oa, sR ea, sI (2 : Int32), sJ ((xc * (go 2)) + (ge 2)), .second] [])
    refine own_st (fun t k => XS.aloadN X225.here hx rfl (hb hby d13_41) rfl rfl k) ?_
    show own_Go _ _ _ _ T225 (mkF m 42 _ [(.ref a)])
    refine own_st (fun t k => XS.aloadN X225.here hx rfl (hb hby d13_42) rfl rfl k) ?_
    show own_Go _ _ _ _ T225 (mkF m 43 _ [(.ref a), (.ref a)])
    obtain ⟨T228, X228, e228, st228⟩ := getF X225 hx hZ hown (host := "") (Or.inl (own_w hw 35 rfl)) Via.refl e225 f222 (g := (mkF m 43 #[sR a, sI (4 : Int32), sJ xc, .second, sR oa, sR ea, sI (2 : Int32), sJ ((xc * (go 2)) + (ge 2)), .second] [(.ref a), (.ref a)])) rfl rfl (hb hby d13_43)
    refine own_st st228 ?_
    show own_Go _ _ _ _ T228 (mkF m 46 _ [(.int (4 : Int32)), (.ref a)])
    refine own_st (fun t k => XS.iload X228.here hx rfl (hb hby d13_46) rfl k) ?_
    show own_Go _ _ _ _ T228 (mkF m 48 _ [(.int (2 : Int32)), (.int (4 : Int32)), (.ref a)])
    refine own_st (fun t k => XS.iadd X228.here hx rfl (hb hby d13_48) rfl k) ?_
    show own_Go _ _ _ _ T228 (mkF m 49 _ [(.int (6 : Int32)), (.ref a)])
    refine own_st (fun t k => XS.aload X228.here hx rfl (hb hby d13_49) rfl rfl k) ?_
    show own_Go _ _ _ _ T228 (mkF m 51 _ [(.ref ea), (.int (6 : Int32)), (.ref a)])
    refine own_st (fun t k => XS.iload X228.here hx rfl (hb hby d13_51) rfl k) ?_
    show own_Go _ _ _ _ T228 (mkF m 53 _ [(.int (2 : Int32)), (.ref ea), (.int (6 : Int32)), (.ref a)])
    obtain ⟨c229, Ar229, q229, S229, N229, H229⟩ := id f221
    refine own_st (fun t k => X228.laload hx (j := (2 : Int32)) (v := (.long (ge 2))) (by rw [e228]; exact Ar229.1) (State.isArrayOf_alike hZ.alike Ar229.2.1) Ar229.2.2 (inb_of S229 ⟨by decide, by decide⟩) (H229 _ (own_lt (inb_of S229 ⟨by decide, by decide⟩))) (g := (mkF m 53 #[sR a, sI (4 : Int32), sJ xc, .second, sR oa, sR ea, sI (2 : Int32), sJ ((xc * (go 2)) + (ge 2)), .second] [(.int (2 : Int32)), (.ref ea), (.int (6 : Int32)), (.ref a)])) rfl rfl (hb hby d13_53) _ k) ?_
    show own_Go _ _ _ _ T228 (mkF m 54 _ [(.long (ge 2)), (.int (6 : Int32)), (.ref a)])
    refine own_st (fun t k => XS.lload X228.here hx rfl (hb hby d13_54) rfl k) ?_
    show own_Go _ _ _ _ T228 (mkF m 56 _ [(.long ((xc * (go 2)) + (ge 2))), (.long (ge 2)), (.int (6 : Int32)), (.ref a)])
    refine own_st (fun t k => XS.aload X228.here hx rfl (hb hby d13_56) rfl rfl k) ?_
    show own_Go _ _ _ _ T228 (mkF m 58 _ [(.ref ea), (.long ((xc * (go 2)) + (ge 2))), (.long (ge 2)), (.int (6 : Int32)), (.ref a)])
    refine own_st (fun t k => XS.iload X228.here hx rfl (hb hby d13_58) rfl k) ?_
    show own_Go _ _ _ _ T228 (mkF m 60 _ [(.int (2 : Int32)), (.ref ea), (.long ((xc * (go 2)) + (ge 2))), (.long (ge 2)), (.int (6 : Int32)), (.ref a)])
    obtain ⟨c230, Ar230, q230, S230, N230, H230⟩ := id f221
    refine own_st (fun t k => X228.laload hx (j := (2 : Int32)) (v := (.long (ge 2))) (by rw [e228]; exact Ar230.1) (State.isArrayOf_alike hZ.alike Ar230.2.1) Ar230.2.2 (inb_of S230 ⟨by decide, by decide⟩) (H230 _ (own_lt (inb_of S230 ⟨by decide, by decide⟩))) (g := (mkF m 60 #[sR a, sI (4 : Int32), sJ xc, .second, sR oa, sR ea, sI (2 : Int32), sJ ((xc * (go 2)) + (ge 2)), .second] [(.int (2 : Int32)), (.ref ea), (.long ((xc * (go 2)) + (ge 2))), (.long (ge 2)), (.int (6 : Int32)), (.ref a)])) rfl rfl (hb hby d13_60) _ k) ?_
    show own_Go _ _ _ _ T228 (mkF m 61 _ [(.long (ge 2)), (.long ((xc * (go 2)) + (ge 2))), (.long (ge 2)), (.int (6 : Int32)), (.ref a)])
    refine own_st (fun t k => XS.lload X228.here hx rfl (hb hby d13_61) rfl k) ?_
    show own_Go _ _ _ _ T228 (mkF m 63 _ [(.long ((xc * (go 2)) + (ge 2))), (.long (ge 2)), (.long ((xc * (go 2)) + (ge 2))), (.long (ge 2)), (.int (6 : Int32)), (.ref a)])
    obtain ⟨cq231, q231, q231'⟩ := f218.cell
    obtain ⟨_, _, ⟨T231, L231, k231, n231⟩, -, X231, ⟨Lc231, hQ231, l231, y231, z231⟩, st231⟩ := X228.privateBack hx (y := ym7) hown (mvT hZ (own_w hw 37 rfl)) (mvT hZ (own_w hw 38 rfl)) (own_selp (y := ym7) (mvT hZ (own_w hw 4 rfl)) (Cond.privateMethod_at (mvP hZ (own_w hw 39 rfl) (args := #[]))) (mvT hZ (own_w hw 38 rfl)) (by decide)) (Cond.privateMethod_at (mvP hZ (own_w hw 39 rfl) (args := #[]))) (mvT hZ (own_w hw 40 rfl)) (by decide) (backOf (W := 0) (rm19 l Z a0 hw [] a na kn (own_set (own_set gn (4 : Int32).toNatClampNeg (ge 0) ((xc * (go 0)) + (ge 0)) (ge 0) ((xc * (go 0)) + (ge 0))) (5 : Int32).toNatClampNeg (ge 1) ((xc * (go 1)) + (ge 1)) (ge 1) ((xc * (go 1)) + (ge 1))) (6 : Int32) (ge 2) ((xc * (go 2)) + (ge 2)) (ge 2) ((xc * (go 2)) + (ge 2)) T216.heap n0 Z223 f218 f219 fq216_0 n1 (by decide) g_na) hZ (own_w hw 40 rfl) (own_w hw 5 rfl) (by decide) (by decide)) (g := (mkF m 63 #[sR a, sI (4 : Int32), sJ xc, .second, sR oa, sR ea, sI (2 : Int32), sJ ((xc * (go 2)) + (ge 2)), .second] [(.long ((xc * (go 2)) + (ge 2))), (.long (ge 2)), (.long ((xc * (go 2)) + (ge 2))), (.long (ge 2)), (.int (6 : Int32)), (.ref a)])) rfl (by rw [hml]; rfl) (Steps.refl _) (a := a) (by rw [e228]; exact q231) q231' (argsL := [(.int (6 : Int32)), (.long (ge 2)), (.long ((xc * (go 2)) + (ge 2))), (.long (ge 2)), (.long ((xc * (go 2)) + (ge 2)))]) (rest := []) (lenOf own_pd__IJJJJ_V rfl) rfl (by show 2 * 0 + _ ≤ _; exact Nat.le_of_eq rfl) (hb hby d13_63) (fun _ _ => ⟨rfl, e228, (by decide : 0 + 0 ≤ _), (by decide : 0 + 0 ≤ _)⟩)
    dsimp only [Pt.U, Pt.locs, Pt.cells, Pt.slots] at X231 l231 y231 z231 st231 hQ231
    subst l231 y231 z231
    obtain ⟨rfl, NQ231, K231, fq231_0⟩ := hQ231
    have N232 := Fr.app N217 NQ231
    refine own_st (fun t k => st231.trans k) ?_
    have f233 := f218.keep K231
    have f234 := f219.keep K231 (ninS (Ne.symm n1) nin0)
    have f235 := f220.keep K231 (ninS n2 nin0)
    have f236 := f221.keep K231 (ninS n3 nin0)
    have f237 := f222.keep K231 (ninS (Ne.symm n1) nin0)
    have Z238 : n0 ≤ T231.heap.size := Nat.le_trans Z223 K231.1
    have K239 : Keep h0 T231.heap [na, a] := K224.trans K231 (allS (Or.inl (List.mem_of_getElem? (i := 0) rfl)) all0)
    show own_Go _ _ _ _ T231 (mkF m 66 _ [])
    refine own_st (fun t k => XS.goto X231.here hx rfl (pc0 := 66) (pc' := 88) rfl (hb hby d13_66) (by decide) (by decide) k) ?_
    show own_Go _ _ _ _ T231 (mkF m 88 _ [])
    refine own_st (fun t k => XS.iinc X231.here hx rfl (hb hby d13_88) rfl (l' := #[sR a, sI (4 : Int32), sJ xc, .second, sR oa, sR ea, sI (3 : Int32), sJ ((xc * (go 2)) + (ge 2)), .second]) rfl k) ?_
    show own_Go _ _ _ _ T231 (mkF m 91 #[sR a, sI (4 : Int32), sJ xc, .second, sR oa, sR ea, sI (3 : Int32), sJ ((xc * (go 2)) + (ge 2)), .second] [])
    show own_Go _ _ _ _ T231 (mkF m 91 _ [])
    refine own_st (fun t k => XS.goto X231.here hx rfl (pc0 := 91) (pc' := 11) rfl (hb hby d13_91) (by decide) (by decide) k) ?_
    show own_Go _ _ _ _ T231 (mkF m 11 _ [])
    refine own_st (fun t k => XS.iload X231.here hx rfl (hb hby d13_11) rfl k) ?_
    show own_Go _ _ _ _ T231 (mkF m 13 _ [(.int (3 : Int32))])
    refine own_st (fun t k => XS.aloadN X231.here hx rfl (hb hby d13_13) rfl rfl k) ?_
    show own_Go _ _ _ _ T231 (mkF m 14 _ [(.ref a), (.int (3 : Int32))])
    obtain ⟨T240, X240, e240, st240⟩ := getF X231 hx hZ hown (host := "") (Or.inl (own_w hw 35 rfl)) Via.refl rfl f237 (g := (mkF m 14 #[sR a, sI (4 : Int32), sJ xc, .second, sR oa, sR ea, sI (3 : Int32), sJ ((xc * (go 2)) + (ge 2)), .second] [(.ref a), (.int (3 : Int32))])) rfl rfl (hb hby d13_14)
    refine own_st st240 ?_
    show own_Go _ _ _ _ T240 (mkF m 17 _ [(.int (4 : Int32)), (.int (3 : Int32))])
    refine own_st (fun t k => XS.icmpNo X240.here hx rfl (hb hby d13_17) rfl (tlt (by decide : ((3 : Int32) < (4 : Int32)))).2.1 k) ?_
    show own_Go _ _ _ _ T240 (mkF m 20 _ [])
    refine own_st (fun t k => XS.iload X240.here hx rfl (hb hby d13_20) rfl k) ?_
    show own_Go _ _ _ _ T240 (mkF m 22 _ [(.int (3 : Int32))])
    refine own_st (fun t k => XS.iloadN X240.here hx rfl (hb hby d13_22) rfl k) ?_
    show own_Go _ _ _ _ T240 (mkF m 23 _ [(.int (4 : Int32)), (.int (3 : Int32))])
    refine own_st (fun t k => XS.icmpNo X240.here hx rfl (hb hby d13_23) rfl (tlt (by decide : ((3 : Int32) < (4 : Int32)))).2.1 k) ?_
    show own_Go _ _ _ _ T240 (mkF m 26 _ [])
    refine own_st (fun t k => XS.lloadN X240.here hx rfl (hb hby d13_26) rfl k) ?_
    show own_Go _ _ _ _ T240 (mkF m 27 _ [(.long xc)])
    refine own_st (fun t k => XS.aload X240.here hx rfl (hb hby d13_27) rfl rfl k) ?_
    show own_Go _ _ _ _ T240 (mkF m 29 _ [(.ref oa), (.long xc)])
    refine own_st (fun t k => XS.iload X240.here hx rfl (hb hby d13_29) rfl k) ?_
    show own_Go _ _ _ _ T240 (mkF m 31 _ [(.int (3 : Int32)), (.ref oa), (.long xc)])
    obtain ⟨c241, Ar241, q241, S241, N241, H241⟩ := id f235
    refine own_st (fun t k => X240.laload hx (j := (3 : Int32)) (v := (.long (go 3))) (by rw [e240]; exact Ar241.1) (State.isArrayOf_alike hZ.alike Ar241.2.1) Ar241.2.2 (inb_of S241 ⟨by decide, by decide⟩) (H241 _ (own_lt (inb_of S241 ⟨by decide, by decide⟩))) (g := (mkF m 31 #[sR a, sI (4 : Int32), sJ xc, .second, sR oa, sR ea, sI (3 : Int32), sJ ((xc * (go 2)) + (ge 2)), .second] [(.int (3 : Int32)), (.ref oa), (.long xc)])) rfl rfl (hb hby d13_31) _ k) ?_
    show own_Go _ _ _ _ T240 (mkF m 32 _ [(.long (go 3)), (.long xc)])
    refine own_st (fun t k => XS.lmul X240.here hx rfl (hb hby d13_32) rfl k) ?_
    show own_Go _ _ _ _ T240 (mkF m 33 _ [(.long (xc * (go 3)))])
    refine own_st (fun t k => XS.aload X240.here hx rfl (hb hby d13_33) rfl rfl k) ?_
    show own_Go _ _ _ _ T240 (mkF m 35 _ [(.ref ea), (.long (xc * (go 3)))])
    refine own_st (fun t k => XS.iload X240.here hx rfl (hb hby d13_35) rfl k) ?_
    show own_Go _ _ _ _ T240 (mkF m 37 _ [(.int (3 : Int32)), (.ref ea), (.long (xc * (go 3)))])
    obtain ⟨c242, Ar242, q242, S242, N242, H242⟩ := id f236
    refine own_st (fun t k => X240.laload hx (j := (3 : Int32)) (v := (.long (ge 3))) (by rw [e240]; exact Ar242.1) (State.isArrayOf_alike hZ.alike Ar242.2.1) Ar242.2.2 (inb_of S242 ⟨by decide, by decide⟩) (H242 _ (own_lt (inb_of S242 ⟨by decide, by decide⟩))) (g := (mkF m 37 #[sR a, sI (4 : Int32), sJ xc, .second, sR oa, sR ea, sI (3 : Int32), sJ ((xc * (go 2)) + (ge 2)), .second] [(.int (3 : Int32)), (.ref ea), (.long (xc * (go 3)))])) rfl rfl (hb hby d13_37) _ k) ?_
    show own_Go _ _ _ _ T240 (mkF m 38 _ [(.long (ge 3)), (.long (xc * (go 3)))])
    refine own_st (fun t k => XS.ladd X240.here hx rfl (hb hby d13_38) rfl k) ?_
    show own_Go _ _ _ _ T240 (mkF m 39 _ [(.long ((xc * (go 3)) + (ge 3)))])
    refine own_st (fun t k => XS.lstore X240.here hx rfl (hb hby d13_39) rfl (l' := #[sR a, sI (4 : Int32), sJ xc, .second, sR oa, sR ea, sI (3 : Int32), sJ ((xc * (go 3)) + (ge 3)), .second]) rfl k) ?_
    show own_Go _ _ _ _ T240 (mkF m 41 #[sR a, sI (4 : Int32), sJ xc, .second, sR oa, sR ea, sI (3 : Int32), sJ ((xc * (go 3)) + (ge 3)), .second] [])
    refine own_st (fun t k => XS.aloadN X240.here hx rfl (hb hby d13_41) rfl rfl k) ?_
    show own_Go _ _ _ _ T240 (mkF m 42 _ [(.ref a)])
    refine own_st (fun t k => XS.aloadN X240.here hx rfl (hb hby d13_42) rfl rfl k) ?_
    show own_Go _ _ _ _ T240 (mkF m 43 _ [(.ref a), (.ref a)])
    obtain ⟨T243, X243, e243, st243⟩ := getF X240 hx hZ hown (host := "") (Or.inl (own_w hw 35 rfl)) Via.refl e240 f237 (g := (mkF m 43 #[sR a, sI (4 : Int32), sJ xc, .second, sR oa, sR ea, sI (3 : Int32), sJ ((xc * (go 3)) + (ge 3)), .second] [(.ref a), (.ref a)])) rfl rfl (hb hby d13_43)
    refine own_st st243 ?_
    show own_Go _ _ _ _ T243 (mkF m 46 _ [(.int (4 : Int32)), (.ref a)])
    refine own_st (fun t k => XS.iload X243.here hx rfl (hb hby d13_46) rfl k) ?_
    show own_Go _ _ _ _ T243 (mkF m 48 _ [(.int (3 : Int32)), (.int (4 : Int32)), (.ref a)])
    refine own_st (fun t k => XS.iadd X243.here hx rfl (hb hby d13_48) rfl k) ?_
    show own_Go _ _ _ _ T243 (mkF m 49 _ [(.int (7 : Int32)), (.ref a)])
    refine own_st (fun t k => XS.aload X243.here hx rfl (hb hby d13_49) rfl rfl k) ?_
    show own_Go _ _ _ _ T243 (mkF m 51 _ [(.ref ea), (.int (7 : Int32)), (.ref a)])
    refine own_st (fun t k => XS.iload X243.here hx rfl (hb hby d13_51) rfl k) ?_
    show own_Go _ _ _ _ T243 (mkF m 53 _ [(.int (3 : Int32)), (.ref ea), (.int (7 : Int32)), (.ref a)])
    obtain ⟨c244, Ar244, q244, S244, N244, H244⟩ := id f236
    refine own_st (fun t k => X243.laload hx (j := (3 : Int32)) (v := (.long (ge 3))) (by rw [e243]; exact Ar244.1) (State.isArrayOf_alike hZ.alike Ar244.2.1) Ar244.2.2 (inb_of S244 ⟨by decide, by decide⟩) (H244 _ (own_lt (inb_of S244 ⟨by decide, by decide⟩))) (g := (mkF m 53 #[sR a, sI (4 : Int32), sJ xc, .second, sR oa, sR ea, sI (3 : Int32), sJ ((xc * (go 3)) + (ge 3)), .second] [(.int (3 : Int32)), (.ref ea), (.int (7 : Int32)), (.ref a)])) rfl rfl (hb hby d13_53) _ k) ?_
    show own_Go _ _ _ _ T243 (mkF m 54 _ [(.long (ge 3)), (.int (7 : Int32)), (.ref a)])
    refine own_st (fun t k => XS.lload X243.here hx rfl (hb hby d13_54) rfl k) ?_
    show own_Go _ _ _ _ T243 (mkF m 56 _ [(.long ((xc * (go 3)) + (ge 3))), (.long (ge 3)), (.int (7 : Int32)), (.ref a)])
    refine own_st (fun t k => XS.aload X243.here hx rfl (hb hby d13_56) rfl rfl k) ?_
    show own_Go _ _ _ _ T243 (mkF m 58 _ [(.ref ea), (.long ((xc * (go 3)) + (ge 3))), (.long (ge 3)), (.int (7 : Int32)), (.ref a)])
    refine own_st (fun t k => XS.iload X243.here hx rfl (hb hby d13_58) rfl k) ?_
    show own_Go _ _ _ _ T243 (mkF m 60 _ [(.int (3 : Int32)), (.ref ea), (.long ((xc * (go 3)) + (ge 3))), (.long (ge 3)), (.int (7 : Int32)), (.ref a)])
    obtain ⟨c245, Ar245, q245, S245, N245, H245⟩ := id f236
    refine own_st (fun t k => X243.laload hx (j := (3 : Int32)) (v := (.long (ge 3))) (by rw [e243]; exact Ar245.1) (State.isArrayOf_alike hZ.alike Ar245.2.1) Ar245.2.2 (inb_of S245 ⟨by decide, by decide⟩) (H245 _ (own_lt (inb_of S245 ⟨by decide, by decide⟩))) (g := (mkF m 60 #[sR a, sI (4 : Int32), sJ xc, .second, sR oa, sR ea, sI (3 : Int32), sJ ((xc * (go 3)) + (ge 3)), .second] [(.int (3 : Int32)), (.ref ea), (.long ((xc * (go 3)) + (ge 3))), (.long (ge 3)), (.int (7 : Int32)), (.ref a)])) rfl rfl (hb hby d13_60) _ k) ?_
    show own_Go _ _ _ _ T243 (mkF m 61 _ [(.long (ge 3)), (.long ((xc * (go 3)) + (ge 3))), (.long (ge 3)), (.int (7 : Int32)), (.ref a)])
    refine own_st (fun t k => XS.lload X243.here hx rfl (hb hby d13_61) rfl k) ?_
    show own_Go _ _ _ _ T243 (mkF m 63 _ [(.long ((xc * (go 3)) + (ge 3))), (.long (ge 3)), (.long ((xc * (go 3)) + (ge 3))), (.long (ge 3)), (.int (7 : Int32)), (.ref a)])
    obtain ⟨cq246, q246, q246'⟩ := f233.cell
    obtain ⟨_, _, ⟨T246, L246, k246, n246⟩, -, X246, ⟨Lc246, hQ246, l246, y246, z246⟩, st246⟩ := X243.privateBack hx (y := ym7) hown (mvT hZ (own_w hw 37 rfl)) (mvT hZ (own_w hw 38 rfl)) (own_selp (y := ym7) (mvT hZ (own_w hw 4 rfl)) (Cond.privateMethod_at (mvP hZ (own_w hw 39 rfl) (args := #[]))) (mvT hZ (own_w hw 38 rfl)) (by decide)) (Cond.privateMethod_at (mvP hZ (own_w hw 39 rfl) (args := #[]))) (mvT hZ (own_w hw 40 rfl)) (by decide) (backOf (W := 0) (rm19 l Z a0 hw [] a na kn (own_set (own_set (own_set gn (4 : Int32).toNatClampNeg (ge 0) ((xc * (go 0)) + (ge 0)) (ge 0) ((xc * (go 0)) + (ge 0))) (5 : Int32).toNatClampNeg (ge 1) ((xc * (go 1)) + (ge 1)) (ge 1) ((xc * (go 1)) + (ge 1))) (6 : Int32).toNatClampNeg (ge 2) ((xc * (go 2)) + (ge 2)) (ge 2) ((xc * (go 2)) + (ge 2))) (7 : Int32) (ge 3) ((xc * (go 3)) + (ge 3)) (ge 3) ((xc * (go 3)) + (ge 3)) T231.heap n0 Z238 f233 f234 fq231_0 n1 (by decide) g_na) hZ (own_w hw 40 rfl) (own_w hw 5 rfl) (by decide) (by decide)) (g := (mkF m 63 #[sR a, sI (4 : Int32), sJ xc, .second, sR oa, sR ea, sI (3 : Int32), sJ ((xc * (go 3)) + (ge 3)), .second] [(.long ((xc * (go 3)) + (ge 3))), (.long (ge 3)), (.long ((xc * (go 3)) + (ge 3))), (.long (ge 3)), (.int (7 : Int32)), (.ref a)])) rfl (by rw [hml]; rfl) (Steps.refl _) (a := a) (by rw [e243]; exact q246) q246' (argsL := [(.int (7 : Int32)), (.long (ge 3)), (.long ((xc * (go 3)) + (ge 3))), (.long (ge 3)), (.long ((xc * (go 3)) + (ge 3)))]) (rest := []) (lenOf own_pd__IJJJJ_V rfl) rfl (by show 2 * 0 + _ ≤ _; exact Nat.le_of_eq rfl) (hb hby d13_63) (fun _ _ => ⟨rfl, e243, (by decide : 0 + 0 ≤ _), (by decide : 0 + 0 ≤ _)⟩)
    dsimp only [Pt.U, Pt.locs, Pt.cells, Pt.slots] at X246 l246 y246 z246 st246 hQ246
    subst l246 y246 z246
    obtain ⟨rfl, NQ246, K246, fq246_0⟩ := hQ246
    have N247 := Fr.app N232 NQ246
    refine own_st (fun t k => st246.trans k) ?_
    have f248 := f233.keep K246
    have f249 := f234.keep K246 (ninS (Ne.symm n1) nin0)
    have f250 := f235.keep K246 (ninS n2 nin0)
    have f251 := f236.keep K246 (ninS n3 nin0)
    have f252 := f237.keep K246 (ninS (Ne.symm n1) nin0)
    have Z253 : n0 ≤ T246.heap.size := Nat.le_trans Z238 K246.1
    have K254 : Keep h0 T246.heap [na, a] := K239.trans K246 (allS (Or.inl (List.mem_of_getElem? (i := 0) rfl)) all0)
    show own_Go _ _ _ _ T246 (mkF m 66 _ [])
    refine own_st (fun t k => XS.goto X246.here hx rfl (pc0 := 66) (pc' := 88) rfl (hb hby d13_66) (by decide) (by decide) k) ?_
    show own_Go _ _ _ _ T246 (mkF m 88 _ [])
    refine own_st (fun t k => XS.iinc X246.here hx rfl (hb hby d13_88) rfl (l' := #[sR a, sI (4 : Int32), sJ xc, .second, sR oa, sR ea, sI (4 : Int32), sJ ((xc * (go 3)) + (ge 3)), .second]) rfl k) ?_
    show own_Go _ _ _ _ T246 (mkF m 91 #[sR a, sI (4 : Int32), sJ xc, .second, sR oa, sR ea, sI (4 : Int32), sJ ((xc * (go 3)) + (ge 3)), .second] [])
    show own_Go _ _ _ _ T246 (mkF m 91 _ [])
    refine own_st (fun t k => XS.goto X246.here hx rfl (pc0 := 91) (pc' := 11) rfl (hb hby d13_91) (by decide) (by decide) k) ?_
    show own_Go _ _ _ _ T246 (mkF m 11 _ [])
    refine own_st (fun t k => XS.iload X246.here hx rfl (hb hby d13_11) rfl k) ?_
    show own_Go _ _ _ _ T246 (mkF m 13 _ [(.int (4 : Int32))])
    refine own_st (fun t k => XS.aloadN X246.here hx rfl (hb hby d13_13) rfl rfl k) ?_
    show own_Go _ _ _ _ T246 (mkF m 14 _ [(.ref a), (.int (4 : Int32))])
    obtain ⟨T255, X255, e255, st255⟩ := getF X246 hx hZ hown (host := "") (Or.inl (own_w hw 35 rfl)) Via.refl rfl f252 (g := (mkF m 14 #[sR a, sI (4 : Int32), sJ xc, .second, sR oa, sR ea, sI (4 : Int32), sJ ((xc * (go 3)) + (ge 3)), .second] [(.ref a), (.int (4 : Int32))])) rfl rfl (hb hby d13_14)
    refine own_st st255 ?_
    show own_Go _ _ _ _ T255 (mkF m 17 _ [(.int (4 : Int32)), (.int (4 : Int32))])
    refine own_st (fun t k => XS.icmpYes X255.here hx rfl (pc0 := 17) (pc' := 94) rfl (hb hby d13_17) rfl (flt (by decide : ¬ ((4 : Int32) < (4 : Int32)))).2.1 (by decide) (by decide) k) ?_
    show own_Go _ _ _ _ T255 (mkF m 94 _ [])
    refine own_st (fun t k => XS.aloadN X255.here hx rfl (hb hby d13_94) rfl rfl k) ?_
    show own_Go _ _ _ _ T255 (mkF m 95 _ [(.ref a)])
    obtain ⟨T256, X256, e256, st256⟩ := getF X255 hx hZ hown (host := "") (Or.inl (own_w hw 35 rfl)) Via.refl e255 f252 (g := (mkF m 95 #[sR a, sI (4 : Int32), sJ xc, .second, sR oa, sR ea, sI (4 : Int32), sJ ((xc * (go 3)) + (ge 3)), .second] [(.ref a)])) rfl rfl (hb hby d13_95)
    refine own_st st256 ?_
    show own_Go _ _ _ _ T256 (mkF m 98 _ [(.int (4 : Int32))])
    refine own_st (fun t k => XS.iconst X256.here hx rfl (hb hby d13_98) k) ?_
    show own_Go _ _ _ _ T256 (mkF m 99 _ [(.int (1 : Int32)), (.int (4 : Int32))])
    refine own_st (fun t k => XS.isub X256.here hx rfl (hb hby d13_99) rfl k) ?_
    show own_Go _ _ _ _ T256 (mkF m 100 _ [(.int (3 : Int32))])
    refine own_st (fun t k => XS.istore X256.here hx rfl (hb hby d13_100) rfl (l' := #[sR a, sI (4 : Int32), sJ xc, .second, sR oa, sR ea, sI (3 : Int32), sJ ((xc * (go 3)) + (ge 3)), .second]) rfl k) ?_
    show own_Go _ _ _ _ T256 (mkF m 102 #[sR a, sI (4 : Int32), sJ xc, .second, sR oa, sR ea, sI (3 : Int32), sJ ((xc * (go 3)) + (ge 3)), .second] [])
    refine own_st (fun t k => XS.iload X256.here hx rfl (hb hby d13_102) rfl k) ?_
    show own_Go _ _ _ _ T256 (mkF m 104 _ [(.int (3 : Int32))])
    refine own_st (fun t k => XS.iconst X256.here hx rfl (hb hby d13_104) k) ?_
    show own_Go _ _ _ _ T256 (mkF m 105 _ [(.int (1 : Int32)), (.int (3 : Int32))])
    refine own_st (fun t k => XS.icmpNo X256.here hx rfl (hb hby d13_105) rfl (flt (by decide : ¬ ((3 : Int32) < (1 : Int32)))).1 k) ?_
    show own_Go _ _ _ _ T256 (mkF m 108 _ [])
    refine own_st (fun t k => XS.aloadN X256.here hx rfl (hb hby d13_108) rfl rfl k) ?_
    show own_Go _ _ _ _ T256 (mkF m 109 _ [(.ref a)])
    refine own_st (fun t k => XS.iload X256.here hx rfl (hb hby d13_109) rfl k) ?_
    show own_Go _ _ _ _ T256 (mkF m 111 _ [(.int (3 : Int32)), (.ref a)])
    obtain ⟨cq257, q257, q257'⟩ := f248.cell
    obtain ⟨_, _, ⟨T257, L257, k257, n257⟩, -, X257, ⟨Lc257, hQ257, l257, y257, z257⟩, st257⟩ := X256.privateBack hx (y := ym8) hown (mvT hZ (own_w hw 78 rfl)) (mvT hZ (own_w hw 79 rfl)) (own_selp (y := ym8) (mvT hZ (own_w hw 4 rfl)) (Cond.privateMethod_at (mvP hZ (own_w hw 80 rfl) (args := #[]))) (mvT hZ (own_w hw 79 rfl)) (by decide)) (Cond.privateMethod_at (mvP hZ (own_w hw 80 rfl) (args := #[]))) (mvT hZ (own_w hw 81 rfl)) (by decide) (backOf (W := 0) (rm20 l Z a0 hw [] a na kn (own_set (own_set (own_set (own_set gn (4 : Int32).toNatClampNeg (ge 0) ((xc * (go 0)) + (ge 0)) (ge 0) ((xc * (go 0)) + (ge 0))) (5 : Int32).toNatClampNeg (ge 1) ((xc * (go 1)) + (ge 1)) (ge 1) ((xc * (go 1)) + (ge 1))) (6 : Int32).toNatClampNeg (ge 2) ((xc * (go 2)) + (ge 2)) (ge 2) ((xc * (go 2)) + (ge 2))) (7 : Int32).toNatClampNeg (ge 3) ((xc * (go 3)) + (ge 3)) (ge 3) ((xc * (go 3)) + (ge 3))) (3 : Int32) T246.heap n0 Z253 f248 f249 fq246_0 n1 (by decide) g_na) hZ (own_w hw 81 rfl) (own_w hw 5 rfl) (by decide) (by decide)) (g := (mkF m 111 #[sR a, sI (4 : Int32), sJ xc, .second, sR oa, sR ea, sI (3 : Int32), sJ ((xc * (go 3)) + (ge 3)), .second] [(.int (3 : Int32)), (.ref a)])) rfl (by rw [hml]; rfl) (Steps.refl _) (a := a) (by rw [e256]; exact q257) q257' (argsL := [(.int (3 : Int32))]) (rest := []) (lenOf own_pd__I_V rfl) rfl (by show 2 * 0 + _ ≤ _; exact Nat.le_of_eq rfl) (hb hby d13_111) (fun _ _ => ⟨rfl, e256, (by decide : 0 + 0 ≤ _), (by decide : 0 + 0 ≤ _)⟩)
    dsimp only [Pt.U, Pt.locs, Pt.cells, Pt.slots] at X257 l257 y257 z257 st257 hQ257
    subst l257 y257 z257
    obtain ⟨rfl, NQ257, K257, fq257_0⟩ := hQ257
    have N258 := Fr.app N247 NQ257
    refine own_st (fun t k => st257.trans k) ?_
    have f259 := f248.keep K257
    have f260 := f249.keep K257 (ninS (Ne.symm n1) nin0)
    have f261 := f250.keep K257 (ninS n2 nin0)
    have f262 := f251.keep K257 (ninS n3 nin0)
    have f263 := f252.keep K257 (ninS (Ne.symm n1) nin0)
    have Z264 : n0 ≤ T257.heap.size := Nat.le_trans Z253 K257.1
    have K265 : Keep h0 T257.heap [na, a] := K254.trans K257 (allS (Or.inl (List.mem_of_getElem? (i := 0) rfl)) all0)
    show own_Go _ _ _ _ T257 (mkF m 114 _ [])
    refine own_st (fun t k => XS.iinc X257.here hx rfl (hb hby d13_114) rfl (l' := #[sR a, sI (4 : Int32), sJ xc, .second, sR oa, sR ea, sI (2 : Int32), sJ ((xc * (go 3)) + (ge 3)), .second]) rfl k) ?_
    show own_Go _ _ _ _ T257 (mkF m 117 #[sR a, sI (4 : Int32), sJ xc, .second, sR oa, sR ea, sI (2 : Int32), sJ ((xc * (go 3)) + (ge 3)), .second] [])
    show own_Go _ _ _ _ T257 (mkF m 117 _ [])
    refine own_st (fun t k => XS.goto X257.here hx rfl (pc0 := 117) (pc' := 102) rfl (hb hby d13_117) (by decide) (by decide) k) ?_
    show own_Go _ _ _ _ T257 (mkF m 102 _ [])
    refine own_st (fun t k => XS.iload X257.here hx rfl (hb hby d13_102) rfl k) ?_
    show own_Go _ _ _ _ T257 (mkF m 104 _ [(.int (2 : Int32))])
    refine own_st (fun t k => XS.iconst X257.here hx rfl (hb hby d13_104) k) ?_
    show own_Go _ _ _ _ T257 (mkF m 105 _ [(.int (1 : Int32)), (.int (2 : Int32))])
    refine own_st (fun t k => XS.icmpNo X257.here hx rfl (hb hby d13_105) rfl (flt (by decide : ¬ ((2 : Int32) < (1 : Int32)))).1 k) ?_
    show own_Go _ _ _ _ T257 (mkF m 108 _ [])
    refine own_st (fun t k => XS.aloadN X257.here hx rfl (hb hby d13_108) rfl rfl k) ?_
    show own_Go _ _ _ _ T257 (mkF m 109 _ [(.ref a)])
    refine own_st (fun t k => XS.iload X257.here hx rfl (hb hby d13_109) rfl k) ?_
    show own_Go _ _ _ _ T257 (mkF m 111 _ [(.int (2 : Int32)), (.ref a)])
    obtain ⟨cq266, q266, q266'⟩ := f259.cell
    obtain ⟨_, _, ⟨T266, L266, k266, n266⟩, -, X266, ⟨Lc266, hQ266, l266, y266, z266⟩, st266⟩ := X257.privateBack hx (y := ym8) hown (mvT hZ (own_w hw 78 rfl)) (mvT hZ (own_w hw 79 rfl)) (own_selp (y := ym8) (mvT hZ (own_w hw 4 rfl)) (Cond.privateMethod_at (mvP hZ (own_w hw 80 rfl) (args := #[]))) (mvT hZ (own_w hw 79 rfl)) (by decide)) (Cond.privateMethod_at (mvP hZ (own_w hw 80 rfl) (args := #[]))) (mvT hZ (own_w hw 81 rfl)) (by decide) (backOf (W := 0) (rm20 l Z a0 hw [] a na kn (own_comb (own_set (own_set (own_set (own_set gn (4 : Int32).toNatClampNeg (ge 0) ((xc * (go 0)) + (ge 0)) (ge 0) ((xc * (go 0)) + (ge 0))) (5 : Int32).toNatClampNeg (ge 1) ((xc * (go 1)) + (ge 1)) (ge 1) ((xc * (go 1)) + (ge 1))) (6 : Int32).toNatClampNeg (ge 2) ((xc * (go 2)) + (ge 2)) (ge 2) ((xc * (go 2)) + (ge 2))) (7 : Int32).toNatClampNeg (ge 3) ((xc * (go 3)) + (ge 3)) (ge 3) ((xc * (go 3)) + (ge 3))) (3 : Int32).toNatClampNeg) (2 : Int32) T257.heap n0 Z264 f259 f260 fq257_0 n1 (by decide) g_na) hZ (own_w hw 81 rfl) (own_w hw 5 rfl) (by decide) (by decide)) (g := (mkF m 111 #[sR a, sI (4 : Int32), sJ xc, .second, sR oa, sR ea, sI (2 : Int32), sJ ((xc * (go 3)) + (ge 3)), .second] [(.int (2 : Int32)), (.ref a)])) rfl (by rw [hml]; rfl) (Steps.refl _) (a := a) (by exact q266) q266' (argsL := [(.int (2 : Int32))]) (rest := []) (lenOf own_pd__I_V rfl) rfl (by show 2 * 0 + _ ≤ _; exact Nat.le_of_eq rfl) (hb hby d13_111) (fun _ _ => ⟨rfl, rfl, (by decide : 0 + 0 ≤ _), (by decide : 0 + 0 ≤ _)⟩)
    dsimp only [Pt.U, Pt.locs, Pt.cells, Pt.slots] at X266 l266 y266 z266 st266 hQ266
    subst l266 y266 z266
    obtain ⟨rfl, NQ266, K266, fq266_0⟩ := hQ266
    have N267 := Fr.app N258 NQ266
    refine own_st (fun t k => st266.trans k) ?_
    have f268 := f259.keep K266
    have f269 := f260.keep K266 (ninS (Ne.symm n1) nin0)
    have f270 := f261.keep K266 (ninS n2 nin0)
    have f271 := f262.keep K266 (ninS n3 nin0)
    have f272 := f263.keep K266 (ninS (Ne.symm n1) nin0)
    have Z273 : n0 ≤ T266.heap.size := Nat.le_trans Z264 K266.1
    have K274 : Keep h0 T266.heap [na, a] := K265.trans K266 (allS (Or.inl (List.mem_of_getElem? (i := 0) rfl)) all0)
    show own_Go _ _ _ _ T266 (mkF m 114 _ [])
    refine own_st (fun t k => XS.iinc X266.here hx rfl (hb hby d13_114) rfl (l' := #[sR a, sI (4 : Int32), sJ xc, .second, sR oa, sR ea, sI (1 : Int32), sJ ((xc * (go 3)) + (ge 3)), .second]) rfl k) ?_
    show own_Go _ _ _ _ T266 (mkF m 117 #[sR a, sI (4 : Int32), sJ xc, .second, sR oa, sR ea, sI (1 : Int32), sJ ((xc * (go 3)) + (ge 3)), .second] [])
    show own_Go _ _ _ _ T266 (mkF m 117 _ [])
    refine own_st (fun t k => XS.goto X266.here hx rfl (pc0 := 117) (pc' := 102) rfl (hb hby d13_117) (by decide) (by decide) k) ?_
    show own_Go _ _ _ _ T266 (mkF m 102 _ [])
    refine own_st (fun t k => XS.iload X266.here hx rfl (hb hby d13_102) rfl k) ?_
    show own_Go _ _ _ _ T266 (mkF m 104 _ [(.int (1 : Int32))])
    refine own_st (fun t k => XS.iconst X266.here hx rfl (hb hby d13_104) k) ?_
    show own_Go _ _ _ _ T266 (mkF m 105 _ [(.int (1 : Int32)), (.int (1 : Int32))])
    refine own_st (fun t k => XS.icmpNo X266.here hx rfl (hb hby d13_105) rfl (flt (by decide : ¬ ((1 : Int32) < (1 : Int32)))).1 k) ?_
    show own_Go _ _ _ _ T266 (mkF m 108 _ [])
    refine own_st (fun t k => XS.aloadN X266.here hx rfl (hb hby d13_108) rfl rfl k) ?_
    show own_Go _ _ _ _ T266 (mkF m 109 _ [(.ref a)])
    refine own_st (fun t k => XS.iload X266.here hx rfl (hb hby d13_109) rfl k) ?_
    show own_Go _ _ _ _ T266 (mkF m 111 _ [(.int (1 : Int32)), (.ref a)])
    obtain ⟨cq275, q275, q275'⟩ := f268.cell
    obtain ⟨_, _, ⟨T275, L275, k275, n275⟩, -, X275, ⟨Lc275, hQ275, l275, y275, z275⟩, st275⟩ := X266.privateBack hx (y := ym8) hown (mvT hZ (own_w hw 78 rfl)) (mvT hZ (own_w hw 79 rfl)) (own_selp (y := ym8) (mvT hZ (own_w hw 4 rfl)) (Cond.privateMethod_at (mvP hZ (own_w hw 80 rfl) (args := #[]))) (mvT hZ (own_w hw 79 rfl)) (by decide)) (Cond.privateMethod_at (mvP hZ (own_w hw 80 rfl) (args := #[]))) (mvT hZ (own_w hw 81 rfl)) (by decide) (backOf (W := 0) (rm20 l Z a0 hw [] a na kn (own_comb (own_comb (own_set (own_set (own_set (own_set gn (4 : Int32).toNatClampNeg (ge 0) ((xc * (go 0)) + (ge 0)) (ge 0) ((xc * (go 0)) + (ge 0))) (5 : Int32).toNatClampNeg (ge 1) ((xc * (go 1)) + (ge 1)) (ge 1) ((xc * (go 1)) + (ge 1))) (6 : Int32).toNatClampNeg (ge 2) ((xc * (go 2)) + (ge 2)) (ge 2) ((xc * (go 2)) + (ge 2))) (7 : Int32).toNatClampNeg (ge 3) ((xc * (go 3)) + (ge 3)) (ge 3) ((xc * (go 3)) + (ge 3))) (3 : Int32).toNatClampNeg) (2 : Int32).toNatClampNeg) (1 : Int32) T266.heap n0 Z273 f268 f269 fq266_0 n1 (by decide) g_na) hZ (own_w hw 81 rfl) (own_w hw 5 rfl) (by decide) (by decide)) (g := (mkF m 111 #[sR a, sI (4 : Int32), sJ xc, .second, sR oa, sR ea, sI (1 : Int32), sJ ((xc * (go 3)) + (ge 3)), .second] [(.int (1 : Int32)), (.ref a)])) rfl (by rw [hml]; rfl) (Steps.refl _) (a := a) (by exact q275) q275' (argsL := [(.int (1 : Int32))]) (rest := []) (lenOf own_pd__I_V rfl) rfl (by show 2 * 0 + _ ≤ _; exact Nat.le_of_eq rfl) (hb hby d13_111) (fun _ _ => ⟨rfl, rfl, (by decide : 0 + 0 ≤ _), (by decide : 0 + 0 ≤ _)⟩)
    dsimp only [Pt.U, Pt.locs, Pt.cells, Pt.slots] at X275 l275 y275 z275 st275 hQ275
    subst l275 y275 z275
    obtain ⟨rfl, NQ275, K275, fq275_0⟩ := hQ275
    have N276 := Fr.app N267 NQ275
    refine own_st (fun t k => st275.trans k) ?_
    have f277 := f268.keep K275
    have f278 := f269.keep K275 (ninS (Ne.symm n1) nin0)
    have f279 := f270.keep K275 (ninS n2 nin0)
    have f280 := f271.keep K275 (ninS n3 nin0)
    have f281 := f272.keep K275 (ninS (Ne.symm n1) nin0)
    have Z282 : n0 ≤ T275.heap.size := Nat.le_trans Z273 K275.1
    have K283 : Keep h0 T275.heap [na, a] := K274.trans K275 (allS (Or.inl (List.mem_of_getElem? (i := 0) rfl)) all0)
    show own_Go _ _ _ _ T275 (mkF m 114 _ [])
    refine own_st (fun t k => XS.iinc X275.here hx rfl (hb hby d13_114) rfl (l' := #[sR a, sI (4 : Int32), sJ xc, .second, sR oa, sR ea, sI (0 : Int32), sJ ((xc * (go 3)) + (ge 3)), .second]) rfl k) ?_
    show own_Go _ _ _ _ T275 (mkF m 117 #[sR a, sI (4 : Int32), sJ xc, .second, sR oa, sR ea, sI (0 : Int32), sJ ((xc * (go 3)) + (ge 3)), .second] [])
    show own_Go _ _ _ _ T275 (mkF m 117 _ [])
    refine own_st (fun t k => XS.goto X275.here hx rfl (pc0 := 117) (pc' := 102) rfl (hb hby d13_117) (by decide) (by decide) k) ?_
    show own_Go _ _ _ _ T275 (mkF m 102 _ [])
    refine own_st (fun t k => XS.iload X275.here hx rfl (hb hby d13_102) rfl k) ?_
    show own_Go _ _ _ _ T275 (mkF m 104 _ [(.int (0 : Int32))])
    refine own_st (fun t k => XS.iconst X275.here hx rfl (hb hby d13_104) k) ?_
    show own_Go _ _ _ _ T275 (mkF m 105 _ [(.int (1 : Int32)), (.int (0 : Int32))])
    refine own_st (fun t k => XS.icmpYes X275.here hx rfl (pc0 := 105) (pc' := 120) rfl (hb hby d13_105) rfl (tlt (by decide : ((0 : Int32) < (1 : Int32)))).1 (by decide) (by decide) k) ?_
    show own_Go _ _ _ _ T275 (mkF m 120 _ [])
    subst hPq
    refine own_out X275 (v := none) (fun _ => rfl) Bd.notSynchronized (fun fs hr => X275.returnOut hx Bd.returns (hb hby d13_120) hr) (by decide) (by decide) ?_
    show Q25 Z a (4 : Int32) xc oa ea na kn gn ko go ke ge l0 h0 n0 _ T275.heap _
    have eg284 : (own_comb (own_comb (own_comb (own_set (own_set (own_set (own_set gn (4 : Int32).toNatClampNeg (ge 0) ((xc * (go 0)) + (ge 0)) (ge 0) ((xc * (go 0)) + (ge 0))) (5 : Int32).toNatClampNeg (ge 1) ((xc * (go 1)) + (ge 1)) (ge 1) ((xc * (go 1)) + (ge 1))) (6 : Int32).toNatClampNeg (ge 2) ((xc * (go 2)) + (ge 2)) (ge 2) ((xc * (go 2)) + (ge 2))) (7 : Int32).toNatClampNeg (ge 3) ((xc * (go 3)) + (ge 3)) (ge 3) ((xc * (go 3)) + (ge 3))) (3 : Int32).toNatClampNeg) (2 : Int32).toNatClampNeg) (1 : Int32).toNatClampNeg) = own_fill4 gn xc go ge := by simp only [own_lit0, own_lit1, own_lit2, own_lit3, own_lit4, own_lit5, own_lit6, own_lit7]; rfl
    have fz284 := fq275_0
    rw [eg284] at fz284
    exact ⟨rfl, N276, K283, f277, f278, f281, fz284⟩
def own_mem0 (x2 : Int32) (gs : Nat → Int32) : Int32 := (if (gs 0) = (0 : Int32) then (1 : Int32) else (if (gs 0) = (3 : Int32) then (1 : Int32) else (if (0 : Int32) = x2 then (1 : Int32) else (0 : Int32))))
theorem own_mem0_b (x2 : Int32) (gs : Nat → Int32) : (own_mem0 x2 gs) = 0 ∨ (own_mem0 x2 gs) = 1 := by
  unfold own_mem0
  (repeat' split) <;> first | exact Or.inl rfl | exact Or.inr rfl
theorem d14_0 : decode qc14 0 = .ok (.aload_n 0, 1) := by decide +kernel
theorem d14_1 : decode qc14 1 = .ok (.iload_n 1, 1) := by decide +kernel
theorem d14_2 : decode qc14 2 = .ok (.iaload, 1) := by decide +kernel
theorem d14_3 : decode qc14 3 = .ok (.ifCond .eq 15, 3) := by decide +kernel
theorem d14_6 : decode qc14 6 = .ok (.aload_n 0, 1) := by decide +kernel
theorem d14_7 : decode qc14 7 = .ok (.iload_n 1, 1) := by decide +kernel
theorem d14_8 : decode qc14 8 = .ok (.iaload, 1) := by decide +kernel
theorem d14_9 : decode qc14 9 = .ok (.iconst 3, 1) := by decide +kernel
theorem d14_10 : decode qc14 10 = .ok (.if_icmp .eq 8, 3) := by decide +kernel
theorem d14_13 : decode qc14 13 = .ok (.iload_n 1, 1) := by decide +kernel
theorem d14_14 : decode qc14 14 = .ok (.iload_n 2, 1) := by decide +kernel
theorem d14_15 : decode qc14 15 = .ok (.if_icmp .ne 7, 3) := by decide +kernel
theorem d14_18 : decode qc14 18 = .ok (.iconst 1, 1) := by decide +kernel
theorem d14_19 : decode qc14 19 = .ok (.goto 4, 3) := by decide +kernel
theorem d14_22 : decode qc14 22 = .ok (.iconst 0, 1) := by decide +kernel
theorem d14_23 : decode qc14 23 = .ok (.ireturn, 1) := by decide +kernel
theorem own_pn26 : plainName "com/example/tidemark/tidemark/core/ThetaLambdaTreeResponsibleGrayPinLaw" = true := by first | (simp [plainName, overriddenIn]; done) | decide +kernel
theorem own_ef26 (m : MethodId) (sa : Addr) (x2 : Int32) : entryFrame m #[(.ref sa), (.int (0 : Int32)), (.int x2)] 3 = mkF m 0 #[sR sa, sI (0 : Int32), sI x2] [] := by first | (simp [entryFrame, mkF, argsToLocals, Value.category]; done) | rfl
def Q26 (Z : State) (sa : Addr) (x2 : Int32) (ks : ClassId) (gs : Nat → Int32) (h0 : Heap) (n0 : Nat) (v : Option Value) (h : Heap) (L : List Loc) : Prop := v = some (.int (own_mem0 x2 gs)) ∧ Fr n0 L ∧ h = h0
set_option maxRecDepth 65536 in
set_option maxHeartbeats 4000000 in
theorem rm26 (l : Launch) (Z : State) (a0 : Array Value) (hw : ∀ d ∈ tables_1, d.before a0 Z = true) (ws : List Jvm.Cond) (sa : Addr) (x2 : Int32) (ks : ClassId) (gs : Nat → Int32) (h0 : Heap) (n0 : Nat) (Z0 : n0 ≤ h0.size) (F0 : own_AI Z h0 sa ks (4 : Int32) gs) :
    MetFree l ym14 (head1 (Jvm.Cond.code ym14 method_5_code 3 (some .boolean) :: ws) (⟨0, 0, 0, 0⟩ : Room)) (fun aW U => aW = #[(.ref sa), (.int (0 : Int32)), (.int x2)] ∧ Z.Warmed39 U.vm ∧ U.heap = h0) (fun _ _ _ _ _ => True) (fun _ U o U' => ∃ v L, o = .returned v ∧ Q26 Z sa x2 ks gs h0 n0 v U'.heap L ∧ FrameEnd U o U' L (⟨0, 0, 0, 0⟩ : Room).cells (⟨0, 0, 0, 0⟩ : Room).slots) := by
  refine MetFree.of_bodySF (plainFor_of_name own_pn26) hisR ?_
  intro p e s m args below meth c s₁ Bd hml0 hP hK
  obtain ⟨rfl, hZ, hh⟩ := hP
  have hx := Bd.exec
  have hby := Bd.bytes
  have hml : c.maxLocals = 3 := hml0
  have hown : s.vm.findClass "com/example/tidemark/tidemark/core/ThetaLambdaTreeResponsibleGrayPinLaw" = some m.cls := findClass_of_methodNamed Bd.named
  have hnm := (name_of_methodNamed Bd.named Bd.method).1
  have X0 : Stand p l e (⟨0, 0, 0, 0⟩ : Room) s m #[(.ref sa), (.int (0 : Int32)), (.int x2)] below meth c s₁ [] 0 0 := Stand.of_body Bd
  have e0 : s₁.heap = h0 := by rw [← hh, Bd.state]; rfl
  have N0 := Fr.nil n0
  obtain ⟨Pq, hPq⟩ : ∃ P, P = own_P s below (fun v h L => Q26 Z sa x2 ks gs h0 n0 v h L) (⟨0, 0, 0, 0⟩ : Room).cells (⟨0, 0, 0, 0⟩ : Room).slots := ⟨_, rfl⟩
  suffices hgo : own_Go p.tables e below Pq s₁ (mkF m 0 #[sR sa, sI (0 : Int32), sI x2] []) by
    subst hPq
    obtain ⟨t, k1, k2, o, k3, k4⟩ := hgo
    exact ⟨t, o, castTop (own_ef26 m sa x2) k1, k2, k3, k4⟩
  show own_Go _ _ _ _ s₁ (mkF m 0 #[sR sa, sI (0 : Int32), sI x2] [])
  refine own_st (fun t k => XS.aloadN X0.here hx rfl (hb hby d14_0) rfl rfl k) ?_
  show own_Go _ _ _ _ s₁ (mkF m 1 _ [(.ref sa)])
  refine own_st (fun t k => XS.iloadN X0.here hx rfl (hb hby d14_1) rfl k) ?_
  show own_Go _ _ _ _ s₁ (mkF m 2 _ [(.int (0 : Int32)), (.ref sa)])
  obtain ⟨c1, Ar1, q1, S1, N1, H1⟩ := id F0
  refine own_st (fun t k => X0.iaload hx (j := (0 : Int32)) (v := (.int (gs 0))) (by rw [e0]; exact Ar1.1) (State.isArrayOf_alike hZ.alike Ar1.2.1) Ar1.2.2 (inb_of S1 ⟨by decide, by decide⟩) (H1 _ (own_lt (inb_of S1 ⟨by decide, by decide⟩))) (g := (mkF m 2 #[sR sa, sI (0 : Int32), sI x2] [(.int (0 : Int32)), (.ref sa)])) rfl rfl (hb hby d14_2) _ k) ?_
  show own_Go _ _ _ _ s₁ (mkF m 3 _ [(.int (gs 0))])
  have J10 : ∀ (Tj10 : State) (Lj10 : List Loc) (p11 : Int32), Stand p l e (⟨0, 0, 0, 0⟩ : Room) s m #[(.ref sa), (.int (0 : Int32)), (.int x2)] below meth c Tj10 Lj10 0 0 → Tj10.heap = h0 → Fr n0 Lj10 → p11 = (if (gs 0) = (0 : Int32) then (1 : Int32) else (if (gs 0) = (3 : Int32) then (1 : Int32) else (if (0 : Int32) = x2 then (1 : Int32) else (0 : Int32)))) → own_Go p.tables e below Pq Tj10 (mkF m 23 #[sR sa, sI (0 : Int32), sI x2] [(.int p11)]) := by
    intro Tj10 Lj10 p11 Xj10 ej10 Nj10 qp11
    show own_Go _ _ _ _ Tj10 (mkF m 23 _ [(.int p11)])
    have hb_p11 : p11 = 0 ∨ p11 = 1 := by rw [qp11]; (repeat' split) <;> first | exact Or.inl rfl | exact Or.inr rfl | assumption
    subst hPq
    refine own_out Xj10 (v := some (.int p11)) (fun h => by rw [Bd.returns] at h; cases h) Bd.notSynchronized (own_retZ Xj10 hx Bd.returns (hb hby d14_23) hb_p11) (by decide) (by decide) ?_
    show Q26 Z sa x2 ks gs h0 n0 _ Tj10.heap _
    rw [ej10]
    exact ⟨by subst_vars; rfl, Nj10, rfl⟩
  by_cases c2 : (gs 0) = (0 : Int32)
  · skip
    refine own_st (fun t k => XS.ifYes X0.here hx rfl (pc0 := 3) (pc' := 18) rfl (hb hby d14_3) rfl ((if0 _ _).trans (teq c2).1) (by decide) (by decide) k) ?_
    show own_Go _ _ _ _ s₁ (mkF m 18 _ [])
    refine own_st (fun t k => XS.iconst X0.here hx rfl (hb hby d14_18) k) ?_
    show own_Go _ _ _ _ s₁ (mkF m 19 _ [(.int (1 : Int32))])
    refine own_st (fun t k => XS.goto X0.here hx rfl (pc0 := 19) (pc' := 23) rfl (hb hby d14_19) (by decide) (by decide) k) ?_
    show own_Go _ _ _ _ s₁ (mkF m 23 _ [(.int (1 : Int32))])
    exact J10 s₁ _ _ X0 e0 N0 (by simp only [if_pos c2])
  · skip
    refine own_st (fun t k => XS.ifNo X0.here hx rfl (hb hby d14_3) rfl ((if0 _ _).trans (feq c2).1) k) ?_
    show own_Go _ _ _ _ s₁ (mkF m 6 _ [])
    refine own_st (fun t k => XS.aloadN X0.here hx rfl (hb hby d14_6) rfl rfl k) ?_
    show own_Go _ _ _ _ s₁ (mkF m 7 _ [(.ref sa)])
    refine own_st (fun t k => XS.iloadN X0.here hx rfl (hb hby d14_7) rfl k) ?_
    show own_Go _ _ _ _ s₁ (mkF m 8 _ [(.int (0 : Int32)), (.ref sa)])
    obtain ⟨c4, Ar4, q4, S4, N4, H4⟩ := id F0
    refine own_st (fun t k => X0.iaload hx (j := (0 : Int32)) (v := (.int (gs 0))) (by rw [e0]; exact Ar4.1) (State.isArrayOf_alike hZ.alike Ar4.2.1) Ar4.2.2 (inb_of S4 ⟨by decide, by decide⟩) (H4 _ (own_lt (inb_of S4 ⟨by decide, by decide⟩))) (g := (mkF m 8 #[sR sa, sI (0 : Int32), sI x2] [(.int (0 : Int32)), (.ref sa)])) rfl rfl (hb hby d14_8) _ k) ?_
    show own_Go _ _ _ _ s₁ (mkF m 9 _ [(.int (gs 0))])
    refine own_st (fun t k => XS.iconst X0.here hx rfl (hb hby d14_9) k) ?_
    show own_Go _ _ _ _ s₁ (mkF m 10 _ [(.int (3 : Int32)), (.int (gs 0))])
    by_cases c5 : (gs 0) = (3 : Int32)
    · skip
      refine own_st (fun t k => XS.icmpYes X0.here hx rfl (pc0 := 10) (pc' := 18) rfl (hb hby d14_10) rfl (teq c5).1 (by decide) (by decide) k) ?_
      show own_Go _ _ _ _ s₁ (mkF m 18 _ [])
      refine own_st (fun t k => XS.iconst X0.here hx rfl (hb hby d14_18) k) ?_
      show own_Go _ _ _ _ s₁ (mkF m 19 _ [(.int (1 : Int32))])
      refine own_st (fun t k => XS.goto X0.here hx rfl (pc0 := 19) (pc' := 23) rfl (hb hby d14_19) (by decide) (by decide) k) ?_
      show own_Go _ _ _ _ s₁ (mkF m 23 _ [(.int (1 : Int32))])
      exact J10 s₁ _ _ X0 e0 N0 (by simp only [if_neg c2, if_pos c5])
    · skip
      refine own_st (fun t k => XS.icmpNo X0.here hx rfl (hb hby d14_10) rfl (feq c5).1 k) ?_
      show own_Go _ _ _ _ s₁ (mkF m 13 _ [])
      refine own_st (fun t k => XS.iloadN X0.here hx rfl (hb hby d14_13) rfl k) ?_
      show own_Go _ _ _ _ s₁ (mkF m 14 _ [(.int (0 : Int32))])
      refine own_st (fun t k => XS.iloadN X0.here hx rfl (hb hby d14_14) rfl k) ?_
      show own_Go _ _ _ _ s₁ (mkF m 15 _ [(.int x2), (.int (0 : Int32))])
      by_cases c7 : (0 : Int32) = x2
      · skip
        refine own_st (fun t k => XS.icmpNo X0.here hx rfl (hb hby d14_15) rfl (teq c7).2 k) ?_
        show own_Go _ _ _ _ s₁ (mkF m 18 _ [])
        refine own_st (fun t k => XS.iconst X0.here hx rfl (hb hby d14_18) k) ?_
        show own_Go _ _ _ _ s₁ (mkF m 19 _ [(.int (1 : Int32))])
        refine own_st (fun t k => XS.goto X0.here hx rfl (pc0 := 19) (pc' := 23) rfl (hb hby d14_19) (by decide) (by decide) k) ?_
        show own_Go _ _ _ _ s₁ (mkF m 23 _ [(.int (1 : Int32))])
        exact J10 s₁ _ _ X0 e0 N0 (by simp only [if_neg c2, if_neg c5, if_pos c7])
      · skip
        refine own_st (fun t k => XS.icmpYes X0.here hx rfl (pc0 := 15) (pc' := 22) rfl (hb hby d14_15) rfl (feq c7).2 (by decide) (by decide) k) ?_
        show own_Go _ _ _ _ s₁ (mkF m 22 _ [])
        refine own_st (fun t k => XS.iconst X0.here hx rfl (hb hby d14_22) k) ?_
        show own_Go _ _ _ _ s₁ (mkF m 23 _ [(.int (0 : Int32))])
        exact J10 s₁ _ _ X0 e0 N0 (by simp only [if_neg c2, if_neg c5, if_neg c7])
def own_mem1 (x2 : Int32) (gs : Nat → Int32) : Int32 := (if (gs 1) = (0 : Int32) then (1 : Int32) else (if (gs 1) = (3 : Int32) then (1 : Int32) else (if (1 : Int32) = x2 then (1 : Int32) else (0 : Int32))))
theorem own_mem1_b (x2 : Int32) (gs : Nat → Int32) : (own_mem1 x2 gs) = 0 ∨ (own_mem1 x2 gs) = 1 := by
  unfold own_mem1
  (repeat' split) <;> first | exact Or.inl rfl | exact Or.inr rfl
theorem own_pn27 : plainName "com/example/tidemark/tidemark/core/ThetaLambdaTreeResponsibleGrayPinLaw" = true := by first | (simp [plainName, overriddenIn]; done) | decide +kernel
theorem own_ef27 (m : MethodId) (sa : Addr) (x2 : Int32) : entryFrame m #[(.ref sa), (.int (1 : Int32)), (.int x2)] 3 = mkF m 0 #[sR sa, sI (1 : Int32), sI x2] [] := by first | (simp [entryFrame, mkF, argsToLocals, Value.category]; done) | rfl
def Q27 (Z : State) (sa : Addr) (x2 : Int32) (ks : ClassId) (gs : Nat → Int32) (h0 : Heap) (n0 : Nat) (v : Option Value) (h : Heap) (L : List Loc) : Prop := v = some (.int (own_mem1 x2 gs)) ∧ Fr n0 L ∧ h = h0
set_option maxRecDepth 65536 in
set_option maxHeartbeats 4000000 in
theorem rm27 (l : Launch) (Z : State) (a0 : Array Value) (hw : ∀ d ∈ tables_1, d.before a0 Z = true) (ws : List Jvm.Cond) (sa : Addr) (x2 : Int32) (ks : ClassId) (gs : Nat → Int32) (h0 : Heap) (n0 : Nat) (Z0 : n0 ≤ h0.size) (F0 : own_AI Z h0 sa ks (4 : Int32) gs) :
    MetFree l ym14 (head1 (Jvm.Cond.code ym14 method_5_code 3 (some .boolean) :: ws) (⟨0, 0, 0, 0⟩ : Room)) (fun aW U => aW = #[(.ref sa), (.int (1 : Int32)), (.int x2)] ∧ Z.Warmed39 U.vm ∧ U.heap = h0) (fun _ _ _ _ _ => True) (fun _ U o U' => ∃ v L, o = .returned v ∧ Q27 Z sa x2 ks gs h0 n0 v U'.heap L ∧ FrameEnd U o U' L (⟨0, 0, 0, 0⟩ : Room).cells (⟨0, 0, 0, 0⟩ : Room).slots) := by
  refine MetFree.of_bodySF (plainFor_of_name own_pn27) hisR ?_
  intro p e s m args below meth c s₁ Bd hml0 hP hK
  obtain ⟨rfl, hZ, hh⟩ := hP
  have hx := Bd.exec
  have hby := Bd.bytes
  have hml : c.maxLocals = 3 := hml0
  have hown : s.vm.findClass "com/example/tidemark/tidemark/core/ThetaLambdaTreeResponsibleGrayPinLaw" = some m.cls := findClass_of_methodNamed Bd.named
  have hnm := (name_of_methodNamed Bd.named Bd.method).1
  have X0 : Stand p l e (⟨0, 0, 0, 0⟩ : Room) s m #[(.ref sa), (.int (1 : Int32)), (.int x2)] below meth c s₁ [] 0 0 := Stand.of_body Bd
  have e0 : s₁.heap = h0 := by rw [← hh, Bd.state]; rfl
  have N0 := Fr.nil n0
  obtain ⟨Pq, hPq⟩ : ∃ P, P = own_P s below (fun v h L => Q27 Z sa x2 ks gs h0 n0 v h L) (⟨0, 0, 0, 0⟩ : Room).cells (⟨0, 0, 0, 0⟩ : Room).slots := ⟨_, rfl⟩
  suffices hgo : own_Go p.tables e below Pq s₁ (mkF m 0 #[sR sa, sI (1 : Int32), sI x2] []) by
    subst hPq
    obtain ⟨t, k1, k2, o, k3, k4⟩ := hgo
    exact ⟨t, o, castTop (own_ef27 m sa x2) k1, k2, k3, k4⟩
  show own_Go _ _ _ _ s₁ (mkF m 0 #[sR sa, sI (1 : Int32), sI x2] [])
  refine own_st (fun t k => XS.aloadN X0.here hx rfl (hb hby d14_0) rfl rfl k) ?_
  show own_Go _ _ _ _ s₁ (mkF m 1 _ [(.ref sa)])
  refine own_st (fun t k => XS.iloadN X0.here hx rfl (hb hby d14_1) rfl k) ?_
  show own_Go _ _ _ _ s₁ (mkF m 2 _ [(.int (1 : Int32)), (.ref sa)])
  obtain ⟨c1, Ar1, q1, S1, N1, H1⟩ := id F0
  refine own_st (fun t k => X0.iaload hx (j := (1 : Int32)) (v := (.int (gs 1))) (by rw [e0]; exact Ar1.1) (State.isArrayOf_alike hZ.alike Ar1.2.1) Ar1.2.2 (inb_of S1 ⟨by decide, by decide⟩) (H1 _ (own_lt (inb_of S1 ⟨by decide, by decide⟩))) (g := (mkF m 2 #[sR sa, sI (1 : Int32), sI x2] [(.int (1 : Int32)), (.ref sa)])) rfl rfl (hb hby d14_2) _ k) ?_
  show own_Go _ _ _ _ s₁ (mkF m 3 _ [(.int (gs 1))])
  have J10 : ∀ (Tj10 : State) (Lj10 : List Loc) (p11 : Int32), Stand p l e (⟨0, 0, 0, 0⟩ : Room) s m #[(.ref sa), (.int (1 : Int32)), (.int x2)] below meth c Tj10 Lj10 0 0 → Tj10.heap = h0 → Fr n0 Lj10 → p11 = (if (gs 1) = (0 : Int32) then (1 : Int32) else (if (gs 1) = (3 : Int32) then (1 : Int32) else (if (1 : Int32) = x2 then (1 : Int32) else (0 : Int32)))) → own_Go p.tables e below Pq Tj10 (mkF m 23 #[sR sa, sI (1 : Int32), sI x2] [(.int p11)]) := by
    intro Tj10 Lj10 p11 Xj10 ej10 Nj10 qp11
    show own_Go _ _ _ _ Tj10 (mkF m 23 _ [(.int p11)])
    have hb_p11 : p11 = 0 ∨ p11 = 1 := by rw [qp11]; (repeat' split) <;> first | exact Or.inl rfl | exact Or.inr rfl | assumption
    subst hPq
    refine own_out Xj10 (v := some (.int p11)) (fun h => by rw [Bd.returns] at h; cases h) Bd.notSynchronized (own_retZ Xj10 hx Bd.returns (hb hby d14_23) hb_p11) (by decide) (by decide) ?_
    show Q27 Z sa x2 ks gs h0 n0 _ Tj10.heap _
    rw [ej10]
    exact ⟨by subst_vars; rfl, Nj10, rfl⟩
  by_cases c2 : (gs 1) = (0 : Int32)
  · skip
    refine own_st (fun t k => XS.ifYes X0.here hx rfl (pc0 := 3) (pc' := 18) rfl (hb hby d14_3) rfl ((if0 _ _).trans (teq c2).1) (by decide) (by decide) k) ?_
    show own_Go _ _ _ _ s₁ (mkF m 18 _ [])
    refine own_st (fun t k => XS.iconst X0.here hx rfl (hb hby d14_18) k) ?_
    show own_Go _ _ _ _ s₁ (mkF m 19 _ [(.int (1 : Int32))])
    refine own_st (fun t k => XS.goto X0.here hx rfl (pc0 := 19) (pc' := 23) rfl (hb hby d14_19) (by decide) (by decide) k) ?_
    show own_Go _ _ _ _ s₁ (mkF m 23 _ [(.int (1 : Int32))])
    exact J10 s₁ _ _ X0 e0 N0 (by simp only [if_pos c2])
  · skip
    refine own_st (fun t k => XS.ifNo X0.here hx rfl (hb hby d14_3) rfl ((if0 _ _).trans (feq c2).1) k) ?_
    show own_Go _ _ _ _ s₁ (mkF m 6 _ [])
    refine own_st (fun t k => XS.aloadN X0.here hx rfl (hb hby d14_6) rfl rfl k) ?_
    show own_Go _ _ _ _ s₁ (mkF m 7 _ [(.ref sa)])
    refine own_st (fun t k => XS.iloadN X0.here hx rfl (hb hby d14_7) rfl k) ?_
    show own_Go _ _ _ _ s₁ (mkF m 8 _ [(.int (1 : Int32)), (.ref sa)])
    obtain ⟨c4, Ar4, q4, S4, N4, H4⟩ := id F0
    refine own_st (fun t k => X0.iaload hx (j := (1 : Int32)) (v := (.int (gs 1))) (by rw [e0]; exact Ar4.1) (State.isArrayOf_alike hZ.alike Ar4.2.1) Ar4.2.2 (inb_of S4 ⟨by decide, by decide⟩) (H4 _ (own_lt (inb_of S4 ⟨by decide, by decide⟩))) (g := (mkF m 8 #[sR sa, sI (1 : Int32), sI x2] [(.int (1 : Int32)), (.ref sa)])) rfl rfl (hb hby d14_8) _ k) ?_
    show own_Go _ _ _ _ s₁ (mkF m 9 _ [(.int (gs 1))])
    refine own_st (fun t k => XS.iconst X0.here hx rfl (hb hby d14_9) k) ?_
    show own_Go _ _ _ _ s₁ (mkF m 10 _ [(.int (3 : Int32)), (.int (gs 1))])
    by_cases c5 : (gs 1) = (3 : Int32)
    · skip
      refine own_st (fun t k => XS.icmpYes X0.here hx rfl (pc0 := 10) (pc' := 18) rfl (hb hby d14_10) rfl (teq c5).1 (by decide) (by decide) k) ?_
      show own_Go _ _ _ _ s₁ (mkF m 18 _ [])
      refine own_st (fun t k => XS.iconst X0.here hx rfl (hb hby d14_18) k) ?_
      show own_Go _ _ _ _ s₁ (mkF m 19 _ [(.int (1 : Int32))])
      refine own_st (fun t k => XS.goto X0.here hx rfl (pc0 := 19) (pc' := 23) rfl (hb hby d14_19) (by decide) (by decide) k) ?_
      show own_Go _ _ _ _ s₁ (mkF m 23 _ [(.int (1 : Int32))])
      exact J10 s₁ _ _ X0 e0 N0 (by simp only [if_neg c2, if_pos c5])
    · skip
      refine own_st (fun t k => XS.icmpNo X0.here hx rfl (hb hby d14_10) rfl (feq c5).1 k) ?_
      show own_Go _ _ _ _ s₁ (mkF m 13 _ [])
      refine own_st (fun t k => XS.iloadN X0.here hx rfl (hb hby d14_13) rfl k) ?_
      show own_Go _ _ _ _ s₁ (mkF m 14 _ [(.int (1 : Int32))])
      refine own_st (fun t k => XS.iloadN X0.here hx rfl (hb hby d14_14) rfl k) ?_
      show own_Go _ _ _ _ s₁ (mkF m 15 _ [(.int x2), (.int (1 : Int32))])
      by_cases c7 : (1 : Int32) = x2
      · skip
        refine own_st (fun t k => XS.icmpNo X0.here hx rfl (hb hby d14_15) rfl (teq c7).2 k) ?_
        show own_Go _ _ _ _ s₁ (mkF m 18 _ [])
        refine own_st (fun t k => XS.iconst X0.here hx rfl (hb hby d14_18) k) ?_
        show own_Go _ _ _ _ s₁ (mkF m 19 _ [(.int (1 : Int32))])
        refine own_st (fun t k => XS.goto X0.here hx rfl (pc0 := 19) (pc' := 23) rfl (hb hby d14_19) (by decide) (by decide) k) ?_
        show own_Go _ _ _ _ s₁ (mkF m 23 _ [(.int (1 : Int32))])
        exact J10 s₁ _ _ X0 e0 N0 (by simp only [if_neg c2, if_neg c5, if_pos c7])
      · skip
        refine own_st (fun t k => XS.icmpYes X0.here hx rfl (pc0 := 15) (pc' := 22) rfl (hb hby d14_15) rfl (feq c7).2 (by decide) (by decide) k) ?_
        show own_Go _ _ _ _ s₁ (mkF m 22 _ [])
        refine own_st (fun t k => XS.iconst X0.here hx rfl (hb hby d14_22) k) ?_
        show own_Go _ _ _ _ s₁ (mkF m 23 _ [(.int (0 : Int32))])
        exact J10 s₁ _ _ X0 e0 N0 (by simp only [if_neg c2, if_neg c5, if_neg c7])
def own_mem2 (x2 : Int32) (gs : Nat → Int32) : Int32 := (if (gs 2) = (0 : Int32) then (1 : Int32) else (if (gs 2) = (3 : Int32) then (1 : Int32) else (if (2 : Int32) = x2 then (1 : Int32) else (0 : Int32))))
theorem own_mem2_b (x2 : Int32) (gs : Nat → Int32) : (own_mem2 x2 gs) = 0 ∨ (own_mem2 x2 gs) = 1 := by
  unfold own_mem2
  (repeat' split) <;> first | exact Or.inl rfl | exact Or.inr rfl
theorem own_pn28 : plainName "com/example/tidemark/tidemark/core/ThetaLambdaTreeResponsibleGrayPinLaw" = true := by first | (simp [plainName, overriddenIn]; done) | decide +kernel
theorem own_ef28 (m : MethodId) (sa : Addr) (x2 : Int32) : entryFrame m #[(.ref sa), (.int (2 : Int32)), (.int x2)] 3 = mkF m 0 #[sR sa, sI (2 : Int32), sI x2] [] := by first | (simp [entryFrame, mkF, argsToLocals, Value.category]; done) | rfl
def Q28 (Z : State) (sa : Addr) (x2 : Int32) (ks : ClassId) (gs : Nat → Int32) (h0 : Heap) (n0 : Nat) (v : Option Value) (h : Heap) (L : List Loc) : Prop := v = some (.int (own_mem2 x2 gs)) ∧ Fr n0 L ∧ h = h0
set_option maxRecDepth 65536 in
set_option maxHeartbeats 4000000 in
theorem rm28 (l : Launch) (Z : State) (a0 : Array Value) (hw : ∀ d ∈ tables_1, d.before a0 Z = true) (ws : List Jvm.Cond) (sa : Addr) (x2 : Int32) (ks : ClassId) (gs : Nat → Int32) (h0 : Heap) (n0 : Nat) (Z0 : n0 ≤ h0.size) (F0 : own_AI Z h0 sa ks (4 : Int32) gs) :
    MetFree l ym14 (head1 (Jvm.Cond.code ym14 method_5_code 3 (some .boolean) :: ws) (⟨0, 0, 0, 0⟩ : Room)) (fun aW U => aW = #[(.ref sa), (.int (2 : Int32)), (.int x2)] ∧ Z.Warmed39 U.vm ∧ U.heap = h0) (fun _ _ _ _ _ => True) (fun _ U o U' => ∃ v L, o = .returned v ∧ Q28 Z sa x2 ks gs h0 n0 v U'.heap L ∧ FrameEnd U o U' L (⟨0, 0, 0, 0⟩ : Room).cells (⟨0, 0, 0, 0⟩ : Room).slots) := by
  refine MetFree.of_bodySF (plainFor_of_name own_pn28) hisR ?_
  intro p e s m args below meth c s₁ Bd hml0 hP hK
  obtain ⟨rfl, hZ, hh⟩ := hP
  have hx := Bd.exec
  have hby := Bd.bytes
  have hml : c.maxLocals = 3 := hml0
  have hown : s.vm.findClass "com/example/tidemark/tidemark/core/ThetaLambdaTreeResponsibleGrayPinLaw" = some m.cls := findClass_of_methodNamed Bd.named
  have hnm := (name_of_methodNamed Bd.named Bd.method).1
  have X0 : Stand p l e (⟨0, 0, 0, 0⟩ : Room) s m #[(.ref sa), (.int (2 : Int32)), (.int x2)] below meth c s₁ [] 0 0 := Stand.of_body Bd
  have e0 : s₁.heap = h0 := by rw [← hh, Bd.state]; rfl
  have N0 := Fr.nil n0
  obtain ⟨Pq, hPq⟩ : ∃ P, P = own_P s below (fun v h L => Q28 Z sa x2 ks gs h0 n0 v h L) (⟨0, 0, 0, 0⟩ : Room).cells (⟨0, 0, 0, 0⟩ : Room).slots := ⟨_, rfl⟩
  suffices hgo : own_Go p.tables e below Pq s₁ (mkF m 0 #[sR sa, sI (2 : Int32), sI x2] []) by
    subst hPq
    obtain ⟨t, k1, k2, o, k3, k4⟩ := hgo
    exact ⟨t, o, castTop (own_ef28 m sa x2) k1, k2, k3, k4⟩
  show own_Go _ _ _ _ s₁ (mkF m 0 #[sR sa, sI (2 : Int32), sI x2] [])
  refine own_st (fun t k => XS.aloadN X0.here hx rfl (hb hby d14_0) rfl rfl k) ?_
  show own_Go _ _ _ _ s₁ (mkF m 1 _ [(.ref sa)])
  refine own_st (fun t k => XS.iloadN X0.here hx rfl (hb hby d14_1) rfl k) ?_
  show own_Go _ _ _ _ s₁ (mkF m 2 _ [(.int (2 : Int32)), (.ref sa)])
  obtain ⟨c1, Ar1, q1, S1, N1, H1⟩ := id F0
  refine own_st (fun t k => X0.iaload hx (j := (2 : Int32)) (v := (.int (gs 2))) (by rw [e0]; exact Ar1.1) (State.isArrayOf_alike hZ.alike Ar1.2.1) Ar1.2.2 (inb_of S1 ⟨by decide, by decide⟩) (H1 _ (own_lt (inb_of S1 ⟨by decide, by decide⟩))) (g := (mkF m 2 #[sR sa, sI (2 : Int32), sI x2] [(.int (2 : Int32)), (.ref sa)])) rfl rfl (hb hby d14_2) _ k) ?_
  show own_Go _ _ _ _ s₁ (mkF m 3 _ [(.int (gs 2))])
  have J10 : ∀ (Tj10 : State) (Lj10 : List Loc) (p11 : Int32), Stand p l e (⟨0, 0, 0, 0⟩ : Room) s m #[(.ref sa), (.int (2 : Int32)), (.int x2)] below meth c Tj10 Lj10 0 0 → Tj10.heap = h0 → Fr n0 Lj10 → p11 = (if (gs 2) = (0 : Int32) then (1 : Int32) else (if (gs 2) = (3 : Int32) then (1 : Int32) else (if (2 : Int32) = x2 then (1 : Int32) else (0 : Int32)))) → own_Go p.tables e below Pq Tj10 (mkF m 23 #[sR sa, sI (2 : Int32), sI x2] [(.int p11)]) := by
    intro Tj10 Lj10 p11 Xj10 ej10 Nj10 qp11
    show own_Go _ _ _ _ Tj10 (mkF m 23 _ [(.int p11)])
    have hb_p11 : p11 = 0 ∨ p11 = 1 := by rw [qp11]; (repeat' split) <;> first | exact Or.inl rfl | exact Or.inr rfl | assumption
    subst hPq
    refine own_out Xj10 (v := some (.int p11)) (fun h => by rw [Bd.returns] at h; cases h) Bd.notSynchronized (own_retZ Xj10 hx Bd.returns (hb hby d14_23) hb_p11) (by decide) (by decide) ?_
    show Q28 Z sa x2 ks gs h0 n0 _ Tj10.heap _
    rw [ej10]
    exact ⟨by subst_vars; rfl, Nj10, rfl⟩
  by_cases c2 : (gs 2) = (0 : Int32)
  · skip
    refine own_st (fun t k => XS.ifYes X0.here hx rfl (pc0 := 3) (pc' := 18) rfl (hb hby d14_3) rfl ((if0 _ _).trans (teq c2).1) (by decide) (by decide) k) ?_
    show own_Go _ _ _ _ s₁ (mkF m 18 _ [])
    refine own_st (fun t k => XS.iconst X0.here hx rfl (hb hby d14_18) k) ?_
    show own_Go _ _ _ _ s₁ (mkF m 19 _ [(.int (1 : Int32))])
    refine own_st (fun t k => XS.goto X0.here hx rfl (pc0 := 19) (pc' := 23) rfl (hb hby d14_19) (by decide) (by decide) k) ?_
    show own_Go _ _ _ _ s₁ (mkF m 23 _ [(.int (1 : Int32))])
    exact J10 s₁ _ _ X0 e0 N0 (by simp only [if_pos c2])
  · skip
    refine own_st (fun t k => XS.ifNo X0.here hx rfl (hb hby d14_3) rfl ((if0 _ _).trans (feq c2).1) k) ?_
    show own_Go _ _ _ _ s₁ (mkF m 6 _ [])
    refine own_st (fun t k => XS.aloadN X0.here hx rfl (hb hby d14_6) rfl rfl k) ?_
    show own_Go _ _ _ _ s₁ (mkF m 7 _ [(.ref sa)])
    refine own_st (fun t k => XS.iloadN X0.here hx rfl (hb hby d14_7) rfl k) ?_
    show own_Go _ _ _ _ s₁ (mkF m 8 _ [(.int (2 : Int32)), (.ref sa)])
    obtain ⟨c4, Ar4, q4, S4, N4, H4⟩ := id F0
    refine own_st (fun t k => X0.iaload hx (j := (2 : Int32)) (v := (.int (gs 2))) (by rw [e0]; exact Ar4.1) (State.isArrayOf_alike hZ.alike Ar4.2.1) Ar4.2.2 (inb_of S4 ⟨by decide, by decide⟩) (H4 _ (own_lt (inb_of S4 ⟨by decide, by decide⟩))) (g := (mkF m 8 #[sR sa, sI (2 : Int32), sI x2] [(.int (2 : Int32)), (.ref sa)])) rfl rfl (hb hby d14_8) _ k) ?_
    show own_Go _ _ _ _ s₁ (mkF m 9 _ [(.int (gs 2))])
    refine own_st (fun t k => XS.iconst X0.here hx rfl (hb hby d14_9) k) ?_
    show own_Go _ _ _ _ s₁ (mkF m 10 _ [(.int (3 : Int32)), (.int (gs 2))])
    by_cases c5 : (gs 2) = (3 : Int32)
    · skip
      refine own_st (fun t k => XS.icmpYes X0.here hx rfl (pc0 := 10) (pc' := 18) rfl (hb hby d14_10) rfl (teq c5).1 (by decide) (by decide) k) ?_
      show own_Go _ _ _ _ s₁ (mkF m 18 _ [])
      refine own_st (fun t k => XS.iconst X0.here hx rfl (hb hby d14_18) k) ?_
      show own_Go _ _ _ _ s₁ (mkF m 19 _ [(.int (1 : Int32))])
      refine own_st (fun t k => XS.goto X0.here hx rfl (pc0 := 19) (pc' := 23) rfl (hb hby d14_19) (by decide) (by decide) k) ?_
      show own_Go _ _ _ _ s₁ (mkF m 23 _ [(.int (1 : Int32))])
      exact J10 s₁ _ _ X0 e0 N0 (by simp only [if_neg c2, if_pos c5])
    · skip
      refine own_st (fun t k => XS.icmpNo X0.here hx rfl (hb hby d14_10) rfl (feq c5).1 k) ?_
      show own_Go _ _ _ _ s₁ (mkF m 13 _ [])
      refine own_st (fun t k => XS.iloadN X0.here hx rfl (hb hby d14_13) rfl k) ?_
      show own_Go _ _ _ _ s₁ (mkF m 14 _ [(.int (2 : Int32))])
      refine own_st (fun t k => XS.iloadN X0.here hx rfl (hb hby d14_14) rfl k) ?_
      show own_Go _ _ _ _ s₁ (mkF m 15 _ [(.int x2), (.int (2 : Int32))])
      by_cases c7 : (2 : Int32) = x2
      · skip
        refine own_st (fun t k => XS.icmpNo X0.here hx rfl (hb hby d14_15) rfl (teq c7).2 k) ?_
        show own_Go _ _ _ _ s₁ (mkF m 18 _ [])
        refine own_st (fun t k => XS.iconst X0.here hx rfl (hb hby d14_18) k) ?_
        show own_Go _ _ _ _ s₁ (mkF m 19 _ [(.int (1 : Int32))])
        refine own_st (fun t k => XS.goto X0.here hx rfl (pc0 := 19) (pc' := 23) rfl (hb hby d14_19) (by decide) (by decide) k) ?_
        show own_Go _ _ _ _ s₁ (mkF m 23 _ [(.int (1 : Int32))])
        exact J10 s₁ _ _ X0 e0 N0 (by simp only [if_neg c2, if_neg c5, if_pos c7])
      · skip
        refine own_st (fun t k => XS.icmpYes X0.here hx rfl (pc0 := 15) (pc' := 22) rfl (hb hby d14_15) rfl (feq c7).2 (by decide) (by decide) k) ?_
        show own_Go _ _ _ _ s₁ (mkF m 22 _ [])
        refine own_st (fun t k => XS.iconst X0.here hx rfl (hb hby d14_22) k) ?_
        show own_Go _ _ _ _ s₁ (mkF m 23 _ [(.int (0 : Int32))])
        exact J10 s₁ _ _ X0 e0 N0 (by simp only [if_neg c2, if_neg c5, if_neg c7])
def own_mem3 (x2 : Int32) (gs : Nat → Int32) : Int32 := (if (gs 3) = (0 : Int32) then (1 : Int32) else (if (gs 3) = (3 : Int32) then (1 : Int32) else (if (3 : Int32) = x2 then (1 : Int32) else (0 : Int32))))
theorem own_mem3_b (x2 : Int32) (gs : Nat → Int32) : (own_mem3 x2 gs) = 0 ∨ (own_mem3 x2 gs) = 1 := by
  unfold own_mem3
  (repeat' split) <;> first | exact Or.inl rfl | exact Or.inr rfl
theorem own_pn29 : plainName "com/example/tidemark/tidemark/core/ThetaLambdaTreeResponsibleGrayPinLaw" = true := by first | (simp [plainName, overriddenIn]; done) | decide +kernel
theorem own_ef29 (m : MethodId) (sa : Addr) (x2 : Int32) : entryFrame m #[(.ref sa), (.int (3 : Int32)), (.int x2)] 3 = mkF m 0 #[sR sa, sI (3 : Int32), sI x2] [] := by first | (simp [entryFrame, mkF, argsToLocals, Value.category]; done) | rfl
def Q29 (Z : State) (sa : Addr) (x2 : Int32) (ks : ClassId) (gs : Nat → Int32) (h0 : Heap) (n0 : Nat) (v : Option Value) (h : Heap) (L : List Loc) : Prop := v = some (.int (own_mem3 x2 gs)) ∧ Fr n0 L ∧ h = h0
set_option maxRecDepth 65536 in
set_option maxHeartbeats 4000000 in
theorem rm29 (l : Launch) (Z : State) (a0 : Array Value) (hw : ∀ d ∈ tables_1, d.before a0 Z = true) (ws : List Jvm.Cond) (sa : Addr) (x2 : Int32) (ks : ClassId) (gs : Nat → Int32) (h0 : Heap) (n0 : Nat) (Z0 : n0 ≤ h0.size) (F0 : own_AI Z h0 sa ks (4 : Int32) gs) :
    MetFree l ym14 (head1 (Jvm.Cond.code ym14 method_5_code 3 (some .boolean) :: ws) (⟨0, 0, 0, 0⟩ : Room)) (fun aW U => aW = #[(.ref sa), (.int (3 : Int32)), (.int x2)] ∧ Z.Warmed39 U.vm ∧ U.heap = h0) (fun _ _ _ _ _ => True) (fun _ U o U' => ∃ v L, o = .returned v ∧ Q29 Z sa x2 ks gs h0 n0 v U'.heap L ∧ FrameEnd U o U' L (⟨0, 0, 0, 0⟩ : Room).cells (⟨0, 0, 0, 0⟩ : Room).slots) := by
  refine MetFree.of_bodySF (plainFor_of_name own_pn29) hisR ?_
  intro p e s m args below meth c s₁ Bd hml0 hP hK
  obtain ⟨rfl, hZ, hh⟩ := hP
  have hx := Bd.exec
  have hby := Bd.bytes
  have hml : c.maxLocals = 3 := hml0
  have hown : s.vm.findClass "com/example/tidemark/tidemark/core/ThetaLambdaTreeResponsibleGrayPinLaw" = some m.cls := findClass_of_methodNamed Bd.named
  have hnm := (name_of_methodNamed Bd.named Bd.method).1
  have X0 : Stand p l e (⟨0, 0, 0, 0⟩ : Room) s m #[(.ref sa), (.int (3 : Int32)), (.int x2)] below meth c s₁ [] 0 0 := Stand.of_body Bd
  have e0 : s₁.heap = h0 := by rw [← hh, Bd.state]; rfl
  have N0 := Fr.nil n0
  obtain ⟨Pq, hPq⟩ : ∃ P, P = own_P s below (fun v h L => Q29 Z sa x2 ks gs h0 n0 v h L) (⟨0, 0, 0, 0⟩ : Room).cells (⟨0, 0, 0, 0⟩ : Room).slots := ⟨_, rfl⟩
  suffices hgo : own_Go p.tables e below Pq s₁ (mkF m 0 #[sR sa, sI (3 : Int32), sI x2] []) by
    subst hPq
    obtain ⟨t, k1, k2, o, k3, k4⟩ := hgo
    exact ⟨t, o, castTop (own_ef29 m sa x2) k1, k2, k3, k4⟩
  show own_Go _ _ _ _ s₁ (mkF m 0 #[sR sa, sI (3 : Int32), sI x2] [])
  refine own_st (fun t k => XS.aloadN X0.here hx rfl (hb hby d14_0) rfl rfl k) ?_
  show own_Go _ _ _ _ s₁ (mkF m 1 _ [(.ref sa)])
  refine own_st (fun t k => XS.iloadN X0.here hx rfl (hb hby d14_1) rfl k) ?_
  show own_Go _ _ _ _ s₁ (mkF m 2 _ [(.int (3 : Int32)), (.ref sa)])
  obtain ⟨c1, Ar1, q1, S1, N1, H1⟩ := id F0
  refine own_st (fun t k => X0.iaload hx (j := (3 : Int32)) (v := (.int (gs 3))) (by rw [e0]; exact Ar1.1) (State.isArrayOf_alike hZ.alike Ar1.2.1) Ar1.2.2 (inb_of S1 ⟨by decide, by decide⟩) (H1 _ (own_lt (inb_of S1 ⟨by decide, by decide⟩))) (g := (mkF m 2 #[sR sa, sI (3 : Int32), sI x2] [(.int (3 : Int32)), (.ref sa)])) rfl rfl (hb hby d14_2) _ k) ?_
  show own_Go _ _ _ _ s₁ (mkF m 3 _ [(.int (gs 3))])
  have J10 : ∀ (Tj10 : State) (Lj10 : List Loc) (p11 : Int32), Stand p l e (⟨0, 0, 0, 0⟩ : Room) s m #[(.ref sa), (.int (3 : Int32)), (.int x2)] below meth c Tj10 Lj10 0 0 → Tj10.heap = h0 → Fr n0 Lj10 → p11 = (if (gs 3) = (0 : Int32) then (1 : Int32) else (if (gs 3) = (3 : Int32) then (1 : Int32) else (if (3 : Int32) = x2 then (1 : Int32) else (0 : Int32)))) → own_Go p.tables e below Pq Tj10 (mkF m 23 #[sR sa, sI (3 : Int32), sI x2] [(.int p11)]) := by
    intro Tj10 Lj10 p11 Xj10 ej10 Nj10 qp11
    show own_Go _ _ _ _ Tj10 (mkF m 23 _ [(.int p11)])
    have hb_p11 : p11 = 0 ∨ p11 = 1 := by rw [qp11]; (repeat' split) <;> first | exact Or.inl rfl | exact Or.inr rfl | assumption
    subst hPq
    refine own_out Xj10 (v := some (.int p11)) (fun h => by rw [Bd.returns] at h; cases h) Bd.notSynchronized (own_retZ Xj10 hx Bd.returns (hb hby d14_23) hb_p11) (by decide) (by decide) ?_
    show Q29 Z sa x2 ks gs h0 n0 _ Tj10.heap _
    rw [ej10]
    exact ⟨by subst_vars; rfl, Nj10, rfl⟩
  by_cases c2 : (gs 3) = (0 : Int32)
  · skip
    refine own_st (fun t k => XS.ifYes X0.here hx rfl (pc0 := 3) (pc' := 18) rfl (hb hby d14_3) rfl ((if0 _ _).trans (teq c2).1) (by decide) (by decide) k) ?_
    show own_Go _ _ _ _ s₁ (mkF m 18 _ [])
    refine own_st (fun t k => XS.iconst X0.here hx rfl (hb hby d14_18) k) ?_
    show own_Go _ _ _ _ s₁ (mkF m 19 _ [(.int (1 : Int32))])
    refine own_st (fun t k => XS.goto X0.here hx rfl (pc0 := 19) (pc' := 23) rfl (hb hby d14_19) (by decide) (by decide) k) ?_
    show own_Go _ _ _ _ s₁ (mkF m 23 _ [(.int (1 : Int32))])
    exact J10 s₁ _ _ X0 e0 N0 (by simp only [if_pos c2])
  · skip
    refine own_st (fun t k => XS.ifNo X0.here hx rfl (hb hby d14_3) rfl ((if0 _ _).trans (feq c2).1) k) ?_
    show own_Go _ _ _ _ s₁ (mkF m 6 _ [])
    refine own_st (fun t k => XS.aloadN X0.here hx rfl (hb hby d14_6) rfl rfl k) ?_
    show own_Go _ _ _ _ s₁ (mkF m 7 _ [(.ref sa)])
    refine own_st (fun t k => XS.iloadN X0.here hx rfl (hb hby d14_7) rfl k) ?_
    show own_Go _ _ _ _ s₁ (mkF m 8 _ [(.int (3 : Int32)), (.ref sa)])
    obtain ⟨c4, Ar4, q4, S4, N4, H4⟩ := id F0
    refine own_st (fun t k => X0.iaload hx (j := (3 : Int32)) (v := (.int (gs 3))) (by rw [e0]; exact Ar4.1) (State.isArrayOf_alike hZ.alike Ar4.2.1) Ar4.2.2 (inb_of S4 ⟨by decide, by decide⟩) (H4 _ (own_lt (inb_of S4 ⟨by decide, by decide⟩))) (g := (mkF m 8 #[sR sa, sI (3 : Int32), sI x2] [(.int (3 : Int32)), (.ref sa)])) rfl rfl (hb hby d14_8) _ k) ?_
    show own_Go _ _ _ _ s₁ (mkF m 9 _ [(.int (gs 3))])
    refine own_st (fun t k => XS.iconst X0.here hx rfl (hb hby d14_9) k) ?_
    show own_Go _ _ _ _ s₁ (mkF m 10 _ [(.int (3 : Int32)), (.int (gs 3))])
    by_cases c5 : (gs 3) = (3 : Int32)
    · skip
      refine own_st (fun t k => XS.icmpYes X0.here hx rfl (pc0 := 10) (pc' := 18) rfl (hb hby d14_10) rfl (teq c5).1 (by decide) (by decide) k) ?_
      show own_Go _ _ _ _ s₁ (mkF m 18 _ [])
      refine own_st (fun t k => XS.iconst X0.here hx rfl (hb hby d14_18) k) ?_
      show own_Go _ _ _ _ s₁ (mkF m 19 _ [(.int (1 : Int32))])
      refine own_st (fun t k => XS.goto X0.here hx rfl (pc0 := 19) (pc' := 23) rfl (hb hby d14_19) (by decide) (by decide) k) ?_
      show own_Go _ _ _ _ s₁ (mkF m 23 _ [(.int (1 : Int32))])
      exact J10 s₁ _ _ X0 e0 N0 (by simp only [if_neg c2, if_pos c5])
    · skip
      refine own_st (fun t k => XS.icmpNo X0.here hx rfl (hb hby d14_10) rfl (feq c5).1 k) ?_
      show own_Go _ _ _ _ s₁ (mkF m 13 _ [])
      refine own_st (fun t k => XS.iloadN X0.here hx rfl (hb hby d14_13) rfl k) ?_
      show own_Go _ _ _ _ s₁ (mkF m 14 _ [(.int (3 : Int32))])
      refine own_st (fun t k => XS.iloadN X0.here hx rfl (hb hby d14_14) rfl k) ?_
      show own_Go _ _ _ _ s₁ (mkF m 15 _ [(.int x2), (.int (3 : Int32))])
      by_cases c7 : (3 : Int32) = x2
      · skip
        refine own_st (fun t k => XS.icmpNo X0.here hx rfl (hb hby d14_15) rfl (teq c7).2 k) ?_
        show own_Go _ _ _ _ s₁ (mkF m 18 _ [])
        refine own_st (fun t k => XS.iconst X0.here hx rfl (hb hby d14_18) k) ?_
        show own_Go _ _ _ _ s₁ (mkF m 19 _ [(.int (1 : Int32))])
        refine own_st (fun t k => XS.goto X0.here hx rfl (pc0 := 19) (pc' := 23) rfl (hb hby d14_19) (by decide) (by decide) k) ?_
        show own_Go _ _ _ _ s₁ (mkF m 23 _ [(.int (1 : Int32))])
        exact J10 s₁ _ _ X0 e0 N0 (by simp only [if_neg c2, if_neg c5, if_pos c7])
      · skip
        refine own_st (fun t k => XS.icmpYes X0.here hx rfl (pc0 := 15) (pc' := 22) rfl (hb hby d14_15) rfl (feq c7).2 (by decide) (by decide) k) ?_
        show own_Go _ _ _ _ s₁ (mkF m 22 _ [])
        refine own_st (fun t k => XS.iconst X0.here hx rfl (hb hby d14_22) k) ?_
        show own_Go _ _ _ _ s₁ (mkF m 23 _ [(.int (0 : Int32))])
        exact J10 s₁ _ _ X0 e0 N0 (by simp only [if_neg c2, if_neg c5, if_neg c7])
def own_b (i : Int32) (m x : Int64) : Int64 := if i = 0 then m else own_max m x
def own_s (i : Int32) (x : Int64) : Int64 := if i = 0 then 0 else x
/-- the law's envelope, by the members' marks -/
def own_ev (c : Int64) (go ge : Nat → Int64) (i0 i1 i2 i3 : Int32) : Int64 :=
  own_b i3 (own_b i2 (own_b i1 (own_b i0 (-4611686018427387904) (c * go 0 + (own_s i3 (ge 3) + own_s i2 (ge 2) + own_s i1 (ge 1) + own_s i0 (ge 0)))) (c * go 1 + (own_s i3 (ge 3) + own_s i2 (ge 2) + own_s i1 (ge 1)))) (c * go 2 + (own_s i3 (ge 3) + own_s i2 (ge 2)))) (c * go 3 + own_s i3 (ge 3))
def own_env (c : Int64) (go ge : Nat → Int64) (gs : Nat → Int32) (g : Int32) : Int64 := own_ev c go ge (own_mem0 g gs) (own_mem1 g gs) (own_mem2 g gs) (own_mem3 g gs)
theorem d15_0 : decode qc15 0 = .ok (.aload 4, 2) := by decide +kernel
theorem d15_2 : decode qc15 2 = .ok (.iconst 0, 1) := by decide +kernel
theorem d15_3 : decode qc15 3 = .ok (.iload 5, 2) := by decide +kernel
theorem d15_5 : decode qc15 5 = .ok (.invokestatic 48, 3) := by decide +kernel
theorem d15_8 : decode qc15 8 = .ok (.istore 6, 2) := by decide +kernel
theorem d15_10 : decode qc15 10 = .ok (.aload 4, 2) := by decide +kernel
theorem d15_12 : decode qc15 12 = .ok (.iconst 1, 1) := by decide +kernel
theorem d15_13 : decode qc15 13 = .ok (.iload 5, 2) := by decide +kernel
theorem d15_15 : decode qc15 15 = .ok (.invokestatic 48, 3) := by decide +kernel
theorem d15_18 : decode qc15 18 = .ok (.istore 7, 2) := by decide +kernel
theorem d15_20 : decode qc15 20 = .ok (.aload 4, 2) := by decide +kernel
theorem d15_22 : decode qc15 22 = .ok (.iconst 2, 1) := by decide +kernel
theorem d15_23 : decode qc15 23 = .ok (.iload 5, 2) := by decide +kernel
theorem d15_25 : decode qc15 25 = .ok (.invokestatic 48, 3) := by decide +kernel
theorem d15_28 : decode qc15 28 = .ok (.istore 8, 2) := by decide +kernel
theorem d15_30 : decode qc15 30 = .ok (.aload 4, 2) := by decide +kernel
theorem d15_32 : decode qc15 32 = .ok (.iconst 3, 1) := by decide +kernel
theorem d15_33 : decode qc15 33 = .ok (.iload 5, 2) := by decide +kernel
theorem d15_35 : decode qc15 35 = .ok (.invokestatic 48, 3) := by decide +kernel
theorem d15_38 : decode qc15 38 = .ok (.istore 9, 2) := by decide +kernel
theorem d15_40 : decode qc15 40 = .ok (.iload 9, 2) := by decide +kernel
theorem d15_42 : decode qc15 42 = .ok (.ifCond .eq 9, 3) := by decide +kernel
theorem d15_45 : decode qc15 45 = .ok (.aload_n 3, 1) := by decide +kernel
theorem d15_46 : decode qc15 46 = .ok (.iconst 3, 1) := by decide +kernel
theorem d15_47 : decode qc15 47 = .ok (.laload, 1) := by decide +kernel
theorem d15_48 : decode qc15 48 = .ok (.goto 4, 3) := by decide +kernel
theorem d15_51 : decode qc15 51 = .ok (.lconst 0, 1) := by decide +kernel
theorem d15_52 : decode qc15 52 = .ok (.lstore 10, 2) := by decide +kernel
theorem d15_54 : decode qc15 54 = .ok (.lload 10, 2) := by decide +kernel
theorem d15_56 : decode qc15 56 = .ok (.iload 8, 2) := by decide +kernel
theorem d15_58 : decode qc15 58 = .ok (.ifCond .eq 9, 3) := by decide +kernel
theorem d15_61 : decode qc15 61 = .ok (.aload_n 3, 1) := by decide +kernel
theorem d15_62 : decode qc15 62 = .ok (.iconst 2, 1) := by decide +kernel
theorem d15_63 : decode qc15 63 = .ok (.laload, 1) := by decide +kernel
theorem d15_64 : decode qc15 64 = .ok (.goto 4, 3) := by decide +kernel
theorem d15_67 : decode qc15 67 = .ok (.lconst 0, 1) := by decide +kernel
theorem d15_68 : decode qc15 68 = .ok (.ladd, 1) := by decide +kernel
theorem d15_69 : decode qc15 69 = .ok (.lstore 12, 2) := by decide +kernel
theorem d15_71 : decode qc15 71 = .ok (.lload 12, 2) := by decide +kernel
theorem d15_73 : decode qc15 73 = .ok (.iload 7, 2) := by decide +kernel
theorem d15_75 : decode qc15 75 = .ok (.ifCond .eq 9, 3) := by decide +kernel
theorem d15_78 : decode qc15 78 = .ok (.aload_n 3, 1) := by decide +kernel
theorem d15_79 : decode qc15 79 = .ok (.iconst 1, 1) := by decide +kernel
theorem d15_80 : decode qc15 80 = .ok (.laload, 1) := by decide +kernel
theorem d15_81 : decode qc15 81 = .ok (.goto 4, 3) := by decide +kernel
theorem d15_84 : decode qc15 84 = .ok (.lconst 0, 1) := by decide +kernel
theorem d15_85 : decode qc15 85 = .ok (.ladd, 1) := by decide +kernel
theorem d15_86 : decode qc15 86 = .ok (.lstore 14, 2) := by decide +kernel
theorem d15_88 : decode qc15 88 = .ok (.lload 14, 2) := by decide +kernel
theorem d15_90 : decode qc15 90 = .ok (.iload 6, 2) := by decide +kernel
theorem d15_92 : decode qc15 92 = .ok (.ifCond .eq 9, 3) := by decide +kernel
theorem d15_95 : decode qc15 95 = .ok (.aload_n 3, 1) := by decide +kernel
theorem d15_96 : decode qc15 96 = .ok (.iconst 0, 1) := by decide +kernel
theorem d15_97 : decode qc15 97 = .ok (.laload, 1) := by decide +kernel
theorem d15_98 : decode qc15 98 = .ok (.goto 4, 3) := by decide +kernel
theorem d15_101 : decode qc15 101 = .ok (.lconst 0, 1) := by decide +kernel
theorem d15_102 : decode qc15 102 = .ok (.ladd, 1) := by decide +kernel
theorem d15_103 : decode qc15 103 = .ok (.lstore 16, 2) := by decide +kernel
theorem d15_105 : decode qc15 105 = .ok (.ldc2_w 52, 3) := by decide +kernel
theorem d15_108 : decode qc15 108 = .ok (.lstore 18, 2) := by decide +kernel
theorem d15_110 : decode qc15 110 = .ok (.iload 6, 2) := by decide +kernel
theorem d15_112 : decode qc15 112 = .ok (.ifCond .eq 18, 3) := by decide +kernel
theorem d15_115 : decode qc15 115 = .ok (.lload 18, 2) := by decide +kernel
theorem d15_117 : decode qc15 117 = .ok (.lload_n 0, 1) := by decide +kernel
theorem d15_118 : decode qc15 118 = .ok (.aload_n 2, 1) := by decide +kernel
theorem d15_119 : decode qc15 119 = .ok (.iconst 0, 1) := by decide +kernel
theorem d15_120 : decode qc15 120 = .ok (.laload, 1) := by decide +kernel
theorem d15_121 : decode qc15 121 = .ok (.lmul, 1) := by decide +kernel
theorem d15_122 : decode qc15 122 = .ok (.lload 16, 2) := by decide +kernel
theorem d15_124 : decode qc15 124 = .ok (.ladd, 1) := by decide +kernel
theorem d15_125 : decode qc15 125 = .ok (.invokestatic 42, 3) := by decide +kernel
theorem d15_128 : decode qc15 128 = .ok (.lstore 18, 2) := by decide +kernel
theorem d15_130 : decode qc15 130 = .ok (.iload 7, 2) := by decide +kernel
theorem d15_132 : decode qc15 132 = .ok (.ifCond .eq 18, 3) := by decide +kernel
theorem d15_135 : decode qc15 135 = .ok (.lload 18, 2) := by decide +kernel
theorem d15_137 : decode qc15 137 = .ok (.lload_n 0, 1) := by decide +kernel
theorem d15_138 : decode qc15 138 = .ok (.aload_n 2, 1) := by decide +kernel
theorem d15_139 : decode qc15 139 = .ok (.iconst 1, 1) := by decide +kernel
theorem d15_140 : decode qc15 140 = .ok (.laload, 1) := by decide +kernel
theorem d15_141 : decode qc15 141 = .ok (.lmul, 1) := by decide +kernel
theorem d15_142 : decode qc15 142 = .ok (.lload 14, 2) := by decide +kernel
theorem d15_144 : decode qc15 144 = .ok (.ladd, 1) := by decide +kernel
theorem d15_145 : decode qc15 145 = .ok (.invokestatic 42, 3) := by decide +kernel
theorem d15_148 : decode qc15 148 = .ok (.lstore 18, 2) := by decide +kernel
theorem d15_150 : decode qc15 150 = .ok (.iload 8, 2) := by decide +kernel
theorem d15_152 : decode qc15 152 = .ok (.ifCond .eq 18, 3) := by decide +kernel
theorem d15_155 : decode qc15 155 = .ok (.lload 18, 2) := by decide +kernel
theorem d15_157 : decode qc15 157 = .ok (.lload_n 0, 1) := by decide +kernel
theorem d15_158 : decode qc15 158 = .ok (.aload_n 2, 1) := by decide +kernel
theorem d15_159 : decode qc15 159 = .ok (.iconst 2, 1) := by decide +kernel
theorem d15_160 : decode qc15 160 = .ok (.laload, 1) := by decide +kernel
theorem d15_161 : decode qc15 161 = .ok (.lmul, 1) := by decide +kernel
theorem d15_162 : decode qc15 162 = .ok (.lload 12, 2) := by decide +kernel
theorem d15_164 : decode qc15 164 = .ok (.ladd, 1) := by decide +kernel
theorem d15_165 : decode qc15 165 = .ok (.invokestatic 42, 3) := by decide +kernel
theorem d15_168 : decode qc15 168 = .ok (.lstore 18, 2) := by decide +kernel
theorem d15_170 : decode qc15 170 = .ok (.iload 9, 2) := by decide +kernel
theorem d15_172 : decode qc15 172 = .ok (.ifCond .eq 18, 3) := by decide +kernel
theorem d15_175 : decode qc15 175 = .ok (.lload 18, 2) := by decide +kernel
theorem d15_177 : decode qc15 177 = .ok (.lload_n 0, 1) := by decide +kernel
theorem d15_178 : decode qc15 178 = .ok (.aload_n 2, 1) := by decide +kernel
theorem d15_179 : decode qc15 179 = .ok (.iconst 3, 1) := by decide +kernel
theorem d15_180 : decode qc15 180 = .ok (.laload, 1) := by decide +kernel
theorem d15_181 : decode qc15 181 = .ok (.lmul, 1) := by decide +kernel
theorem d15_182 : decode qc15 182 = .ok (.lload 10, 2) := by decide +kernel
theorem d15_184 : decode qc15 184 = .ok (.ladd, 1) := by decide +kernel
theorem d15_185 : decode qc15 185 = .ok (.invokestatic 42, 3) := by decide +kernel
theorem d15_188 : decode qc15 188 = .ok (.lstore 18, 2) := by decide +kernel
theorem d15_190 : decode qc15 190 = .ok (.lload 18, 2) := by decide +kernel
theorem d15_192 : decode qc15 192 = .ok (.lreturn, 1) := by decide +kernel
theorem own_pn30 : plainName "com/example/tidemark/tidemark/core/ThetaLambdaTreeResponsibleGrayPinLaw" = true := by first | (simp [plainName, overriddenIn]; done) | decide +kernel
theorem own_ef30 (m : MethodId) (xc : Int64) (oa : Addr) (ea : Addr) (sa : Addr) (x5 : Int32) : entryFrame m #[(.long xc), (.ref oa), (.ref ea), (.ref sa), (.int x5)] 20 = mkF m 0 #[sJ xc, .second, sR oa, sR ea, sR sa, sI x5, .unset, .unset, .unset, .unset, .unset, .unset, .unset, .unset, .unset, .unset, .unset, .unset, .unset, .unset] [] := by first | (simp [entryFrame, mkF, argsToLocals, Value.category]; done) | rfl
def Q30 (Z : State) (xc : Int64) (oa : Addr) (ea : Addr) (sa : Addr) (x5 : Int32) (ko : ClassId) (go : Nat → Int64) (ke : ClassId) (ge : Nat → Int64) (ks : ClassId) (gs : Nat → Int32) (h0 : Heap) (n0 : Nat) (v : Option Value) (h : Heap) (L : List Loc) : Prop := v = some (.long (own_env xc go ge gs x5)) ∧ Fr n0 L ∧ h = h0
theorem own_enve (xc : Int64) (oa : Addr) (ea : Addr) (sa : Addr) (x5 : Int32) (ko : ClassId) (go : Nat → Int64) (ke : ClassId) (ge : Nat → Int64) (ks : ClassId) (gs : Nat → Int32) (v3 : Int32) (v6 : Int32) (v9 : Int32) (v12 : Int32) (p18 : Int64) (p24 : Int64) (v25 : Int64) (p31 : Int64) (v32 : Int64) (p38 : Int64) (v39 : Int64) (p47 : Int64) (p55 : Int64) (p63 : Int64) (p71 : Int64) (hv3 : (own_mem0 x5 gs) = v3) (hv6 : (own_mem1 x5 gs) = v6) (hv9 : (own_mem2 x5 gs) = v9) (hv12 : (own_mem3 x5 gs) = v12) (qp18 : p18 = (if v12 = (0 : Int32) then (0 : Int64) else (ge 3))) (qp24 : p24 = (if v9 = (0 : Int32) then (0 : Int64) else (ge 2))) (hv25 : (p18 + p24) = v25) (qp31 : p31 = (if v6 = (0 : Int32) then (0 : Int64) else (ge 1))) (hv32 : (v25 + p31) = v32) (qp38 : p38 = (if v3 = (0 : Int32) then (0 : Int64) else (ge 0))) (hv39 : (v32 + p38) = v39) (qp47 : p47 = (if v3 = (0 : Int32) then (-4611686018427387904 : Int64) else (own_max (-4611686018427387904 : Int64) ((xc * (go 0)) + v39)))) (qp55 : p55 = (if v6 = (0 : Int32) then p47 else (own_max p47 ((xc * (go 1)) + v32)))) (qp63 : p63 = (if v9 = (0 : Int32) then p55 else (own_max p55 ((xc * (go 2)) + v25)))) (qp71 : p71 = (if v12 = (0 : Int32) then p63 else (own_max p63 ((xc * (go 3)) + p18)))) : p71 = own_env xc go ge gs x5 := by
  subst_vars
  rfl
set_option maxRecDepth 65536 in
set_option maxHeartbeats 4000000 in
theorem rm30 (l : Launch) (Z : State) (a0 : Array Value) (hw : ∀ d ∈ tables_1, d.before a0 Z = true) (ws : List Jvm.Cond) (xc : Int64) (oa : Addr) (ea : Addr) (sa : Addr) (x5 : Int32) (ko : ClassId) (go : Nat → Int64) (ke : ClassId) (ge : Nat → Int64) (ks : ClassId) (gs : Nat → Int32) (h0 : Heap) (n0 : Nat) (Z0 : n0 ≤ h0.size) (F0 : own_AJ Z h0 oa ko (4 : Int32) go) (F1 : own_AJ Z h0 ea ke (4 : Int32) ge) (F2 : own_AI Z h0 sa ks (4 : Int32) gs) :
    MetFree l ym15 (head1 (Jvm.Cond.code ym15 method_6_code 20 (some .long) :: ws) (⟨1, 0, 0, 15⟩ : Room)) (fun aW U => aW = #[(.long xc), (.ref oa), (.ref ea), (.ref sa), (.int x5)] ∧ Z.Warmed39 U.vm ∧ U.heap = h0) (fun _ _ _ _ _ => True) (fun _ U o U' => ∃ v L, o = .returned v ∧ Q30 Z xc oa ea sa x5 ko go ke ge ks gs h0 n0 v U'.heap L ∧ FrameEnd U o U' L (⟨1, 0, 0, 15⟩ : Room).cells (⟨1, 0, 0, 15⟩ : Room).slots) := by
  refine MetFree.of_bodySF (plainFor_of_name own_pn30) hisR ?_
  intro p e s m args below meth c s₁ Bd hml0 hP hK
  obtain ⟨rfl, hZ, hh⟩ := hP
  have hx := Bd.exec
  have hby := Bd.bytes
  have hml : c.maxLocals = 20 := hml0
  have hown : s.vm.findClass "com/example/tidemark/tidemark/core/ThetaLambdaTreeResponsibleGrayPinLaw" = some m.cls := findClass_of_methodNamed Bd.named
  have hnm := (name_of_methodNamed Bd.named Bd.method).1
  have X0 : Stand p l e (⟨1, 0, 0, 15⟩ : Room) s m #[(.long xc), (.ref oa), (.ref ea), (.ref sa), (.int x5)] below meth c s₁ [] 0 0 := Stand.of_body Bd
  have e0 : s₁.heap = h0 := by rw [← hh, Bd.state]; rfl
  have N0 := Fr.nil n0
  obtain ⟨Pq, hPq⟩ : ∃ P, P = own_P s below (fun v h L => Q30 Z xc oa ea sa x5 ko go ke ge ks gs h0 n0 v h L) (⟨1, 0, 0, 15⟩ : Room).cells (⟨1, 0, 0, 15⟩ : Room).slots := ⟨_, rfl⟩
  suffices hgo : own_Go p.tables e below Pq s₁ (mkF m 0 #[sJ xc, .second, sR oa, sR ea, sR sa, sI x5, .unset, .unset, .unset, .unset, .unset, .unset, .unset, .unset, .unset, .unset, .unset, .unset, .unset, .unset] []) by
    subst hPq
    obtain ⟨t, k1, k2, o, k3, k4⟩ := hgo
    exact ⟨t, o, castTop (own_ef30 m xc oa ea sa x5) k1, k2, k3, k4⟩
  show own_Go _ _ _ _ s₁ (mkF m 0 #[sJ xc, .second, sR oa, sR ea, sR sa, sI x5, .unset, .unset, .unset, .unset, .unset, .unset, .unset, .unset, .unset, .unset, .unset, .unset, .unset, .unset] [])
  refine own_st (fun t k => XS.aload X0.here hx rfl (hb hby d15_0) rfl rfl k) ?_
  show own_Go _ _ _ _ s₁ (mkF m 2 _ [(.ref sa)])
  refine own_st (fun t k => XS.iconst X0.here hx rfl (hb hby d15_2) k) ?_
  show own_Go _ _ _ _ s₁ (mkF m 3 _ [(.int (0 : Int32)), (.ref sa)])
  refine own_st (fun t k => XS.iload X0.here hx rfl (hb hby d15_3) rfl k) ?_
  show own_Go _ _ _ _ s₁ (mkF m 5 _ [(.int x5), (.int (0 : Int32)), (.ref sa)])
  obtain ⟨_, _, ⟨T1, L1, k1, n1⟩, -, X1, ⟨Lc1, hQ1, l1, y1, z1⟩, st1⟩ := Jvm.LawKit.callS X0 hx (y := ym14) hown (mvT hZ (own_w hw 48 rfl)) (mvT hZ (own_w hw 49 rfl)) (mvT hZ (own_w hw 43 rfl)) (mvT hZ (own_w hw 50 rfl)) (by decide) (backOf (W := 0) (rm26 l Z a0 hw [] sa x5 ks gs h0 n0 Z0 F2) hZ (own_w hw 50 rfl) (own_w hw 43 rfl) (by decide) (by decide)) (g := (mkF m 5 #[sJ xc, .second, sR oa, sR ea, sR sa, sI x5, .unset, .unset, .unset, .unset, .unset, .unset, .unset, .unset, .unset, .unset, .unset, .unset, .unset, .unset] [(.int x5), (.int (0 : Int32)), (.ref sa)])) rfl (by rw [hml]; rfl) (argsL := [(.ref sa), (.int (0 : Int32)), (.int x5)]) (rest := []) (lenOf own_pd___III_Z rfl) rfl (by show 2 * 0 + _ ≤ _; exact Nat.le_of_eq rfl) (hb hby d15_5) (fun _ _ => ⟨rfl, e0, (by decide : 0 + 0 ≤ _), (by decide : 0 + 0 ≤ _)⟩)
  dsimp only [Pt.U, Pt.locs, Pt.cells, Pt.slots] at X1 l1 y1 z1 st1 hQ1
  subst l1 y1 z1
  obtain ⟨rfl, NQ1, eq1⟩ := hQ1
  have N2 := Fr.app N0 NQ1
  refine own_st st1 ?_
  show own_Go _ _ _ _ T1 (mkF m 8 _ [(.int (own_mem0 x5 gs))])
  generalize hv3 : (own_mem0 x5 gs) = v3
  refine own_st (fun t k => XS.istore X1.here hx rfl (hb hby d15_8) rfl (l' := #[sJ xc, .second, sR oa, sR ea, sR sa, sI x5, sI v3, .unset, .unset, .unset, .unset, .unset, .unset, .unset, .unset, .unset, .unset, .unset, .unset, .unset]) rfl k) ?_
  show own_Go _ _ _ _ T1 (mkF m 10 #[sJ xc, .second, sR oa, sR ea, sR sa, sI x5, sI v3, .unset, .unset, .unset, .unset, .unset, .unset, .unset, .unset, .unset, .unset, .unset, .unset, .unset] [])
  refine own_st (fun t k => XS.aload X1.here hx rfl (hb hby d15_10) rfl rfl k) ?_
  show own_Go _ _ _ _ T1 (mkF m 12 _ [(.ref sa)])
  refine own_st (fun t k => XS.iconst X1.here hx rfl (hb hby d15_12) k) ?_
  show own_Go _ _ _ _ T1 (mkF m 13 _ [(.int (1 : Int32)), (.ref sa)])
  refine own_st (fun t k => XS.iload X1.here hx rfl (hb hby d15_13) rfl k) ?_
  show own_Go _ _ _ _ T1 (mkF m 15 _ [(.int x5), (.int (1 : Int32)), (.ref sa)])
  obtain ⟨_, _, ⟨T4, L4, k4, n4⟩, -, X4, ⟨Lc4, hQ4, l4, y4, z4⟩, st4⟩ := Jvm.LawKit.callS X1 hx (y := ym14) hown (mvT hZ (own_w hw 48 rfl)) (mvT hZ (own_w hw 49 rfl)) (mvT hZ (own_w hw 43 rfl)) (mvT hZ (own_w hw 50 rfl)) (by decide) (backOf (W := 0) (rm27 l Z a0 hw [] sa x5 ks gs h0 n0 Z0 F2) hZ (own_w hw 50 rfl) (own_w hw 43 rfl) (by decide) (by decide)) (g := (mkF m 15 #[sJ xc, .second, sR oa, sR ea, sR sa, sI x5, sI v3, .unset, .unset, .unset, .unset, .unset, .unset, .unset, .unset, .unset, .unset, .unset, .unset, .unset] [(.int x5), (.int (1 : Int32)), (.ref sa)])) rfl (by rw [hml]; rfl) (argsL := [(.ref sa), (.int (1 : Int32)), (.int x5)]) (rest := []) (lenOf own_pd___III_Z rfl) rfl (by show 2 * 0 + _ ≤ _; exact Nat.le_of_eq rfl) (hb hby d15_15) (fun _ _ => ⟨rfl, eq1, (by decide : 0 + 0 ≤ _), (by decide : 0 + 0 ≤ _)⟩)
  dsimp only [Pt.U, Pt.locs, Pt.cells, Pt.slots] at X4 l4 y4 z4 st4 hQ4
  subst l4 y4 z4
  obtain ⟨rfl, NQ4, eq4⟩ := hQ4
  have N5 := Fr.app N2 NQ4
  refine own_st st4 ?_
  show own_Go _ _ _ _ T4 (mkF m 18 _ [(.int (own_mem1 x5 gs))])
  generalize hv6 : (own_mem1 x5 gs) = v6
  refine own_st (fun t k => XS.istore X4.here hx rfl (hb hby d15_18) rfl (l' := #[sJ xc, .second, sR oa, sR ea, sR sa, sI x5, sI v3, sI v6, .unset, .unset, .unset, .unset, .unset, .unset, .unset, .unset, .unset, .unset, .unset, .unset]) rfl k) ?_
  show own_Go _ _ _ _ T4 (mkF m 20 #[sJ xc, .second, sR oa, sR ea, sR sa, sI x5, sI v3, sI v6, .unset, .unset, .unset, .unset, .unset, .unset, .unset, .unset, .unset, .unset, .unset, .unset] [])
  refine own_st (fun t k => XS.aload X4.here hx rfl (hb hby d15_20) rfl rfl k) ?_
  show own_Go _ _ _ _ T4 (mkF m 22 _ [(.ref sa)])
  refine own_st (fun t k => XS.iconst X4.here hx rfl (hb hby d15_22) k) ?_
  show own_Go _ _ _ _ T4 (mkF m 23 _ [(.int (2 : Int32)), (.ref sa)])
  refine own_st (fun t k => XS.iload X4.here hx rfl (hb hby d15_23) rfl k) ?_
  show own_Go _ _ _ _ T4 (mkF m 25 _ [(.int x5), (.int (2 : Int32)), (.ref sa)])
  obtain ⟨_, _, ⟨T7, L7, k7, n7⟩, -, X7, ⟨Lc7, hQ7, l7, y7, z7⟩, st7⟩ := Jvm.LawKit.callS X4 hx (y := ym14) hown (mvT hZ (own_w hw 48 rfl)) (mvT hZ (own_w hw 49 rfl)) (mvT hZ (own_w hw 43 rfl)) (mvT hZ (own_w hw 50 rfl)) (by decide) (backOf (W := 0) (rm28 l Z a0 hw [] sa x5 ks gs h0 n0 Z0 F2) hZ (own_w hw 50 rfl) (own_w hw 43 rfl) (by decide) (by decide)) (g := (mkF m 25 #[sJ xc, .second, sR oa, sR ea, sR sa, sI x5, sI v3, sI v6, .unset, .unset, .unset, .unset, .unset, .unset, .unset, .unset, .unset, .unset, .unset, .unset] [(.int x5), (.int (2 : Int32)), (.ref sa)])) rfl (by rw [hml]; rfl) (argsL := [(.ref sa), (.int (2 : Int32)), (.int x5)]) (rest := []) (lenOf own_pd___III_Z rfl) rfl (by show 2 * 0 + _ ≤ _; exact Nat.le_of_eq rfl) (hb hby d15_25) (fun _ _ => ⟨rfl, eq4, (by decide : 0 + 0 ≤ _), (by decide : 0 + 0 ≤ _)⟩)
  dsimp only [Pt.U, Pt.locs, Pt.cells, Pt.slots] at X7 l7 y7 z7 st7 hQ7
  subst l7 y7 z7
  obtain ⟨rfl, NQ7, eq7⟩ := hQ7
  have N8 := Fr.app N5 NQ7
  refine own_st st7 ?_
  show own_Go _ _ _ _ T7 (mkF m 28 _ [(.int (own_mem2 x5 gs))])
  generalize hv9 : (own_mem2 x5 gs) = v9
  refine own_st (fun t k => XS.istore X7.here hx rfl (hb hby d15_28) rfl (l' := #[sJ xc, .second, sR oa, sR ea, sR sa, sI x5, sI v3, sI v6, sI v9, .unset, .unset, .unset, .unset, .unset, .unset, .unset, .unset, .unset, .unset, .unset]) rfl k) ?_
  show own_Go _ _ _ _ T7 (mkF m 30 #[sJ xc, .second, sR oa, sR ea, sR sa, sI x5, sI v3, sI v6, sI v9, .unset, .unset, .unset, .unset, .unset, .unset, .unset, .unset, .unset, .unset, .unset] [])
  refine own_st (fun t k => XS.aload X7.here hx rfl (hb hby d15_30) rfl rfl k) ?_
  show own_Go _ _ _ _ T7 (mkF m 32 _ [(.ref sa)])
  refine own_st (fun t k => XS.iconst X7.here hx rfl (hb hby d15_32) k) ?_
  show own_Go _ _ _ _ T7 (mkF m 33 _ [(.int (3 : Int32)), (.ref sa)])
  refine own_st (fun t k => XS.iload X7.here hx rfl (hb hby d15_33) rfl k) ?_
  show own_Go _ _ _ _ T7 (mkF m 35 _ [(.int x5), (.int (3 : Int32)), (.ref sa)])
  obtain ⟨_, _, ⟨T10, L10, k10, n10⟩, -, X10, ⟨Lc10, hQ10, l10, y10, z10⟩, st10⟩ := Jvm.LawKit.callS X7 hx (y := ym14) hown (mvT hZ (own_w hw 48 rfl)) (mvT hZ (own_w hw 49 rfl)) (mvT hZ (own_w hw 43 rfl)) (mvT hZ (own_w hw 50 rfl)) (by decide) (backOf (W := 0) (rm29 l Z a0 hw [] sa x5 ks gs h0 n0 Z0 F2) hZ (own_w hw 50 rfl) (own_w hw 43 rfl) (by decide) (by decide)) (g := (mkF m 35 #[sJ xc, .second, sR oa, sR ea, sR sa, sI x5, sI v3, sI v6, sI v9, .unset, .unset, .unset, .unset, .unset, .unset, .unset, .unset, .unset, .unset, .unset] [(.int x5), (.int (3 : Int32)), (.ref sa)])) rfl (by rw [hml]; rfl) (argsL := [(.ref sa), (.int (3 : Int32)), (.int x5)]) (rest := []) (lenOf own_pd___III_Z rfl) rfl (by show 2 * 0 + _ ≤ _; exact Nat.le_of_eq rfl) (hb hby d15_35) (fun _ _ => ⟨rfl, eq7, (by decide : 0 + 0 ≤ _), (by decide : 0 + 0 ≤ _)⟩)
  dsimp only [Pt.U, Pt.locs, Pt.cells, Pt.slots] at X10 l10 y10 z10 st10 hQ10
  subst l10 y10 z10
  obtain ⟨rfl, NQ10, eq10⟩ := hQ10
  have N11 := Fr.app N8 NQ10
  refine own_st st10 ?_
  show own_Go _ _ _ _ T10 (mkF m 38 _ [(.int (own_mem3 x5 gs))])
  generalize hv12 : (own_mem3 x5 gs) = v12
  refine own_st (fun t k => XS.istore X10.here hx rfl (hb hby d15_38) rfl (l' := #[sJ xc, .second, sR oa, sR ea, sR sa, sI x5, sI v3, sI v6, sI v9, sI v12, .unset, .unset, .unset, .unset, .unset, .unset, .unset, .unset, .unset, .unset]) rfl k) ?_
  show own_Go _ _ _ _ T10 (mkF m 40 #[sJ xc, .second, sR oa, sR ea, sR sa, sI x5, sI v3, sI v6, sI v9, sI v12, .unset, .unset, .unset, .unset, .unset, .unset, .unset, .unset, .unset, .unset] [])
  refine own_st (fun t k => XS.iload X10.here hx rfl (hb hby d15_40) rfl k) ?_
  show own_Go _ _ _ _ T10 (mkF m 42 _ [(.int v12)])
  have J17 : ∀ (Tj17 : State) (Lj17 : List Loc) (p18 : Int64), Stand p l e (⟨1, 0, 0, 15⟩ : Room) s m #[(.long xc), (.ref oa), (.ref ea), (.ref sa), (.int x5)] below meth c Tj17 Lj17 0 0 → Tj17.heap = h0 → Fr n0 Lj17 → p18 = (if v12 = (0 : Int32) then (0 : Int64) else (ge 3)) → own_Go p.tables e below Pq Tj17 (mkF m 52 #[sJ xc, .second, sR oa, sR ea, sR sa, sI x5, sI v3, sI v6, sI v9, sI v12, .unset, .unset, .unset, .unset, .unset, .unset, .unset, .unset, .unset, .unset] [(.long p18)]) := by
    intro Tj17 Lj17 p18 Xj17 ej17 Nj17 qp18
    show own_Go _ _ _ _ Tj17 (mkF m 52 _ [(.long p18)])
    refine own_st (fun t k => XS.lstore Xj17.here hx rfl (hb hby d15_52) rfl (l' := #[sJ xc, .second, sR oa, sR ea, sR sa, sI x5, sI v3, sI v6, sI v9, sI v12, sJ p18, .second, .unset, .unset, .unset, .unset, .unset, .unset, .unset, .unset]) rfl k) ?_
    show own_Go _ _ _ _ Tj17 (mkF m 54 #[sJ xc, .second, sR oa, sR ea, sR sa, sI x5, sI v3, sI v6, sI v9, sI v12, sJ p18, .second, .unset, .unset, .unset, .unset, .unset, .unset, .unset, .unset] [])
    refine own_st (fun t k => XS.lload Xj17.here hx rfl (hb hby d15_54) rfl k) ?_
    show own_Go _ _ _ _ Tj17 (mkF m 56 _ [(.long p18)])
    refine own_st (fun t k => XS.iload Xj17.here hx rfl (hb hby d15_56) rfl k) ?_
    show own_Go _ _ _ _ Tj17 (mkF m 58 _ [(.int v9), (.long p18)])
    have J23 : ∀ (Tj23 : State) (Lj23 : List Loc) (p24 : Int64), Stand p l e (⟨1, 0, 0, 15⟩ : Room) s m #[(.long xc), (.ref oa), (.ref ea), (.ref sa), (.int x5)] below meth c Tj23 Lj23 0 0 → Tj23.heap = h0 → Fr n0 Lj23 → p24 = (if v9 = (0 : Int32) then (0 : Int64) else (ge 2)) → own_Go p.tables e below Pq Tj23 (mkF m 68 #[sJ xc, .second, sR oa, sR ea, sR sa, sI x5, sI v3, sI v6, sI v9, sI v12, sJ p18, .second, .unset, .unset, .unset, .unset, .unset, .unset, .unset, .unset] [(.long p24), (.long p18)]) := by
      intro Tj23 Lj23 p24 Xj23 ej23 Nj23 qp24
      show own_Go _ _ _ _ Tj23 (mkF m 68 _ [(.long p24), (.long p18)])
      refine own_st (fun t k => XS.ladd Xj23.here hx rfl (hb hby d15_68) rfl k) ?_
      show own_Go _ _ _ _ Tj23 (mkF m 69 _ [(.long (p18 + p24))])
      generalize hv25 : (p18 + p24) = v25
      refine own_st (fun t k => XS.lstore Xj23.here hx rfl (hb hby d15_69) rfl (l' := #[sJ xc, .second, sR oa, sR ea, sR sa, sI x5, sI v3, sI v6, sI v9, sI v12, sJ p18, .second, sJ v25, .second, .unset, .unset, .unset, .unset, .unset, .unset]) rfl k) ?_
      show own_Go _ _ _ _ Tj23 (mkF m 71 #[sJ xc, .second, sR oa, sR ea, sR sa, sI x5, sI v3, sI v6, sI v9, sI v12, sJ p18, .second, sJ v25, .second, .unset, .unset, .unset, .unset, .unset, .unset] [])
      refine own_st (fun t k => XS.lload Xj23.here hx rfl (hb hby d15_71) rfl k) ?_
      show own_Go _ _ _ _ Tj23 (mkF m 73 _ [(.long v25)])
      refine own_st (fun t k => XS.iload Xj23.here hx rfl (hb hby d15_73) rfl k) ?_
      show own_Go _ _ _ _ Tj23 (mkF m 75 _ [(.int v6), (.long v25)])
      have J30 : ∀ (Tj30 : State) (Lj30 : List Loc) (p31 : Int64), Stand p l e (⟨1, 0, 0, 15⟩ : Room) s m #[(.long xc), (.ref oa), (.ref ea), (.ref sa), (.int x5)] below meth c Tj30 Lj30 0 0 → Tj30.heap = h0 → Fr n0 Lj30 → p31 = (if v6 = (0 : Int32) then (0 : Int64) else (ge 1)) → own_Go p.tables e below Pq Tj30 (mkF m 85 #[sJ xc, .second, sR oa, sR ea, sR sa, sI x5, sI v3, sI v6, sI v9, sI v12, sJ p18, .second, sJ v25, .second, .unset, .unset, .unset, .unset, .unset, .unset] [(.long p31), (.long v25)]) := by
        intro Tj30 Lj30 p31 Xj30 ej30 Nj30 qp31
        show own_Go _ _ _ _ Tj30 (mkF m 85 _ [(.long p31), (.long v25)])
        refine own_st (fun t k => XS.ladd Xj30.here hx rfl (hb hby d15_85) rfl k) ?_
        show own_Go _ _ _ _ Tj30 (mkF m 86 _ [(.long (v25 + p31))])
        generalize hv32 : (v25 + p31) = v32
        refine own_st (fun t k => XS.lstore Xj30.here hx rfl (hb hby d15_86) rfl (l' := #[sJ xc, .second, sR oa, sR ea, sR sa, sI x5, sI v3, sI v6, sI v9, sI v12, sJ p18, .second, sJ v25, .second, sJ v32, .second, .unset, .unset, .unset, .unset]) rfl k) ?_
        show own_Go _ _ _ _ Tj30 (mkF m 88 #[sJ xc, .second, sR oa, sR ea, sR sa, sI x5, sI v3, sI v6, sI v9, sI v12, sJ p18, .second, sJ v25, .second, sJ v32, .second, .unset, .unset, .unset, .unset] [])
        refine own_st (fun t k => XS.lload Xj30.here hx rfl (hb hby d15_88) rfl k) ?_
        show own_Go _ _ _ _ Tj30 (mkF m 90 _ [(.long v32)])
        refine own_st (fun t k => XS.iload Xj30.here hx rfl (hb hby d15_90) rfl k) ?_
        show own_Go _ _ _ _ Tj30 (mkF m 92 _ [(.int v3), (.long v32)])
        have J37 : ∀ (Tj37 : State) (Lj37 : List Loc) (p38 : Int64), Stand p l e (⟨1, 0, 0, 15⟩ : Room) s m #[(.long xc), (.ref oa), (.ref ea), (.ref sa), (.int x5)] below meth c Tj37 Lj37 0 0 → Tj37.heap = h0 → Fr n0 Lj37 → p38 = (if v3 = (0 : Int32) then (0 : Int64) else (ge 0)) → own_Go p.tables e below Pq Tj37 (mkF m 102 #[sJ xc, .second, sR oa, sR ea, sR sa, sI x5, sI v3, sI v6, sI v9, sI v12, sJ p18, .second, sJ v25, .second, sJ v32, .second, .unset, .unset, .unset, .unset] [(.long p38), (.long v32)]) := by
          intro Tj37 Lj37 p38 Xj37 ej37 Nj37 qp38
          show own_Go _ _ _ _ Tj37 (mkF m 102 _ [(.long p38), (.long v32)])
          refine own_st (fun t k => XS.ladd Xj37.here hx rfl (hb hby d15_102) rfl k) ?_
          show own_Go _ _ _ _ Tj37 (mkF m 103 _ [(.long (v32 + p38))])
          generalize hv39 : (v32 + p38) = v39
          refine own_st (fun t k => XS.lstore Xj37.here hx rfl (hb hby d15_103) rfl (l' := #[sJ xc, .second, sR oa, sR ea, sR sa, sI x5, sI v3, sI v6, sI v9, sI v12, sJ p18, .second, sJ v25, .second, sJ v32, .second, sJ v39, .second, .unset, .unset]) rfl k) ?_
          show own_Go _ _ _ _ Tj37 (mkF m 105 #[sJ xc, .second, sR oa, sR ea, sR sa, sI x5, sI v3, sI v6, sI v9, sI v12, sJ p18, .second, sJ v25, .second, sJ v32, .second, sJ v39, .second, .unset, .unset] [])
          refine own_st (fun t k => Xj37.ldc2Long hx hown (mvT hZ (own_w hw 51 rfl)) (g := (mkF m 105 #[sJ xc, .second, sR oa, sR ea, sR sa, sI x5, sI v3, sI v6, sI v9, sI v12, sJ p18, .second, sJ v25, .second, sJ v32, .second, sJ v39, .second, .unset, .unset] [])) rfl (hb hby d15_105) _ k) ?_
          show own_Go _ _ _ _ Tj37 (mkF m 108 _ [(.long (-4611686018427387904 : Int64))])
          refine own_st (fun t k => XS.lstore Xj37.here hx rfl (hb hby d15_108) rfl (l' := #[sJ xc, .second, sR oa, sR ea, sR sa, sI x5, sI v3, sI v6, sI v9, sI v12, sJ p18, .second, sJ v25, .second, sJ v32, .second, sJ v39, .second, sJ (-4611686018427387904 : Int64), .second]) rfl k) ?_
          show own_Go _ _ _ _ Tj37 (mkF m 110 #[sJ xc, .second, sR oa, sR ea, sR sa, sI x5, sI v3, sI v6, sI v9, sI v12, sJ p18, .second, sJ v25, .second, sJ v32, .second, sJ v39, .second, sJ (-4611686018427387904 : Int64), .second] [])
          refine own_st (fun t k => XS.iload Xj37.here hx rfl (hb hby d15_110) rfl k) ?_
          show own_Go _ _ _ _ Tj37 (mkF m 112 _ [(.int v3)])
          have J46 : ∀ (Tj46 : State) (Lj46 : List Loc) (p47 : Int64), Stand p l e (⟨1, 0, 0, 15⟩ : Room) s m #[(.long xc), (.ref oa), (.ref ea), (.ref sa), (.int x5)] below meth c Tj46 Lj46 0 0 → Tj46.heap = h0 → Fr n0 Lj46 → p47 = (if v3 = (0 : Int32) then (-4611686018427387904 : Int64) else (own_max (-4611686018427387904 : Int64) ((xc * (go 0)) + v39))) → own_Go p.tables e below Pq Tj46 (mkF m 130 #[sJ xc, .second, sR oa, sR ea, sR sa, sI x5, sI v3, sI v6, sI v9, sI v12, sJ p18, .second, sJ v25, .second, sJ v32, .second, sJ v39, .second, sJ p47, .second] []) := by
            intro Tj46 Lj46 p47 Xj46 ej46 Nj46 qp47
            show own_Go _ _ _ _ Tj46 (mkF m 130 #[sJ xc, .second, sR oa, sR ea, sR sa, sI x5, sI v3, sI v6, sI v9, sI v12, sJ p18, .second, sJ v25, .second, sJ v32, .second, sJ v39, .second, sJ p47, .second] [])
            refine own_st (fun t k => XS.iload Xj46.here hx rfl (hb hby d15_130) rfl k) ?_
            show own_Go _ _ _ _ Tj46 (mkF m 132 _ [(.int v6)])
            have J54 : ∀ (Tj54 : State) (Lj54 : List Loc) (p55 : Int64), Stand p l e (⟨1, 0, 0, 15⟩ : Room) s m #[(.long xc), (.ref oa), (.ref ea), (.ref sa), (.int x5)] below meth c Tj54 Lj54 0 0 → Tj54.heap = h0 → Fr n0 Lj54 → p55 = (if v6 = (0 : Int32) then p47 else (own_max p47 ((xc * (go 1)) + v32))) → own_Go p.tables e below Pq Tj54 (mkF m 150 #[sJ xc, .second, sR oa, sR ea, sR sa, sI x5, sI v3, sI v6, sI v9, sI v12, sJ p18, .second, sJ v25, .second, sJ v32, .second, sJ v39, .second, sJ p55, .second] []) := by
              intro Tj54 Lj54 p55 Xj54 ej54 Nj54 qp55
              show own_Go _ _ _ _ Tj54 (mkF m 150 #[sJ xc, .second, sR oa, sR ea, sR sa, sI x5, sI v3, sI v6, sI v9, sI v12, sJ p18, .second, sJ v25, .second, sJ v32, .second, sJ v39, .second, sJ p55, .second] [])
              refine own_st (fun t k => XS.iload Xj54.here hx rfl (hb hby d15_150) rfl k) ?_
              show own_Go _ _ _ _ Tj54 (mkF m 152 _ [(.int v9)])
              have J62 : ∀ (Tj62 : State) (Lj62 : List Loc) (p63 : Int64), Stand p l e (⟨1, 0, 0, 15⟩ : Room) s m #[(.long xc), (.ref oa), (.ref ea), (.ref sa), (.int x5)] below meth c Tj62 Lj62 0 0 → Tj62.heap = h0 → Fr n0 Lj62 → p63 = (if v9 = (0 : Int32) then p55 else (own_max p55 ((xc * (go 2)) + v25))) → own_Go p.tables e below Pq Tj62 (mkF m 170 #[sJ xc, .second, sR oa, sR ea, sR sa, sI x5, sI v3, sI v6, sI v9, sI v12, sJ p18, .second, sJ v25, .second, sJ v32, .second, sJ v39, .second, sJ p63, .second] []) := by
                intro Tj62 Lj62 p63 Xj62 ej62 Nj62 qp63
                show own_Go _ _ _ _ Tj62 (mkF m 170 #[sJ xc, .second, sR oa, sR ea, sR sa, sI x5, sI v3, sI v6, sI v9, sI v12, sJ p18, .second, sJ v25, .second, sJ v32, .second, sJ v39, .second, sJ p63, .second] [])
                refine own_st (fun t k => XS.iload Xj62.here hx rfl (hb hby d15_170) rfl k) ?_
                show own_Go _ _ _ _ Tj62 (mkF m 172 _ [(.int v12)])
                have J70 : ∀ (Tj70 : State) (Lj70 : List Loc) (p71 : Int64), Stand p l e (⟨1, 0, 0, 15⟩ : Room) s m #[(.long xc), (.ref oa), (.ref ea), (.ref sa), (.int x5)] below meth c Tj70 Lj70 0 0 → Tj70.heap = h0 → Fr n0 Lj70 → p71 = (if v12 = (0 : Int32) then p63 else (own_max p63 ((xc * (go 3)) + p18))) → own_Go p.tables e below Pq Tj70 (mkF m 190 #[sJ xc, .second, sR oa, sR ea, sR sa, sI x5, sI v3, sI v6, sI v9, sI v12, sJ p18, .second, sJ v25, .second, sJ v32, .second, sJ v39, .second, sJ p71, .second] []) := by
                  intro Tj70 Lj70 p71 Xj70 ej70 Nj70 qp71
                  show own_Go _ _ _ _ Tj70 (mkF m 190 #[sJ xc, .second, sR oa, sR ea, sR sa, sI x5, sI v3, sI v6, sI v9, sI v12, sJ p18, .second, sJ v25, .second, sJ v32, .second, sJ v39, .second, sJ p71, .second] [])
                  refine own_st (fun t k => XS.lload Xj70.here hx rfl (hb hby d15_190) rfl k) ?_
                  show own_Go _ _ _ _ Tj70 (mkF m 192 _ [(.long p71)])
                  subst hPq
                  refine own_out Xj70 (v := some (.long p71)) (fun h => by rw [Bd.returns] at h; cases h) Bd.notSynchronized (own_retJ Xj70 hx Bd.returns (hb hby d15_192)) (by decide) (by decide) ?_
                  show Q30 Z xc oa ea sa x5 ko go ke ge ks gs h0 n0 _ Tj70.heap _
                  rw [ej70]
                  exact ⟨congrArg (fun z => some (Value.long z)) (own_enve xc oa ea sa x5 ko go ke ge ks gs v3 v6 v9 v12 p18 p24 v25 p31 v32 p38 v39 p47 p55 p63 p71 hv3 hv6 hv9 hv12 qp18 qp24 hv25 qp31 hv32 qp38 hv39 qp47 qp55 qp63 qp71), Nj70, rfl⟩
                by_cases c64 : v12 = (0 : Int32)
                · skip
                  refine own_st (fun t k => XS.ifYes Xj62.here hx rfl (pc0 := 172) (pc' := 190) rfl (hb hby d15_172) rfl ((if0 _ _).trans (teq c64).1) (by decide) (by decide) k) ?_
                  show own_Go _ _ _ _ Tj62 (mkF m 190 _ [])
                  exact J70 Tj62 _ _ Xj62 ej62 Nj62 (by simp only [if_pos c64])
                · skip
                  refine own_st (fun t k => XS.ifNo Xj62.here hx rfl (hb hby d15_172) rfl ((if0 _ _).trans (feq c64).1) k) ?_
                  show own_Go _ _ _ _ Tj62 (mkF m 175 _ [])
                  refine own_st (fun t k => XS.lload Xj62.here hx rfl (hb hby d15_175) rfl k) ?_
                  show own_Go _ _ _ _ Tj62 (mkF m 177 _ [(.long p63)])
                  refine own_st (fun t k => XS.lloadN Xj62.here hx rfl (hb hby d15_177) rfl k) ?_
                  show own_Go _ _ _ _ Tj62 (mkF m 178 _ [(.long xc), (.long p63)])
                  refine own_st (fun t k => XS.aloadN Xj62.here hx rfl (hb hby d15_178) rfl rfl k) ?_
                  show own_Go _ _ _ _ Tj62 (mkF m 179 _ [(.ref oa), (.long xc), (.long p63)])
                  refine own_st (fun t k => XS.iconst Xj62.here hx rfl (hb hby d15_179) k) ?_
                  show own_Go _ _ _ _ Tj62 (mkF m 180 _ [(.int (3 : Int32)), (.ref oa), (.long xc), (.long p63)])
                  obtain ⟨c66, Ar66, q66, S66, N66, H66⟩ := id F0
                  refine own_st (fun t k => Xj62.laload hx (j := (3 : Int32)) (v := (.long (go 3))) (by rw [ej62]; exact Ar66.1) (State.isArrayOf_alike hZ.alike Ar66.2.1) Ar66.2.2 (inb_of S66 ⟨by decide, by decide⟩) (H66 _ (own_lt (inb_of S66 ⟨by decide, by decide⟩))) (g := (mkF m 180 #[sJ xc, .second, sR oa, sR ea, sR sa, sI x5, sI v3, sI v6, sI v9, sI v12, sJ p18, .second, sJ v25, .second, sJ v32, .second, sJ v39, .second, sJ p63, .second] [(.int (3 : Int32)), (.ref oa), (.long xc), (.long p63)])) rfl rfl (hb hby d15_180) _ k) ?_
                  show own_Go _ _ _ _ Tj62 (mkF m 181 _ [(.long (go 3)), (.long xc), (.long p63)])
                  refine own_st (fun t k => XS.lmul Xj62.here hx rfl (hb hby d15_181) rfl k) ?_
                  show own_Go _ _ _ _ Tj62 (mkF m 182 _ [(.long (xc * (go 3))), (.long p63)])
                  refine own_st (fun t k => XS.lload Xj62.here hx rfl (hb hby d15_182) rfl k) ?_
                  show own_Go _ _ _ _ Tj62 (mkF m 184 _ [(.long p18), (.long (xc * (go 3))), (.long p63)])
                  refine own_st (fun t k => XS.ladd Xj62.here hx rfl (hb hby d15_184) rfl k) ?_
                  show own_Go _ _ _ _ Tj62 (mkF m 185 _ [(.long ((xc * (go 3)) + p18)), (.long p63)])
                  obtain ⟨_, _, ⟨T67, L67, k67, n67⟩, -, X67, ⟨Lc67, hQ67, l67, y67, z67⟩, st67⟩ := Jvm.LawKit.callS Xj62 hx (y := ym5) hown (mvT hZ (own_w hw 52 rfl)) (mvT hZ (own_w hw 53 rfl)) (mvT hZ (own_w hw 17 rfl)) (mvT hZ (own_w hw 54 rfl)) (by decide) (backOf (W := 0) (rm17 l Z a0 hw [] p63 ((xc * (go 3)) + p18) h0 n0 Z0 ) hZ (own_w hw 54 rfl) (own_w hw 17 rfl) (by decide) (by decide)) (g := (mkF m 185 #[sJ xc, .second, sR oa, sR ea, sR sa, sI x5, sI v3, sI v6, sI v9, sI v12, sJ p18, .second, sJ v25, .second, sJ v32, .second, sJ v39, .second, sJ p63, .second] [(.long ((xc * (go 3)) + p18)), (.long p63)])) rfl (by rw [hml]; rfl) (argsL := [(.long p63), (.long ((xc * (go 3)) + p18))]) (rest := []) (lenOf own_pd__JJ_J rfl) rfl (by show 2 * 0 + _ ≤ _; exact Nat.le_of_eq rfl) (hb hby d15_185) (fun _ _ => ⟨rfl, ej62, (by decide : 0 + 0 ≤ _), (by decide : 0 + 0 ≤ _)⟩)
                  dsimp only [Pt.U, Pt.locs, Pt.cells, Pt.slots] at X67 l67 y67 z67 st67 hQ67
                  subst l67 y67 z67
                  obtain ⟨rfl, NQ67, eq67⟩ := hQ67
                  have N68 := Fr.app Nj62 NQ67
                  refine own_st st67 ?_
                  show own_Go _ _ _ _ T67 (mkF m 188 _ [(.long (own_max p63 ((xc * (go 3)) + p18)))])
                  refine own_st (fun t k => XS.lstore X67.here hx rfl (hb hby d15_188) rfl (l' := #[sJ xc, .second, sR oa, sR ea, sR sa, sI x5, sI v3, sI v6, sI v9, sI v12, sJ p18, .second, sJ v25, .second, sJ v32, .second, sJ v39, .second, sJ (own_max p63 ((xc * (go 3)) + p18)), .second]) rfl k) ?_
                  show own_Go _ _ _ _ T67 (mkF m 190 #[sJ xc, .second, sR oa, sR ea, sR sa, sI x5, sI v3, sI v6, sI v9, sI v12, sJ p18, .second, sJ v25, .second, sJ v32, .second, sJ v39, .second, sJ (own_max p63 ((xc * (go 3)) + p18)), .second] [])
                  exact J70 T67 _ _ X67 eq67 N68 (by simp only [if_neg c64])
              by_cases c56 : v9 = (0 : Int32)
              · skip
                refine own_st (fun t k => XS.ifYes Xj54.here hx rfl (pc0 := 152) (pc' := 170) rfl (hb hby d15_152) rfl ((if0 _ _).trans (teq c56).1) (by decide) (by decide) k) ?_
                show own_Go _ _ _ _ Tj54 (mkF m 170 _ [])
                exact J62 Tj54 _ _ Xj54 ej54 Nj54 (by simp only [if_pos c56])
              · skip
                refine own_st (fun t k => XS.ifNo Xj54.here hx rfl (hb hby d15_152) rfl ((if0 _ _).trans (feq c56).1) k) ?_
                show own_Go _ _ _ _ Tj54 (mkF m 155 _ [])
                refine own_st (fun t k => XS.lload Xj54.here hx rfl (hb hby d15_155) rfl k) ?_
                show own_Go _ _ _ _ Tj54 (mkF m 157 _ [(.long p55)])
                refine own_st (fun t k => XS.lloadN Xj54.here hx rfl (hb hby d15_157) rfl k) ?_
                show own_Go _ _ _ _ Tj54 (mkF m 158 _ [(.long xc), (.long p55)])
                refine own_st (fun t k => XS.aloadN Xj54.here hx rfl (hb hby d15_158) rfl rfl k) ?_
                show own_Go _ _ _ _ Tj54 (mkF m 159 _ [(.ref oa), (.long xc), (.long p55)])
                refine own_st (fun t k => XS.iconst Xj54.here hx rfl (hb hby d15_159) k) ?_
                show own_Go _ _ _ _ Tj54 (mkF m 160 _ [(.int (2 : Int32)), (.ref oa), (.long xc), (.long p55)])
                obtain ⟨c58, Ar58, q58, S58, N58, H58⟩ := id F0
                refine own_st (fun t k => Xj54.laload hx (j := (2 : Int32)) (v := (.long (go 2))) (by rw [ej54]; exact Ar58.1) (State.isArrayOf_alike hZ.alike Ar58.2.1) Ar58.2.2 (inb_of S58 ⟨by decide, by decide⟩) (H58 _ (own_lt (inb_of S58 ⟨by decide, by decide⟩))) (g := (mkF m 160 #[sJ xc, .second, sR oa, sR ea, sR sa, sI x5, sI v3, sI v6, sI v9, sI v12, sJ p18, .second, sJ v25, .second, sJ v32, .second, sJ v39, .second, sJ p55, .second] [(.int (2 : Int32)), (.ref oa), (.long xc), (.long p55)])) rfl rfl (hb hby d15_160) _ k) ?_
                show own_Go _ _ _ _ Tj54 (mkF m 161 _ [(.long (go 2)), (.long xc), (.long p55)])
                refine own_st (fun t k => XS.lmul Xj54.here hx rfl (hb hby d15_161) rfl k) ?_
                show own_Go _ _ _ _ Tj54 (mkF m 162 _ [(.long (xc * (go 2))), (.long p55)])
                refine own_st (fun t k => XS.lload Xj54.here hx rfl (hb hby d15_162) rfl k) ?_
                show own_Go _ _ _ _ Tj54 (mkF m 164 _ [(.long v25), (.long (xc * (go 2))), (.long p55)])
                refine own_st (fun t k => XS.ladd Xj54.here hx rfl (hb hby d15_164) rfl k) ?_
                show own_Go _ _ _ _ Tj54 (mkF m 165 _ [(.long ((xc * (go 2)) + v25)), (.long p55)])
                obtain ⟨_, _, ⟨T59, L59, k59, n59⟩, -, X59, ⟨Lc59, hQ59, l59, y59, z59⟩, st59⟩ := Jvm.LawKit.callS Xj54 hx (y := ym5) hown (mvT hZ (own_w hw 52 rfl)) (mvT hZ (own_w hw 53 rfl)) (mvT hZ (own_w hw 17 rfl)) (mvT hZ (own_w hw 54 rfl)) (by decide) (backOf (W := 0) (rm17 l Z a0 hw [] p55 ((xc * (go 2)) + v25) h0 n0 Z0 ) hZ (own_w hw 54 rfl) (own_w hw 17 rfl) (by decide) (by decide)) (g := (mkF m 165 #[sJ xc, .second, sR oa, sR ea, sR sa, sI x5, sI v3, sI v6, sI v9, sI v12, sJ p18, .second, sJ v25, .second, sJ v32, .second, sJ v39, .second, sJ p55, .second] [(.long ((xc * (go 2)) + v25)), (.long p55)])) rfl (by rw [hml]; rfl) (argsL := [(.long p55), (.long ((xc * (go 2)) + v25))]) (rest := []) (lenOf own_pd__JJ_J rfl) rfl (by show 2 * 0 + _ ≤ _; exact Nat.le_of_eq rfl) (hb hby d15_165) (fun _ _ => ⟨rfl, ej54, (by decide : 0 + 0 ≤ _), (by decide : 0 + 0 ≤ _)⟩)
                dsimp only [Pt.U, Pt.locs, Pt.cells, Pt.slots] at X59 l59 y59 z59 st59 hQ59
                subst l59 y59 z59
                obtain ⟨rfl, NQ59, eq59⟩ := hQ59
                have N60 := Fr.app Nj54 NQ59
                refine own_st st59 ?_
                show own_Go _ _ _ _ T59 (mkF m 168 _ [(.long (own_max p55 ((xc * (go 2)) + v25)))])
                refine own_st (fun t k => XS.lstore X59.here hx rfl (hb hby d15_168) rfl (l' := #[sJ xc, .second, sR oa, sR ea, sR sa, sI x5, sI v3, sI v6, sI v9, sI v12, sJ p18, .second, sJ v25, .second, sJ v32, .second, sJ v39, .second, sJ (own_max p55 ((xc * (go 2)) + v25)), .second]) rfl k) ?_
                show own_Go _ _ _ _ T59 (mkF m 170 #[sJ xc, .second, sR oa, sR ea, sR sa, sI x5, sI v3, sI v6, sI v9, sI v12, sJ p18, .second, sJ v25, .second, sJ v32, .second, sJ v39, .second, sJ (own_max p55 ((xc * (go 2)) + v25)), .second] [])
                exact J62 T59 _ _ X59 eq59 N60 (by simp only [if_neg c56])
            by_cases c48 : v6 = (0 : Int32)
            · skip
              refine own_st (fun t k => XS.ifYes Xj46.here hx rfl (pc0 := 132) (pc' := 150) rfl (hb hby d15_132) rfl ((if0 _ _).trans (teq c48).1) (by decide) (by decide) k) ?_
              show own_Go _ _ _ _ Tj46 (mkF m 150 _ [])
              exact J54 Tj46 _ _ Xj46 ej46 Nj46 (by simp only [if_pos c48])
            · skip
              refine own_st (fun t k => XS.ifNo Xj46.here hx rfl (hb hby d15_132) rfl ((if0 _ _).trans (feq c48).1) k) ?_
              show own_Go _ _ _ _ Tj46 (mkF m 135 _ [])
              refine own_st (fun t k => XS.lload Xj46.here hx rfl (hb hby d15_135) rfl k) ?_
              show own_Go _ _ _ _ Tj46 (mkF m 137 _ [(.long p47)])
              refine own_st (fun t k => XS.lloadN Xj46.here hx rfl (hb hby d15_137) rfl k) ?_
              show own_Go _ _ _ _ Tj46 (mkF m 138 _ [(.long xc), (.long p47)])
              refine own_st (fun t k => XS.aloadN Xj46.here hx rfl (hb hby d15_138) rfl rfl k) ?_
              show own_Go _ _ _ _ Tj46 (mkF m 139 _ [(.ref oa), (.long xc), (.long p47)])
              refine own_st (fun t k => XS.iconst Xj46.here hx rfl (hb hby d15_139) k) ?_
              show own_Go _ _ _ _ Tj46 (mkF m 140 _ [(.int (1 : Int32)), (.ref oa), (.long xc), (.long p47)])
              obtain ⟨c50, Ar50, q50, S50, N50, H50⟩ := id F0
              refine own_st (fun t k => Xj46.laload hx (j := (1 : Int32)) (v := (.long (go 1))) (by rw [ej46]; exact Ar50.1) (State.isArrayOf_alike hZ.alike Ar50.2.1) Ar50.2.2 (inb_of S50 ⟨by decide, by decide⟩) (H50 _ (own_lt (inb_of S50 ⟨by decide, by decide⟩))) (g := (mkF m 140 #[sJ xc, .second, sR oa, sR ea, sR sa, sI x5, sI v3, sI v6, sI v9, sI v12, sJ p18, .second, sJ v25, .second, sJ v32, .second, sJ v39, .second, sJ p47, .second] [(.int (1 : Int32)), (.ref oa), (.long xc), (.long p47)])) rfl rfl (hb hby d15_140) _ k) ?_
              show own_Go _ _ _ _ Tj46 (mkF m 141 _ [(.long (go 1)), (.long xc), (.long p47)])
              refine own_st (fun t k => XS.lmul Xj46.here hx rfl (hb hby d15_141) rfl k) ?_
              show own_Go _ _ _ _ Tj46 (mkF m 142 _ [(.long (xc * (go 1))), (.long p47)])
              refine own_st (fun t k => XS.lload Xj46.here hx rfl (hb hby d15_142) rfl k) ?_
              show own_Go _ _ _ _ Tj46 (mkF m 144 _ [(.long v32), (.long (xc * (go 1))), (.long p47)])
              refine own_st (fun t k => XS.ladd Xj46.here hx rfl (hb hby d15_144) rfl k) ?_
              show own_Go _ _ _ _ Tj46 (mkF m 145 _ [(.long ((xc * (go 1)) + v32)), (.long p47)])
              obtain ⟨_, _, ⟨T51, L51, k51, n51⟩, -, X51, ⟨Lc51, hQ51, l51, y51, z51⟩, st51⟩ := Jvm.LawKit.callS Xj46 hx (y := ym5) hown (mvT hZ (own_w hw 52 rfl)) (mvT hZ (own_w hw 53 rfl)) (mvT hZ (own_w hw 17 rfl)) (mvT hZ (own_w hw 54 rfl)) (by decide) (backOf (W := 0) (rm17 l Z a0 hw [] p47 ((xc * (go 1)) + v32) h0 n0 Z0 ) hZ (own_w hw 54 rfl) (own_w hw 17 rfl) (by decide) (by decide)) (g := (mkF m 145 #[sJ xc, .second, sR oa, sR ea, sR sa, sI x5, sI v3, sI v6, sI v9, sI v12, sJ p18, .second, sJ v25, .second, sJ v32, .second, sJ v39, .second, sJ p47, .second] [(.long ((xc * (go 1)) + v32)), (.long p47)])) rfl (by rw [hml]; rfl) (argsL := [(.long p47), (.long ((xc * (go 1)) + v32))]) (rest := []) (lenOf own_pd__JJ_J rfl) rfl (by show 2 * 0 + _ ≤ _; exact Nat.le_of_eq rfl) (hb hby d15_145) (fun _ _ => ⟨rfl, ej46, (by decide : 0 + 0 ≤ _), (by decide : 0 + 0 ≤ _)⟩)
              dsimp only [Pt.U, Pt.locs, Pt.cells, Pt.slots] at X51 l51 y51 z51 st51 hQ51
              subst l51 y51 z51
              obtain ⟨rfl, NQ51, eq51⟩ := hQ51
              have N52 := Fr.app Nj46 NQ51
              refine own_st st51 ?_
              show own_Go _ _ _ _ T51 (mkF m 148 _ [(.long (own_max p47 ((xc * (go 1)) + v32)))])
              refine own_st (fun t k => XS.lstore X51.here hx rfl (hb hby d15_148) rfl (l' := #[sJ xc, .second, sR oa, sR ea, sR sa, sI x5, sI v3, sI v6, sI v9, sI v12, sJ p18, .second, sJ v25, .second, sJ v32, .second, sJ v39, .second, sJ (own_max p47 ((xc * (go 1)) + v32)), .second]) rfl k) ?_
              show own_Go _ _ _ _ T51 (mkF m 150 #[sJ xc, .second, sR oa, sR ea, sR sa, sI x5, sI v3, sI v6, sI v9, sI v12, sJ p18, .second, sJ v25, .second, sJ v32, .second, sJ v39, .second, sJ (own_max p47 ((xc * (go 1)) + v32)), .second] [])
              exact J54 T51 _ _ X51 eq51 N52 (by simp only [if_neg c48])
          by_cases c40 : v3 = (0 : Int32)
          · skip
            refine own_st (fun t k => XS.ifYes Xj37.here hx rfl (pc0 := 112) (pc' := 130) rfl (hb hby d15_112) rfl ((if0 _ _).trans (teq c40).1) (by decide) (by decide) k) ?_
            show own_Go _ _ _ _ Tj37 (mkF m 130 _ [])
            exact J46 Tj37 _ _ Xj37 ej37 Nj37 (by simp only [if_pos c40])
          · skip
            refine own_st (fun t k => XS.ifNo Xj37.here hx rfl (hb hby d15_112) rfl ((if0 _ _).trans (feq c40).1) k) ?_
            show own_Go _ _ _ _ Tj37 (mkF m 115 _ [])
            refine own_st (fun t k => XS.lload Xj37.here hx rfl (hb hby d15_115) rfl k) ?_
            show own_Go _ _ _ _ Tj37 (mkF m 117 _ [(.long (-4611686018427387904 : Int64))])
            refine own_st (fun t k => XS.lloadN Xj37.here hx rfl (hb hby d15_117) rfl k) ?_
            show own_Go _ _ _ _ Tj37 (mkF m 118 _ [(.long xc), (.long (-4611686018427387904 : Int64))])
            refine own_st (fun t k => XS.aloadN Xj37.here hx rfl (hb hby d15_118) rfl rfl k) ?_
            show own_Go _ _ _ _ Tj37 (mkF m 119 _ [(.ref oa), (.long xc), (.long (-4611686018427387904 : Int64))])
            refine own_st (fun t k => XS.iconst Xj37.here hx rfl (hb hby d15_119) k) ?_
            show own_Go _ _ _ _ Tj37 (mkF m 120 _ [(.int (0 : Int32)), (.ref oa), (.long xc), (.long (-4611686018427387904 : Int64))])
            obtain ⟨c42, Ar42, q42, S42, N42, H42⟩ := id F0
            refine own_st (fun t k => Xj37.laload hx (j := (0 : Int32)) (v := (.long (go 0))) (by rw [ej37]; exact Ar42.1) (State.isArrayOf_alike hZ.alike Ar42.2.1) Ar42.2.2 (inb_of S42 ⟨by decide, by decide⟩) (H42 _ (own_lt (inb_of S42 ⟨by decide, by decide⟩))) (g := (mkF m 120 #[sJ xc, .second, sR oa, sR ea, sR sa, sI x5, sI v3, sI v6, sI v9, sI v12, sJ p18, .second, sJ v25, .second, sJ v32, .second, sJ v39, .second, sJ (-4611686018427387904 : Int64), .second] [(.int (0 : Int32)), (.ref oa), (.long xc), (.long (-4611686018427387904 : Int64))])) rfl rfl (hb hby d15_120) _ k) ?_
            show own_Go _ _ _ _ Tj37 (mkF m 121 _ [(.long (go 0)), (.long xc), (.long (-4611686018427387904 : Int64))])
            refine own_st (fun t k => XS.lmul Xj37.here hx rfl (hb hby d15_121) rfl k) ?_
            show own_Go _ _ _ _ Tj37 (mkF m 122 _ [(.long (xc * (go 0))), (.long (-4611686018427387904 : Int64))])
            refine own_st (fun t k => XS.lload Xj37.here hx rfl (hb hby d15_122) rfl k) ?_
            show own_Go _ _ _ _ Tj37 (mkF m 124 _ [(.long v39), (.long (xc * (go 0))), (.long (-4611686018427387904 : Int64))])
            refine own_st (fun t k => XS.ladd Xj37.here hx rfl (hb hby d15_124) rfl k) ?_
            show own_Go _ _ _ _ Tj37 (mkF m 125 _ [(.long ((xc * (go 0)) + v39)), (.long (-4611686018427387904 : Int64))])
            obtain ⟨_, _, ⟨T43, L43, k43, n43⟩, -, X43, ⟨Lc43, hQ43, l43, y43, z43⟩, st43⟩ := Jvm.LawKit.callS Xj37 hx (y := ym5) hown (mvT hZ (own_w hw 52 rfl)) (mvT hZ (own_w hw 53 rfl)) (mvT hZ (own_w hw 17 rfl)) (mvT hZ (own_w hw 54 rfl)) (by decide) (backOf (W := 0) (rm17 l Z a0 hw [] (-4611686018427387904 : Int64) ((xc * (go 0)) + v39) h0 n0 Z0 ) hZ (own_w hw 54 rfl) (own_w hw 17 rfl) (by decide) (by decide)) (g := (mkF m 125 #[sJ xc, .second, sR oa, sR ea, sR sa, sI x5, sI v3, sI v6, sI v9, sI v12, sJ p18, .second, sJ v25, .second, sJ v32, .second, sJ v39, .second, sJ (-4611686018427387904 : Int64), .second] [(.long ((xc * (go 0)) + v39)), (.long (-4611686018427387904 : Int64))])) rfl (by rw [hml]; rfl) (argsL := [(.long (-4611686018427387904 : Int64)), (.long ((xc * (go 0)) + v39))]) (rest := []) (lenOf own_pd__JJ_J rfl) rfl (by show 2 * 0 + _ ≤ _; exact Nat.le_of_eq rfl) (hb hby d15_125) (fun _ _ => ⟨rfl, ej37, (by decide : 0 + 0 ≤ _), (by decide : 0 + 0 ≤ _)⟩)
            dsimp only [Pt.U, Pt.locs, Pt.cells, Pt.slots] at X43 l43 y43 z43 st43 hQ43
            subst l43 y43 z43
            obtain ⟨rfl, NQ43, eq43⟩ := hQ43
            have N44 := Fr.app Nj37 NQ43
            refine own_st st43 ?_
            show own_Go _ _ _ _ T43 (mkF m 128 _ [(.long (own_max (-4611686018427387904 : Int64) ((xc * (go 0)) + v39)))])
            refine own_st (fun t k => XS.lstore X43.here hx rfl (hb hby d15_128) rfl (l' := #[sJ xc, .second, sR oa, sR ea, sR sa, sI x5, sI v3, sI v6, sI v9, sI v12, sJ p18, .second, sJ v25, .second, sJ v32, .second, sJ v39, .second, sJ (own_max (-4611686018427387904 : Int64) ((xc * (go 0)) + v39)), .second]) rfl k) ?_
            show own_Go _ _ _ _ T43 (mkF m 130 #[sJ xc, .second, sR oa, sR ea, sR sa, sI x5, sI v3, sI v6, sI v9, sI v12, sJ p18, .second, sJ v25, .second, sJ v32, .second, sJ v39, .second, sJ (own_max (-4611686018427387904 : Int64) ((xc * (go 0)) + v39)), .second] [])
            exact J46 T43 _ _ X43 eq43 N44 (by simp only [if_neg c40])
        by_cases c33 : v3 = (0 : Int32)
        · skip
          refine own_st (fun t k => XS.ifYes Xj30.here hx rfl (pc0 := 92) (pc' := 101) rfl (hb hby d15_92) rfl ((if0 _ _).trans (teq c33).1) (by decide) (by decide) k) ?_
          show own_Go _ _ _ _ Tj30 (mkF m 101 _ [(.long v32)])
          refine own_st (fun t k => XS.lconst Xj30.here hx rfl (hb hby d15_101) k) ?_
          show own_Go _ _ _ _ Tj30 (mkF m 102 _ [(.long (0 : Int64)), (.long v32)])
          exact J37 Tj30 _ _ Xj30 ej30 Nj30 (by simp only [if_pos c33])
        · skip
          refine own_st (fun t k => XS.ifNo Xj30.here hx rfl (hb hby d15_92) rfl ((if0 _ _).trans (feq c33).1) k) ?_
          show own_Go _ _ _ _ Tj30 (mkF m 95 _ [(.long v32)])
          refine own_st (fun t k => XS.aloadN Xj30.here hx rfl (hb hby d15_95) rfl rfl k) ?_
          show own_Go _ _ _ _ Tj30 (mkF m 96 _ [(.ref ea), (.long v32)])
          refine own_st (fun t k => XS.iconst Xj30.here hx rfl (hb hby d15_96) k) ?_
          show own_Go _ _ _ _ Tj30 (mkF m 97 _ [(.int (0 : Int32)), (.ref ea), (.long v32)])
          obtain ⟨c35, Ar35, q35, S35, N35, H35⟩ := id F1
          refine own_st (fun t k => Xj30.laload hx (j := (0 : Int32)) (v := (.long (ge 0))) (by rw [ej30]; exact Ar35.1) (State.isArrayOf_alike hZ.alike Ar35.2.1) Ar35.2.2 (inb_of S35 ⟨by decide, by decide⟩) (H35 _ (own_lt (inb_of S35 ⟨by decide, by decide⟩))) (g := (mkF m 97 #[sJ xc, .second, sR oa, sR ea, sR sa, sI x5, sI v3, sI v6, sI v9, sI v12, sJ p18, .second, sJ v25, .second, sJ v32, .second, .unset, .unset, .unset, .unset] [(.int (0 : Int32)), (.ref ea), (.long v32)])) rfl rfl (hb hby d15_97) _ k) ?_
          show own_Go _ _ _ _ Tj30 (mkF m 98 _ [(.long (ge 0)), (.long v32)])
          refine own_st (fun t k => XS.goto Xj30.here hx rfl (pc0 := 98) (pc' := 102) rfl (hb hby d15_98) (by decide) (by decide) k) ?_
          show own_Go _ _ _ _ Tj30 (mkF m 102 _ [(.long (ge 0)), (.long v32)])
          exact J37 Tj30 _ _ Xj30 ej30 Nj30 (by simp only [if_neg c33])
      by_cases c26 : v6 = (0 : Int32)
      · skip
        refine own_st (fun t k => XS.ifYes Xj23.here hx rfl (pc0 := 75) (pc' := 84) rfl (hb hby d15_75) rfl ((if0 _ _).trans (teq c26).1) (by decide) (by decide) k) ?_
        show own_Go _ _ _ _ Tj23 (mkF m 84 _ [(.long v25)])
        refine own_st (fun t k => XS.lconst Xj23.here hx rfl (hb hby d15_84) k) ?_
        show own_Go _ _ _ _ Tj23 (mkF m 85 _ [(.long (0 : Int64)), (.long v25)])
        exact J30 Tj23 _ _ Xj23 ej23 Nj23 (by simp only [if_pos c26])
      · skip
        refine own_st (fun t k => XS.ifNo Xj23.here hx rfl (hb hby d15_75) rfl ((if0 _ _).trans (feq c26).1) k) ?_
        show own_Go _ _ _ _ Tj23 (mkF m 78 _ [(.long v25)])
        refine own_st (fun t k => XS.aloadN Xj23.here hx rfl (hb hby d15_78) rfl rfl k) ?_
        show own_Go _ _ _ _ Tj23 (mkF m 79 _ [(.ref ea), (.long v25)])
        refine own_st (fun t k => XS.iconst Xj23.here hx rfl (hb hby d15_79) k) ?_
        show own_Go _ _ _ _ Tj23 (mkF m 80 _ [(.int (1 : Int32)), (.ref ea), (.long v25)])
        obtain ⟨c28, Ar28, q28, S28, N28, H28⟩ := id F1
        refine own_st (fun t k => Xj23.laload hx (j := (1 : Int32)) (v := (.long (ge 1))) (by rw [ej23]; exact Ar28.1) (State.isArrayOf_alike hZ.alike Ar28.2.1) Ar28.2.2 (inb_of S28 ⟨by decide, by decide⟩) (H28 _ (own_lt (inb_of S28 ⟨by decide, by decide⟩))) (g := (mkF m 80 #[sJ xc, .second, sR oa, sR ea, sR sa, sI x5, sI v3, sI v6, sI v9, sI v12, sJ p18, .second, sJ v25, .second, .unset, .unset, .unset, .unset, .unset, .unset] [(.int (1 : Int32)), (.ref ea), (.long v25)])) rfl rfl (hb hby d15_80) _ k) ?_
        show own_Go _ _ _ _ Tj23 (mkF m 81 _ [(.long (ge 1)), (.long v25)])
        refine own_st (fun t k => XS.goto Xj23.here hx rfl (pc0 := 81) (pc' := 85) rfl (hb hby d15_81) (by decide) (by decide) k) ?_
        show own_Go _ _ _ _ Tj23 (mkF m 85 _ [(.long (ge 1)), (.long v25)])
        exact J30 Tj23 _ _ Xj23 ej23 Nj23 (by simp only [if_neg c26])
    by_cases c19 : v9 = (0 : Int32)
    · skip
      refine own_st (fun t k => XS.ifYes Xj17.here hx rfl (pc0 := 58) (pc' := 67) rfl (hb hby d15_58) rfl ((if0 _ _).trans (teq c19).1) (by decide) (by decide) k) ?_
      show own_Go _ _ _ _ Tj17 (mkF m 67 _ [(.long p18)])
      refine own_st (fun t k => XS.lconst Xj17.here hx rfl (hb hby d15_67) k) ?_
      show own_Go _ _ _ _ Tj17 (mkF m 68 _ [(.long (0 : Int64)), (.long p18)])
      exact J23 Tj17 _ _ Xj17 ej17 Nj17 (by simp only [if_pos c19])
    · skip
      refine own_st (fun t k => XS.ifNo Xj17.here hx rfl (hb hby d15_58) rfl ((if0 _ _).trans (feq c19).1) k) ?_
      show own_Go _ _ _ _ Tj17 (mkF m 61 _ [(.long p18)])
      refine own_st (fun t k => XS.aloadN Xj17.here hx rfl (hb hby d15_61) rfl rfl k) ?_
      show own_Go _ _ _ _ Tj17 (mkF m 62 _ [(.ref ea), (.long p18)])
      refine own_st (fun t k => XS.iconst Xj17.here hx rfl (hb hby d15_62) k) ?_
      show own_Go _ _ _ _ Tj17 (mkF m 63 _ [(.int (2 : Int32)), (.ref ea), (.long p18)])
      obtain ⟨c21, Ar21, q21, S21, N21, H21⟩ := id F1
      refine own_st (fun t k => Xj17.laload hx (j := (2 : Int32)) (v := (.long (ge 2))) (by rw [ej17]; exact Ar21.1) (State.isArrayOf_alike hZ.alike Ar21.2.1) Ar21.2.2 (inb_of S21 ⟨by decide, by decide⟩) (H21 _ (own_lt (inb_of S21 ⟨by decide, by decide⟩))) (g := (mkF m 63 #[sJ xc, .second, sR oa, sR ea, sR sa, sI x5, sI v3, sI v6, sI v9, sI v12, sJ p18, .second, .unset, .unset, .unset, .unset, .unset, .unset, .unset, .unset] [(.int (2 : Int32)), (.ref ea), (.long p18)])) rfl rfl (hb hby d15_63) _ k) ?_
      show own_Go _ _ _ _ Tj17 (mkF m 64 _ [(.long (ge 2)), (.long p18)])
      refine own_st (fun t k => XS.goto Xj17.here hx rfl (pc0 := 64) (pc' := 68) rfl (hb hby d15_64) (by decide) (by decide) k) ?_
      show own_Go _ _ _ _ Tj17 (mkF m 68 _ [(.long (ge 2)), (.long p18)])
      exact J23 Tj17 _ _ Xj17 ej17 Nj17 (by simp only [if_neg c19])
  by_cases c13 : v12 = (0 : Int32)
  · skip
    refine own_st (fun t k => XS.ifYes X10.here hx rfl (pc0 := 42) (pc' := 51) rfl (hb hby d15_42) rfl ((if0 _ _).trans (teq c13).1) (by decide) (by decide) k) ?_
    show own_Go _ _ _ _ T10 (mkF m 51 _ [])
    refine own_st (fun t k => XS.lconst X10.here hx rfl (hb hby d15_51) k) ?_
    show own_Go _ _ _ _ T10 (mkF m 52 _ [(.long (0 : Int64))])
    exact J17 T10 _ _ X10 eq10 N11 (by simp only [if_pos c13])
  · skip
    refine own_st (fun t k => XS.ifNo X10.here hx rfl (hb hby d15_42) rfl ((if0 _ _).trans (feq c13).1) k) ?_
    show own_Go _ _ _ _ T10 (mkF m 45 _ [])
    refine own_st (fun t k => XS.aloadN X10.here hx rfl (hb hby d15_45) rfl rfl k) ?_
    show own_Go _ _ _ _ T10 (mkF m 46 _ [(.ref ea)])
    refine own_st (fun t k => XS.iconst X10.here hx rfl (hb hby d15_46) k) ?_
    show own_Go _ _ _ _ T10 (mkF m 47 _ [(.int (3 : Int32)), (.ref ea)])
    obtain ⟨c15, Ar15, q15, S15, N15, H15⟩ := id F1
    refine own_st (fun t k => X10.laload hx (j := (3 : Int32)) (v := (.long (ge 3))) (by rw [eq10]; exact Ar15.1) (State.isArrayOf_alike hZ.alike Ar15.2.1) Ar15.2.2 (inb_of S15 ⟨by decide, by decide⟩) (H15 _ (own_lt (inb_of S15 ⟨by decide, by decide⟩))) (g := (mkF m 47 #[sJ xc, .second, sR oa, sR ea, sR sa, sI x5, sI v3, sI v6, sI v9, sI v12, .unset, .unset, .unset, .unset, .unset, .unset, .unset, .unset, .unset, .unset] [(.int (3 : Int32)), (.ref ea)])) rfl rfl (hb hby d15_47) _ k) ?_
    show own_Go _ _ _ _ T10 (mkF m 48 _ [(.long (ge 3))])
    refine own_st (fun t k => XS.goto X10.here hx rfl (pc0 := 48) (pc' := 52) rfl (hb hby d15_48) (by decide) (by decide) k) ?_
    show own_Go _ _ _ _ T10 (mkF m 52 _ [(.long (ge 3))])
    exact J17 T10 _ _ X10 eq10 N11 (by simp only [if_neg c13])
def own_wg0 (x0 : Int64) (xc : Int64) (go : Nat → Int64) (ge : Nat → Int64) (gs : Nat → Int32) : Int64 := (if (gs 0) = (1 : Int32) then (own_max x0 (own_env xc go ge gs (0 : Int32))) else x0)
theorem d16_0 : decode qc16 0 = .ok (.aload 6, 2) := by decide +kernel
theorem d16_2 : decode qc16 2 = .ok (.iload 7, 2) := by decide +kernel
theorem d16_4 : decode qc16 4 = .ok (.iaload, 1) := by decide +kernel
theorem d16_5 : decode qc16 5 = .ok (.iconst 1, 1) := by decide +kernel
theorem d16_6 : decode qc16 6 = .ok (.if_icmp .eq 5, 3) := by decide +kernel
theorem d16_9 : decode qc16 9 = .ok (.lload_n 0, 1) := by decide +kernel
theorem d16_10 : decode qc16 10 = .ok (.lreturn, 1) := by decide +kernel
theorem d16_11 : decode qc16 11 = .ok (.lload_n 0, 1) := by decide +kernel
theorem d16_12 : decode qc16 12 = .ok (.lload_n 2, 1) := by decide +kernel
theorem d16_13 : decode qc16 13 = .ok (.aload 4, 2) := by decide +kernel
theorem d16_15 : decode qc16 15 = .ok (.aload 5, 2) := by decide +kernel
theorem d16_17 : decode qc16 17 = .ok (.aload 6, 2) := by decide +kernel
theorem d16_19 : decode qc16 19 = .ok (.iload 7, 2) := by decide +kernel
theorem d16_21 : decode qc16 21 = .ok (.invokestatic 24, 3) := by decide +kernel
theorem d16_24 : decode qc16 24 = .ok (.invokestatic 42, 3) := by decide +kernel
theorem d16_27 : decode qc16 27 = .ok (.lreturn, 1) := by decide +kernel
theorem own_pn31 : plainName "com/example/tidemark/tidemark/core/ThetaLambdaTreeResponsibleGrayPinLaw" = true := by first | (simp [plainName, overriddenIn]; done) | decide +kernel
theorem own_ef31 (m : MethodId) (x0 : Int64) (xc : Int64) (oa : Addr) (ea : Addr) (sa : Addr) : entryFrame m #[(.long x0), (.long xc), (.ref oa), (.ref ea), (.ref sa), (.int (0 : Int32))] 8 = mkF m 0 #[sJ x0, .second, sJ xc, .second, sR oa, sR ea, sR sa, sI (0 : Int32)] [] := by first | (simp [entryFrame, mkF, argsToLocals, Value.category]; done) | rfl
def Q31 (Z : State) (x0 : Int64) (xc : Int64) (oa : Addr) (ea : Addr) (sa : Addr) (ko : ClassId) (go : Nat → Int64) (ke : ClassId) (ge : Nat → Int64) (ks : ClassId) (gs : Nat → Int32) (h0 : Heap) (n0 : Nat) (v : Option Value) (h : Heap) (L : List Loc) : Prop := v = some (.long (own_wg0 x0 xc go ge gs)) ∧ Fr n0 L ∧ h = h0
set_option maxRecDepth 65536 in
set_option maxHeartbeats 4000000 in
theorem rm31 (l : Launch) (Z : State) (a0 : Array Value) (hw : ∀ d ∈ tables_1, d.before a0 Z = true) (ws : List Jvm.Cond) (x0 : Int64) (xc : Int64) (oa : Addr) (ea : Addr) (sa : Addr) (ko : ClassId) (go : Nat → Int64) (ke : ClassId) (ge : Nat → Int64) (ks : ClassId) (gs : Nat → Int32) (h0 : Heap) (n0 : Nat) (Z0 : n0 ≤ h0.size) (F0 : own_AJ Z h0 oa ko (4 : Int32) go) (F1 : own_AJ Z h0 ea ke (4 : Int32) ge) (F2 : own_AI Z h0 sa ks (4 : Int32) gs) :
    MetFree l ym16 (head1 (Jvm.Cond.code ym16 method_4_code 8 (some .long) :: ws) (⟨2, 0, 0, 48⟩ : Room)) (fun aW U => aW = #[(.long x0), (.long xc), (.ref oa), (.ref ea), (.ref sa), (.int (0 : Int32))] ∧ Z.Warmed39 U.vm ∧ U.heap = h0) (fun _ _ _ _ _ => True) (fun _ U o U' => ∃ v L, o = .returned v ∧ Q31 Z x0 xc oa ea sa ko go ke ge ks gs h0 n0 v U'.heap L ∧ FrameEnd U o U' L (⟨2, 0, 0, 48⟩ : Room).cells (⟨2, 0, 0, 48⟩ : Room).slots) := by
  refine MetFree.of_bodySF (plainFor_of_name own_pn31) hisR ?_
  intro p e s m args below meth c s₁ Bd hml0 hP hK
  obtain ⟨rfl, hZ, hh⟩ := hP
  have hx := Bd.exec
  have hby := Bd.bytes
  have hml : c.maxLocals = 8 := hml0
  have hown : s.vm.findClass "com/example/tidemark/tidemark/core/ThetaLambdaTreeResponsibleGrayPinLaw" = some m.cls := findClass_of_methodNamed Bd.named
  have hnm := (name_of_methodNamed Bd.named Bd.method).1
  have X0 : Stand p l e (⟨2, 0, 0, 48⟩ : Room) s m #[(.long x0), (.long xc), (.ref oa), (.ref ea), (.ref sa), (.int (0 : Int32))] below meth c s₁ [] 0 0 := Stand.of_body Bd
  have e0 : s₁.heap = h0 := by rw [← hh, Bd.state]; rfl
  have N0 := Fr.nil n0
  obtain ⟨Pq, hPq⟩ : ∃ P, P = own_P s below (fun v h L => Q31 Z x0 xc oa ea sa ko go ke ge ks gs h0 n0 v h L) (⟨2, 0, 0, 48⟩ : Room).cells (⟨2, 0, 0, 48⟩ : Room).slots := ⟨_, rfl⟩
  suffices hgo : own_Go p.tables e below Pq s₁ (mkF m 0 #[sJ x0, .second, sJ xc, .second, sR oa, sR ea, sR sa, sI (0 : Int32)] []) by
    subst hPq
    obtain ⟨t, k1, k2, o, k3, k4⟩ := hgo
    exact ⟨t, o, castTop (own_ef31 m x0 xc oa ea sa) k1, k2, k3, k4⟩
  show own_Go _ _ _ _ s₁ (mkF m 0 #[sJ x0, .second, sJ xc, .second, sR oa, sR ea, sR sa, sI (0 : Int32)] [])
  refine own_st (fun t k => XS.aload X0.here hx rfl (hb hby d16_0) rfl rfl k) ?_
  show own_Go _ _ _ _ s₁ (mkF m 2 _ [(.ref sa)])
  refine own_st (fun t k => XS.iload X0.here hx rfl (hb hby d16_2) rfl k) ?_
  show own_Go _ _ _ _ s₁ (mkF m 4 _ [(.int (0 : Int32)), (.ref sa)])
  obtain ⟨c1, Ar1, q1, S1, N1, H1⟩ := id F2
  refine own_st (fun t k => X0.iaload hx (j := (0 : Int32)) (v := (.int (gs 0))) (by rw [e0]; exact Ar1.1) (State.isArrayOf_alike hZ.alike Ar1.2.1) Ar1.2.2 (inb_of S1 ⟨by decide, by decide⟩) (H1 _ (own_lt (inb_of S1 ⟨by decide, by decide⟩))) (g := (mkF m 4 #[sJ x0, .second, sJ xc, .second, sR oa, sR ea, sR sa, sI (0 : Int32)] [(.int (0 : Int32)), (.ref sa)])) rfl rfl (hb hby d16_4) _ k) ?_
  show own_Go _ _ _ _ s₁ (mkF m 5 _ [(.int (gs 0))])
  refine own_st (fun t k => XS.iconst X0.here hx rfl (hb hby d16_5) k) ?_
  show own_Go _ _ _ _ s₁ (mkF m 6 _ [(.int (1 : Int32)), (.int (gs 0))])
  by_cases c2 : (gs 0) = (1 : Int32)
  · skip
    refine own_st (fun t k => XS.icmpYes X0.here hx rfl (pc0 := 6) (pc' := 11) rfl (hb hby d16_6) rfl (teq c2).1 (by decide) (by decide) k) ?_
    show own_Go _ _ _ _ s₁ (mkF m 11 _ [])
    refine own_st (fun t k => XS.lloadN X0.here hx rfl (hb hby d16_11) rfl k) ?_
    show own_Go _ _ _ _ s₁ (mkF m 12 _ [(.long x0)])
    refine own_st (fun t k => XS.lloadN X0.here hx rfl (hb hby d16_12) rfl k) ?_
    show own_Go _ _ _ _ s₁ (mkF m 13 _ [(.long xc), (.long x0)])
    refine own_st (fun t k => XS.aload X0.here hx rfl (hb hby d16_13) rfl rfl k) ?_
    show own_Go _ _ _ _ s₁ (mkF m 15 _ [(.ref oa), (.long xc), (.long x0)])
    refine own_st (fun t k => XS.aload X0.here hx rfl (hb hby d16_15) rfl rfl k) ?_
    show own_Go _ _ _ _ s₁ (mkF m 17 _ [(.ref ea), (.ref oa), (.long xc), (.long x0)])
    refine own_st (fun t k => XS.aload X0.here hx rfl (hb hby d16_17) rfl rfl k) ?_
    show own_Go _ _ _ _ s₁ (mkF m 19 _ [(.ref sa), (.ref ea), (.ref oa), (.long xc), (.long x0)])
    refine own_st (fun t k => XS.iload X0.here hx rfl (hb hby d16_19) rfl k) ?_
    show own_Go _ _ _ _ s₁ (mkF m 21 _ [(.int (0 : Int32)), (.ref sa), (.ref ea), (.ref oa), (.long xc), (.long x0)])
    obtain ⟨_, _, ⟨T3, L3, k3, n3⟩, -, X3, ⟨Lc3, hQ3, l3, y3, z3⟩, st3⟩ := Jvm.LawKit.callS X0 hx (y := ym15) hown (mvT hZ (own_w hw 45 rfl)) (mvT hZ (own_w hw 46 rfl)) (mvT hZ (own_w hw 43 rfl)) (mvT hZ (own_w hw 47 rfl)) (by decide) (backOf (W := 2) (rm30 l Z a0 hw [] xc oa ea sa (0 : Int32) ko go ke ge ks gs h0 n0 Z0 F0 F1 F2) hZ (own_w hw 47 rfl) (own_w hw 43 rfl) (by decide) (by decide)) (g := (mkF m 21 #[sJ x0, .second, sJ xc, .second, sR oa, sR ea, sR sa, sI (0 : Int32)] [(.int (0 : Int32)), (.ref sa), (.ref ea), (.ref oa), (.long xc), (.long x0)])) rfl (by rw [hml]; rfl) (argsL := [(.long xc), (.ref oa), (.ref ea), (.ref sa), (.int (0 : Int32))]) (rest := [(.long x0)]) (lenOf own_pd__J_J_J_II_J rfl) rfl (by show 2 * 0 + _ ≤ _; exact Nat.le_of_eq rfl) (hb hby d16_21) (fun _ _ => ⟨rfl, e0, (by decide : 0 + 0 ≤ _), (by decide : 0 + 0 ≤ _)⟩)
    dsimp only [Pt.U, Pt.locs, Pt.cells, Pt.slots] at X3 l3 y3 z3 st3 hQ3
    subst l3 y3 z3
    obtain ⟨rfl, NQ3, eq3⟩ := hQ3
    have N4 := Fr.app N0 NQ3
    refine own_st st3 ?_
    show own_Go _ _ _ _ T3 (mkF m 24 _ [(.long (own_env xc go ge gs (0 : Int32))), (.long x0)])
    obtain ⟨_, _, ⟨T5, L5, k5, n5⟩, -, X5, ⟨Lc5, hQ5, l5, y5, z5⟩, st5⟩ := Jvm.LawKit.callS X3 hx (y := ym5) hown (mvT hZ (own_w hw 52 rfl)) (mvT hZ (own_w hw 53 rfl)) (mvT hZ (own_w hw 17 rfl)) (mvT hZ (own_w hw 54 rfl)) (by decide) (backOf (W := 0) (rm17 l Z a0 hw [] x0 (own_env xc go ge gs (0 : Int32)) h0 n0 Z0 ) hZ (own_w hw 54 rfl) (own_w hw 17 rfl) (by decide) (by decide)) (g := (mkF m 24 #[sJ x0, .second, sJ xc, .second, sR oa, sR ea, sR sa, sI (0 : Int32)] [(.long (own_env xc go ge gs (0 : Int32))), (.long x0)])) rfl (by rw [hml]; rfl) (argsL := [(.long x0), (.long (own_env xc go ge gs (0 : Int32)))]) (rest := []) (lenOf own_pd__JJ_J rfl) rfl (by show 2 * 0 + _ ≤ _; exact Nat.le_of_eq rfl) (hb hby d16_24) (fun _ _ => ⟨rfl, eq3, (by decide : 0 + 0 ≤ _), (by decide : 0 + 0 ≤ _)⟩)
    dsimp only [Pt.U, Pt.locs, Pt.cells, Pt.slots] at X5 l5 y5 z5 st5 hQ5
    subst l5 y5 z5
    obtain ⟨rfl, NQ5, eq5⟩ := hQ5
    have N6 := Fr.app N4 NQ5
    refine own_st st5 ?_
    show own_Go _ _ _ _ T5 (mkF m 27 _ [(.long (own_max x0 (own_env xc go ge gs (0 : Int32))))])
    subst hPq
    refine own_out X5 (v := some (.long (own_max x0 (own_env xc go ge gs (0 : Int32))))) (fun h => by rw [Bd.returns] at h; cases h) Bd.notSynchronized (own_retJ X5 hx Bd.returns (hb hby d16_27)) (by decide) (by decide) ?_
    show Q31 Z x0 xc oa ea sa ko go ke ge ks gs h0 n0 _ T5.heap _
    rw [eq5]
    exact ⟨by first | (simp only [own_wg0, if_pos c2]; done) | (subst_vars; simp only [own_wg0, if_pos c2]; done) | (subst_vars; simp [own_wg0]; done), N6, rfl⟩
  · skip
    refine own_st (fun t k => XS.icmpNo X0.here hx rfl (hb hby d16_6) rfl (feq c2).1 k) ?_
    show own_Go _ _ _ _ s₁ (mkF m 9 _ [])
    refine own_st (fun t k => XS.lloadN X0.here hx rfl (hb hby d16_9) rfl k) ?_
    show own_Go _ _ _ _ s₁ (mkF m 10 _ [(.long x0)])
    subst hPq
    refine own_out X0 (v := some (.long x0)) (fun h => by rw [Bd.returns] at h; cases h) Bd.notSynchronized (own_retJ X0 hx Bd.returns (hb hby d16_10)) (by decide) (by decide) ?_
    show Q31 Z x0 xc oa ea sa ko go ke ge ks gs h0 n0 _ s₁.heap _
    rw [e0]
    exact ⟨by first | (simp only [own_wg0, if_neg c2]; done) | (subst_vars; simp only [own_wg0, if_neg c2]; done) | (subst_vars; simp [own_wg0]; done), N0, rfl⟩
def own_wg1 (x0 : Int64) (xc : Int64) (go : Nat → Int64) (ge : Nat → Int64) (gs : Nat → Int32) : Int64 := (if (gs 1) = (1 : Int32) then (own_max x0 (own_env xc go ge gs (1 : Int32))) else x0)
theorem own_pn32 : plainName "com/example/tidemark/tidemark/core/ThetaLambdaTreeResponsibleGrayPinLaw" = true := by first | (simp [plainName, overriddenIn]; done) | decide +kernel
theorem own_ef32 (m : MethodId) (x0 : Int64) (xc : Int64) (oa : Addr) (ea : Addr) (sa : Addr) : entryFrame m #[(.long x0), (.long xc), (.ref oa), (.ref ea), (.ref sa), (.int (1 : Int32))] 8 = mkF m 0 #[sJ x0, .second, sJ xc, .second, sR oa, sR ea, sR sa, sI (1 : Int32)] [] := by first | (simp [entryFrame, mkF, argsToLocals, Value.category]; done) | rfl
def Q32 (Z : State) (x0 : Int64) (xc : Int64) (oa : Addr) (ea : Addr) (sa : Addr) (ko : ClassId) (go : Nat → Int64) (ke : ClassId) (ge : Nat → Int64) (ks : ClassId) (gs : Nat → Int32) (h0 : Heap) (n0 : Nat) (v : Option Value) (h : Heap) (L : List Loc) : Prop := v = some (.long (own_wg1 x0 xc go ge gs)) ∧ Fr n0 L ∧ h = h0
set_option maxRecDepth 65536 in
set_option maxHeartbeats 4000000 in
theorem rm32 (l : Launch) (Z : State) (a0 : Array Value) (hw : ∀ d ∈ tables_1, d.before a0 Z = true) (ws : List Jvm.Cond) (x0 : Int64) (xc : Int64) (oa : Addr) (ea : Addr) (sa : Addr) (ko : ClassId) (go : Nat → Int64) (ke : ClassId) (ge : Nat → Int64) (ks : ClassId) (gs : Nat → Int32) (h0 : Heap) (n0 : Nat) (Z0 : n0 ≤ h0.size) (F0 : own_AJ Z h0 oa ko (4 : Int32) go) (F1 : own_AJ Z h0 ea ke (4 : Int32) ge) (F2 : own_AI Z h0 sa ks (4 : Int32) gs) :
    MetFree l ym16 (head1 (Jvm.Cond.code ym16 method_4_code 8 (some .long) :: ws) (⟨2, 0, 0, 48⟩ : Room)) (fun aW U => aW = #[(.long x0), (.long xc), (.ref oa), (.ref ea), (.ref sa), (.int (1 : Int32))] ∧ Z.Warmed39 U.vm ∧ U.heap = h0) (fun _ _ _ _ _ => True) (fun _ U o U' => ∃ v L, o = .returned v ∧ Q32 Z x0 xc oa ea sa ko go ke ge ks gs h0 n0 v U'.heap L ∧ FrameEnd U o U' L (⟨2, 0, 0, 48⟩ : Room).cells (⟨2, 0, 0, 48⟩ : Room).slots) := by
  refine MetFree.of_bodySF (plainFor_of_name own_pn32) hisR ?_
  intro p e s m args below meth c s₁ Bd hml0 hP hK
  obtain ⟨rfl, hZ, hh⟩ := hP
  have hx := Bd.exec
  have hby := Bd.bytes
  have hml : c.maxLocals = 8 := hml0
  have hown : s.vm.findClass "com/example/tidemark/tidemark/core/ThetaLambdaTreeResponsibleGrayPinLaw" = some m.cls := findClass_of_methodNamed Bd.named
  have hnm := (name_of_methodNamed Bd.named Bd.method).1
  have X0 : Stand p l e (⟨2, 0, 0, 48⟩ : Room) s m #[(.long x0), (.long xc), (.ref oa), (.ref ea), (.ref sa), (.int (1 : Int32))] below meth c s₁ [] 0 0 := Stand.of_body Bd
  have e0 : s₁.heap = h0 := by rw [← hh, Bd.state]; rfl
  have N0 := Fr.nil n0
  obtain ⟨Pq, hPq⟩ : ∃ P, P = own_P s below (fun v h L => Q32 Z x0 xc oa ea sa ko go ke ge ks gs h0 n0 v h L) (⟨2, 0, 0, 48⟩ : Room).cells (⟨2, 0, 0, 48⟩ : Room).slots := ⟨_, rfl⟩
  suffices hgo : own_Go p.tables e below Pq s₁ (mkF m 0 #[sJ x0, .second, sJ xc, .second, sR oa, sR ea, sR sa, sI (1 : Int32)] []) by
    subst hPq
    obtain ⟨t, k1, k2, o, k3, k4⟩ := hgo
    exact ⟨t, o, castTop (own_ef32 m x0 xc oa ea sa) k1, k2, k3, k4⟩
  show own_Go _ _ _ _ s₁ (mkF m 0 #[sJ x0, .second, sJ xc, .second, sR oa, sR ea, sR sa, sI (1 : Int32)] [])
  refine own_st (fun t k => XS.aload X0.here hx rfl (hb hby d16_0) rfl rfl k) ?_
  show own_Go _ _ _ _ s₁ (mkF m 2 _ [(.ref sa)])
  refine own_st (fun t k => XS.iload X0.here hx rfl (hb hby d16_2) rfl k) ?_
  show own_Go _ _ _ _ s₁ (mkF m 4 _ [(.int (1 : Int32)), (.ref sa)])
  obtain ⟨c1, Ar1, q1, S1, N1, H1⟩ := id F2
  refine own_st (fun t k => X0.iaload hx (j := (1 : Int32)) (v := (.int (gs 1))) (by rw [e0]; exact Ar1.1) (State.isArrayOf_alike hZ.alike Ar1.2.1) Ar1.2.2 (inb_of S1 ⟨by decide, by decide⟩) (H1 _ (own_lt (inb_of S1 ⟨by decide, by decide⟩))) (g := (mkF m 4 #[sJ x0, .second, sJ xc, .second, sR oa, sR ea, sR sa, sI (1 : Int32)] [(.int (1 : Int32)), (.ref sa)])) rfl rfl (hb hby d16_4) _ k) ?_
  show own_Go _ _ _ _ s₁ (mkF m 5 _ [(.int (gs 1))])
  refine own_st (fun t k => XS.iconst X0.here hx rfl (hb hby d16_5) k) ?_
  show own_Go _ _ _ _ s₁ (mkF m 6 _ [(.int (1 : Int32)), (.int (gs 1))])
  by_cases c2 : (gs 1) = (1 : Int32)
  · skip
    refine own_st (fun t k => XS.icmpYes X0.here hx rfl (pc0 := 6) (pc' := 11) rfl (hb hby d16_6) rfl (teq c2).1 (by decide) (by decide) k) ?_
    show own_Go _ _ _ _ s₁ (mkF m 11 _ [])
    refine own_st (fun t k => XS.lloadN X0.here hx rfl (hb hby d16_11) rfl k) ?_
    show own_Go _ _ _ _ s₁ (mkF m 12 _ [(.long x0)])
    refine own_st (fun t k => XS.lloadN X0.here hx rfl (hb hby d16_12) rfl k) ?_
    show own_Go _ _ _ _ s₁ (mkF m 13 _ [(.long xc), (.long x0)])
    refine own_st (fun t k => XS.aload X0.here hx rfl (hb hby d16_13) rfl rfl k) ?_
    show own_Go _ _ _ _ s₁ (mkF m 15 _ [(.ref oa), (.long xc), (.long x0)])
    refine own_st (fun t k => XS.aload X0.here hx rfl (hb hby d16_15) rfl rfl k) ?_
    show own_Go _ _ _ _ s₁ (mkF m 17 _ [(.ref ea), (.ref oa), (.long xc), (.long x0)])
    refine own_st (fun t k => XS.aload X0.here hx rfl (hb hby d16_17) rfl rfl k) ?_
    show own_Go _ _ _ _ s₁ (mkF m 19 _ [(.ref sa), (.ref ea), (.ref oa), (.long xc), (.long x0)])
    refine own_st (fun t k => XS.iload X0.here hx rfl (hb hby d16_19) rfl k) ?_
    show own_Go _ _ _ _ s₁ (mkF m 21 _ [(.int (1 : Int32)), (.ref sa), (.ref ea), (.ref oa), (.long xc), (.long x0)])
    obtain ⟨_, _, ⟨T3, L3, k3, n3⟩, -, X3, ⟨Lc3, hQ3, l3, y3, z3⟩, st3⟩ := Jvm.LawKit.callS X0 hx (y := ym15) hown (mvT hZ (own_w hw 45 rfl)) (mvT hZ (own_w hw 46 rfl)) (mvT hZ (own_w hw 43 rfl)) (mvT hZ (own_w hw 47 rfl)) (by decide) (backOf (W := 2) (rm30 l Z a0 hw [] xc oa ea sa (1 : Int32) ko go ke ge ks gs h0 n0 Z0 F0 F1 F2) hZ (own_w hw 47 rfl) (own_w hw 43 rfl) (by decide) (by decide)) (g := (mkF m 21 #[sJ x0, .second, sJ xc, .second, sR oa, sR ea, sR sa, sI (1 : Int32)] [(.int (1 : Int32)), (.ref sa), (.ref ea), (.ref oa), (.long xc), (.long x0)])) rfl (by rw [hml]; rfl) (argsL := [(.long xc), (.ref oa), (.ref ea), (.ref sa), (.int (1 : Int32))]) (rest := [(.long x0)]) (lenOf own_pd__J_J_J_II_J rfl) rfl (by show 2 * 0 + _ ≤ _; exact Nat.le_of_eq rfl) (hb hby d16_21) (fun _ _ => ⟨rfl, e0, (by decide : 0 + 0 ≤ _), (by decide : 0 + 0 ≤ _)⟩)
    dsimp only [Pt.U, Pt.locs, Pt.cells, Pt.slots] at X3 l3 y3 z3 st3 hQ3
    subst l3 y3 z3
    obtain ⟨rfl, NQ3, eq3⟩ := hQ3
    have N4 := Fr.app N0 NQ3
    refine own_st st3 ?_
    show own_Go _ _ _ _ T3 (mkF m 24 _ [(.long (own_env xc go ge gs (1 : Int32))), (.long x0)])
    obtain ⟨_, _, ⟨T5, L5, k5, n5⟩, -, X5, ⟨Lc5, hQ5, l5, y5, z5⟩, st5⟩ := Jvm.LawKit.callS X3 hx (y := ym5) hown (mvT hZ (own_w hw 52 rfl)) (mvT hZ (own_w hw 53 rfl)) (mvT hZ (own_w hw 17 rfl)) (mvT hZ (own_w hw 54 rfl)) (by decide) (backOf (W := 0) (rm17 l Z a0 hw [] x0 (own_env xc go ge gs (1 : Int32)) h0 n0 Z0 ) hZ (own_w hw 54 rfl) (own_w hw 17 rfl) (by decide) (by decide)) (g := (mkF m 24 #[sJ x0, .second, sJ xc, .second, sR oa, sR ea, sR sa, sI (1 : Int32)] [(.long (own_env xc go ge gs (1 : Int32))), (.long x0)])) rfl (by rw [hml]; rfl) (argsL := [(.long x0), (.long (own_env xc go ge gs (1 : Int32)))]) (rest := []) (lenOf own_pd__JJ_J rfl) rfl (by show 2 * 0 + _ ≤ _; exact Nat.le_of_eq rfl) (hb hby d16_24) (fun _ _ => ⟨rfl, eq3, (by decide : 0 + 0 ≤ _), (by decide : 0 + 0 ≤ _)⟩)
    dsimp only [Pt.U, Pt.locs, Pt.cells, Pt.slots] at X5 l5 y5 z5 st5 hQ5
    subst l5 y5 z5
    obtain ⟨rfl, NQ5, eq5⟩ := hQ5
    have N6 := Fr.app N4 NQ5
    refine own_st st5 ?_
    show own_Go _ _ _ _ T5 (mkF m 27 _ [(.long (own_max x0 (own_env xc go ge gs (1 : Int32))))])
    subst hPq
    refine own_out X5 (v := some (.long (own_max x0 (own_env xc go ge gs (1 : Int32))))) (fun h => by rw [Bd.returns] at h; cases h) Bd.notSynchronized (own_retJ X5 hx Bd.returns (hb hby d16_27)) (by decide) (by decide) ?_
    show Q32 Z x0 xc oa ea sa ko go ke ge ks gs h0 n0 _ T5.heap _
    rw [eq5]
    exact ⟨by first | (simp only [own_wg1, if_pos c2]; done) | (subst_vars; simp only [own_wg1, if_pos c2]; done) | (subst_vars; simp [own_wg1]; done), N6, rfl⟩
  · skip
    refine own_st (fun t k => XS.icmpNo X0.here hx rfl (hb hby d16_6) rfl (feq c2).1 k) ?_
    show own_Go _ _ _ _ s₁ (mkF m 9 _ [])
    refine own_st (fun t k => XS.lloadN X0.here hx rfl (hb hby d16_9) rfl k) ?_
    show own_Go _ _ _ _ s₁ (mkF m 10 _ [(.long x0)])
    subst hPq
    refine own_out X0 (v := some (.long x0)) (fun h => by rw [Bd.returns] at h; cases h) Bd.notSynchronized (own_retJ X0 hx Bd.returns (hb hby d16_10)) (by decide) (by decide) ?_
    show Q32 Z x0 xc oa ea sa ko go ke ge ks gs h0 n0 _ s₁.heap _
    rw [e0]
    exact ⟨by first | (simp only [own_wg1, if_neg c2]; done) | (subst_vars; simp only [own_wg1, if_neg c2]; done) | (subst_vars; simp [own_wg1]; done), N0, rfl⟩
def own_wg2 (x0 : Int64) (xc : Int64) (go : Nat → Int64) (ge : Nat → Int64) (gs : Nat → Int32) : Int64 := (if (gs 2) = (1 : Int32) then (own_max x0 (own_env xc go ge gs (2 : Int32))) else x0)
theorem own_pn33 : plainName "com/example/tidemark/tidemark/core/ThetaLambdaTreeResponsibleGrayPinLaw" = true := by first | (simp [plainName, overriddenIn]; done) | decide +kernel
theorem own_ef33 (m : MethodId) (x0 : Int64) (xc : Int64) (oa : Addr) (ea : Addr) (sa : Addr) : entryFrame m #[(.long x0), (.long xc), (.ref oa), (.ref ea), (.ref sa), (.int (2 : Int32))] 8 = mkF m 0 #[sJ x0, .second, sJ xc, .second, sR oa, sR ea, sR sa, sI (2 : Int32)] [] := by first | (simp [entryFrame, mkF, argsToLocals, Value.category]; done) | rfl
def Q33 (Z : State) (x0 : Int64) (xc : Int64) (oa : Addr) (ea : Addr) (sa : Addr) (ko : ClassId) (go : Nat → Int64) (ke : ClassId) (ge : Nat → Int64) (ks : ClassId) (gs : Nat → Int32) (h0 : Heap) (n0 : Nat) (v : Option Value) (h : Heap) (L : List Loc) : Prop := v = some (.long (own_wg2 x0 xc go ge gs)) ∧ Fr n0 L ∧ h = h0
set_option maxRecDepth 65536 in
set_option maxHeartbeats 4000000 in
theorem rm33 (l : Launch) (Z : State) (a0 : Array Value) (hw : ∀ d ∈ tables_1, d.before a0 Z = true) (ws : List Jvm.Cond) (x0 : Int64) (xc : Int64) (oa : Addr) (ea : Addr) (sa : Addr) (ko : ClassId) (go : Nat → Int64) (ke : ClassId) (ge : Nat → Int64) (ks : ClassId) (gs : Nat → Int32) (h0 : Heap) (n0 : Nat) (Z0 : n0 ≤ h0.size) (F0 : own_AJ Z h0 oa ko (4 : Int32) go) (F1 : own_AJ Z h0 ea ke (4 : Int32) ge) (F2 : own_AI Z h0 sa ks (4 : Int32) gs) :
    MetFree l ym16 (head1 (Jvm.Cond.code ym16 method_4_code 8 (some .long) :: ws) (⟨2, 0, 0, 48⟩ : Room)) (fun aW U => aW = #[(.long x0), (.long xc), (.ref oa), (.ref ea), (.ref sa), (.int (2 : Int32))] ∧ Z.Warmed39 U.vm ∧ U.heap = h0) (fun _ _ _ _ _ => True) (fun _ U o U' => ∃ v L, o = .returned v ∧ Q33 Z x0 xc oa ea sa ko go ke ge ks gs h0 n0 v U'.heap L ∧ FrameEnd U o U' L (⟨2, 0, 0, 48⟩ : Room).cells (⟨2, 0, 0, 48⟩ : Room).slots) := by
  refine MetFree.of_bodySF (plainFor_of_name own_pn33) hisR ?_
  intro p e s m args below meth c s₁ Bd hml0 hP hK
  obtain ⟨rfl, hZ, hh⟩ := hP
  have hx := Bd.exec
  have hby := Bd.bytes
  have hml : c.maxLocals = 8 := hml0
  have hown : s.vm.findClass "com/example/tidemark/tidemark/core/ThetaLambdaTreeResponsibleGrayPinLaw" = some m.cls := findClass_of_methodNamed Bd.named
  have hnm := (name_of_methodNamed Bd.named Bd.method).1
  have X0 : Stand p l e (⟨2, 0, 0, 48⟩ : Room) s m #[(.long x0), (.long xc), (.ref oa), (.ref ea), (.ref sa), (.int (2 : Int32))] below meth c s₁ [] 0 0 := Stand.of_body Bd
  have e0 : s₁.heap = h0 := by rw [← hh, Bd.state]; rfl
  have N0 := Fr.nil n0
  obtain ⟨Pq, hPq⟩ : ∃ P, P = own_P s below (fun v h L => Q33 Z x0 xc oa ea sa ko go ke ge ks gs h0 n0 v h L) (⟨2, 0, 0, 48⟩ : Room).cells (⟨2, 0, 0, 48⟩ : Room).slots := ⟨_, rfl⟩
  suffices hgo : own_Go p.tables e below Pq s₁ (mkF m 0 #[sJ x0, .second, sJ xc, .second, sR oa, sR ea, sR sa, sI (2 : Int32)] []) by
    subst hPq
    obtain ⟨t, k1, k2, o, k3, k4⟩ := hgo
    exact ⟨t, o, castTop (own_ef33 m x0 xc oa ea sa) k1, k2, k3, k4⟩
  show own_Go _ _ _ _ s₁ (mkF m 0 #[sJ x0, .second, sJ xc, .second, sR oa, sR ea, sR sa, sI (2 : Int32)] [])
  refine own_st (fun t k => XS.aload X0.here hx rfl (hb hby d16_0) rfl rfl k) ?_
  show own_Go _ _ _ _ s₁ (mkF m 2 _ [(.ref sa)])
  refine own_st (fun t k => XS.iload X0.here hx rfl (hb hby d16_2) rfl k) ?_
  show own_Go _ _ _ _ s₁ (mkF m 4 _ [(.int (2 : Int32)), (.ref sa)])
  obtain ⟨c1, Ar1, q1, S1, N1, H1⟩ := id F2
  refine own_st (fun t k => X0.iaload hx (j := (2 : Int32)) (v := (.int (gs 2))) (by rw [e0]; exact Ar1.1) (State.isArrayOf_alike hZ.alike Ar1.2.1) Ar1.2.2 (inb_of S1 ⟨by decide, by decide⟩) (H1 _ (own_lt (inb_of S1 ⟨by decide, by decide⟩))) (g := (mkF m 4 #[sJ x0, .second, sJ xc, .second, sR oa, sR ea, sR sa, sI (2 : Int32)] [(.int (2 : Int32)), (.ref sa)])) rfl rfl (hb hby d16_4) _ k) ?_
  show own_Go _ _ _ _ s₁ (mkF m 5 _ [(.int (gs 2))])
  refine own_st (fun t k => XS.iconst X0.here hx rfl (hb hby d16_5) k) ?_
  show own_Go _ _ _ _ s₁ (mkF m 6 _ [(.int (1 : Int32)), (.int (gs 2))])
  by_cases c2 : (gs 2) = (1 : Int32)
  · skip
    refine own_st (fun t k => XS.icmpYes X0.here hx rfl (pc0 := 6) (pc' := 11) rfl (hb hby d16_6) rfl (teq c2).1 (by decide) (by decide) k) ?_
    show own_Go _ _ _ _ s₁ (mkF m 11 _ [])
    refine own_st (fun t k => XS.lloadN X0.here hx rfl (hb hby d16_11) rfl k) ?_
    show own_Go _ _ _ _ s₁ (mkF m 12 _ [(.long x0)])
    refine own_st (fun t k => XS.lloadN X0.here hx rfl (hb hby d16_12) rfl k) ?_
    show own_Go _ _ _ _ s₁ (mkF m 13 _ [(.long xc), (.long x0)])
    refine own_st (fun t k => XS.aload X0.here hx rfl (hb hby d16_13) rfl rfl k) ?_
    show own_Go _ _ _ _ s₁ (mkF m 15 _ [(.ref oa), (.long xc), (.long x0)])
    refine own_st (fun t k => XS.aload X0.here hx rfl (hb hby d16_15) rfl rfl k) ?_
    show own_Go _ _ _ _ s₁ (mkF m 17 _ [(.ref ea), (.ref oa), (.long xc), (.long x0)])
    refine own_st (fun t k => XS.aload X0.here hx rfl (hb hby d16_17) rfl rfl k) ?_
    show own_Go _ _ _ _ s₁ (mkF m 19 _ [(.ref sa), (.ref ea), (.ref oa), (.long xc), (.long x0)])
    refine own_st (fun t k => XS.iload X0.here hx rfl (hb hby d16_19) rfl k) ?_
    show own_Go _ _ _ _ s₁ (mkF m 21 _ [(.int (2 : Int32)), (.ref sa), (.ref ea), (.ref oa), (.long xc), (.long x0)])
    obtain ⟨_, _, ⟨T3, L3, k3, n3⟩, -, X3, ⟨Lc3, hQ3, l3, y3, z3⟩, st3⟩ := Jvm.LawKit.callS X0 hx (y := ym15) hown (mvT hZ (own_w hw 45 rfl)) (mvT hZ (own_w hw 46 rfl)) (mvT hZ (own_w hw 43 rfl)) (mvT hZ (own_w hw 47 rfl)) (by decide) (backOf (W := 2) (rm30 l Z a0 hw [] xc oa ea sa (2 : Int32) ko go ke ge ks gs h0 n0 Z0 F0 F1 F2) hZ (own_w hw 47 rfl) (own_w hw 43 rfl) (by decide) (by decide)) (g := (mkF m 21 #[sJ x0, .second, sJ xc, .second, sR oa, sR ea, sR sa, sI (2 : Int32)] [(.int (2 : Int32)), (.ref sa), (.ref ea), (.ref oa), (.long xc), (.long x0)])) rfl (by rw [hml]; rfl) (argsL := [(.long xc), (.ref oa), (.ref ea), (.ref sa), (.int (2 : Int32))]) (rest := [(.long x0)]) (lenOf own_pd__J_J_J_II_J rfl) rfl (by show 2 * 0 + _ ≤ _; exact Nat.le_of_eq rfl) (hb hby d16_21) (fun _ _ => ⟨rfl, e0, (by decide : 0 + 0 ≤ _), (by decide : 0 + 0 ≤ _)⟩)
    dsimp only [Pt.U, Pt.locs, Pt.cells, Pt.slots] at X3 l3 y3 z3 st3 hQ3
    subst l3 y3 z3
    obtain ⟨rfl, NQ3, eq3⟩ := hQ3
    have N4 := Fr.app N0 NQ3
    refine own_st st3 ?_
    show own_Go _ _ _ _ T3 (mkF m 24 _ [(.long (own_env xc go ge gs (2 : Int32))), (.long x0)])
    obtain ⟨_, _, ⟨T5, L5, k5, n5⟩, -, X5, ⟨Lc5, hQ5, l5, y5, z5⟩, st5⟩ := Jvm.LawKit.callS X3 hx (y := ym5) hown (mvT hZ (own_w hw 52 rfl)) (mvT hZ (own_w hw 53 rfl)) (mvT hZ (own_w hw 17 rfl)) (mvT hZ (own_w hw 54 rfl)) (by decide) (backOf (W := 0) (rm17 l Z a0 hw [] x0 (own_env xc go ge gs (2 : Int32)) h0 n0 Z0 ) hZ (own_w hw 54 rfl) (own_w hw 17 rfl) (by decide) (by decide)) (g := (mkF m 24 #[sJ x0, .second, sJ xc, .second, sR oa, sR ea, sR sa, sI (2 : Int32)] [(.long (own_env xc go ge gs (2 : Int32))), (.long x0)])) rfl (by rw [hml]; rfl) (argsL := [(.long x0), (.long (own_env xc go ge gs (2 : Int32)))]) (rest := []) (lenOf own_pd__JJ_J rfl) rfl (by show 2 * 0 + _ ≤ _; exact Nat.le_of_eq rfl) (hb hby d16_24) (fun _ _ => ⟨rfl, eq3, (by decide : 0 + 0 ≤ _), (by decide : 0 + 0 ≤ _)⟩)
    dsimp only [Pt.U, Pt.locs, Pt.cells, Pt.slots] at X5 l5 y5 z5 st5 hQ5
    subst l5 y5 z5
    obtain ⟨rfl, NQ5, eq5⟩ := hQ5
    have N6 := Fr.app N4 NQ5
    refine own_st st5 ?_
    show own_Go _ _ _ _ T5 (mkF m 27 _ [(.long (own_max x0 (own_env xc go ge gs (2 : Int32))))])
    subst hPq
    refine own_out X5 (v := some (.long (own_max x0 (own_env xc go ge gs (2 : Int32))))) (fun h => by rw [Bd.returns] at h; cases h) Bd.notSynchronized (own_retJ X5 hx Bd.returns (hb hby d16_27)) (by decide) (by decide) ?_
    show Q33 Z x0 xc oa ea sa ko go ke ge ks gs h0 n0 _ T5.heap _
    rw [eq5]
    exact ⟨by first | (simp only [own_wg2, if_pos c2]; done) | (subst_vars; simp only [own_wg2, if_pos c2]; done) | (subst_vars; simp [own_wg2]; done), N6, rfl⟩
  · skip
    refine own_st (fun t k => XS.icmpNo X0.here hx rfl (hb hby d16_6) rfl (feq c2).1 k) ?_
    show own_Go _ _ _ _ s₁ (mkF m 9 _ [])
    refine own_st (fun t k => XS.lloadN X0.here hx rfl (hb hby d16_9) rfl k) ?_
    show own_Go _ _ _ _ s₁ (mkF m 10 _ [(.long x0)])
    subst hPq
    refine own_out X0 (v := some (.long x0)) (fun h => by rw [Bd.returns] at h; cases h) Bd.notSynchronized (own_retJ X0 hx Bd.returns (hb hby d16_10)) (by decide) (by decide) ?_
    show Q33 Z x0 xc oa ea sa ko go ke ge ks gs h0 n0 _ s₁.heap _
    rw [e0]
    exact ⟨by first | (simp only [own_wg2, if_neg c2]; done) | (subst_vars; simp only [own_wg2, if_neg c2]; done) | (subst_vars; simp [own_wg2]; done), N0, rfl⟩
def own_wg3 (x0 : Int64) (xc : Int64) (go : Nat → Int64) (ge : Nat → Int64) (gs : Nat → Int32) : Int64 := (if (gs 3) = (1 : Int32) then (own_max x0 (own_env xc go ge gs (3 : Int32))) else x0)
theorem own_pn34 : plainName "com/example/tidemark/tidemark/core/ThetaLambdaTreeResponsibleGrayPinLaw" = true := by first | (simp [plainName, overriddenIn]; done) | decide +kernel
theorem own_ef34 (m : MethodId) (x0 : Int64) (xc : Int64) (oa : Addr) (ea : Addr) (sa : Addr) : entryFrame m #[(.long x0), (.long xc), (.ref oa), (.ref ea), (.ref sa), (.int (3 : Int32))] 8 = mkF m 0 #[sJ x0, .second, sJ xc, .second, sR oa, sR ea, sR sa, sI (3 : Int32)] [] := by first | (simp [entryFrame, mkF, argsToLocals, Value.category]; done) | rfl
def Q34 (Z : State) (x0 : Int64) (xc : Int64) (oa : Addr) (ea : Addr) (sa : Addr) (ko : ClassId) (go : Nat → Int64) (ke : ClassId) (ge : Nat → Int64) (ks : ClassId) (gs : Nat → Int32) (h0 : Heap) (n0 : Nat) (v : Option Value) (h : Heap) (L : List Loc) : Prop := v = some (.long (own_wg3 x0 xc go ge gs)) ∧ Fr n0 L ∧ h = h0
set_option maxRecDepth 65536 in
set_option maxHeartbeats 4000000 in
theorem rm34 (l : Launch) (Z : State) (a0 : Array Value) (hw : ∀ d ∈ tables_1, d.before a0 Z = true) (ws : List Jvm.Cond) (x0 : Int64) (xc : Int64) (oa : Addr) (ea : Addr) (sa : Addr) (ko : ClassId) (go : Nat → Int64) (ke : ClassId) (ge : Nat → Int64) (ks : ClassId) (gs : Nat → Int32) (h0 : Heap) (n0 : Nat) (Z0 : n0 ≤ h0.size) (F0 : own_AJ Z h0 oa ko (4 : Int32) go) (F1 : own_AJ Z h0 ea ke (4 : Int32) ge) (F2 : own_AI Z h0 sa ks (4 : Int32) gs) :
    MetFree l ym16 (head1 (Jvm.Cond.code ym16 method_4_code 8 (some .long) :: ws) (⟨2, 0, 0, 48⟩ : Room)) (fun aW U => aW = #[(.long x0), (.long xc), (.ref oa), (.ref ea), (.ref sa), (.int (3 : Int32))] ∧ Z.Warmed39 U.vm ∧ U.heap = h0) (fun _ _ _ _ _ => True) (fun _ U o U' => ∃ v L, o = .returned v ∧ Q34 Z x0 xc oa ea sa ko go ke ge ks gs h0 n0 v U'.heap L ∧ FrameEnd U o U' L (⟨2, 0, 0, 48⟩ : Room).cells (⟨2, 0, 0, 48⟩ : Room).slots) := by
  refine MetFree.of_bodySF (plainFor_of_name own_pn34) hisR ?_
  intro p e s m args below meth c s₁ Bd hml0 hP hK
  obtain ⟨rfl, hZ, hh⟩ := hP
  have hx := Bd.exec
  have hby := Bd.bytes
  have hml : c.maxLocals = 8 := hml0
  have hown : s.vm.findClass "com/example/tidemark/tidemark/core/ThetaLambdaTreeResponsibleGrayPinLaw" = some m.cls := findClass_of_methodNamed Bd.named
  have hnm := (name_of_methodNamed Bd.named Bd.method).1
  have X0 : Stand p l e (⟨2, 0, 0, 48⟩ : Room) s m #[(.long x0), (.long xc), (.ref oa), (.ref ea), (.ref sa), (.int (3 : Int32))] below meth c s₁ [] 0 0 := Stand.of_body Bd
  have e0 : s₁.heap = h0 := by rw [← hh, Bd.state]; rfl
  have N0 := Fr.nil n0
  obtain ⟨Pq, hPq⟩ : ∃ P, P = own_P s below (fun v h L => Q34 Z x0 xc oa ea sa ko go ke ge ks gs h0 n0 v h L) (⟨2, 0, 0, 48⟩ : Room).cells (⟨2, 0, 0, 48⟩ : Room).slots := ⟨_, rfl⟩
  suffices hgo : own_Go p.tables e below Pq s₁ (mkF m 0 #[sJ x0, .second, sJ xc, .second, sR oa, sR ea, sR sa, sI (3 : Int32)] []) by
    subst hPq
    obtain ⟨t, k1, k2, o, k3, k4⟩ := hgo
    exact ⟨t, o, castTop (own_ef34 m x0 xc oa ea sa) k1, k2, k3, k4⟩
  show own_Go _ _ _ _ s₁ (mkF m 0 #[sJ x0, .second, sJ xc, .second, sR oa, sR ea, sR sa, sI (3 : Int32)] [])
  refine own_st (fun t k => XS.aload X0.here hx rfl (hb hby d16_0) rfl rfl k) ?_
  show own_Go _ _ _ _ s₁ (mkF m 2 _ [(.ref sa)])
  refine own_st (fun t k => XS.iload X0.here hx rfl (hb hby d16_2) rfl k) ?_
  show own_Go _ _ _ _ s₁ (mkF m 4 _ [(.int (3 : Int32)), (.ref sa)])
  obtain ⟨c1, Ar1, q1, S1, N1, H1⟩ := id F2
  refine own_st (fun t k => X0.iaload hx (j := (3 : Int32)) (v := (.int (gs 3))) (by rw [e0]; exact Ar1.1) (State.isArrayOf_alike hZ.alike Ar1.2.1) Ar1.2.2 (inb_of S1 ⟨by decide, by decide⟩) (H1 _ (own_lt (inb_of S1 ⟨by decide, by decide⟩))) (g := (mkF m 4 #[sJ x0, .second, sJ xc, .second, sR oa, sR ea, sR sa, sI (3 : Int32)] [(.int (3 : Int32)), (.ref sa)])) rfl rfl (hb hby d16_4) _ k) ?_
  show own_Go _ _ _ _ s₁ (mkF m 5 _ [(.int (gs 3))])
  refine own_st (fun t k => XS.iconst X0.here hx rfl (hb hby d16_5) k) ?_
  show own_Go _ _ _ _ s₁ (mkF m 6 _ [(.int (1 : Int32)), (.int (gs 3))])
  by_cases c2 : (gs 3) = (1 : Int32)
  · skip
    refine own_st (fun t k => XS.icmpYes X0.here hx rfl (pc0 := 6) (pc' := 11) rfl (hb hby d16_6) rfl (teq c2).1 (by decide) (by decide) k) ?_
    show own_Go _ _ _ _ s₁ (mkF m 11 _ [])
    refine own_st (fun t k => XS.lloadN X0.here hx rfl (hb hby d16_11) rfl k) ?_
    show own_Go _ _ _ _ s₁ (mkF m 12 _ [(.long x0)])
    refine own_st (fun t k => XS.lloadN X0.here hx rfl (hb hby d16_12) rfl k) ?_
    show own_Go _ _ _ _ s₁ (mkF m 13 _ [(.long xc), (.long x0)])
    refine own_st (fun t k => XS.aload X0.here hx rfl (hb hby d16_13) rfl rfl k) ?_
    show own_Go _ _ _ _ s₁ (mkF m 15 _ [(.ref oa), (.long xc), (.long x0)])
    refine own_st (fun t k => XS.aload X0.here hx rfl (hb hby d16_15) rfl rfl k) ?_
    show own_Go _ _ _ _ s₁ (mkF m 17 _ [(.ref ea), (.ref oa), (.long xc), (.long x0)])
    refine own_st (fun t k => XS.aload X0.here hx rfl (hb hby d16_17) rfl rfl k) ?_
    show own_Go _ _ _ _ s₁ (mkF m 19 _ [(.ref sa), (.ref ea), (.ref oa), (.long xc), (.long x0)])
    refine own_st (fun t k => XS.iload X0.here hx rfl (hb hby d16_19) rfl k) ?_
    show own_Go _ _ _ _ s₁ (mkF m 21 _ [(.int (3 : Int32)), (.ref sa), (.ref ea), (.ref oa), (.long xc), (.long x0)])
    obtain ⟨_, _, ⟨T3, L3, k3, n3⟩, -, X3, ⟨Lc3, hQ3, l3, y3, z3⟩, st3⟩ := Jvm.LawKit.callS X0 hx (y := ym15) hown (mvT hZ (own_w hw 45 rfl)) (mvT hZ (own_w hw 46 rfl)) (mvT hZ (own_w hw 43 rfl)) (mvT hZ (own_w hw 47 rfl)) (by decide) (backOf (W := 2) (rm30 l Z a0 hw [] xc oa ea sa (3 : Int32) ko go ke ge ks gs h0 n0 Z0 F0 F1 F2) hZ (own_w hw 47 rfl) (own_w hw 43 rfl) (by decide) (by decide)) (g := (mkF m 21 #[sJ x0, .second, sJ xc, .second, sR oa, sR ea, sR sa, sI (3 : Int32)] [(.int (3 : Int32)), (.ref sa), (.ref ea), (.ref oa), (.long xc), (.long x0)])) rfl (by rw [hml]; rfl) (argsL := [(.long xc), (.ref oa), (.ref ea), (.ref sa), (.int (3 : Int32))]) (rest := [(.long x0)]) (lenOf own_pd__J_J_J_II_J rfl) rfl (by show 2 * 0 + _ ≤ _; exact Nat.le_of_eq rfl) (hb hby d16_21) (fun _ _ => ⟨rfl, e0, (by decide : 0 + 0 ≤ _), (by decide : 0 + 0 ≤ _)⟩)
    dsimp only [Pt.U, Pt.locs, Pt.cells, Pt.slots] at X3 l3 y3 z3 st3 hQ3
    subst l3 y3 z3
    obtain ⟨rfl, NQ3, eq3⟩ := hQ3
    have N4 := Fr.app N0 NQ3
    refine own_st st3 ?_
    show own_Go _ _ _ _ T3 (mkF m 24 _ [(.long (own_env xc go ge gs (3 : Int32))), (.long x0)])
    obtain ⟨_, _, ⟨T5, L5, k5, n5⟩, -, X5, ⟨Lc5, hQ5, l5, y5, z5⟩, st5⟩ := Jvm.LawKit.callS X3 hx (y := ym5) hown (mvT hZ (own_w hw 52 rfl)) (mvT hZ (own_w hw 53 rfl)) (mvT hZ (own_w hw 17 rfl)) (mvT hZ (own_w hw 54 rfl)) (by decide) (backOf (W := 0) (rm17 l Z a0 hw [] x0 (own_env xc go ge gs (3 : Int32)) h0 n0 Z0 ) hZ (own_w hw 54 rfl) (own_w hw 17 rfl) (by decide) (by decide)) (g := (mkF m 24 #[sJ x0, .second, sJ xc, .second, sR oa, sR ea, sR sa, sI (3 : Int32)] [(.long (own_env xc go ge gs (3 : Int32))), (.long x0)])) rfl (by rw [hml]; rfl) (argsL := [(.long x0), (.long (own_env xc go ge gs (3 : Int32)))]) (rest := []) (lenOf own_pd__JJ_J rfl) rfl (by show 2 * 0 + _ ≤ _; exact Nat.le_of_eq rfl) (hb hby d16_24) (fun _ _ => ⟨rfl, eq3, (by decide : 0 + 0 ≤ _), (by decide : 0 + 0 ≤ _)⟩)
    dsimp only [Pt.U, Pt.locs, Pt.cells, Pt.slots] at X5 l5 y5 z5 st5 hQ5
    subst l5 y5 z5
    obtain ⟨rfl, NQ5, eq5⟩ := hQ5
    have N6 := Fr.app N4 NQ5
    refine own_st st5 ?_
    show own_Go _ _ _ _ T5 (mkF m 27 _ [(.long (own_max x0 (own_env xc go ge gs (3 : Int32))))])
    subst hPq
    refine own_out X5 (v := some (.long (own_max x0 (own_env xc go ge gs (3 : Int32))))) (fun h => by rw [Bd.returns] at h; cases h) Bd.notSynchronized (own_retJ X5 hx Bd.returns (hb hby d16_27)) (by decide) (by decide) ?_
    show Q34 Z x0 xc oa ea sa ko go ke ge ks gs h0 n0 _ T5.heap _
    rw [eq5]
    exact ⟨by first | (simp only [own_wg3, if_pos c2]; done) | (subst_vars; simp only [own_wg3, if_pos c2]; done) | (subst_vars; simp [own_wg3]; done), N6, rfl⟩
  · skip
    refine own_st (fun t k => XS.icmpNo X0.here hx rfl (hb hby d16_6) rfl (feq c2).1 k) ?_
    show own_Go _ _ _ _ s₁ (mkF m 9 _ [])
    refine own_st (fun t k => XS.lloadN X0.here hx rfl (hb hby d16_9) rfl k) ?_
    show own_Go _ _ _ _ s₁ (mkF m 10 _ [(.long x0)])
    subst hPq
    refine own_out X0 (v := some (.long x0)) (fun h => by rw [Bd.returns] at h; cases h) Bd.notSynchronized (own_retJ X0 hx Bd.returns (hb hby d16_10)) (by decide) (by decide) ?_
    show Q34 Z x0 xc oa ea sa ko go ke ge ks gs h0 n0 _ s₁.heap _
    rw [e0]
    exact ⟨by first | (simp only [own_wg3, if_neg c2]; done) | (subst_vars; simp only [own_wg3, if_neg c2]; done) | (subst_vars; simp [own_wg3]; done), N0, rfl⟩
def own_rg1 (gn : Nat → Int64) : Int32 := (0 : Int32)
def own_rg2 (gn : Nat → Int64) : Int32 := (if (gn 7) = (gn 15) then (1 : Int32) else (if (gn 7) = ((gn 9) + (gn 14)) then (1 : Int32) else (0 : Int32)))
def own_rg4 (gn : Nat → Int64) : Int32 := (if (gn 7) = (gn 15) then (if (gn 15) = (gn 31) then (3 : Int32) else (if (gn 15) = ((gn 25) + (gn 30)) then (3 : Int32) else (2 : Int32))) else (if (gn 7) = ((gn 9) + (gn 14)) then (if (gn 14) = ((gn 26) + (gn 28)) then (2 : Int32) else (3 : Int32)) else (if (gn 11) = (gn 23) then (1 : Int32) else (if (gn 11) = ((gn 17) + (gn 22)) then (1 : Int32) else (0 : Int32)))))
def own_rg (gn : Nat → Int64) (l : Int32) : Int32 := if l = 1 then own_rg1 gn else if l = 2 then own_rg2 gn else own_rg4 gn
theorem d17_0 : decode qc17 0 = .ok (.iconst 1, 1) := by decide +kernel
theorem d17_1 : decode qc17 1 = .ok (.istore_n 1, 1) := by decide +kernel
theorem d17_2 : decode qc17 2 = .ok (.iconst 1, 1) := by decide +kernel
theorem d17_3 : decode qc17 3 = .ok (.istore_n 2, 1) := by decide +kernel
theorem d17_4 : decode qc17 4 = .ok (.iload_n 1, 1) := by decide +kernel
theorem d17_5 : decode qc17 5 = .ok (.aload_n 0, 1) := by decide +kernel
theorem d17_6 : decode qc17 6 = .ok (.getfield 30, 3) := by decide +kernel
theorem d17_9 : decode qc17 9 = .ok (.if_icmp .ge 158, 3) := by decide +kernel
theorem d17_12 : decode qc17 12 = .ok (.iconst 4, 1) := by decide +kernel
theorem d17_13 : decode qc17 13 = .ok (.iload_n 1, 1) := by decide +kernel
theorem d17_14 : decode qc17 14 = .ok (.imul, 1) := by decide +kernel
theorem d17_15 : decode qc17 15 = .ok (.istore_n 3, 1) := by decide +kernel
theorem d17_16 : decode qc17 16 = .ok (.bipush 8, 2) := by decide +kernel
theorem d17_18 : decode qc17 18 = .ok (.iload_n 1, 1) := by decide +kernel
theorem d17_19 : decode qc17 19 = .ok (.imul, 1) := by decide +kernel
theorem d17_20 : decode qc17 20 = .ok (.istore 4, 2) := by decide +kernel
theorem d17_22 : decode qc17 22 = .ok (.iload 4, 2) := by decide +kernel
theorem d17_24 : decode qc17 24 = .ok (.iconst 4, 1) := by decide +kernel
theorem d17_25 : decode qc17 25 = .ok (.iadd, 1) := by decide +kernel
theorem d17_26 : decode qc17 26 = .ok (.istore 5, 2) := by decide +kernel
theorem d17_28 : decode qc17 28 = .ok (.iload_n 2, 1) := by decide +kernel
theorem d17_29 : decode qc17 29 = .ok (.ifCond .eq 80, 3) := by decide +kernel
theorem d17_32 : decode qc17 32 = .ok (.aload_n 0, 1) := by decide +kernel
theorem d17_33 : decode qc17 33 = .ok (.getfield 15, 3) := by decide +kernel
theorem d17_36 : decode qc17 36 = .ok (.iload_n 3, 1) := by decide +kernel
theorem d17_37 : decode qc17 37 = .ok (.iconst 3, 1) := by decide +kernel
theorem d17_38 : decode qc17 38 = .ok (.iadd, 1) := by decide +kernel
theorem d17_39 : decode qc17 39 = .ok (.laload, 1) := by decide +kernel
theorem d17_40 : decode qc17 40 = .ok (.lstore 6, 2) := by decide +kernel
theorem d17_42 : decode qc17 42 = .ok (.lload 6, 2) := by decide +kernel
theorem d17_44 : decode qc17 44 = .ok (.aload_n 0, 1) := by decide +kernel
theorem d17_45 : decode qc17 45 = .ok (.getfield 15, 3) := by decide +kernel
theorem d17_48 : decode qc17 48 = .ok (.iload 5, 2) := by decide +kernel
theorem d17_50 : decode qc17 50 = .ok (.iconst 3, 1) := by decide +kernel
theorem d17_51 : decode qc17 51 = .ok (.iadd, 1) := by decide +kernel
theorem d17_52 : decode qc17 52 = .ok (.laload, 1) := by decide +kernel
theorem d17_53 : decode qc17 53 = .ok (.lcmp, 1) := by decide +kernel
theorem d17_54 : decode qc17 54 = .ok (.ifCond .ne 12, 3) := by decide +kernel
theorem d17_57 : decode qc17 57 = .ok (.iconst 2, 1) := by decide +kernel
theorem d17_58 : decode qc17 58 = .ok (.iload_n 1, 1) := by decide +kernel
theorem d17_59 : decode qc17 59 = .ok (.imul, 1) := by decide +kernel
theorem d17_60 : decode qc17 60 = .ok (.iconst 1, 1) := by decide +kernel
theorem d17_61 : decode qc17 61 = .ok (.iadd, 1) := by decide +kernel
theorem d17_62 : decode qc17 62 = .ok (.istore_n 1, 1) := by decide +kernel
theorem d17_63 : decode qc17 63 = .ok (.goto 43, 3) := by decide +kernel
theorem d17_66 : decode qc17 66 = .ok (.lload 6, 2) := by decide +kernel
theorem d17_68 : decode qc17 68 = .ok (.aload_n 0, 1) := by decide +kernel
theorem d17_69 : decode qc17 69 = .ok (.getfield 15, 3) := by decide +kernel
theorem d17_72 : decode qc17 72 = .ok (.iload 4, 2) := by decide +kernel
theorem d17_74 : decode qc17 74 = .ok (.iconst 1, 1) := by decide +kernel
theorem d17_75 : decode qc17 75 = .ok (.iadd, 1) := by decide +kernel
theorem d17_76 : decode qc17 76 = .ok (.laload, 1) := by decide +kernel
theorem d17_77 : decode qc17 77 = .ok (.aload_n 0, 1) := by decide +kernel
theorem d17_78 : decode qc17 78 = .ok (.getfield 15, 3) := by decide +kernel
theorem d17_81 : decode qc17 81 = .ok (.iload 5, 2) := by decide +kernel
theorem d17_83 : decode qc17 83 = .ok (.iconst 2, 1) := by decide +kernel
theorem d17_84 : decode qc17 84 = .ok (.iadd, 1) := by decide +kernel
theorem d17_85 : decode qc17 85 = .ok (.laload, 1) := by decide +kernel
theorem d17_86 : decode qc17 86 = .ok (.ladd, 1) := by decide +kernel
theorem d17_87 : decode qc17 87 = .ok (.lcmp, 1) := by decide +kernel
theorem d17_88 : decode qc17 88 = .ok (.ifCond .ne 14, 3) := by decide +kernel
theorem d17_91 : decode qc17 91 = .ok (.iconst 2, 1) := by decide +kernel
theorem d17_92 : decode qc17 92 = .ok (.iload_n 1, 1) := by decide +kernel
theorem d17_93 : decode qc17 93 = .ok (.imul, 1) := by decide +kernel
theorem d17_94 : decode qc17 94 = .ok (.iconst 1, 1) := by decide +kernel
theorem d17_95 : decode qc17 95 = .ok (.iadd, 1) := by decide +kernel
theorem d17_96 : decode qc17 96 = .ok (.istore_n 1, 1) := by decide +kernel
theorem d17_97 : decode qc17 97 = .ok (.iconst 0, 1) := by decide +kernel
theorem d17_98 : decode qc17 98 = .ok (.istore_n 2, 1) := by decide +kernel
theorem d17_99 : decode qc17 99 = .ok (.goto 7, 3) := by decide +kernel
theorem d17_102 : decode qc17 102 = .ok (.iconst 2, 1) := by decide +kernel
theorem d17_103 : decode qc17 103 = .ok (.iload_n 1, 1) := by decide +kernel
theorem d17_104 : decode qc17 104 = .ok (.imul, 1) := by decide +kernel
theorem d17_105 : decode qc17 105 = .ok (.istore_n 1, 1) := by decide +kernel
theorem d17_106 : decode qc17 106 = .ok (.goto 58, 3) := by decide +kernel
theorem d17_109 : decode qc17 109 = .ok (.aload_n 0, 1) := by decide +kernel
theorem d17_110 : decode qc17 110 = .ok (.getfield 15, 3) := by decide +kernel
theorem d17_113 : decode qc17 113 = .ok (.iload_n 3, 1) := by decide +kernel
theorem d17_114 : decode qc17 114 = .ok (.iconst 2, 1) := by decide +kernel
theorem d17_115 : decode qc17 115 = .ok (.iadd, 1) := by decide +kernel
theorem d17_116 : decode qc17 116 = .ok (.laload, 1) := by decide +kernel
theorem d17_117 : decode qc17 117 = .ok (.aload_n 0, 1) := by decide +kernel
theorem d17_118 : decode qc17 118 = .ok (.getfield 15, 3) := by decide +kernel
theorem d17_121 : decode qc17 121 = .ok (.iload 4, 2) := by decide +kernel
theorem d17_123 : decode qc17 123 = .ok (.iconst 2, 1) := by decide +kernel
theorem d17_124 : decode qc17 124 = .ok (.iadd, 1) := by decide +kernel
theorem d17_125 : decode qc17 125 = .ok (.laload, 1) := by decide +kernel
theorem d17_126 : decode qc17 126 = .ok (.aload_n 0, 1) := by decide +kernel
theorem d17_127 : decode qc17 127 = .ok (.getfield 15, 3) := by decide +kernel
theorem d17_130 : decode qc17 130 = .ok (.iload 5, 2) := by decide +kernel
theorem d17_132 : decode qc17 132 = .ok (.iconst 0, 1) := by decide +kernel
theorem d17_133 : decode qc17 133 = .ok (.iadd, 1) := by decide +kernel
theorem d17_134 : decode qc17 134 = .ok (.laload, 1) := by decide +kernel
theorem d17_135 : decode qc17 135 = .ok (.ladd, 1) := by decide +kernel
theorem d17_136 : decode qc17 136 = .ok (.lcmp, 1) := by decide +kernel
theorem d17_137 : decode qc17 137 = .ok (.ifCond .ne 7, 3) := by decide +kernel
theorem d17_140 : decode qc17 140 = .ok (.iconst 1, 1) := by decide +kernel
theorem d17_141 : decode qc17 141 = .ok (.goto 4, 3) := by decide +kernel
theorem d17_144 : decode qc17 144 = .ok (.iconst 0, 1) := by decide +kernel
theorem d17_145 : decode qc17 145 = .ok (.istore 6, 2) := by decide +kernel
theorem d17_147 : decode qc17 147 = .ok (.iload 6, 2) := by decide +kernel
theorem d17_149 : decode qc17 149 = .ok (.ifCond .eq 9, 3) := by decide +kernel
theorem d17_152 : decode qc17 152 = .ok (.iconst 2, 1) := by decide +kernel
theorem d17_153 : decode qc17 153 = .ok (.iload_n 1, 1) := by decide +kernel
theorem d17_154 : decode qc17 154 = .ok (.imul, 1) := by decide +kernel
theorem d17_155 : decode qc17 155 = .ok (.goto 8, 3) := by decide +kernel
theorem d17_158 : decode qc17 158 = .ok (.iconst 2, 1) := by decide +kernel
theorem d17_159 : decode qc17 159 = .ok (.iload_n 1, 1) := by decide +kernel
theorem d17_160 : decode qc17 160 = .ok (.imul, 1) := by decide +kernel
theorem d17_161 : decode qc17 161 = .ok (.iconst 1, 1) := by decide +kernel
theorem d17_162 : decode qc17 162 = .ok (.iadd, 1) := by decide +kernel
theorem d17_163 : decode qc17 163 = .ok (.istore_n 1, 1) := by decide +kernel
theorem d17_164 : decode qc17 164 = .ok (.goto (-160), 3) := by decide +kernel
theorem d17_167 : decode qc17 167 = .ok (.iload_n 1, 1) := by decide +kernel
theorem d17_168 : decode qc17 168 = .ok (.aload_n 0, 1) := by decide +kernel
theorem d17_169 : decode qc17 169 = .ok (.getfield 30, 3) := by decide +kernel
theorem d17_172 : decode qc17 172 = .ok (.isub, 1) := by decide +kernel
theorem d17_173 : decode qc17 173 = .ok (.ireturn, 1) := by decide +kernel
theorem own_pn35 : plainName "com/example/tidemark/tidemark/core/ThetaLambdaTree" = true := by first | (simp [plainName, overriddenIn]; done) | decide +kernel
theorem own_ef35 (m : MethodId) (a : Addr) : entryFrame m #[(.ref a)] 8 = mkF m 0 #[sR a, .unset, .unset, .unset, .unset, .unset, .unset, .unset] [] := by first | (simp [entryFrame, mkF, argsToLocals, Value.category]; done) | rfl
def Q35 (Z : State) (a : Addr) (na : Addr) (kn : ClassId) (gn : Nat → Int64) (lq : Int32) (h0 : Heap) (n0 : Nat) (v : Option Value) (h : Heap) (L : List Loc) : Prop := v = some (.int (own_rg gn lq)) ∧ Fr n0 L ∧ h = h0
set_option maxRecDepth 65536 in
set_option maxHeartbeats 4000000 in
theorem rm35 (l : Launch) (Z : State) (a0 : Array Value) (hw : ∀ d ∈ tables_1, d.before a0 Z = true) (ws : List Jvm.Cond) (a : Addr) (na : Addr) (kn : ClassId) (gn : Nat → Int64) (lq : Int32) (h0 : Heap) (n0 : Nat) (Z0 : n0 ≤ h0.size) (F0 : Exa Z h0 a "com/example/tidemark/tidemark/core/ThetaLambdaTree") (F1 : Fld Z h0 a "com/example/tidemark/tidemark/core/ThetaLambdaTree" "nodes" "[J" (.ref na)) (F2 : own_AJ Z h0 na kn (32 : Int32) gn) (F3 : Fld Z h0 a "com/example/tidemark/tidemark/core/ThetaLambdaTree" "leaves" "I" (.int lq)) (hl : lq = 1 ∨ lq = 2 ∨ lq = 4) :
    MetFree l ym17 (head1 (Jvm.Cond.code ym17 prog_46_method_8_code 8 (some .int) :: ws) (⟨0, 0, 0, 0⟩ : Room)) (fun aW U => aW = #[(.ref a)] ∧ Z.Warmed39 U.vm ∧ U.heap = h0) (fun _ _ _ _ _ => True) (fun _ U o U' => ∃ v L, o = .returned v ∧ Q35 Z a na kn gn lq h0 n0 v U'.heap L ∧ FrameEnd U o U' L (⟨0, 0, 0, 0⟩ : Room).cells (⟨0, 0, 0, 0⟩ : Room).slots) := by
  refine MetFree.of_bodySF (plainFor_of_name own_pn35) hisR ?_
  intro p e s m args below meth c s₁ Bd hml0 hP hK
  obtain ⟨rfl, hZ, hh⟩ := hP
  have hx := Bd.exec
  have hby := Bd.bytes
  have hml : c.maxLocals = 8 := hml0
  have hown : s.vm.findClass "com/example/tidemark/tidemark/core/ThetaLambdaTree" = some m.cls := findClass_of_methodNamed Bd.named
  have hnm := (name_of_methodNamed Bd.named Bd.method).1
  have X0 : Stand p l e (⟨0, 0, 0, 0⟩ : Room) s m #[(.ref a)] below meth c s₁ [] 0 0 := Stand.of_body Bd
  have e0 : s₁.heap = h0 := by rw [← hh, Bd.state]; rfl
  have N0 := Fr.nil n0
  obtain ⟨Pq, hPq⟩ : ∃ P, P = own_P s below (fun v h L => Q35 Z a na kn gn lq h0 n0 v h L) (⟨0, 0, 0, 0⟩ : Room).cells (⟨0, 0, 0, 0⟩ : Room).slots := ⟨_, rfl⟩
  suffices hgo : own_Go p.tables e below Pq s₁ (mkF m 0 #[sR a, .unset, .unset, .unset, .unset, .unset, .unset, .unset] []) by
    subst hPq
    obtain ⟨t, k1, k2, o, k3, k4⟩ := hgo
    exact ⟨t, o, castTop (own_ef35 m a) k1, k2, k3, k4⟩
  show own_Go _ _ _ _ s₁ (mkF m 0 #[sR a, .unset, .unset, .unset, .unset, .unset, .unset, .unset] [])
  rcases hl with rfl | rfl | rfl
  · skip
    show own_Go _ _ _ _ s₁ (mkF m 0 _ [])
    refine own_st (fun t k => XS.iconst X0.here hx rfl (hb hby d17_0) k) ?_
    show own_Go _ _ _ _ s₁ (mkF m 1 _ [(.int (1 : Int32))])
    refine own_st (fun t k => XS.istoreN X0.here hx rfl (hb hby d17_1) rfl (l' := #[sR a, sI (1 : Int32), .unset, .unset, .unset, .unset, .unset, .unset]) rfl k) ?_
    show own_Go _ _ _ _ s₁ (mkF m 2 #[sR a, sI (1 : Int32), .unset, .unset, .unset, .unset, .unset, .unset] [])
    refine own_st (fun t k => XS.iconst X0.here hx rfl (hb hby d17_2) k) ?_
    show own_Go _ _ _ _ s₁ (mkF m 3 _ [(.int (1 : Int32))])
    refine own_st (fun t k => XS.istoreN X0.here hx rfl (hb hby d17_3) rfl (l' := #[sR a, sI (1 : Int32), sI (1 : Int32), .unset, .unset, .unset, .unset, .unset]) rfl k) ?_
    show own_Go _ _ _ _ s₁ (mkF m 4 #[sR a, sI (1 : Int32), sI (1 : Int32), .unset, .unset, .unset, .unset, .unset] [])
    refine own_st (fun t k => XS.iloadN X0.here hx rfl (hb hby d17_4) rfl k) ?_
    show own_Go _ _ _ _ s₁ (mkF m 5 _ [(.int (1 : Int32))])
    refine own_st (fun t k => XS.aloadN X0.here hx rfl (hb hby d17_5) rfl rfl k) ?_
    show own_Go _ _ _ _ s₁ (mkF m 6 _ [(.ref a), (.int (1 : Int32))])
    obtain ⟨T1, X1, e1, st1⟩ := getF X0 hx hZ hown (host := "") (Or.inl (own_w hw 35 rfl)) Via.refl e0 F3 (g := (mkF m 6 #[sR a, sI (1 : Int32), sI (1 : Int32), .unset, .unset, .unset, .unset, .unset] [(.ref a), (.int (1 : Int32))])) rfl rfl (hb hby d17_6)
    refine own_st st1 ?_
    show own_Go _ _ _ _ T1 (mkF m 9 _ [(.int (1 : Int32)), (.int (1 : Int32))])
    refine own_st (fun t k => XS.icmpYes X1.here hx rfl (pc0 := 9) (pc' := 167) rfl (hb hby d17_9) rfl (flt (by decide : ¬ ((1 : Int32) < (1 : Int32)))).2.1 (by decide) (by decide) k) ?_
    show own_Go _ _ _ _ T1 (mkF m 167 _ [])
    refine own_st (fun t k => XS.iloadN X1.here hx rfl (hb hby d17_167) rfl k) ?_
    show own_Go _ _ _ _ T1 (mkF m 168 _ [(.int (1 : Int32))])
    refine own_st (fun t k => XS.aloadN X1.here hx rfl (hb hby d17_168) rfl rfl k) ?_
    show own_Go _ _ _ _ T1 (mkF m 169 _ [(.ref a), (.int (1 : Int32))])
    obtain ⟨T2, X2, e2, st2⟩ := getF X1 hx hZ hown (host := "") (Or.inl (own_w hw 35 rfl)) Via.refl e1 F3 (g := (mkF m 169 #[sR a, sI (1 : Int32), sI (1 : Int32), .unset, .unset, .unset, .unset, .unset] [(.ref a), (.int (1 : Int32))])) rfl rfl (hb hby d17_169)
    refine own_st st2 ?_
    show own_Go _ _ _ _ T2 (mkF m 172 _ [(.int (1 : Int32)), (.int (1 : Int32))])
    refine own_st (fun t k => XS.isub X2.here hx rfl (hb hby d17_172) rfl k) ?_
    show own_Go _ _ _ _ T2 (mkF m 173 _ [(.int (0 : Int32))])
    subst hPq
    refine own_out X2 (v := some (.int (0 : Int32))) (fun h => by rw [Bd.returns] at h; cases h) Bd.notSynchronized (own_retI X2 hx Bd.returns (hb hby d17_173)) (by decide) (by decide) ?_
    show Q35 Z a na kn gn (1 : Int32) h0 n0 _ T2.heap _
    rw [e2]
    have eg : (0 : Int32) = own_rg1 gn := by
        unfold own_rg1
        rfl
    exact ⟨congrArg (fun z => some (Value.int z)) eg, N0, rfl⟩
  · skip
    show own_Go _ _ _ _ s₁ (mkF m 0 _ [])
    refine own_st (fun t k => XS.iconst X0.here hx rfl (hb hby d17_0) k) ?_
    show own_Go _ _ _ _ s₁ (mkF m 1 _ [(.int (1 : Int32))])
    refine own_st (fun t k => XS.istoreN X0.here hx rfl (hb hby d17_1) rfl (l' := #[sR a, sI (1 : Int32), .unset, .unset, .unset, .unset, .unset, .unset]) rfl k) ?_
    show own_Go _ _ _ _ s₁ (mkF m 2 #[sR a, sI (1 : Int32), .unset, .unset, .unset, .unset, .unset, .unset] [])
    refine own_st (fun t k => XS.iconst X0.here hx rfl (hb hby d17_2) k) ?_
    show own_Go _ _ _ _ s₁ (mkF m 3 _ [(.int (1 : Int32))])
    refine own_st (fun t k => XS.istoreN X0.here hx rfl (hb hby d17_3) rfl (l' := #[sR a, sI (1 : Int32), sI (1 : Int32), .unset, .unset, .unset, .unset, .unset]) rfl k) ?_
    show own_Go _ _ _ _ s₁ (mkF m 4 #[sR a, sI (1 : Int32), sI (1 : Int32), .unset, .unset, .unset, .unset, .unset] [])
    refine own_st (fun t k => XS.iloadN X0.here hx rfl (hb hby d17_4) rfl k) ?_
    show own_Go _ _ _ _ s₁ (mkF m 5 _ [(.int (1 : Int32))])
    refine own_st (fun t k => XS.aloadN X0.here hx rfl (hb hby d17_5) rfl rfl k) ?_
    show own_Go _ _ _ _ s₁ (mkF m 6 _ [(.ref a), (.int (1 : Int32))])
    obtain ⟨T3, X3, e3, st3⟩ := getF X0 hx hZ hown (host := "") (Or.inl (own_w hw 35 rfl)) Via.refl e0 F3 (g := (mkF m 6 #[sR a, sI (1 : Int32), sI (1 : Int32), .unset, .unset, .unset, .unset, .unset] [(.ref a), (.int (1 : Int32))])) rfl rfl (hb hby d17_6)
    refine own_st st3 ?_
    show own_Go _ _ _ _ T3 (mkF m 9 _ [(.int (2 : Int32)), (.int (1 : Int32))])
    refine own_st (fun t k => XS.icmpNo X3.here hx rfl (hb hby d17_9) rfl (tlt (by decide : ((1 : Int32) < (2 : Int32)))).2.1 k) ?_
    show own_Go _ _ _ _ T3 (mkF m 12 _ [])
    refine own_st (fun t k => XS.iconst X3.here hx rfl (hb hby d17_12) k) ?_
    show own_Go _ _ _ _ T3 (mkF m 13 _ [(.int (4 : Int32))])
    refine own_st (fun t k => XS.iloadN X3.here hx rfl (hb hby d17_13) rfl k) ?_
    show own_Go _ _ _ _ T3 (mkF m 14 _ [(.int (1 : Int32)), (.int (4 : Int32))])
    refine own_st (fun t k => XS.imul X3.here hx rfl (hb hby d17_14) rfl k) ?_
    show own_Go _ _ _ _ T3 (mkF m 15 _ [(.int (4 : Int32))])
    refine own_st (fun t k => XS.istoreN X3.here hx rfl (hb hby d17_15) rfl (l' := #[sR a, sI (1 : Int32), sI (1 : Int32), sI (4 : Int32), .unset, .unset, .unset, .unset]) rfl k) ?_
    show own_Go _ _ _ _ T3 (mkF m 16 #[sR a, sI (1 : Int32), sI (1 : Int32), sI (4 : Int32), .unset, .unset, .unset, .unset] [])
    refine own_st (fun t k => XS.bipush X3.here hx rfl (hb hby d17_16) k) ?_
    show own_Go _ _ _ _ T3 (mkF m 18 _ [(.int (8 : Int32))])
    refine own_st (fun t k => XS.iloadN X3.here hx rfl (hb hby d17_18) rfl k) ?_
    show own_Go _ _ _ _ T3 (mkF m 19 _ [(.int (1 : Int32)), (.int (8 : Int32))])
    refine own_st (fun t k => XS.imul X3.here hx rfl (hb hby d17_19) rfl k) ?_
    show own_Go _ _ _ _ T3 (mkF m 20 _ [(.int (8 : Int32))])
    refine own_st (fun t k => XS.istore X3.here hx rfl (hb hby d17_20) rfl (l' := #[sR a, sI (1 : Int32), sI (1 : Int32), sI (4 : Int32), sI (8 : Int32), .unset, .unset, .unset]) rfl k) ?_
    show own_Go _ _ _ _ T3 (mkF m 22 #[sR a, sI (1 : Int32), sI (1 : Int32), sI (4 : Int32), sI (8 : Int32), .unset, .unset, .unset] [])
    refine own_st (fun t k => XS.iload X3.here hx rfl (hb hby d17_22) rfl k) ?_
    show own_Go _ _ _ _ T3 (mkF m 24 _ [(.int (8 : Int32))])
    refine own_st (fun t k => XS.iconst X3.here hx rfl (hb hby d17_24) k) ?_
    show own_Go _ _ _ _ T3 (mkF m 25 _ [(.int (4 : Int32)), (.int (8 : Int32))])
    refine own_st (fun t k => XS.iadd X3.here hx rfl (hb hby d17_25) rfl k) ?_
    show own_Go _ _ _ _ T3 (mkF m 26 _ [(.int (12 : Int32))])
    refine own_st (fun t k => XS.istore X3.here hx rfl (hb hby d17_26) rfl (l' := #[sR a, sI (1 : Int32), sI (1 : Int32), sI (4 : Int32), sI (8 : Int32), sI (12 : Int32), .unset, .unset]) rfl k) ?_
    show own_Go _ _ _ _ T3 (mkF m 28 #[sR a, sI (1 : Int32), sI (1 : Int32), sI (4 : Int32), sI (8 : Int32), sI (12 : Int32), .unset, .unset] [])
    refine own_st (fun t k => XS.iloadN X3.here hx rfl (hb hby d17_28) rfl k) ?_
    show own_Go _ _ _ _ T3 (mkF m 29 _ [(.int (1 : Int32))])
    refine own_st (fun t k => XS.ifNo X3.here hx rfl (hb hby d17_29) rfl ((if0 _ _).trans (feq (by decide : ¬ ((1 : Int32) = (0 : Int32)))).1) k) ?_
    show own_Go _ _ _ _ T3 (mkF m 32 _ [])
    refine own_st (fun t k => XS.aloadN X3.here hx rfl (hb hby d17_32) rfl rfl k) ?_
    show own_Go _ _ _ _ T3 (mkF m 33 _ [(.ref a)])
    obtain ⟨T4, X4, e4, st4⟩ := getF X3 hx hZ hown (host := "") (Or.inl (own_w hw 28 rfl)) Via.refl e3 F1 (g := (mkF m 33 #[sR a, sI (1 : Int32), sI (1 : Int32), sI (4 : Int32), sI (8 : Int32), sI (12 : Int32), .unset, .unset] [(.ref a)])) rfl rfl (hb hby d17_33)
    refine own_st st4 ?_
    show own_Go _ _ _ _ T4 (mkF m 36 _ [(.ref na)])
    refine own_st (fun t k => XS.iloadN X4.here hx rfl (hb hby d17_36) rfl k) ?_
    show own_Go _ _ _ _ T4 (mkF m 37 _ [(.int (4 : Int32)), (.ref na)])
    refine own_st (fun t k => XS.iconst X4.here hx rfl (hb hby d17_37) k) ?_
    show own_Go _ _ _ _ T4 (mkF m 38 _ [(.int (3 : Int32)), (.int (4 : Int32)), (.ref na)])
    refine own_st (fun t k => XS.iadd X4.here hx rfl (hb hby d17_38) rfl k) ?_
    show own_Go _ _ _ _ T4 (mkF m 39 _ [(.int (7 : Int32)), (.ref na)])
    obtain ⟨c5, Ar5, q5, S5, N5, H5⟩ := id F2
    refine own_st (fun t k => X4.laload hx (j := (7 : Int32)) (v := (.long (gn 7))) (by rw [e4]; exact Ar5.1) (State.isArrayOf_alike hZ.alike Ar5.2.1) Ar5.2.2 (inb_of S5 ⟨by decide, by decide⟩) (H5 _ (own_lt (inb_of S5 ⟨by decide, by decide⟩))) (g := (mkF m 39 #[sR a, sI (1 : Int32), sI (1 : Int32), sI (4 : Int32), sI (8 : Int32), sI (12 : Int32), .unset, .unset] [(.int (7 : Int32)), (.ref na)])) rfl rfl (hb hby d17_39) _ k) ?_
    show own_Go _ _ _ _ T4 (mkF m 40 _ [(.long (gn 7))])
    refine own_st (fun t k => XS.lstore X4.here hx rfl (hb hby d17_40) rfl (l' := #[sR a, sI (1 : Int32), sI (1 : Int32), sI (4 : Int32), sI (8 : Int32), sI (12 : Int32), sJ (gn 7), .second]) rfl k) ?_
    show own_Go _ _ _ _ T4 (mkF m 42 #[sR a, sI (1 : Int32), sI (1 : Int32), sI (4 : Int32), sI (8 : Int32), sI (12 : Int32), sJ (gn 7), .second] [])
    refine own_st (fun t k => XS.lload X4.here hx rfl (hb hby d17_42) rfl k) ?_
    show own_Go _ _ _ _ T4 (mkF m 44 _ [(.long (gn 7))])
    refine own_st (fun t k => XS.aloadN X4.here hx rfl (hb hby d17_44) rfl rfl k) ?_
    show own_Go _ _ _ _ T4 (mkF m 45 _ [(.ref a), (.long (gn 7))])
    obtain ⟨T6, X6, e6, st6⟩ := getF X4 hx hZ hown (host := "") (Or.inl (own_w hw 28 rfl)) Via.refl e4 F1 (g := (mkF m 45 #[sR a, sI (1 : Int32), sI (1 : Int32), sI (4 : Int32), sI (8 : Int32), sI (12 : Int32), sJ (gn 7), .second] [(.ref a), (.long (gn 7))])) rfl rfl (hb hby d17_45)
    refine own_st st6 ?_
    show own_Go _ _ _ _ T6 (mkF m 48 _ [(.ref na), (.long (gn 7))])
    refine own_st (fun t k => XS.iload X6.here hx rfl (hb hby d17_48) rfl k) ?_
    show own_Go _ _ _ _ T6 (mkF m 50 _ [(.int (12 : Int32)), (.ref na), (.long (gn 7))])
    refine own_st (fun t k => XS.iconst X6.here hx rfl (hb hby d17_50) k) ?_
    show own_Go _ _ _ _ T6 (mkF m 51 _ [(.int (3 : Int32)), (.int (12 : Int32)), (.ref na), (.long (gn 7))])
    refine own_st (fun t k => XS.iadd X6.here hx rfl (hb hby d17_51) rfl k) ?_
    show own_Go _ _ _ _ T6 (mkF m 52 _ [(.int (15 : Int32)), (.ref na), (.long (gn 7))])
    obtain ⟨c7, Ar7, q7, S7, N7, H7⟩ := id F2
    refine own_st (fun t k => X6.laload hx (j := (15 : Int32)) (v := (.long (gn 15))) (by rw [e6]; exact Ar7.1) (State.isArrayOf_alike hZ.alike Ar7.2.1) Ar7.2.2 (inb_of S7 ⟨by decide, by decide⟩) (H7 _ (own_lt (inb_of S7 ⟨by decide, by decide⟩))) (g := (mkF m 52 #[sR a, sI (1 : Int32), sI (1 : Int32), sI (4 : Int32), sI (8 : Int32), sI (12 : Int32), sJ (gn 7), .second] [(.int (15 : Int32)), (.ref na), (.long (gn 7))])) rfl rfl (hb hby d17_52) _ k) ?_
    show own_Go _ _ _ _ T6 (mkF m 53 _ [(.long (gn 15)), (.long (gn 7))])
    refine own_st (fun t k => XS.lcmp X6.here hx rfl (hb hby d17_53) rfl k) ?_
    show own_Go _ _ _ _ T6 (mkF m 54 _ [(.int (lcmpW (gn 7) (gn 15)))])
    by_cases c8 : (gn 7) = (gn 15)
    · skip
      refine own_st (fun t k => XS.ifNo X6.here hx rfl (hb hby d17_54) rfl (own_lcF (cd := .ne) (not_not_intro c8)) k) ?_
      show own_Go _ _ _ _ T6 (mkF m 57 _ [])
      refine own_st (fun t k => XS.iconst X6.here hx rfl (hb hby d17_57) k) ?_
      show own_Go _ _ _ _ T6 (mkF m 58 _ [(.int (2 : Int32))])
      refine own_st (fun t k => XS.iloadN X6.here hx rfl (hb hby d17_58) rfl k) ?_
      show own_Go _ _ _ _ T6 (mkF m 59 _ [(.int (1 : Int32)), (.int (2 : Int32))])
      refine own_st (fun t k => XS.imul X6.here hx rfl (hb hby d17_59) rfl k) ?_
      show own_Go _ _ _ _ T6 (mkF m 60 _ [(.int (2 : Int32))])
      refine own_st (fun t k => XS.iconst X6.here hx rfl (hb hby d17_60) k) ?_
      show own_Go _ _ _ _ T6 (mkF m 61 _ [(.int (1 : Int32)), (.int (2 : Int32))])
      refine own_st (fun t k => XS.iadd X6.here hx rfl (hb hby d17_61) rfl k) ?_
      show own_Go _ _ _ _ T6 (mkF m 62 _ [(.int (3 : Int32))])
      refine own_st (fun t k => XS.istoreN X6.here hx rfl (hb hby d17_62) rfl (l' := #[sR a, sI (3 : Int32), sI (1 : Int32), sI (4 : Int32), sI (8 : Int32), sI (12 : Int32), sJ (gn 7), .second]) rfl k) ?_
      show own_Go _ _ _ _ T6 (mkF m 63 #[sR a, sI (3 : Int32), sI (1 : Int32), sI (4 : Int32), sI (8 : Int32), sI (12 : Int32), sJ (gn 7), .second] [])
      refine own_st (fun t k => XS.goto X6.here hx rfl (pc0 := 63) (pc' := 106) rfl (hb hby d17_63) (by decide) (by decide) k) ?_
      show own_Go _ _ _ _ T6 (mkF m 106 _ [])
      refine own_st (fun t k => XS.goto X6.here hx rfl (pc0 := 106) (pc' := 164) rfl (hb hby d17_106) (by decide) (by decide) k) ?_
      show own_Go _ _ _ _ T6 (mkF m 164 _ [])
      refine own_st (fun t k => XS.goto X6.here hx rfl (pc0 := 164) (pc' := 4) rfl (hb hby d17_164) (by decide) (by decide) k) ?_
      show own_Go _ _ _ _ T6 (mkF m 4 _ [])
      refine own_st (fun t k => XS.iloadN X6.here hx rfl (hb hby d17_4) rfl k) ?_
      show own_Go _ _ _ _ T6 (mkF m 5 _ [(.int (3 : Int32))])
      refine own_st (fun t k => XS.aloadN X6.here hx rfl (hb hby d17_5) rfl rfl k) ?_
      show own_Go _ _ _ _ T6 (mkF m 6 _ [(.ref a), (.int (3 : Int32))])
      obtain ⟨T9, X9, e9, st9⟩ := getF X6 hx hZ hown (host := "") (Or.inl (own_w hw 35 rfl)) Via.refl e6 F3 (g := (mkF m 6 #[sR a, sI (3 : Int32), sI (1 : Int32), sI (4 : Int32), sI (8 : Int32), sI (12 : Int32), sJ (gn 7), .second] [(.ref a), (.int (3 : Int32))])) rfl rfl (hb hby d17_6)
      refine own_st st9 ?_
      show own_Go _ _ _ _ T9 (mkF m 9 _ [(.int (2 : Int32)), (.int (3 : Int32))])
      refine own_st (fun t k => XS.icmpYes X9.here hx rfl (pc0 := 9) (pc' := 167) rfl (hb hby d17_9) rfl (flt (by decide : ¬ ((3 : Int32) < (2 : Int32)))).2.1 (by decide) (by decide) k) ?_
      show own_Go _ _ _ _ T9 (mkF m 167 _ [])
      refine own_st (fun t k => XS.iloadN X9.here hx rfl (hb hby d17_167) rfl k) ?_
      show own_Go _ _ _ _ T9 (mkF m 168 _ [(.int (3 : Int32))])
      refine own_st (fun t k => XS.aloadN X9.here hx rfl (hb hby d17_168) rfl rfl k) ?_
      show own_Go _ _ _ _ T9 (mkF m 169 _ [(.ref a), (.int (3 : Int32))])
      obtain ⟨T10, X10, e10, st10⟩ := getF X9 hx hZ hown (host := "") (Or.inl (own_w hw 35 rfl)) Via.refl e9 F3 (g := (mkF m 169 #[sR a, sI (3 : Int32), sI (1 : Int32), sI (4 : Int32), sI (8 : Int32), sI (12 : Int32), sJ (gn 7), .second] [(.ref a), (.int (3 : Int32))])) rfl rfl (hb hby d17_169)
      refine own_st st10 ?_
      show own_Go _ _ _ _ T10 (mkF m 172 _ [(.int (2 : Int32)), (.int (3 : Int32))])
      refine own_st (fun t k => XS.isub X10.here hx rfl (hb hby d17_172) rfl k) ?_
      show own_Go _ _ _ _ T10 (mkF m 173 _ [(.int (1 : Int32))])
      subst hPq
      refine own_out X10 (v := some (.int (1 : Int32))) (fun h => by rw [Bd.returns] at h; cases h) Bd.notSynchronized (own_retI X10 hx Bd.returns (hb hby d17_173)) (by decide) (by decide) ?_
      show Q35 Z a na kn gn (2 : Int32) h0 n0 _ T10.heap _
      rw [e10]
      have eg : (1 : Int32) = own_rg2 gn := by
          unfold own_rg2
          rw [if_pos c8]
      exact ⟨congrArg (fun z => some (Value.int z)) eg, N0, rfl⟩
    · skip
      refine own_st (fun t k => XS.ifYes X6.here hx rfl (pc0 := 54) (pc' := 66) rfl (hb hby d17_54) rfl (own_lcT (cd := .ne) c8) (by decide) (by decide) k) ?_
      show own_Go _ _ _ _ T6 (mkF m 66 _ [])
      refine own_st (fun t k => XS.lload X6.here hx rfl (hb hby d17_66) rfl k) ?_
      show own_Go _ _ _ _ T6 (mkF m 68 _ [(.long (gn 7))])
      refine own_st (fun t k => XS.aloadN X6.here hx rfl (hb hby d17_68) rfl rfl k) ?_
      show own_Go _ _ _ _ T6 (mkF m 69 _ [(.ref a), (.long (gn 7))])
      obtain ⟨T11, X11, e11, st11⟩ := getF X6 hx hZ hown (host := "") (Or.inl (own_w hw 28 rfl)) Via.refl e6 F1 (g := (mkF m 69 #[sR a, sI (1 : Int32), sI (1 : Int32), sI (4 : Int32), sI (8 : Int32), sI (12 : Int32), sJ (gn 7), .second] [(.ref a), (.long (gn 7))])) rfl rfl (hb hby d17_69)
      refine own_st st11 ?_
      show own_Go _ _ _ _ T11 (mkF m 72 _ [(.ref na), (.long (gn 7))])
      refine own_st (fun t k => XS.iload X11.here hx rfl (hb hby d17_72) rfl k) ?_
      show own_Go _ _ _ _ T11 (mkF m 74 _ [(.int (8 : Int32)), (.ref na), (.long (gn 7))])
      refine own_st (fun t k => XS.iconst X11.here hx rfl (hb hby d17_74) k) ?_
      show own_Go _ _ _ _ T11 (mkF m 75 _ [(.int (1 : Int32)), (.int (8 : Int32)), (.ref na), (.long (gn 7))])
      refine own_st (fun t k => XS.iadd X11.here hx rfl (hb hby d17_75) rfl k) ?_
      show own_Go _ _ _ _ T11 (mkF m 76 _ [(.int (9 : Int32)), (.ref na), (.long (gn 7))])
      obtain ⟨c12, Ar12, q12, S12, N12, H12⟩ := id F2
      refine own_st (fun t k => X11.laload hx (j := (9 : Int32)) (v := (.long (gn 9))) (by rw [e11]; exact Ar12.1) (State.isArrayOf_alike hZ.alike Ar12.2.1) Ar12.2.2 (inb_of S12 ⟨by decide, by decide⟩) (H12 _ (own_lt (inb_of S12 ⟨by decide, by decide⟩))) (g := (mkF m 76 #[sR a, sI (1 : Int32), sI (1 : Int32), sI (4 : Int32), sI (8 : Int32), sI (12 : Int32), sJ (gn 7), .second] [(.int (9 : Int32)), (.ref na), (.long (gn 7))])) rfl rfl (hb hby d17_76) _ k) ?_
      show own_Go _ _ _ _ T11 (mkF m 77 _ [(.long (gn 9)), (.long (gn 7))])
      refine own_st (fun t k => XS.aloadN X11.here hx rfl (hb hby d17_77) rfl rfl k) ?_
      show own_Go _ _ _ _ T11 (mkF m 78 _ [(.ref a), (.long (gn 9)), (.long (gn 7))])
      obtain ⟨T13, X13, e13, st13⟩ := getF X11 hx hZ hown (host := "") (Or.inl (own_w hw 28 rfl)) Via.refl e11 F1 (g := (mkF m 78 #[sR a, sI (1 : Int32), sI (1 : Int32), sI (4 : Int32), sI (8 : Int32), sI (12 : Int32), sJ (gn 7), .second] [(.ref a), (.long (gn 9)), (.long (gn 7))])) rfl rfl (hb hby d17_78)
      refine own_st st13 ?_
      show own_Go _ _ _ _ T13 (mkF m 81 _ [(.ref na), (.long (gn 9)), (.long (gn 7))])
      refine own_st (fun t k => XS.iload X13.here hx rfl (hb hby d17_81) rfl k) ?_
      show own_Go _ _ _ _ T13 (mkF m 83 _ [(.int (12 : Int32)), (.ref na), (.long (gn 9)), (.long (gn 7))])
      refine own_st (fun t k => XS.iconst X13.here hx rfl (hb hby d17_83) k) ?_
      show own_Go _ _ _ _ T13 (mkF m 84 _ [(.int (2 : Int32)), (.int (12 : Int32)), (.ref na), (.long (gn 9)), (.long (gn 7))])
      refine own_st (fun t k => XS.iadd X13.here hx rfl (hb hby d17_84) rfl k) ?_
      show own_Go _ _ _ _ T13 (mkF m 85 _ [(.int (14 : Int32)), (.ref na), (.long (gn 9)), (.long (gn 7))])
      obtain ⟨c14, Ar14, q14, S14, N14, H14⟩ := id F2
      refine own_st (fun t k => X13.laload hx (j := (14 : Int32)) (v := (.long (gn 14))) (by rw [e13]; exact Ar14.1) (State.isArrayOf_alike hZ.alike Ar14.2.1) Ar14.2.2 (inb_of S14 ⟨by decide, by decide⟩) (H14 _ (own_lt (inb_of S14 ⟨by decide, by decide⟩))) (g := (mkF m 85 #[sR a, sI (1 : Int32), sI (1 : Int32), sI (4 : Int32), sI (8 : Int32), sI (12 : Int32), sJ (gn 7), .second] [(.int (14 : Int32)), (.ref na), (.long (gn 9)), (.long (gn 7))])) rfl rfl (hb hby d17_85) _ k) ?_
      show own_Go _ _ _ _ T13 (mkF m 86 _ [(.long (gn 14)), (.long (gn 9)), (.long (gn 7))])
      refine own_st (fun t k => XS.ladd X13.here hx rfl (hb hby d17_86) rfl k) ?_
      show own_Go _ _ _ _ T13 (mkF m 87 _ [(.long ((gn 9) + (gn 14))), (.long (gn 7))])
      refine own_st (fun t k => XS.lcmp X13.here hx rfl (hb hby d17_87) rfl k) ?_
      show own_Go _ _ _ _ T13 (mkF m 88 _ [(.int (lcmpW (gn 7) ((gn 9) + (gn 14))))])
      by_cases c15 : (gn 7) = ((gn 9) + (gn 14))
      · skip
        refine own_st (fun t k => XS.ifNo X13.here hx rfl (hb hby d17_88) rfl (own_lcF (cd := .ne) (not_not_intro c15)) k) ?_
        show own_Go _ _ _ _ T13 (mkF m 91 _ [])
        refine own_st (fun t k => XS.iconst X13.here hx rfl (hb hby d17_91) k) ?_
        show own_Go _ _ _ _ T13 (mkF m 92 _ [(.int (2 : Int32))])
        refine own_st (fun t k => XS.iloadN X13.here hx rfl (hb hby d17_92) rfl k) ?_
        show own_Go _ _ _ _ T13 (mkF m 93 _ [(.int (1 : Int32)), (.int (2 : Int32))])
        refine own_st (fun t k => XS.imul X13.here hx rfl (hb hby d17_93) rfl k) ?_
        show own_Go _ _ _ _ T13 (mkF m 94 _ [(.int (2 : Int32))])
        refine own_st (fun t k => XS.iconst X13.here hx rfl (hb hby d17_94) k) ?_
        show own_Go _ _ _ _ T13 (mkF m 95 _ [(.int (1 : Int32)), (.int (2 : Int32))])
        refine own_st (fun t k => XS.iadd X13.here hx rfl (hb hby d17_95) rfl k) ?_
        show own_Go _ _ _ _ T13 (mkF m 96 _ [(.int (3 : Int32))])
        refine own_st (fun t k => XS.istoreN X13.here hx rfl (hb hby d17_96) rfl (l' := #[sR a, sI (3 : Int32), sI (1 : Int32), sI (4 : Int32), sI (8 : Int32), sI (12 : Int32), sJ (gn 7), .second]) rfl k) ?_
        show own_Go _ _ _ _ T13 (mkF m 97 #[sR a, sI (3 : Int32), sI (1 : Int32), sI (4 : Int32), sI (8 : Int32), sI (12 : Int32), sJ (gn 7), .second] [])
        refine own_st (fun t k => XS.iconst X13.here hx rfl (hb hby d17_97) k) ?_
        show own_Go _ _ _ _ T13 (mkF m 98 _ [(.int (0 : Int32))])
        refine own_st (fun t k => XS.istoreN X13.here hx rfl (hb hby d17_98) rfl (l' := #[sR a, sI (3 : Int32), sI (0 : Int32), sI (4 : Int32), sI (8 : Int32), sI (12 : Int32), sJ (gn 7), .second]) rfl k) ?_
        show own_Go _ _ _ _ T13 (mkF m 99 #[sR a, sI (3 : Int32), sI (0 : Int32), sI (4 : Int32), sI (8 : Int32), sI (12 : Int32), sJ (gn 7), .second] [])
        refine own_st (fun t k => XS.goto X13.here hx rfl (pc0 := 99) (pc' := 106) rfl (hb hby d17_99) (by decide) (by decide) k) ?_
        show own_Go _ _ _ _ T13 (mkF m 106 _ [])
        refine own_st (fun t k => XS.goto X13.here hx rfl (pc0 := 106) (pc' := 164) rfl (hb hby d17_106) (by decide) (by decide) k) ?_
        show own_Go _ _ _ _ T13 (mkF m 164 _ [])
        refine own_st (fun t k => XS.goto X13.here hx rfl (pc0 := 164) (pc' := 4) rfl (hb hby d17_164) (by decide) (by decide) k) ?_
        show own_Go _ _ _ _ T13 (mkF m 4 _ [])
        refine own_st (fun t k => XS.iloadN X13.here hx rfl (hb hby d17_4) rfl k) ?_
        show own_Go _ _ _ _ T13 (mkF m 5 _ [(.int (3 : Int32))])
        refine own_st (fun t k => XS.aloadN X13.here hx rfl (hb hby d17_5) rfl rfl k) ?_
        show own_Go _ _ _ _ T13 (mkF m 6 _ [(.ref a), (.int (3 : Int32))])
        obtain ⟨T16, X16, e16, st16⟩ := getF X13 hx hZ hown (host := "") (Or.inl (own_w hw 35 rfl)) Via.refl e13 F3 (g := (mkF m 6 #[sR a, sI (3 : Int32), sI (0 : Int32), sI (4 : Int32), sI (8 : Int32), sI (12 : Int32), sJ (gn 7), .second] [(.ref a), (.int (3 : Int32))])) rfl rfl (hb hby d17_6)
        refine own_st st16 ?_
        show own_Go _ _ _ _ T16 (mkF m 9 _ [(.int (2 : Int32)), (.int (3 : Int32))])
        refine own_st (fun t k => XS.icmpYes X16.here hx rfl (pc0 := 9) (pc' := 167) rfl (hb hby d17_9) rfl (flt (by decide : ¬ ((3 : Int32) < (2 : Int32)))).2.1 (by decide) (by decide) k) ?_
        show own_Go _ _ _ _ T16 (mkF m 167 _ [])
        refine own_st (fun t k => XS.iloadN X16.here hx rfl (hb hby d17_167) rfl k) ?_
        show own_Go _ _ _ _ T16 (mkF m 168 _ [(.int (3 : Int32))])
        refine own_st (fun t k => XS.aloadN X16.here hx rfl (hb hby d17_168) rfl rfl k) ?_
        show own_Go _ _ _ _ T16 (mkF m 169 _ [(.ref a), (.int (3 : Int32))])
        obtain ⟨T17, X17, e17, st17⟩ := getF X16 hx hZ hown (host := "") (Or.inl (own_w hw 35 rfl)) Via.refl e16 F3 (g := (mkF m 169 #[sR a, sI (3 : Int32), sI (0 : Int32), sI (4 : Int32), sI (8 : Int32), sI (12 : Int32), sJ (gn 7), .second] [(.ref a), (.int (3 : Int32))])) rfl rfl (hb hby d17_169)
        refine own_st st17 ?_
        show own_Go _ _ _ _ T17 (mkF m 172 _ [(.int (2 : Int32)), (.int (3 : Int32))])
        refine own_st (fun t k => XS.isub X17.here hx rfl (hb hby d17_172) rfl k) ?_
        show own_Go _ _ _ _ T17 (mkF m 173 _ [(.int (1 : Int32))])
        subst hPq
        refine own_out X17 (v := some (.int (1 : Int32))) (fun h => by rw [Bd.returns] at h; cases h) Bd.notSynchronized (own_retI X17 hx Bd.returns (hb hby d17_173)) (by decide) (by decide) ?_
        show Q35 Z a na kn gn (2 : Int32) h0 n0 _ T17.heap _
        rw [e17]
        have eg : (1 : Int32) = own_rg2 gn := by
            unfold own_rg2
            rw [if_neg c8, if_pos c15]
        exact ⟨congrArg (fun z => some (Value.int z)) eg, N0, rfl⟩
      · skip
        refine own_st (fun t k => XS.ifYes X13.here hx rfl (pc0 := 88) (pc' := 102) rfl (hb hby d17_88) rfl (own_lcT (cd := .ne) c15) (by decide) (by decide) k) ?_
        show own_Go _ _ _ _ T13 (mkF m 102 _ [])
        refine own_st (fun t k => XS.iconst X13.here hx rfl (hb hby d17_102) k) ?_
        show own_Go _ _ _ _ T13 (mkF m 103 _ [(.int (2 : Int32))])
        refine own_st (fun t k => XS.iloadN X13.here hx rfl (hb hby d17_103) rfl k) ?_
        show own_Go _ _ _ _ T13 (mkF m 104 _ [(.int (1 : Int32)), (.int (2 : Int32))])
        refine own_st (fun t k => XS.imul X13.here hx rfl (hb hby d17_104) rfl k) ?_
        show own_Go _ _ _ _ T13 (mkF m 105 _ [(.int (2 : Int32))])
        refine own_st (fun t k => XS.istoreN X13.here hx rfl (hb hby d17_105) rfl (l' := #[sR a, sI (2 : Int32), sI (1 : Int32), sI (4 : Int32), sI (8 : Int32), sI (12 : Int32), sJ (gn 7), .second]) rfl k) ?_
        show own_Go _ _ _ _ T13 (mkF m 106 #[sR a, sI (2 : Int32), sI (1 : Int32), sI (4 : Int32), sI (8 : Int32), sI (12 : Int32), sJ (gn 7), .second] [])
        refine own_st (fun t k => XS.goto X13.here hx rfl (pc0 := 106) (pc' := 164) rfl (hb hby d17_106) (by decide) (by decide) k) ?_
        show own_Go _ _ _ _ T13 (mkF m 164 _ [])
        refine own_st (fun t k => XS.goto X13.here hx rfl (pc0 := 164) (pc' := 4) rfl (hb hby d17_164) (by decide) (by decide) k) ?_
        show own_Go _ _ _ _ T13 (mkF m 4 _ [])
        refine own_st (fun t k => XS.iloadN X13.here hx rfl (hb hby d17_4) rfl k) ?_
        show own_Go _ _ _ _ T13 (mkF m 5 _ [(.int (2 : Int32))])
        refine own_st (fun t k => XS.aloadN X13.here hx rfl (hb hby d17_5) rfl rfl k) ?_
        show own_Go _ _ _ _ T13 (mkF m 6 _ [(.ref a), (.int (2 : Int32))])
        obtain ⟨T18, X18, e18, st18⟩ := getF X13 hx hZ hown (host := "") (Or.inl (own_w hw 35 rfl)) Via.refl e13 F3 (g := (mkF m 6 #[sR a, sI (2 : Int32), sI (1 : Int32), sI (4 : Int32), sI (8 : Int32), sI (12 : Int32), sJ (gn 7), .second] [(.ref a), (.int (2 : Int32))])) rfl rfl (hb hby d17_6)
        refine own_st st18 ?_
        show own_Go _ _ _ _ T18 (mkF m 9 _ [(.int (2 : Int32)), (.int (2 : Int32))])
        refine own_st (fun t k => XS.icmpYes X18.here hx rfl (pc0 := 9) (pc' := 167) rfl (hb hby d17_9) rfl (flt (by decide : ¬ ((2 : Int32) < (2 : Int32)))).2.1 (by decide) (by decide) k) ?_
        show own_Go _ _ _ _ T18 (mkF m 167 _ [])
        refine own_st (fun t k => XS.iloadN X18.here hx rfl (hb hby d17_167) rfl k) ?_
        show own_Go _ _ _ _ T18 (mkF m 168 _ [(.int (2 : Int32))])
        refine own_st (fun t k => XS.aloadN X18.here hx rfl (hb hby d17_168) rfl rfl k) ?_
        show own_Go _ _ _ _ T18 (mkF m 169 _ [(.ref a), (.int (2 : Int32))])
        obtain ⟨T19, X19, e19, st19⟩ := getF X18 hx hZ hown (host := "") (Or.inl (own_w hw 35 rfl)) Via.refl e18 F3 (g := (mkF m 169 #[sR a, sI (2 : Int32), sI (1 : Int32), sI (4 : Int32), sI (8 : Int32), sI (12 : Int32), sJ (gn 7), .second] [(.ref a), (.int (2 : Int32))])) rfl rfl (hb hby d17_169)
        refine own_st st19 ?_
        show own_Go _ _ _ _ T19 (mkF m 172 _ [(.int (2 : Int32)), (.int (2 : Int32))])
        refine own_st (fun t k => XS.isub X19.here hx rfl (hb hby d17_172) rfl k) ?_
        show own_Go _ _ _ _ T19 (mkF m 173 _ [(.int (0 : Int32))])
        subst hPq
        refine own_out X19 (v := some (.int (0 : Int32))) (fun h => by rw [Bd.returns] at h; cases h) Bd.notSynchronized (own_retI X19 hx Bd.returns (hb hby d17_173)) (by decide) (by decide) ?_
        show Q35 Z a na kn gn (2 : Int32) h0 n0 _ T19.heap _
        rw [e19]
        have eg : (0 : Int32) = own_rg2 gn := by
            unfold own_rg2
            rw [if_neg c8, if_neg c15]
        exact ⟨congrArg (fun z => some (Value.int z)) eg, N0, rfl⟩
  · skip
    show own_Go _ _ _ _ s₁ (mkF m 0 _ [])
    refine own_st (fun t k => XS.iconst X0.here hx rfl (hb hby d17_0) k) ?_
    show own_Go _ _ _ _ s₁ (mkF m 1 _ [(.int (1 : Int32))])
    refine own_st (fun t k => XS.istoreN X0.here hx rfl (hb hby d17_1) rfl (l' := #[sR a, sI (1 : Int32), .unset, .unset, .unset, .unset, .unset, .unset]) rfl k) ?_
    show own_Go _ _ _ _ s₁ (mkF m 2 #[sR a, sI (1 : Int32), .unset, .unset, .unset, .unset, .unset, .unset] [])
    refine own_st (fun t k => XS.iconst X0.here hx rfl (hb hby d17_2) k) ?_
    show own_Go _ _ _ _ s₁ (mkF m 3 _ [(.int (1 : Int32))])
    refine own_st (fun t k => XS.istoreN X0.here hx rfl (hb hby d17_3) rfl (l' := #[sR a, sI (1 : Int32), sI (1 : Int32), .unset, .unset, .unset, .unset, .unset]) rfl k) ?_
    show own_Go _ _ _ _ s₁ (mkF m 4 #[sR a, sI (1 : Int32), sI (1 : Int32), .unset, .unset, .unset, .unset, .unset] [])
    refine own_st (fun t k => XS.iloadN X0.here hx rfl (hb hby d17_4) rfl k) ?_
    show own_Go _ _ _ _ s₁ (mkF m 5 _ [(.int (1 : Int32))])
    refine own_st (fun t k => XS.aloadN X0.here hx rfl (hb hby d17_5) rfl rfl k) ?_
    show own_Go _ _ _ _ s₁ (mkF m 6 _ [(.ref a), (.int (1 : Int32))])
    obtain ⟨T20, X20, e20, st20⟩ := getF X0 hx hZ hown (host := "") (Or.inl (own_w hw 35 rfl)) Via.refl e0 F3 (g := (mkF m 6 #[sR a, sI (1 : Int32), sI (1 : Int32), .unset, .unset, .unset, .unset, .unset] [(.ref a), (.int (1 : Int32))])) rfl rfl (hb hby d17_6)
    refine own_st st20 ?_
    show own_Go _ _ _ _ T20 (mkF m 9 _ [(.int (4 : Int32)), (.int (1 : Int32))])
    refine own_st (fun t k => XS.icmpNo X20.here hx rfl (hb hby d17_9) rfl (tlt (by decide : ((1 : Int32) < (4 : Int32)))).2.1 k) ?_
    show own_Go _ _ _ _ T20 (mkF m 12 _ [])
    refine own_st (fun t k => XS.iconst X20.here hx rfl (hb hby d17_12) k) ?_
    show own_Go _ _ _ _ T20 (mkF m 13 _ [(.int (4 : Int32))])
    refine own_st (fun t k => XS.iloadN X20.here hx rfl (hb hby d17_13) rfl k) ?_
    show own_Go _ _ _ _ T20 (mkF m 14 _ [(.int (1 : Int32)), (.int (4 : Int32))])
    refine own_st (fun t k => XS.imul X20.here hx rfl (hb hby d17_14) rfl k) ?_
    show own_Go _ _ _ _ T20 (mkF m 15 _ [(.int (4 : Int32))])
    refine own_st (fun t k => XS.istoreN X20.here hx rfl (hb hby d17_15) rfl (l' := #[sR a, sI (1 : Int32), sI (1 : Int32), sI (4 : Int32), .unset, .unset, .unset, .unset]) rfl k) ?_
    show own_Go _ _ _ _ T20 (mkF m 16 #[sR a, sI (1 : Int32), sI (1 : Int32), sI (4 : Int32), .unset, .unset, .unset, .unset] [])
    refine own_st (fun t k => XS.bipush X20.here hx rfl (hb hby d17_16) k) ?_
    show own_Go _ _ _ _ T20 (mkF m 18 _ [(.int (8 : Int32))])
    refine own_st (fun t k => XS.iloadN X20.here hx rfl (hb hby d17_18) rfl k) ?_
    show own_Go _ _ _ _ T20 (mkF m 19 _ [(.int (1 : Int32)), (.int (8 : Int32))])
    refine own_st (fun t k => XS.imul X20.here hx rfl (hb hby d17_19) rfl k) ?_
    show own_Go _ _ _ _ T20 (mkF m 20 _ [(.int (8 : Int32))])
    refine own_st (fun t k => XS.istore X20.here hx rfl (hb hby d17_20) rfl (l' := #[sR a, sI (1 : Int32), sI (1 : Int32), sI (4 : Int32), sI (8 : Int32), .unset, .unset, .unset]) rfl k) ?_
    show own_Go _ _ _ _ T20 (mkF m 22 #[sR a, sI (1 : Int32), sI (1 : Int32), sI (4 : Int32), sI (8 : Int32), .unset, .unset, .unset] [])
    refine own_st (fun t k => XS.iload X20.here hx rfl (hb hby d17_22) rfl k) ?_
    show own_Go _ _ _ _ T20 (mkF m 24 _ [(.int (8 : Int32))])
    refine own_st (fun t k => XS.iconst X20.here hx rfl (hb hby d17_24) k) ?_
    show own_Go _ _ _ _ T20 (mkF m 25 _ [(.int (4 : Int32)), (.int (8 : Int32))])
    refine own_st (fun t k => XS.iadd X20.here hx rfl (hb hby d17_25) rfl k) ?_
    show own_Go _ _ _ _ T20 (mkF m 26 _ [(.int (12 : Int32))])
    refine own_st (fun t k => XS.istore X20.here hx rfl (hb hby d17_26) rfl (l' := #[sR a, sI (1 : Int32), sI (1 : Int32), sI (4 : Int32), sI (8 : Int32), sI (12 : Int32), .unset, .unset]) rfl k) ?_
    show own_Go _ _ _ _ T20 (mkF m 28 #[sR a, sI (1 : Int32), sI (1 : Int32), sI (4 : Int32), sI (8 : Int32), sI (12 : Int32), .unset, .unset] [])
    refine own_st (fun t k => XS.iloadN X20.here hx rfl (hb hby d17_28) rfl k) ?_
    show own_Go _ _ _ _ T20 (mkF m 29 _ [(.int (1 : Int32))])
    refine own_st (fun t k => XS.ifNo X20.here hx rfl (hb hby d17_29) rfl ((if0 _ _).trans (feq (by decide : ¬ ((1 : Int32) = (0 : Int32)))).1) k) ?_
    show own_Go _ _ _ _ T20 (mkF m 32 _ [])
    refine own_st (fun t k => XS.aloadN X20.here hx rfl (hb hby d17_32) rfl rfl k) ?_
    show own_Go _ _ _ _ T20 (mkF m 33 _ [(.ref a)])
    obtain ⟨T21, X21, e21, st21⟩ := getF X20 hx hZ hown (host := "") (Or.inl (own_w hw 28 rfl)) Via.refl e20 F1 (g := (mkF m 33 #[sR a, sI (1 : Int32), sI (1 : Int32), sI (4 : Int32), sI (8 : Int32), sI (12 : Int32), .unset, .unset] [(.ref a)])) rfl rfl (hb hby d17_33)
    refine own_st st21 ?_
    show own_Go _ _ _ _ T21 (mkF m 36 _ [(.ref na)])
    refine own_st (fun t k => XS.iloadN X21.here hx rfl (hb hby d17_36) rfl k) ?_
    show own_Go _ _ _ _ T21 (mkF m 37 _ [(.int (4 : Int32)), (.ref na)])
    refine own_st (fun t k => XS.iconst X21.here hx rfl (hb hby d17_37) k) ?_
    show own_Go _ _ _ _ T21 (mkF m 38 _ [(.int (3 : Int32)), (.int (4 : Int32)), (.ref na)])
    refine own_st (fun t k => XS.iadd X21.here hx rfl (hb hby d17_38) rfl k) ?_
    show own_Go _ _ _ _ T21 (mkF m 39 _ [(.int (7 : Int32)), (.ref na)])
    obtain ⟨c22, Ar22, q22, S22, N22, H22⟩ := id F2
    refine own_st (fun t k => X21.laload hx (j := (7 : Int32)) (v := (.long (gn 7))) (by rw [e21]; exact Ar22.1) (State.isArrayOf_alike hZ.alike Ar22.2.1) Ar22.2.2 (inb_of S22 ⟨by decide, by decide⟩) (H22 _ (own_lt (inb_of S22 ⟨by decide, by decide⟩))) (g := (mkF m 39 #[sR a, sI (1 : Int32), sI (1 : Int32), sI (4 : Int32), sI (8 : Int32), sI (12 : Int32), .unset, .unset] [(.int (7 : Int32)), (.ref na)])) rfl rfl (hb hby d17_39) _ k) ?_
    show own_Go _ _ _ _ T21 (mkF m 40 _ [(.long (gn 7))])
    refine own_st (fun t k => XS.lstore X21.here hx rfl (hb hby d17_40) rfl (l' := #[sR a, sI (1 : Int32), sI (1 : Int32), sI (4 : Int32), sI (8 : Int32), sI (12 : Int32), sJ (gn 7), .second]) rfl k) ?_
    show own_Go _ _ _ _ T21 (mkF m 42 #[sR a, sI (1 : Int32), sI (1 : Int32), sI (4 : Int32), sI (8 : Int32), sI (12 : Int32), sJ (gn 7), .second] [])
    refine own_st (fun t k => XS.lload X21.here hx rfl (hb hby d17_42) rfl k) ?_
    show own_Go _ _ _ _ T21 (mkF m 44 _ [(.long (gn 7))])
    refine own_st (fun t k => XS.aloadN X21.here hx rfl (hb hby d17_44) rfl rfl k) ?_
    show own_Go _ _ _ _ T21 (mkF m 45 _ [(.ref a), (.long (gn 7))])
    obtain ⟨T23, X23, e23, st23⟩ := getF X21 hx hZ hown (host := "") (Or.inl (own_w hw 28 rfl)) Via.refl e21 F1 (g := (mkF m 45 #[sR a, sI (1 : Int32), sI (1 : Int32), sI (4 : Int32), sI (8 : Int32), sI (12 : Int32), sJ (gn 7), .second] [(.ref a), (.long (gn 7))])) rfl rfl (hb hby d17_45)
    refine own_st st23 ?_
    show own_Go _ _ _ _ T23 (mkF m 48 _ [(.ref na), (.long (gn 7))])
    refine own_st (fun t k => XS.iload X23.here hx rfl (hb hby d17_48) rfl k) ?_
    show own_Go _ _ _ _ T23 (mkF m 50 _ [(.int (12 : Int32)), (.ref na), (.long (gn 7))])
    refine own_st (fun t k => XS.iconst X23.here hx rfl (hb hby d17_50) k) ?_
    show own_Go _ _ _ _ T23 (mkF m 51 _ [(.int (3 : Int32)), (.int (12 : Int32)), (.ref na), (.long (gn 7))])
    refine own_st (fun t k => XS.iadd X23.here hx rfl (hb hby d17_51) rfl k) ?_
    show own_Go _ _ _ _ T23 (mkF m 52 _ [(.int (15 : Int32)), (.ref na), (.long (gn 7))])
    obtain ⟨c24, Ar24, q24, S24, N24, H24⟩ := id F2
    refine own_st (fun t k => X23.laload hx (j := (15 : Int32)) (v := (.long (gn 15))) (by rw [e23]; exact Ar24.1) (State.isArrayOf_alike hZ.alike Ar24.2.1) Ar24.2.2 (inb_of S24 ⟨by decide, by decide⟩) (H24 _ (own_lt (inb_of S24 ⟨by decide, by decide⟩))) (g := (mkF m 52 #[sR a, sI (1 : Int32), sI (1 : Int32), sI (4 : Int32), sI (8 : Int32), sI (12 : Int32), sJ (gn 7), .second] [(.int (15 : Int32)), (.ref na), (.long (gn 7))])) rfl rfl (hb hby d17_52) _ k) ?_
    show own_Go _ _ _ _ T23 (mkF m 53 _ [(.long (gn 15)), (.long (gn 7))])
    refine own_st (fun t k => XS.lcmp X23.here hx rfl (hb hby d17_53) rfl k) ?_
    show own_Go _ _ _ _ T23 (mkF m 54 _ [(.int (lcmpW (gn 7) (gn 15)))])
    by_cases c25 : (gn 7) = (gn 15)
    · skip
      refine own_st (fun t k => XS.ifNo X23.here hx rfl (hb hby d17_54) rfl (own_lcF (cd := .ne) (not_not_intro c25)) k) ?_
      show own_Go _ _ _ _ T23 (mkF m 57 _ [])
      refine own_st (fun t k => XS.iconst X23.here hx rfl (hb hby d17_57) k) ?_
      show own_Go _ _ _ _ T23 (mkF m 58 _ [(.int (2 : Int32))])
      refine own_st (fun t k => XS.iloadN X23.here hx rfl (hb hby d17_58) rfl k) ?_
      show own_Go _ _ _ _ T23 (mkF m 59 _ [(.int (1 : Int32)), (.int (2 : Int32))])
      refine own_st (fun t k => XS.imul X23.here hx rfl (hb hby d17_59) rfl k) ?_
      show own_Go _ _ _ _ T23 (mkF m 60 _ [(.int (2 : Int32))])
      refine own_st (fun t k => XS.iconst X23.here hx rfl (hb hby d17_60) k) ?_
      show own_Go _ _ _ _ T23 (mkF m 61 _ [(.int (1 : Int32)), (.int (2 : Int32))])
      refine own_st (fun t k => XS.iadd X23.here hx rfl (hb hby d17_61) rfl k) ?_
      show own_Go _ _ _ _ T23 (mkF m 62 _ [(.int (3 : Int32))])
      refine own_st (fun t k => XS.istoreN X23.here hx rfl (hb hby d17_62) rfl (l' := #[sR a, sI (3 : Int32), sI (1 : Int32), sI (4 : Int32), sI (8 : Int32), sI (12 : Int32), sJ (gn 7), .second]) rfl k) ?_
      show own_Go _ _ _ _ T23 (mkF m 63 #[sR a, sI (3 : Int32), sI (1 : Int32), sI (4 : Int32), sI (8 : Int32), sI (12 : Int32), sJ (gn 7), .second] [])
      refine own_st (fun t k => XS.goto X23.here hx rfl (pc0 := 63) (pc' := 106) rfl (hb hby d17_63) (by decide) (by decide) k) ?_
      show own_Go _ _ _ _ T23 (mkF m 106 _ [])
      refine own_st (fun t k => XS.goto X23.here hx rfl (pc0 := 106) (pc' := 164) rfl (hb hby d17_106) (by decide) (by decide) k) ?_
      show own_Go _ _ _ _ T23 (mkF m 164 _ [])
      refine own_st (fun t k => XS.goto X23.here hx rfl (pc0 := 164) (pc' := 4) rfl (hb hby d17_164) (by decide) (by decide) k) ?_
      show own_Go _ _ _ _ T23 (mkF m 4 _ [])
      refine own_st (fun t k => XS.iloadN X23.here hx rfl (hb hby d17_4) rfl k) ?_
      show own_Go _ _ _ _ T23 (mkF m 5 _ [(.int (3 : Int32))])
      refine own_st (fun t k => XS.aloadN X23.here hx rfl (hb hby d17_5) rfl rfl k) ?_
      show own_Go _ _ _ _ T23 (mkF m 6 _ [(.ref a), (.int (3 : Int32))])
      obtain ⟨T26, X26, e26, st26⟩ := getF X23 hx hZ hown (host := "") (Or.inl (own_w hw 35 rfl)) Via.refl e23 F3 (g := (mkF m 6 #[sR a, sI (3 : Int32), sI (1 : Int32), sI (4 : Int32), sI (8 : Int32), sI (12 : Int32), sJ (gn 7), .second] [(.ref a), (.int (3 : Int32))])) rfl rfl (hb hby d17_6)
      refine own_st st26 ?_
      show own_Go _ _ _ _ T26 (mkF m 9 _ [(.int (4 : Int32)), (.int (3 : Int32))])
      refine own_st (fun t k => XS.icmpNo X26.here hx rfl (hb hby d17_9) rfl (tlt (by decide : ((3 : Int32) < (4 : Int32)))).2.1 k) ?_
      show own_Go _ _ _ _ T26 (mkF m 12 _ [])
      refine own_st (fun t k => XS.iconst X26.here hx rfl (hb hby d17_12) k) ?_
      show own_Go _ _ _ _ T26 (mkF m 13 _ [(.int (4 : Int32))])
      refine own_st (fun t k => XS.iloadN X26.here hx rfl (hb hby d17_13) rfl k) ?_
      show own_Go _ _ _ _ T26 (mkF m 14 _ [(.int (3 : Int32)), (.int (4 : Int32))])
      refine own_st (fun t k => XS.imul X26.here hx rfl (hb hby d17_14) rfl k) ?_
      show own_Go _ _ _ _ T26 (mkF m 15 _ [(.int (12 : Int32))])
      refine own_st (fun t k => XS.istoreN X26.here hx rfl (hb hby d17_15) rfl (l' := #[sR a, sI (3 : Int32), sI (1 : Int32), sI (12 : Int32), sI (8 : Int32), sI (12 : Int32), sJ (gn 7), .second]) rfl k) ?_
      show own_Go _ _ _ _ T26 (mkF m 16 #[sR a, sI (3 : Int32), sI (1 : Int32), sI (12 : Int32), sI (8 : Int32), sI (12 : Int32), sJ (gn 7), .second] [])
      refine own_st (fun t k => XS.bipush X26.here hx rfl (hb hby d17_16) k) ?_
      show own_Go _ _ _ _ T26 (mkF m 18 _ [(.int (8 : Int32))])
      refine own_st (fun t k => XS.iloadN X26.here hx rfl (hb hby d17_18) rfl k) ?_
      show own_Go _ _ _ _ T26 (mkF m 19 _ [(.int (3 : Int32)), (.int (8 : Int32))])
      refine own_st (fun t k => XS.imul X26.here hx rfl (hb hby d17_19) rfl k) ?_
      show own_Go _ _ _ _ T26 (mkF m 20 _ [(.int (24 : Int32))])
      refine own_st (fun t k => XS.istore X26.here hx rfl (hb hby d17_20) rfl (l' := #[sR a, sI (3 : Int32), sI (1 : Int32), sI (12 : Int32), sI (24 : Int32), sI (12 : Int32), sJ (gn 7), .second]) rfl k) ?_
      show own_Go _ _ _ _ T26 (mkF m 22 #[sR a, sI (3 : Int32), sI (1 : Int32), sI (12 : Int32), sI (24 : Int32), sI (12 : Int32), sJ (gn 7), .second] [])
      refine own_st (fun t k => XS.iload X26.here hx rfl (hb hby d17_22) rfl k) ?_
      show own_Go _ _ _ _ T26 (mkF m 24 _ [(.int (24 : Int32))])
      refine own_st (fun t k => XS.iconst X26.here hx rfl (hb hby d17_24) k) ?_
      show own_Go _ _ _ _ T26 (mkF m 25 _ [(.int (4 : Int32)), (.int (24 : Int32))])
      refine own_st (fun t k => XS.iadd X26.here hx rfl (hb hby d17_25) rfl k) ?_
      show own_Go _ _ _ _ T26 (mkF m 26 _ [(.int (28 : Int32))])
      refine own_st (fun t k => XS.istore X26.here hx rfl (hb hby d17_26) rfl (l' := #[sR a, sI (3 : Int32), sI (1 : Int32), sI (12 : Int32), sI (24 : Int32), sI (28 : Int32), sJ (gn 7), .second]) rfl k) ?_
      show own_Go _ _ _ _ T26 (mkF m 28 #[sR a, sI (3 : Int32), sI (1 : Int32), sI (12 : Int32), sI (24 : Int32), sI (28 : Int32), sJ (gn 7), .second] [])
      refine own_st (fun t k => XS.iloadN X26.here hx rfl (hb hby d17_28) rfl k) ?_
      show own_Go _ _ _ _ T26 (mkF m 29 _ [(.int (1 : Int32))])
      refine own_st (fun t k => XS.ifNo X26.here hx rfl (hb hby d17_29) rfl ((if0 _ _).trans (feq (by decide : ¬ ((1 : Int32) = (0 : Int32)))).1) k) ?_
      show own_Go _ _ _ _ T26 (mkF m 32 _ [])
      refine own_st (fun t k => XS.aloadN X26.here hx rfl (hb hby d17_32) rfl rfl k) ?_
      show own_Go _ _ _ _ T26 (mkF m 33 _ [(.ref a)])
      obtain ⟨T27, X27, e27, st27⟩ := getF X26 hx hZ hown (host := "") (Or.inl (own_w hw 28 rfl)) Via.refl e26 F1 (g := (mkF m 33 #[sR a, sI (3 : Int32), sI (1 : Int32), sI (12 : Int32), sI (24 : Int32), sI (28 : Int32), sJ (gn 7), .second] [(.ref a)])) rfl rfl (hb hby d17_33)
      refine own_st st27 ?_
      show own_Go _ _ _ _ T27 (mkF m 36 _ [(.ref na)])
      refine own_st (fun t k => XS.iloadN X27.here hx rfl (hb hby d17_36) rfl k) ?_
      show own_Go _ _ _ _ T27 (mkF m 37 _ [(.int (12 : Int32)), (.ref na)])
      refine own_st (fun t k => XS.iconst X27.here hx rfl (hb hby d17_37) k) ?_
      show own_Go _ _ _ _ T27 (mkF m 38 _ [(.int (3 : Int32)), (.int (12 : Int32)), (.ref na)])
      refine own_st (fun t k => XS.iadd X27.here hx rfl (hb hby d17_38) rfl k) ?_
      show own_Go _ _ _ _ T27 (mkF m 39 _ [(.int (15 : Int32)), (.ref na)])
      obtain ⟨c28, Ar28, q28, S28, N28, H28⟩ := id F2
      refine own_st (fun t k => X27.laload hx (j := (15 : Int32)) (v := (.long (gn 15))) (by rw [e27]; exact Ar28.1) (State.isArrayOf_alike hZ.alike Ar28.2.1) Ar28.2.2 (inb_of S28 ⟨by decide, by decide⟩) (H28 _ (own_lt (inb_of S28 ⟨by decide, by decide⟩))) (g := (mkF m 39 #[sR a, sI (3 : Int32), sI (1 : Int32), sI (12 : Int32), sI (24 : Int32), sI (28 : Int32), sJ (gn 7), .second] [(.int (15 : Int32)), (.ref na)])) rfl rfl (hb hby d17_39) _ k) ?_
      show own_Go _ _ _ _ T27 (mkF m 40 _ [(.long (gn 15))])
      refine own_st (fun t k => XS.lstore X27.here hx rfl (hb hby d17_40) rfl (l' := #[sR a, sI (3 : Int32), sI (1 : Int32), sI (12 : Int32), sI (24 : Int32), sI (28 : Int32), sJ (gn 15), .second]) rfl k) ?_
      show own_Go _ _ _ _ T27 (mkF m 42 #[sR a, sI (3 : Int32), sI (1 : Int32), sI (12 : Int32), sI (24 : Int32), sI (28 : Int32), sJ (gn 15), .second] [])
      refine own_st (fun t k => XS.lload X27.here hx rfl (hb hby d17_42) rfl k) ?_
      show own_Go _ _ _ _ T27 (mkF m 44 _ [(.long (gn 15))])
      refine own_st (fun t k => XS.aloadN X27.here hx rfl (hb hby d17_44) rfl rfl k) ?_
      show own_Go _ _ _ _ T27 (mkF m 45 _ [(.ref a), (.long (gn 15))])
      obtain ⟨T29, X29, e29, st29⟩ := getF X27 hx hZ hown (host := "") (Or.inl (own_w hw 28 rfl)) Via.refl e27 F1 (g := (mkF m 45 #[sR a, sI (3 : Int32), sI (1 : Int32), sI (12 : Int32), sI (24 : Int32), sI (28 : Int32), sJ (gn 15), .second] [(.ref a), (.long (gn 15))])) rfl rfl (hb hby d17_45)
      refine own_st st29 ?_
      show own_Go _ _ _ _ T29 (mkF m 48 _ [(.ref na), (.long (gn 15))])
      refine own_st (fun t k => XS.iload X29.here hx rfl (hb hby d17_48) rfl k) ?_
      show own_Go _ _ _ _ T29 (mkF m 50 _ [(.int (28 : Int32)), (.ref na), (.long (gn 15))])
      refine own_st (fun t k => XS.iconst X29.here hx rfl (hb hby d17_50) k) ?_
      show own_Go _ _ _ _ T29 (mkF m 51 _ [(.int (3 : Int32)), (.int (28 : Int32)), (.ref na), (.long (gn 15))])
      refine own_st (fun t k => XS.iadd X29.here hx rfl (hb hby d17_51) rfl k) ?_
      show own_Go _ _ _ _ T29 (mkF m 52 _ [(.int (31 : Int32)), (.ref na), (.long (gn 15))])
      obtain ⟨c30, Ar30, q30, S30, N30, H30⟩ := id F2
      refine own_st (fun t k => X29.laload hx (j := (31 : Int32)) (v := (.long (gn 31))) (by rw [e29]; exact Ar30.1) (State.isArrayOf_alike hZ.alike Ar30.2.1) Ar30.2.2 (inb_of S30 ⟨by decide, by decide⟩) (H30 _ (own_lt (inb_of S30 ⟨by decide, by decide⟩))) (g := (mkF m 52 #[sR a, sI (3 : Int32), sI (1 : Int32), sI (12 : Int32), sI (24 : Int32), sI (28 : Int32), sJ (gn 15), .second] [(.int (31 : Int32)), (.ref na), (.long (gn 15))])) rfl rfl (hb hby d17_52) _ k) ?_
      show own_Go _ _ _ _ T29 (mkF m 53 _ [(.long (gn 31)), (.long (gn 15))])
      refine own_st (fun t k => XS.lcmp X29.here hx rfl (hb hby d17_53) rfl k) ?_
      show own_Go _ _ _ _ T29 (mkF m 54 _ [(.int (lcmpW (gn 15) (gn 31)))])
      by_cases c31 : (gn 15) = (gn 31)
      · skip
        refine own_st (fun t k => XS.ifNo X29.here hx rfl (hb hby d17_54) rfl (own_lcF (cd := .ne) (not_not_intro c31)) k) ?_
        show own_Go _ _ _ _ T29 (mkF m 57 _ [])
        refine own_st (fun t k => XS.iconst X29.here hx rfl (hb hby d17_57) k) ?_
        show own_Go _ _ _ _ T29 (mkF m 58 _ [(.int (2 : Int32))])
        refine own_st (fun t k => XS.iloadN X29.here hx rfl (hb hby d17_58) rfl k) ?_
        show own_Go _ _ _ _ T29 (mkF m 59 _ [(.int (3 : Int32)), (.int (2 : Int32))])
        refine own_st (fun t k => XS.imul X29.here hx rfl (hb hby d17_59) rfl k) ?_
        show own_Go _ _ _ _ T29 (mkF m 60 _ [(.int (6 : Int32))])
        refine own_st (fun t k => XS.iconst X29.here hx rfl (hb hby d17_60) k) ?_
        show own_Go _ _ _ _ T29 (mkF m 61 _ [(.int (1 : Int32)), (.int (6 : Int32))])
        refine own_st (fun t k => XS.iadd X29.here hx rfl (hb hby d17_61) rfl k) ?_
        show own_Go _ _ _ _ T29 (mkF m 62 _ [(.int (7 : Int32))])
        refine own_st (fun t k => XS.istoreN X29.here hx rfl (hb hby d17_62) rfl (l' := #[sR a, sI (7 : Int32), sI (1 : Int32), sI (12 : Int32), sI (24 : Int32), sI (28 : Int32), sJ (gn 15), .second]) rfl k) ?_
        show own_Go _ _ _ _ T29 (mkF m 63 #[sR a, sI (7 : Int32), sI (1 : Int32), sI (12 : Int32), sI (24 : Int32), sI (28 : Int32), sJ (gn 15), .second] [])
        refine own_st (fun t k => XS.goto X29.here hx rfl (pc0 := 63) (pc' := 106) rfl (hb hby d17_63) (by decide) (by decide) k) ?_
        show own_Go _ _ _ _ T29 (mkF m 106 _ [])
        refine own_st (fun t k => XS.goto X29.here hx rfl (pc0 := 106) (pc' := 164) rfl (hb hby d17_106) (by decide) (by decide) k) ?_
        show own_Go _ _ _ _ T29 (mkF m 164 _ [])
        refine own_st (fun t k => XS.goto X29.here hx rfl (pc0 := 164) (pc' := 4) rfl (hb hby d17_164) (by decide) (by decide) k) ?_
        show own_Go _ _ _ _ T29 (mkF m 4 _ [])
        refine own_st (fun t k => XS.iloadN X29.here hx rfl (hb hby d17_4) rfl k) ?_
        show own_Go _ _ _ _ T29 (mkF m 5 _ [(.int (7 : Int32))])
        refine own_st (fun t k => XS.aloadN X29.here hx rfl (hb hby d17_5) rfl rfl k) ?_
        show own_Go _ _ _ _ T29 (mkF m 6 _ [(.ref a), (.int (7 : Int32))])
        obtain ⟨T32, X32, e32, st32⟩ := getF X29 hx hZ hown (host := "") (Or.inl (own_w hw 35 rfl)) Via.refl e29 F3 (g := (mkF m 6 #[sR a, sI (7 : Int32), sI (1 : Int32), sI (12 : Int32), sI (24 : Int32), sI (28 : Int32), sJ (gn 15), .second] [(.ref a), (.int (7 : Int32))])) rfl rfl (hb hby d17_6)
        refine own_st st32 ?_
        show own_Go _ _ _ _ T32 (mkF m 9 _ [(.int (4 : Int32)), (.int (7 : Int32))])
        refine own_st (fun t k => XS.icmpYes X32.here hx rfl (pc0 := 9) (pc' := 167) rfl (hb hby d17_9) rfl (flt (by decide : ¬ ((7 : Int32) < (4 : Int32)))).2.1 (by decide) (by decide) k) ?_
        show own_Go _ _ _ _ T32 (mkF m 167 _ [])
        refine own_st (fun t k => XS.iloadN X32.here hx rfl (hb hby d17_167) rfl k) ?_
        show own_Go _ _ _ _ T32 (mkF m 168 _ [(.int (7 : Int32))])
        refine own_st (fun t k => XS.aloadN X32.here hx rfl (hb hby d17_168) rfl rfl k) ?_
        show own_Go _ _ _ _ T32 (mkF m 169 _ [(.ref a), (.int (7 : Int32))])
        obtain ⟨T33, X33, e33, st33⟩ := getF X32 hx hZ hown (host := "") (Or.inl (own_w hw 35 rfl)) Via.refl e32 F3 (g := (mkF m 169 #[sR a, sI (7 : Int32), sI (1 : Int32), sI (12 : Int32), sI (24 : Int32), sI (28 : Int32), sJ (gn 15), .second] [(.ref a), (.int (7 : Int32))])) rfl rfl (hb hby d17_169)
        refine own_st st33 ?_
        show own_Go _ _ _ _ T33 (mkF m 172 _ [(.int (4 : Int32)), (.int (7 : Int32))])
        refine own_st (fun t k => XS.isub X33.here hx rfl (hb hby d17_172) rfl k) ?_
        show own_Go _ _ _ _ T33 (mkF m 173 _ [(.int (3 : Int32))])
        subst hPq
        refine own_out X33 (v := some (.int (3 : Int32))) (fun h => by rw [Bd.returns] at h; cases h) Bd.notSynchronized (own_retI X33 hx Bd.returns (hb hby d17_173)) (by decide) (by decide) ?_
        show Q35 Z a na kn gn (4 : Int32) h0 n0 _ T33.heap _
        rw [e33]
        have eg : (3 : Int32) = own_rg4 gn := by
            unfold own_rg4
            rw [if_pos c25, if_pos c31]
        exact ⟨congrArg (fun z => some (Value.int z)) eg, N0, rfl⟩
      · skip
        refine own_st (fun t k => XS.ifYes X29.here hx rfl (pc0 := 54) (pc' := 66) rfl (hb hby d17_54) rfl (own_lcT (cd := .ne) c31) (by decide) (by decide) k) ?_
        show own_Go _ _ _ _ T29 (mkF m 66 _ [])
        refine own_st (fun t k => XS.lload X29.here hx rfl (hb hby d17_66) rfl k) ?_
        show own_Go _ _ _ _ T29 (mkF m 68 _ [(.long (gn 15))])
        refine own_st (fun t k => XS.aloadN X29.here hx rfl (hb hby d17_68) rfl rfl k) ?_
        show own_Go _ _ _ _ T29 (mkF m 69 _ [(.ref a), (.long (gn 15))])
        obtain ⟨T34, X34, e34, st34⟩ := getF X29 hx hZ hown (host := "") (Or.inl (own_w hw 28 rfl)) Via.refl e29 F1 (g := (mkF m 69 #[sR a, sI (3 : Int32), sI (1 : Int32), sI (12 : Int32), sI (24 : Int32), sI (28 : Int32), sJ (gn 15), .second] [(.ref a), (.long (gn 15))])) rfl rfl (hb hby d17_69)
        refine own_st st34 ?_
        show own_Go _ _ _ _ T34 (mkF m 72 _ [(.ref na), (.long (gn 15))])
        refine own_st (fun t k => XS.iload X34.here hx rfl (hb hby d17_72) rfl k) ?_
        show own_Go _ _ _ _ T34 (mkF m 74 _ [(.int (24 : Int32)), (.ref na), (.long (gn 15))])
        refine own_st (fun t k => XS.iconst X34.here hx rfl (hb hby d17_74) k) ?_
        show own_Go _ _ _ _ T34 (mkF m 75 _ [(.int (1 : Int32)), (.int (24 : Int32)), (.ref na), (.long (gn 15))])
        refine own_st (fun t k => XS.iadd X34.here hx rfl (hb hby d17_75) rfl k) ?_
        show own_Go _ _ _ _ T34 (mkF m 76 _ [(.int (25 : Int32)), (.ref na), (.long (gn 15))])
        obtain ⟨c35, Ar35, q35, S35, N35, H35⟩ := id F2
        refine own_st (fun t k => X34.laload hx (j := (25 : Int32)) (v := (.long (gn 25))) (by rw [e34]; exact Ar35.1) (State.isArrayOf_alike hZ.alike Ar35.2.1) Ar35.2.2 (inb_of S35 ⟨by decide, by decide⟩) (H35 _ (own_lt (inb_of S35 ⟨by decide, by decide⟩))) (g := (mkF m 76 #[sR a, sI (3 : Int32), sI (1 : Int32), sI (12 : Int32), sI (24 : Int32), sI (28 : Int32), sJ (gn 15), .second] [(.int (25 : Int32)), (.ref na), (.long (gn 15))])) rfl rfl (hb hby d17_76) _ k) ?_
        show own_Go _ _ _ _ T34 (mkF m 77 _ [(.long (gn 25)), (.long (gn 15))])
        refine own_st (fun t k => XS.aloadN X34.here hx rfl (hb hby d17_77) rfl rfl k) ?_
        show own_Go _ _ _ _ T34 (mkF m 78 _ [(.ref a), (.long (gn 25)), (.long (gn 15))])
        obtain ⟨T36, X36, e36, st36⟩ := getF X34 hx hZ hown (host := "") (Or.inl (own_w hw 28 rfl)) Via.refl e34 F1 (g := (mkF m 78 #[sR a, sI (3 : Int32), sI (1 : Int32), sI (12 : Int32), sI (24 : Int32), sI (28 : Int32), sJ (gn 15), .second] [(.ref a), (.long (gn 25)), (.long (gn 15))])) rfl rfl (hb hby d17_78)
        refine own_st st36 ?_
        show own_Go _ _ _ _ T36 (mkF m 81 _ [(.ref na), (.long (gn 25)), (.long (gn 15))])
        refine own_st (fun t k => XS.iload X36.here hx rfl (hb hby d17_81) rfl k) ?_
        show own_Go _ _ _ _ T36 (mkF m 83 _ [(.int (28 : Int32)), (.ref na), (.long (gn 25)), (.long (gn 15))])
        refine own_st (fun t k => XS.iconst X36.here hx rfl (hb hby d17_83) k) ?_
        show own_Go _ _ _ _ T36 (mkF m 84 _ [(.int (2 : Int32)), (.int (28 : Int32)), (.ref na), (.long (gn 25)), (.long (gn 15))])
        refine own_st (fun t k => XS.iadd X36.here hx rfl (hb hby d17_84) rfl k) ?_
        show own_Go _ _ _ _ T36 (mkF m 85 _ [(.int (30 : Int32)), (.ref na), (.long (gn 25)), (.long (gn 15))])
        obtain ⟨c37, Ar37, q37, S37, N37, H37⟩ := id F2
        refine own_st (fun t k => X36.laload hx (j := (30 : Int32)) (v := (.long (gn 30))) (by rw [e36]; exact Ar37.1) (State.isArrayOf_alike hZ.alike Ar37.2.1) Ar37.2.2 (inb_of S37 ⟨by decide, by decide⟩) (H37 _ (own_lt (inb_of S37 ⟨by decide, by decide⟩))) (g := (mkF m 85 #[sR a, sI (3 : Int32), sI (1 : Int32), sI (12 : Int32), sI (24 : Int32), sI (28 : Int32), sJ (gn 15), .second] [(.int (30 : Int32)), (.ref na), (.long (gn 25)), (.long (gn 15))])) rfl rfl (hb hby d17_85) _ k) ?_
        show own_Go _ _ _ _ T36 (mkF m 86 _ [(.long (gn 30)), (.long (gn 25)), (.long (gn 15))])
        refine own_st (fun t k => XS.ladd X36.here hx rfl (hb hby d17_86) rfl k) ?_
        show own_Go _ _ _ _ T36 (mkF m 87 _ [(.long ((gn 25) + (gn 30))), (.long (gn 15))])
        refine own_st (fun t k => XS.lcmp X36.here hx rfl (hb hby d17_87) rfl k) ?_
        show own_Go _ _ _ _ T36 (mkF m 88 _ [(.int (lcmpW (gn 15) ((gn 25) + (gn 30))))])
        by_cases c38 : (gn 15) = ((gn 25) + (gn 30))
        · skip
          refine own_st (fun t k => XS.ifNo X36.here hx rfl (hb hby d17_88) rfl (own_lcF (cd := .ne) (not_not_intro c38)) k) ?_
          show own_Go _ _ _ _ T36 (mkF m 91 _ [])
          refine own_st (fun t k => XS.iconst X36.here hx rfl (hb hby d17_91) k) ?_
          show own_Go _ _ _ _ T36 (mkF m 92 _ [(.int (2 : Int32))])
          refine own_st (fun t k => XS.iloadN X36.here hx rfl (hb hby d17_92) rfl k) ?_
          show own_Go _ _ _ _ T36 (mkF m 93 _ [(.int (3 : Int32)), (.int (2 : Int32))])
          refine own_st (fun t k => XS.imul X36.here hx rfl (hb hby d17_93) rfl k) ?_
          show own_Go _ _ _ _ T36 (mkF m 94 _ [(.int (6 : Int32))])
          refine own_st (fun t k => XS.iconst X36.here hx rfl (hb hby d17_94) k) ?_
          show own_Go _ _ _ _ T36 (mkF m 95 _ [(.int (1 : Int32)), (.int (6 : Int32))])
          refine own_st (fun t k => XS.iadd X36.here hx rfl (hb hby d17_95) rfl k) ?_
          show own_Go _ _ _ _ T36 (mkF m 96 _ [(.int (7 : Int32))])
          refine own_st (fun t k => XS.istoreN X36.here hx rfl (hb hby d17_96) rfl (l' := #[sR a, sI (7 : Int32), sI (1 : Int32), sI (12 : Int32), sI (24 : Int32), sI (28 : Int32), sJ (gn 15), .second]) rfl k) ?_
          show own_Go _ _ _ _ T36 (mkF m 97 #[sR a, sI (7 : Int32), sI (1 : Int32), sI (12 : Int32), sI (24 : Int32), sI (28 : Int32), sJ (gn 15), .second] [])
          refine own_st (fun t k => XS.iconst X36.here hx rfl (hb hby d17_97) k) ?_
          show own_Go _ _ _ _ T36 (mkF m 98 _ [(.int (0 : Int32))])
          refine own_st (fun t k => XS.istoreN X36.here hx rfl (hb hby d17_98) rfl (l' := #[sR a, sI (7 : Int32), sI (0 : Int32), sI (12 : Int32), sI (24 : Int32), sI (28 : Int32), sJ (gn 15), .second]) rfl k) ?_
          show own_Go _ _ _ _ T36 (mkF m 99 #[sR a, sI (7 : Int32), sI (0 : Int32), sI (12 : Int32), sI (24 : Int32), sI (28 : Int32), sJ (gn 15), .second] [])
          refine own_st (fun t k => XS.goto X36.here hx rfl (pc0 := 99) (pc' := 106) rfl (hb hby d17_99) (by decide) (by decide) k) ?_
          show own_Go _ _ _ _ T36 (mkF m 106 _ [])
          refine own_st (fun t k => XS.goto X36.here hx rfl (pc0 := 106) (pc' := 164) rfl (hb hby d17_106) (by decide) (by decide) k) ?_
          show own_Go _ _ _ _ T36 (mkF m 164 _ [])
          refine own_st (fun t k => XS.goto X36.here hx rfl (pc0 := 164) (pc' := 4) rfl (hb hby d17_164) (by decide) (by decide) k) ?_
          show own_Go _ _ _ _ T36 (mkF m 4 _ [])
          refine own_st (fun t k => XS.iloadN X36.here hx rfl (hb hby d17_4) rfl k) ?_
          show own_Go _ _ _ _ T36 (mkF m 5 _ [(.int (7 : Int32))])
          refine own_st (fun t k => XS.aloadN X36.here hx rfl (hb hby d17_5) rfl rfl k) ?_
          show own_Go _ _ _ _ T36 (mkF m 6 _ [(.ref a), (.int (7 : Int32))])
          obtain ⟨T39, X39, e39, st39⟩ := getF X36 hx hZ hown (host := "") (Or.inl (own_w hw 35 rfl)) Via.refl e36 F3 (g := (mkF m 6 #[sR a, sI (7 : Int32), sI (0 : Int32), sI (12 : Int32), sI (24 : Int32), sI (28 : Int32), sJ (gn 15), .second] [(.ref a), (.int (7 : Int32))])) rfl rfl (hb hby d17_6)
          refine own_st st39 ?_
          show own_Go _ _ _ _ T39 (mkF m 9 _ [(.int (4 : Int32)), (.int (7 : Int32))])
          refine own_st (fun t k => XS.icmpYes X39.here hx rfl (pc0 := 9) (pc' := 167) rfl (hb hby d17_9) rfl (flt (by decide : ¬ ((7 : Int32) < (4 : Int32)))).2.1 (by decide) (by decide) k) ?_
          show own_Go _ _ _ _ T39 (mkF m 167 _ [])
          refine own_st (fun t k => XS.iloadN X39.here hx rfl (hb hby d17_167) rfl k) ?_
          show own_Go _ _ _ _ T39 (mkF m 168 _ [(.int (7 : Int32))])
          refine own_st (fun t k => XS.aloadN X39.here hx rfl (hb hby d17_168) rfl rfl k) ?_
          show own_Go _ _ _ _ T39 (mkF m 169 _ [(.ref a), (.int (7 : Int32))])
          obtain ⟨T40, X40, e40, st40⟩ := getF X39 hx hZ hown (host := "") (Or.inl (own_w hw 35 rfl)) Via.refl e39 F3 (g := (mkF m 169 #[sR a, sI (7 : Int32), sI (0 : Int32), sI (12 : Int32), sI (24 : Int32), sI (28 : Int32), sJ (gn 15), .second] [(.ref a), (.int (7 : Int32))])) rfl rfl (hb hby d17_169)
          refine own_st st40 ?_
          show own_Go _ _ _ _ T40 (mkF m 172 _ [(.int (4 : Int32)), (.int (7 : Int32))])
          refine own_st (fun t k => XS.isub X40.here hx rfl (hb hby d17_172) rfl k) ?_
          show own_Go _ _ _ _ T40 (mkF m 173 _ [(.int (3 : Int32))])
          subst hPq
          refine own_out X40 (v := some (.int (3 : Int32))) (fun h => by rw [Bd.returns] at h; cases h) Bd.notSynchronized (own_retI X40 hx Bd.returns (hb hby d17_173)) (by decide) (by decide) ?_
          show Q35 Z a na kn gn (4 : Int32) h0 n0 _ T40.heap _
          rw [e40]
          have eg : (3 : Int32) = own_rg4 gn := by
              unfold own_rg4
              rw [if_pos c25, if_neg c31, if_pos c38]
          exact ⟨congrArg (fun z => some (Value.int z)) eg, N0, rfl⟩
        · skip
          refine own_st (fun t k => XS.ifYes X36.here hx rfl (pc0 := 88) (pc' := 102) rfl (hb hby d17_88) rfl (own_lcT (cd := .ne) c38) (by decide) (by decide) k) ?_
          show own_Go _ _ _ _ T36 (mkF m 102 _ [])
          refine own_st (fun t k => XS.iconst X36.here hx rfl (hb hby d17_102) k) ?_
          show own_Go _ _ _ _ T36 (mkF m 103 _ [(.int (2 : Int32))])
          refine own_st (fun t k => XS.iloadN X36.here hx rfl (hb hby d17_103) rfl k) ?_
          show own_Go _ _ _ _ T36 (mkF m 104 _ [(.int (3 : Int32)), (.int (2 : Int32))])
          refine own_st (fun t k => XS.imul X36.here hx rfl (hb hby d17_104) rfl k) ?_
          show own_Go _ _ _ _ T36 (mkF m 105 _ [(.int (6 : Int32))])
          refine own_st (fun t k => XS.istoreN X36.here hx rfl (hb hby d17_105) rfl (l' := #[sR a, sI (6 : Int32), sI (1 : Int32), sI (12 : Int32), sI (24 : Int32), sI (28 : Int32), sJ (gn 15), .second]) rfl k) ?_
          show own_Go _ _ _ _ T36 (mkF m 106 #[sR a, sI (6 : Int32), sI (1 : Int32), sI (12 : Int32), sI (24 : Int32), sI (28 : Int32), sJ (gn 15), .second] [])
          refine own_st (fun t k => XS.goto X36.here hx rfl (pc0 := 106) (pc' := 164) rfl (hb hby d17_106) (by decide) (by decide) k) ?_
          show own_Go _ _ _ _ T36 (mkF m 164 _ [])
          refine own_st (fun t k => XS.goto X36.here hx rfl (pc0 := 164) (pc' := 4) rfl (hb hby d17_164) (by decide) (by decide) k) ?_
          show own_Go _ _ _ _ T36 (mkF m 4 _ [])
          refine own_st (fun t k => XS.iloadN X36.here hx rfl (hb hby d17_4) rfl k) ?_
          show own_Go _ _ _ _ T36 (mkF m 5 _ [(.int (6 : Int32))])
          refine own_st (fun t k => XS.aloadN X36.here hx rfl (hb hby d17_5) rfl rfl k) ?_
          show own_Go _ _ _ _ T36 (mkF m 6 _ [(.ref a), (.int (6 : Int32))])
          obtain ⟨T41, X41, e41, st41⟩ := getF X36 hx hZ hown (host := "") (Or.inl (own_w hw 35 rfl)) Via.refl e36 F3 (g := (mkF m 6 #[sR a, sI (6 : Int32), sI (1 : Int32), sI (12 : Int32), sI (24 : Int32), sI (28 : Int32), sJ (gn 15), .second] [(.ref a), (.int (6 : Int32))])) rfl rfl (hb hby d17_6)
          refine own_st st41 ?_
          show own_Go _ _ _ _ T41 (mkF m 9 _ [(.int (4 : Int32)), (.int (6 : Int32))])
          refine own_st (fun t k => XS.icmpYes X41.here hx rfl (pc0 := 9) (pc' := 167) rfl (hb hby d17_9) rfl (flt (by decide : ¬ ((6 : Int32) < (4 : Int32)))).2.1 (by decide) (by decide) k) ?_
          show own_Go _ _ _ _ T41 (mkF m 167 _ [])
          refine own_st (fun t k => XS.iloadN X41.here hx rfl (hb hby d17_167) rfl k) ?_
          show own_Go _ _ _ _ T41 (mkF m 168 _ [(.int (6 : Int32))])
          refine own_st (fun t k => XS.aloadN X41.here hx rfl (hb hby d17_168) rfl rfl k) ?_
          show own_Go _ _ _ _ T41 (mkF m 169 _ [(.ref a), (.int (6 : Int32))])
          obtain ⟨T42, X42, e42, st42⟩ := getF X41 hx hZ hown (host := "") (Or.inl (own_w hw 35 rfl)) Via.refl e41 F3 (g := (mkF m 169 #[sR a, sI (6 : Int32), sI (1 : Int32), sI (12 : Int32), sI (24 : Int32), sI (28 : Int32), sJ (gn 15), .second] [(.ref a), (.int (6 : Int32))])) rfl rfl (hb hby d17_169)
          refine own_st st42 ?_
          show own_Go _ _ _ _ T42 (mkF m 172 _ [(.int (4 : Int32)), (.int (6 : Int32))])
          refine own_st (fun t k => XS.isub X42.here hx rfl (hb hby d17_172) rfl k) ?_
          show own_Go _ _ _ _ T42 (mkF m 173 _ [(.int (2 : Int32))])
          subst hPq
          refine own_out X42 (v := some (.int (2 : Int32))) (fun h => by rw [Bd.returns] at h; cases h) Bd.notSynchronized (own_retI X42 hx Bd.returns (hb hby d17_173)) (by decide) (by decide) ?_
          show Q35 Z a na kn gn (4 : Int32) h0 n0 _ T42.heap _
          rw [e42]
          have eg : (2 : Int32) = own_rg4 gn := by
              unfold own_rg4
              rw [if_pos c25, if_neg c31, if_neg c38]
          exact ⟨congrArg (fun z => some (Value.int z)) eg, N0, rfl⟩
    · skip
      refine own_st (fun t k => XS.ifYes X23.here hx rfl (pc0 := 54) (pc' := 66) rfl (hb hby d17_54) rfl (own_lcT (cd := .ne) c25) (by decide) (by decide) k) ?_
      show own_Go _ _ _ _ T23 (mkF m 66 _ [])
      refine own_st (fun t k => XS.lload X23.here hx rfl (hb hby d17_66) rfl k) ?_
      show own_Go _ _ _ _ T23 (mkF m 68 _ [(.long (gn 7))])
      refine own_st (fun t k => XS.aloadN X23.here hx rfl (hb hby d17_68) rfl rfl k) ?_
      show own_Go _ _ _ _ T23 (mkF m 69 _ [(.ref a), (.long (gn 7))])
      obtain ⟨T43, X43, e43, st43⟩ := getF X23 hx hZ hown (host := "") (Or.inl (own_w hw 28 rfl)) Via.refl e23 F1 (g := (mkF m 69 #[sR a, sI (1 : Int32), sI (1 : Int32), sI (4 : Int32), sI (8 : Int32), sI (12 : Int32), sJ (gn 7), .second] [(.ref a), (.long (gn 7))])) rfl rfl (hb hby d17_69)
      refine own_st st43 ?_
      show own_Go _ _ _ _ T43 (mkF m 72 _ [(.ref na), (.long (gn 7))])
      refine own_st (fun t k => XS.iload X43.here hx rfl (hb hby d17_72) rfl k) ?_
      show own_Go _ _ _ _ T43 (mkF m 74 _ [(.int (8 : Int32)), (.ref na), (.long (gn 7))])
      refine own_st (fun t k => XS.iconst X43.here hx rfl (hb hby d17_74) k) ?_
      show own_Go _ _ _ _ T43 (mkF m 75 _ [(.int (1 : Int32)), (.int (8 : Int32)), (.ref na), (.long (gn 7))])
      refine own_st (fun t k => XS.iadd X43.here hx rfl (hb hby d17_75) rfl k) ?_
      show own_Go _ _ _ _ T43 (mkF m 76 _ [(.int (9 : Int32)), (.ref na), (.long (gn 7))])
      obtain ⟨c44, Ar44, q44, S44, N44, H44⟩ := id F2
      refine own_st (fun t k => X43.laload hx (j := (9 : Int32)) (v := (.long (gn 9))) (by rw [e43]; exact Ar44.1) (State.isArrayOf_alike hZ.alike Ar44.2.1) Ar44.2.2 (inb_of S44 ⟨by decide, by decide⟩) (H44 _ (own_lt (inb_of S44 ⟨by decide, by decide⟩))) (g := (mkF m 76 #[sR a, sI (1 : Int32), sI (1 : Int32), sI (4 : Int32), sI (8 : Int32), sI (12 : Int32), sJ (gn 7), .second] [(.int (9 : Int32)), (.ref na), (.long (gn 7))])) rfl rfl (hb hby d17_76) _ k) ?_
      show own_Go _ _ _ _ T43 (mkF m 77 _ [(.long (gn 9)), (.long (gn 7))])
      refine own_st (fun t k => XS.aloadN X43.here hx rfl (hb hby d17_77) rfl rfl k) ?_
      show own_Go _ _ _ _ T43 (mkF m 78 _ [(.ref a), (.long (gn 9)), (.long (gn 7))])
      obtain ⟨T45, X45, e45, st45⟩ := getF X43 hx hZ hown (host := "") (Or.inl (own_w hw 28 rfl)) Via.refl e43 F1 (g := (mkF m 78 #[sR a, sI (1 : Int32), sI (1 : Int32), sI (4 : Int32), sI (8 : Int32), sI (12 : Int32), sJ (gn 7), .second] [(.ref a), (.long (gn 9)), (.long (gn 7))])) rfl rfl (hb hby d17_78)
      refine own_st st45 ?_
      show own_Go _ _ _ _ T45 (mkF m 81 _ [(.ref na), (.long (gn 9)), (.long (gn 7))])
      refine own_st (fun t k => XS.iload X45.here hx rfl (hb hby d17_81) rfl k) ?_
      show own_Go _ _ _ _ T45 (mkF m 83 _ [(.int (12 : Int32)), (.ref na), (.long (gn 9)), (.long (gn 7))])
      refine own_st (fun t k => XS.iconst X45.here hx rfl (hb hby d17_83) k) ?_
      show own_Go _ _ _ _ T45 (mkF m 84 _ [(.int (2 : Int32)), (.int (12 : Int32)), (.ref na), (.long (gn 9)), (.long (gn 7))])
      refine own_st (fun t k => XS.iadd X45.here hx rfl (hb hby d17_84) rfl k) ?_
      show own_Go _ _ _ _ T45 (mkF m 85 _ [(.int (14 : Int32)), (.ref na), (.long (gn 9)), (.long (gn 7))])
      obtain ⟨c46, Ar46, q46, S46, N46, H46⟩ := id F2
      refine own_st (fun t k => X45.laload hx (j := (14 : Int32)) (v := (.long (gn 14))) (by rw [e45]; exact Ar46.1) (State.isArrayOf_alike hZ.alike Ar46.2.1) Ar46.2.2 (inb_of S46 ⟨by decide, by decide⟩) (H46 _ (own_lt (inb_of S46 ⟨by decide, by decide⟩))) (g := (mkF m 85 #[sR a, sI (1 : Int32), sI (1 : Int32), sI (4 : Int32), sI (8 : Int32), sI (12 : Int32), sJ (gn 7), .second] [(.int (14 : Int32)), (.ref na), (.long (gn 9)), (.long (gn 7))])) rfl rfl (hb hby d17_85) _ k) ?_
      show own_Go _ _ _ _ T45 (mkF m 86 _ [(.long (gn 14)), (.long (gn 9)), (.long (gn 7))])
      refine own_st (fun t k => XS.ladd X45.here hx rfl (hb hby d17_86) rfl k) ?_
      show own_Go _ _ _ _ T45 (mkF m 87 _ [(.long ((gn 9) + (gn 14))), (.long (gn 7))])
      refine own_st (fun t k => XS.lcmp X45.here hx rfl (hb hby d17_87) rfl k) ?_
      show own_Go _ _ _ _ T45 (mkF m 88 _ [(.int (lcmpW (gn 7) ((gn 9) + (gn 14))))])
      by_cases c47 : (gn 7) = ((gn 9) + (gn 14))
      · skip
        refine own_st (fun t k => XS.ifNo X45.here hx rfl (hb hby d17_88) rfl (own_lcF (cd := .ne) (not_not_intro c47)) k) ?_
        show own_Go _ _ _ _ T45 (mkF m 91 _ [])
        refine own_st (fun t k => XS.iconst X45.here hx rfl (hb hby d17_91) k) ?_
        show own_Go _ _ _ _ T45 (mkF m 92 _ [(.int (2 : Int32))])
        refine own_st (fun t k => XS.iloadN X45.here hx rfl (hb hby d17_92) rfl k) ?_
        show own_Go _ _ _ _ T45 (mkF m 93 _ [(.int (1 : Int32)), (.int (2 : Int32))])
        refine own_st (fun t k => XS.imul X45.here hx rfl (hb hby d17_93) rfl k) ?_
        show own_Go _ _ _ _ T45 (mkF m 94 _ [(.int (2 : Int32))])
        refine own_st (fun t k => XS.iconst X45.here hx rfl (hb hby d17_94) k) ?_
        show own_Go _ _ _ _ T45 (mkF m 95 _ [(.int (1 : Int32)), (.int (2 : Int32))])
        refine own_st (fun t k => XS.iadd X45.here hx rfl (hb hby d17_95) rfl k) ?_
        show own_Go _ _ _ _ T45 (mkF m 96 _ [(.int (3 : Int32))])
        refine own_st (fun t k => XS.istoreN X45.here hx rfl (hb hby d17_96) rfl (l' := #[sR a, sI (3 : Int32), sI (1 : Int32), sI (4 : Int32), sI (8 : Int32), sI (12 : Int32), sJ (gn 7), .second]) rfl k) ?_
        show own_Go _ _ _ _ T45 (mkF m 97 #[sR a, sI (3 : Int32), sI (1 : Int32), sI (4 : Int32), sI (8 : Int32), sI (12 : Int32), sJ (gn 7), .second] [])
        refine own_st (fun t k => XS.iconst X45.here hx rfl (hb hby d17_97) k) ?_
        show own_Go _ _ _ _ T45 (mkF m 98 _ [(.int (0 : Int32))])
        refine own_st (fun t k => XS.istoreN X45.here hx rfl (hb hby d17_98) rfl (l' := #[sR a, sI (3 : Int32), sI (0 : Int32), sI (4 : Int32), sI (8 : Int32), sI (12 : Int32), sJ (gn 7), .second]) rfl k) ?_
        show own_Go _ _ _ _ T45 (mkF m 99 #[sR a, sI (3 : Int32), sI (0 : Int32), sI (4 : Int32), sI (8 : Int32), sI (12 : Int32), sJ (gn 7), .second] [])
        refine own_st (fun t k => XS.goto X45.here hx rfl (pc0 := 99) (pc' := 106) rfl (hb hby d17_99) (by decide) (by decide) k) ?_
        show own_Go _ _ _ _ T45 (mkF m 106 _ [])
        refine own_st (fun t k => XS.goto X45.here hx rfl (pc0 := 106) (pc' := 164) rfl (hb hby d17_106) (by decide) (by decide) k) ?_
        show own_Go _ _ _ _ T45 (mkF m 164 _ [])
        refine own_st (fun t k => XS.goto X45.here hx rfl (pc0 := 164) (pc' := 4) rfl (hb hby d17_164) (by decide) (by decide) k) ?_
        show own_Go _ _ _ _ T45 (mkF m 4 _ [])
        refine own_st (fun t k => XS.iloadN X45.here hx rfl (hb hby d17_4) rfl k) ?_
        show own_Go _ _ _ _ T45 (mkF m 5 _ [(.int (3 : Int32))])
        refine own_st (fun t k => XS.aloadN X45.here hx rfl (hb hby d17_5) rfl rfl k) ?_
        show own_Go _ _ _ _ T45 (mkF m 6 _ [(.ref a), (.int (3 : Int32))])
        obtain ⟨T48, X48, e48, st48⟩ := getF X45 hx hZ hown (host := "") (Or.inl (own_w hw 35 rfl)) Via.refl e45 F3 (g := (mkF m 6 #[sR a, sI (3 : Int32), sI (0 : Int32), sI (4 : Int32), sI (8 : Int32), sI (12 : Int32), sJ (gn 7), .second] [(.ref a), (.int (3 : Int32))])) rfl rfl (hb hby d17_6)
        refine own_st st48 ?_
        show own_Go _ _ _ _ T48 (mkF m 9 _ [(.int (4 : Int32)), (.int (3 : Int32))])
        refine own_st (fun t k => XS.icmpNo X48.here hx rfl (hb hby d17_9) rfl (tlt (by decide : ((3 : Int32) < (4 : Int32)))).2.1 k) ?_
        show own_Go _ _ _ _ T48 (mkF m 12 _ [])
        refine own_st (fun t k => XS.iconst X48.here hx rfl (hb hby d17_12) k) ?_
        show own_Go _ _ _ _ T48 (mkF m 13 _ [(.int (4 : Int32))])
        refine own_st (fun t k => XS.iloadN X48.here hx rfl (hb hby d17_13) rfl k) ?_
        show own_Go _ _ _ _ T48 (mkF m 14 _ [(.int (3 : Int32)), (.int (4 : Int32))])
        refine own_st (fun t k => XS.imul X48.here hx rfl (hb hby d17_14) rfl k) ?_
        show own_Go _ _ _ _ T48 (mkF m 15 _ [(.int (12 : Int32))])
        refine own_st (fun t k => XS.istoreN X48.here hx rfl (hb hby d17_15) rfl (l' := #[sR a, sI (3 : Int32), sI (0 : Int32), sI (12 : Int32), sI (8 : Int32), sI (12 : Int32), sJ (gn 7), .second]) rfl k) ?_
        show own_Go _ _ _ _ T48 (mkF m 16 #[sR a, sI (3 : Int32), sI (0 : Int32), sI (12 : Int32), sI (8 : Int32), sI (12 : Int32), sJ (gn 7), .second] [])
        refine own_st (fun t k => XS.bipush X48.here hx rfl (hb hby d17_16) k) ?_
        show own_Go _ _ _ _ T48 (mkF m 18 _ [(.int (8 : Int32))])
        refine own_st (fun t k => XS.iloadN X48.here hx rfl (hb hby d17_18) rfl k) ?_
        show own_Go _ _ _ _ T48 (mkF m 19 _ [(.int (3 : Int32)), (.int (8 : Int32))])
        refine own_st (fun t k => XS.imul X48.here hx rfl (hb hby d17_19) rfl k) ?_
        show own_Go _ _ _ _ T48 (mkF m 20 _ [(.int (24 : Int32))])
        refine own_st (fun t k => XS.istore X48.here hx rfl (hb hby d17_20) rfl (l' := #[sR a, sI (3 : Int32), sI (0 : Int32), sI (12 : Int32), sI (24 : Int32), sI (12 : Int32), sJ (gn 7), .second]) rfl k) ?_
        show own_Go _ _ _ _ T48 (mkF m 22 #[sR a, sI (3 : Int32), sI (0 : Int32), sI (12 : Int32), sI (24 : Int32), sI (12 : Int32), sJ (gn 7), .second] [])
        refine own_st (fun t k => XS.iload X48.here hx rfl (hb hby d17_22) rfl k) ?_
        show own_Go _ _ _ _ T48 (mkF m 24 _ [(.int (24 : Int32))])
        refine own_st (fun t k => XS.iconst X48.here hx rfl (hb hby d17_24) k) ?_
        show own_Go _ _ _ _ T48 (mkF m 25 _ [(.int (4 : Int32)), (.int (24 : Int32))])
        refine own_st (fun t k => XS.iadd X48.here hx rfl (hb hby d17_25) rfl k) ?_
        show own_Go _ _ _ _ T48 (mkF m 26 _ [(.int (28 : Int32))])
        refine own_st (fun t k => XS.istore X48.here hx rfl (hb hby d17_26) rfl (l' := #[sR a, sI (3 : Int32), sI (0 : Int32), sI (12 : Int32), sI (24 : Int32), sI (28 : Int32), sJ (gn 7), .second]) rfl k) ?_
        show own_Go _ _ _ _ T48 (mkF m 28 #[sR a, sI (3 : Int32), sI (0 : Int32), sI (12 : Int32), sI (24 : Int32), sI (28 : Int32), sJ (gn 7), .second] [])
        refine own_st (fun t k => XS.iloadN X48.here hx rfl (hb hby d17_28) rfl k) ?_
        show own_Go _ _ _ _ T48 (mkF m 29 _ [(.int (0 : Int32))])
        refine own_st (fun t k => XS.ifYes X48.here hx rfl (pc0 := 29) (pc' := 109) rfl (hb hby d17_29) rfl ((if0 _ _).trans (teq (by decide : ((0 : Int32) = (0 : Int32)))).1) (by decide) (by decide) k) ?_
        show own_Go _ _ _ _ T48 (mkF m 109 _ [])
        refine own_st (fun t k => XS.aloadN X48.here hx rfl (hb hby d17_109) rfl rfl k) ?_
        show own_Go _ _ _ _ T48 (mkF m 110 _ [(.ref a)])
        obtain ⟨T49, X49, e49, st49⟩ := getF X48 hx hZ hown (host := "") (Or.inl (own_w hw 28 rfl)) Via.refl e48 F1 (g := (mkF m 110 #[sR a, sI (3 : Int32), sI (0 : Int32), sI (12 : Int32), sI (24 : Int32), sI (28 : Int32), sJ (gn 7), .second] [(.ref a)])) rfl rfl (hb hby d17_110)
        refine own_st st49 ?_
        show own_Go _ _ _ _ T49 (mkF m 113 _ [(.ref na)])
        refine own_st (fun t k => XS.iloadN X49.here hx rfl (hb hby d17_113) rfl k) ?_
        show own_Go _ _ _ _ T49 (mkF m 114 _ [(.int (12 : Int32)), (.ref na)])
        refine own_st (fun t k => XS.iconst X49.here hx rfl (hb hby d17_114) k) ?_
        show own_Go _ _ _ _ T49 (mkF m 115 _ [(.int (2 : Int32)), (.int (12 : Int32)), (.ref na)])
        refine own_st (fun t k => XS.iadd X49.here hx rfl (hb hby d17_115) rfl k) ?_
        show own_Go _ _ _ _ T49 (mkF m 116 _ [(.int (14 : Int32)), (.ref na)])
        obtain ⟨c50, Ar50, q50, S50, N50, H50⟩ := id F2
        refine own_st (fun t k => X49.laload hx (j := (14 : Int32)) (v := (.long (gn 14))) (by rw [e49]; exact Ar50.1) (State.isArrayOf_alike hZ.alike Ar50.2.1) Ar50.2.2 (inb_of S50 ⟨by decide, by decide⟩) (H50 _ (own_lt (inb_of S50 ⟨by decide, by decide⟩))) (g := (mkF m 116 #[sR a, sI (3 : Int32), sI (0 : Int32), sI (12 : Int32), sI (24 : Int32), sI (28 : Int32), sJ (gn 7), .second] [(.int (14 : Int32)), (.ref na)])) rfl rfl (hb hby d17_116) _ k) ?_
        show own_Go _ _ _ _ T49 (mkF m 117 _ [(.long (gn 14))])
        refine own_st (fun t k => XS.aloadN X49.here hx rfl (hb hby d17_117) rfl rfl k) ?_
        show own_Go _ _ _ _ T49 (mkF m 118 _ [(.ref a), (.long (gn 14))])
        obtain ⟨T51, X51, e51, st51⟩ := getF X49 hx hZ hown (host := "") (Or.inl (own_w hw 28 rfl)) Via.refl e49 F1 (g := (mkF m 118 #[sR a, sI (3 : Int32), sI (0 : Int32), sI (12 : Int32), sI (24 : Int32), sI (28 : Int32), sJ (gn 7), .second] [(.ref a), (.long (gn 14))])) rfl rfl (hb hby d17_118)
        refine own_st st51 ?_
        show own_Go _ _ _ _ T51 (mkF m 121 _ [(.ref na), (.long (gn 14))])
        refine own_st (fun t k => XS.iload X51.here hx rfl (hb hby d17_121) rfl k) ?_
        show own_Go _ _ _ _ T51 (mkF m 123 _ [(.int (24 : Int32)), (.ref na), (.long (gn 14))])
        refine own_st (fun t k => XS.iconst X51.here hx rfl (hb hby d17_123) k) ?_
        show own_Go _ _ _ _ T51 (mkF m 124 _ [(.int (2 : Int32)), (.int (24 : Int32)), (.ref na), (.long (gn 14))])
        refine own_st (fun t k => XS.iadd X51.here hx rfl (hb hby d17_124) rfl k) ?_
        show own_Go _ _ _ _ T51 (mkF m 125 _ [(.int (26 : Int32)), (.ref na), (.long (gn 14))])
        obtain ⟨c52, Ar52, q52, S52, N52, H52⟩ := id F2
        refine own_st (fun t k => X51.laload hx (j := (26 : Int32)) (v := (.long (gn 26))) (by rw [e51]; exact Ar52.1) (State.isArrayOf_alike hZ.alike Ar52.2.1) Ar52.2.2 (inb_of S52 ⟨by decide, by decide⟩) (H52 _ (own_lt (inb_of S52 ⟨by decide, by decide⟩))) (g := (mkF m 125 #[sR a, sI (3 : Int32), sI (0 : Int32), sI (12 : Int32), sI (24 : Int32), sI (28 : Int32), sJ (gn 7), .second] [(.int (26 : Int32)), (.ref na), (.long (gn 14))])) rfl rfl (hb hby d17_125) _ k) ?_
        show own_Go _ _ _ _ T51 (mkF m 126 _ [(.long (gn 26)), (.long (gn 14))])
        refine own_st (fun t k => XS.aloadN X51.here hx rfl (hb hby d17_126) rfl rfl k) ?_
        show own_Go _ _ _ _ T51 (mkF m 127 _ [(.ref a), (.long (gn 26)), (.long (gn 14))])
        obtain ⟨T53, X53, e53, st53⟩ := getF X51 hx hZ hown (host := "") (Or.inl (own_w hw 28 rfl)) Via.refl e51 F1 (g := (mkF m 127 #[sR a, sI (3 : Int32), sI (0 : Int32), sI (12 : Int32), sI (24 : Int32), sI (28 : Int32), sJ (gn 7), .second] [(.ref a), (.long (gn 26)), (.long (gn 14))])) rfl rfl (hb hby d17_127)
        refine own_st st53 ?_
        show own_Go _ _ _ _ T53 (mkF m 130 _ [(.ref na), (.long (gn 26)), (.long (gn 14))])
        refine own_st (fun t k => XS.iload X53.here hx rfl (hb hby d17_130) rfl k) ?_
        show own_Go _ _ _ _ T53 (mkF m 132 _ [(.int (28 : Int32)), (.ref na), (.long (gn 26)), (.long (gn 14))])
        refine own_st (fun t k => XS.iconst X53.here hx rfl (hb hby d17_132) k) ?_
        show own_Go _ _ _ _ T53 (mkF m 133 _ [(.int (0 : Int32)), (.int (28 : Int32)), (.ref na), (.long (gn 26)), (.long (gn 14))])
        refine own_st (fun t k => XS.iadd X53.here hx rfl (hb hby d17_133) rfl k) ?_
        show own_Go _ _ _ _ T53 (mkF m 134 _ [(.int (28 : Int32)), (.ref na), (.long (gn 26)), (.long (gn 14))])
        obtain ⟨c54, Ar54, q54, S54, N54, H54⟩ := id F2
        refine own_st (fun t k => X53.laload hx (j := (28 : Int32)) (v := (.long (gn 28))) (by rw [e53]; exact Ar54.1) (State.isArrayOf_alike hZ.alike Ar54.2.1) Ar54.2.2 (inb_of S54 ⟨by decide, by decide⟩) (H54 _ (own_lt (inb_of S54 ⟨by decide, by decide⟩))) (g := (mkF m 134 #[sR a, sI (3 : Int32), sI (0 : Int32), sI (12 : Int32), sI (24 : Int32), sI (28 : Int32), sJ (gn 7), .second] [(.int (28 : Int32)), (.ref na), (.long (gn 26)), (.long (gn 14))])) rfl rfl (hb hby d17_134) _ k) ?_
        show own_Go _ _ _ _ T53 (mkF m 135 _ [(.long (gn 28)), (.long (gn 26)), (.long (gn 14))])
        refine own_st (fun t k => XS.ladd X53.here hx rfl (hb hby d17_135) rfl k) ?_
        show own_Go _ _ _ _ T53 (mkF m 136 _ [(.long ((gn 26) + (gn 28))), (.long (gn 14))])
        refine own_st (fun t k => XS.lcmp X53.here hx rfl (hb hby d17_136) rfl k) ?_
        show own_Go _ _ _ _ T53 (mkF m 137 _ [(.int (lcmpW (gn 14) ((gn 26) + (gn 28))))])
        by_cases c55 : (gn 14) = ((gn 26) + (gn 28))
        · skip
          refine own_st (fun t k => XS.ifNo X53.here hx rfl (hb hby d17_137) rfl (own_lcF (cd := .ne) (not_not_intro c55)) k) ?_
          show own_Go _ _ _ _ T53 (mkF m 140 _ [])
          refine own_st (fun t k => XS.iconst X53.here hx rfl (hb hby d17_140) k) ?_
          show own_Go _ _ _ _ T53 (mkF m 141 _ [(.int (1 : Int32))])
          refine own_st (fun t k => XS.goto X53.here hx rfl (pc0 := 141) (pc' := 145) rfl (hb hby d17_141) (by decide) (by decide) k) ?_
          show own_Go _ _ _ _ T53 (mkF m 145 _ [(.int (1 : Int32))])
          refine own_st (fun t k => XS.istore X53.here hx rfl (hb hby d17_145) rfl (l' := #[sR a, sI (3 : Int32), sI (0 : Int32), sI (12 : Int32), sI (24 : Int32), sI (28 : Int32), sI (1 : Int32), .unset]) rfl k) ?_
          show own_Go _ _ _ _ T53 (mkF m 147 #[sR a, sI (3 : Int32), sI (0 : Int32), sI (12 : Int32), sI (24 : Int32), sI (28 : Int32), sI (1 : Int32), .unset] [])
          refine own_st (fun t k => XS.iload X53.here hx rfl (hb hby d17_147) rfl k) ?_
          show own_Go _ _ _ _ T53 (mkF m 149 _ [(.int (1 : Int32))])
          refine own_st (fun t k => XS.ifNo X53.here hx rfl (hb hby d17_149) rfl ((if0 _ _).trans (feq (by decide : ¬ ((1 : Int32) = (0 : Int32)))).1) k) ?_
          show own_Go _ _ _ _ T53 (mkF m 152 _ [])
          refine own_st (fun t k => XS.iconst X53.here hx rfl (hb hby d17_152) k) ?_
          show own_Go _ _ _ _ T53 (mkF m 153 _ [(.int (2 : Int32))])
          refine own_st (fun t k => XS.iloadN X53.here hx rfl (hb hby d17_153) rfl k) ?_
          show own_Go _ _ _ _ T53 (mkF m 154 _ [(.int (3 : Int32)), (.int (2 : Int32))])
          refine own_st (fun t k => XS.imul X53.here hx rfl (hb hby d17_154) rfl k) ?_
          show own_Go _ _ _ _ T53 (mkF m 155 _ [(.int (6 : Int32))])
          refine own_st (fun t k => XS.goto X53.here hx rfl (pc0 := 155) (pc' := 163) rfl (hb hby d17_155) (by decide) (by decide) k) ?_
          show own_Go _ _ _ _ T53 (mkF m 163 _ [(.int (6 : Int32))])
          refine own_st (fun t k => XS.istoreN X53.here hx rfl (hb hby d17_163) rfl (l' := #[sR a, sI (6 : Int32), sI (0 : Int32), sI (12 : Int32), sI (24 : Int32), sI (28 : Int32), sI (1 : Int32), .unset]) rfl k) ?_
          show own_Go _ _ _ _ T53 (mkF m 164 #[sR a, sI (6 : Int32), sI (0 : Int32), sI (12 : Int32), sI (24 : Int32), sI (28 : Int32), sI (1 : Int32), .unset] [])
          refine own_st (fun t k => XS.goto X53.here hx rfl (pc0 := 164) (pc' := 4) rfl (hb hby d17_164) (by decide) (by decide) k) ?_
          show own_Go _ _ _ _ T53 (mkF m 4 _ [])
          refine own_st (fun t k => XS.iloadN X53.here hx rfl (hb hby d17_4) rfl k) ?_
          show own_Go _ _ _ _ T53 (mkF m 5 _ [(.int (6 : Int32))])
          refine own_st (fun t k => XS.aloadN X53.here hx rfl (hb hby d17_5) rfl rfl k) ?_
          show own_Go _ _ _ _ T53 (mkF m 6 _ [(.ref a), (.int (6 : Int32))])
          obtain ⟨T56, X56, e56, st56⟩ := getF X53 hx hZ hown (host := "") (Or.inl (own_w hw 35 rfl)) Via.refl e53 F3 (g := (mkF m 6 #[sR a, sI (6 : Int32), sI (0 : Int32), sI (12 : Int32), sI (24 : Int32), sI (28 : Int32), sI (1 : Int32), .unset] [(.ref a), (.int (6 : Int32))])) rfl rfl (hb hby d17_6)
          refine own_st st56 ?_
          show own_Go _ _ _ _ T56 (mkF m 9 _ [(.int (4 : Int32)), (.int (6 : Int32))])
          refine own_st (fun t k => XS.icmpYes X56.here hx rfl (pc0 := 9) (pc' := 167) rfl (hb hby d17_9) rfl (flt (by decide : ¬ ((6 : Int32) < (4 : Int32)))).2.1 (by decide) (by decide) k) ?_
          show own_Go _ _ _ _ T56 (mkF m 167 _ [])
          refine own_st (fun t k => XS.iloadN X56.here hx rfl (hb hby d17_167) rfl k) ?_
          show own_Go _ _ _ _ T56 (mkF m 168 _ [(.int (6 : Int32))])
          refine own_st (fun t k => XS.aloadN X56.here hx rfl (hb hby d17_168) rfl rfl k) ?_
          show own_Go _ _ _ _ T56 (mkF m 169 _ [(.ref a), (.int (6 : Int32))])
          obtain ⟨T57, X57, e57, st57⟩ := getF X56 hx hZ hown (host := "") (Or.inl (own_w hw 35 rfl)) Via.refl e56 F3 (g := (mkF m 169 #[sR a, sI (6 : Int32), sI (0 : Int32), sI (12 : Int32), sI (24 : Int32), sI (28 : Int32), sI (1 : Int32), .unset] [(.ref a), (.int (6 : Int32))])) rfl rfl (hb hby d17_169)
          refine own_st st57 ?_
          show own_Go _ _ _ _ T57 (mkF m 172 _ [(.int (4 : Int32)), (.int (6 : Int32))])
          refine own_st (fun t k => XS.isub X57.here hx rfl (hb hby d17_172) rfl k) ?_
          show own_Go _ _ _ _ T57 (mkF m 173 _ [(.int (2 : Int32))])
          subst hPq
          refine own_out X57 (v := some (.int (2 : Int32))) (fun h => by rw [Bd.returns] at h; cases h) Bd.notSynchronized (own_retI X57 hx Bd.returns (hb hby d17_173)) (by decide) (by decide) ?_
          show Q35 Z a na kn gn (4 : Int32) h0 n0 _ T57.heap _
          rw [e57]
          have eg : (2 : Int32) = own_rg4 gn := by
              unfold own_rg4
              rw [if_neg c25, if_pos c47, if_pos c55]
          exact ⟨congrArg (fun z => some (Value.int z)) eg, N0, rfl⟩
        · skip
          refine own_st (fun t k => XS.ifYes X53.here hx rfl (pc0 := 137) (pc' := 144) rfl (hb hby d17_137) rfl (own_lcT (cd := .ne) c55) (by decide) (by decide) k) ?_
          show own_Go _ _ _ _ T53 (mkF m 144 _ [])
          refine own_st (fun t k => XS.iconst X53.here hx rfl (hb hby d17_144) k) ?_
          show own_Go _ _ _ _ T53 (mkF m 145 _ [(.int (0 : Int32))])
          refine own_st (fun t k => XS.istore X53.here hx rfl (hb hby d17_145) rfl (l' := #[sR a, sI (3 : Int32), sI (0 : Int32), sI (12 : Int32), sI (24 : Int32), sI (28 : Int32), sI (0 : Int32), .unset]) rfl k) ?_
          show own_Go _ _ _ _ T53 (mkF m 147 #[sR a, sI (3 : Int32), sI (0 : Int32), sI (12 : Int32), sI (24 : Int32), sI (28 : Int32), sI (0 : Int32), .unset] [])
          refine own_st (fun t k => XS.iload X53.here hx rfl (hb hby d17_147) rfl k) ?_
          show own_Go _ _ _ _ T53 (mkF m 149 _ [(.int (0 : Int32))])
          refine own_st (fun t k => XS.ifYes X53.here hx rfl (pc0 := 149) (pc' := 158) rfl (hb hby d17_149) rfl ((if0 _ _).trans (teq (by decide : ((0 : Int32) = (0 : Int32)))).1) (by decide) (by decide) k) ?_
          show own_Go _ _ _ _ T53 (mkF m 158 _ [])
          refine own_st (fun t k => XS.iconst X53.here hx rfl (hb hby d17_158) k) ?_
          show own_Go _ _ _ _ T53 (mkF m 159 _ [(.int (2 : Int32))])
          refine own_st (fun t k => XS.iloadN X53.here hx rfl (hb hby d17_159) rfl k) ?_
          show own_Go _ _ _ _ T53 (mkF m 160 _ [(.int (3 : Int32)), (.int (2 : Int32))])
          refine own_st (fun t k => XS.imul X53.here hx rfl (hb hby d17_160) rfl k) ?_
          show own_Go _ _ _ _ T53 (mkF m 161 _ [(.int (6 : Int32))])
          refine own_st (fun t k => XS.iconst X53.here hx rfl (hb hby d17_161) k) ?_
          show own_Go _ _ _ _ T53 (mkF m 162 _ [(.int (1 : Int32)), (.int (6 : Int32))])
          refine own_st (fun t k => XS.iadd X53.here hx rfl (hb hby d17_162) rfl k) ?_
          show own_Go _ _ _ _ T53 (mkF m 163 _ [(.int (7 : Int32))])
          refine own_st (fun t k => XS.istoreN X53.here hx rfl (hb hby d17_163) rfl (l' := #[sR a, sI (7 : Int32), sI (0 : Int32), sI (12 : Int32), sI (24 : Int32), sI (28 : Int32), sI (0 : Int32), .unset]) rfl k) ?_
          show own_Go _ _ _ _ T53 (mkF m 164 #[sR a, sI (7 : Int32), sI (0 : Int32), sI (12 : Int32), sI (24 : Int32), sI (28 : Int32), sI (0 : Int32), .unset] [])
          refine own_st (fun t k => XS.goto X53.here hx rfl (pc0 := 164) (pc' := 4) rfl (hb hby d17_164) (by decide) (by decide) k) ?_
          show own_Go _ _ _ _ T53 (mkF m 4 _ [])
          refine own_st (fun t k => XS.iloadN X53.here hx rfl (hb hby d17_4) rfl k) ?_
          show own_Go _ _ _ _ T53 (mkF m 5 _ [(.int (7 : Int32))])
          refine own_st (fun t k => XS.aloadN X53.here hx rfl (hb hby d17_5) rfl rfl k) ?_
          show own_Go _ _ _ _ T53 (mkF m 6 _ [(.ref a), (.int (7 : Int32))])
          obtain ⟨T58, X58, e58, st58⟩ := getF X53 hx hZ hown (host := "") (Or.inl (own_w hw 35 rfl)) Via.refl e53 F3 (g := (mkF m 6 #[sR a, sI (7 : Int32), sI (0 : Int32), sI (12 : Int32), sI (24 : Int32), sI (28 : Int32), sI (0 : Int32), .unset] [(.ref a), (.int (7 : Int32))])) rfl rfl (hb hby d17_6)
          refine own_st st58 ?_
          show own_Go _ _ _ _ T58 (mkF m 9 _ [(.int (4 : Int32)), (.int (7 : Int32))])
          refine own_st (fun t k => XS.icmpYes X58.here hx rfl (pc0 := 9) (pc' := 167) rfl (hb hby d17_9) rfl (flt (by decide : ¬ ((7 : Int32) < (4 : Int32)))).2.1 (by decide) (by decide) k) ?_
          show own_Go _ _ _ _ T58 (mkF m 167 _ [])
          refine own_st (fun t k => XS.iloadN X58.here hx rfl (hb hby d17_167) rfl k) ?_
          show own_Go _ _ _ _ T58 (mkF m 168 _ [(.int (7 : Int32))])
          refine own_st (fun t k => XS.aloadN X58.here hx rfl (hb hby d17_168) rfl rfl k) ?_
          show own_Go _ _ _ _ T58 (mkF m 169 _ [(.ref a), (.int (7 : Int32))])
          obtain ⟨T59, X59, e59, st59⟩ := getF X58 hx hZ hown (host := "") (Or.inl (own_w hw 35 rfl)) Via.refl e58 F3 (g := (mkF m 169 #[sR a, sI (7 : Int32), sI (0 : Int32), sI (12 : Int32), sI (24 : Int32), sI (28 : Int32), sI (0 : Int32), .unset] [(.ref a), (.int (7 : Int32))])) rfl rfl (hb hby d17_169)
          refine own_st st59 ?_
          show own_Go _ _ _ _ T59 (mkF m 172 _ [(.int (4 : Int32)), (.int (7 : Int32))])
          refine own_st (fun t k => XS.isub X59.here hx rfl (hb hby d17_172) rfl k) ?_
          show own_Go _ _ _ _ T59 (mkF m 173 _ [(.int (3 : Int32))])
          subst hPq
          refine own_out X59 (v := some (.int (3 : Int32))) (fun h => by rw [Bd.returns] at h; cases h) Bd.notSynchronized (own_retI X59 hx Bd.returns (hb hby d17_173)) (by decide) (by decide) ?_
          show Q35 Z a na kn gn (4 : Int32) h0 n0 _ T59.heap _
          rw [e59]
          have eg : (3 : Int32) = own_rg4 gn := by
              unfold own_rg4
              rw [if_neg c25, if_pos c47, if_neg c55]
          exact ⟨congrArg (fun z => some (Value.int z)) eg, N0, rfl⟩
      · skip
        refine own_st (fun t k => XS.ifYes X45.here hx rfl (pc0 := 88) (pc' := 102) rfl (hb hby d17_88) rfl (own_lcT (cd := .ne) c47) (by decide) (by decide) k) ?_
        show own_Go _ _ _ _ T45 (mkF m 102 _ [])
        refine own_st (fun t k => XS.iconst X45.here hx rfl (hb hby d17_102) k) ?_
        show own_Go _ _ _ _ T45 (mkF m 103 _ [(.int (2 : Int32))])
        refine own_st (fun t k => XS.iloadN X45.here hx rfl (hb hby d17_103) rfl k) ?_
        show own_Go _ _ _ _ T45 (mkF m 104 _ [(.int (1 : Int32)), (.int (2 : Int32))])
        refine own_st (fun t k => XS.imul X45.here hx rfl (hb hby d17_104) rfl k) ?_
        show own_Go _ _ _ _ T45 (mkF m 105 _ [(.int (2 : Int32))])
        refine own_st (fun t k => XS.istoreN X45.here hx rfl (hb hby d17_105) rfl (l' := #[sR a, sI (2 : Int32), sI (1 : Int32), sI (4 : Int32), sI (8 : Int32), sI (12 : Int32), sJ (gn 7), .second]) rfl k) ?_
        show own_Go _ _ _ _ T45 (mkF m 106 #[sR a, sI (2 : Int32), sI (1 : Int32), sI (4 : Int32), sI (8 : Int32), sI (12 : Int32), sJ (gn 7), .second] [])
        refine own_st (fun t k => XS.goto X45.here hx rfl (pc0 := 106) (pc' := 164) rfl (hb hby d17_106) (by decide) (by decide) k) ?_
        show own_Go _ _ _ _ T45 (mkF m 164 _ [])
        refine own_st (fun t k => XS.goto X45.here hx rfl (pc0 := 164) (pc' := 4) rfl (hb hby d17_164) (by decide) (by decide) k) ?_
        show own_Go _ _ _ _ T45 (mkF m 4 _ [])
        refine own_st (fun t k => XS.iloadN X45.here hx rfl (hb hby d17_4) rfl k) ?_
        show own_Go _ _ _ _ T45 (mkF m 5 _ [(.int (2 : Int32))])
        refine own_st (fun t k => XS.aloadN X45.here hx rfl (hb hby d17_5) rfl rfl k) ?_
        show own_Go _ _ _ _ T45 (mkF m 6 _ [(.ref a), (.int (2 : Int32))])
        obtain ⟨T60, X60, e60, st60⟩ := getF X45 hx hZ hown (host := "") (Or.inl (own_w hw 35 rfl)) Via.refl e45 F3 (g := (mkF m 6 #[sR a, sI (2 : Int32), sI (1 : Int32), sI (4 : Int32), sI (8 : Int32), sI (12 : Int32), sJ (gn 7), .second] [(.ref a), (.int (2 : Int32))])) rfl rfl (hb hby d17_6)
        refine own_st st60 ?_
        show own_Go _ _ _ _ T60 (mkF m 9 _ [(.int (4 : Int32)), (.int (2 : Int32))])
        refine own_st (fun t k => XS.icmpNo X60.here hx rfl (hb hby d17_9) rfl (tlt (by decide : ((2 : Int32) < (4 : Int32)))).2.1 k) ?_
        show own_Go _ _ _ _ T60 (mkF m 12 _ [])
        refine own_st (fun t k => XS.iconst X60.here hx rfl (hb hby d17_12) k) ?_
        show own_Go _ _ _ _ T60 (mkF m 13 _ [(.int (4 : Int32))])
        refine own_st (fun t k => XS.iloadN X60.here hx rfl (hb hby d17_13) rfl k) ?_
        show own_Go _ _ _ _ T60 (mkF m 14 _ [(.int (2 : Int32)), (.int (4 : Int32))])
        refine own_st (fun t k => XS.imul X60.here hx rfl (hb hby d17_14) rfl k) ?_
        show own_Go _ _ _ _ T60 (mkF m 15 _ [(.int (8 : Int32))])
        refine own_st (fun t k => XS.istoreN X60.here hx rfl (hb hby d17_15) rfl (l' := #[sR a, sI (2 : Int32), sI (1 : Int32), sI (8 : Int32), sI (8 : Int32), sI (12 : Int32), sJ (gn 7), .second]) rfl k) ?_
        show own_Go _ _ _ _ T60 (mkF m 16 #[sR a, sI (2 : Int32), sI (1 : Int32), sI (8 : Int32), sI (8 : Int32), sI (12 : Int32), sJ (gn 7), .second] [])
        refine own_st (fun t k => XS.bipush X60.here hx rfl (hb hby d17_16) k) ?_
        show own_Go _ _ _ _ T60 (mkF m 18 _ [(.int (8 : Int32))])
        refine own_st (fun t k => XS.iloadN X60.here hx rfl (hb hby d17_18) rfl k) ?_
        show own_Go _ _ _ _ T60 (mkF m 19 _ [(.int (2 : Int32)), (.int (8 : Int32))])
        refine own_st (fun t k => XS.imul X60.here hx rfl (hb hby d17_19) rfl k) ?_
        show own_Go _ _ _ _ T60 (mkF m 20 _ [(.int (16 : Int32))])
        refine own_st (fun t k => XS.istore X60.here hx rfl (hb hby d17_20) rfl (l' := #[sR a, sI (2 : Int32), sI (1 : Int32), sI (8 : Int32), sI (16 : Int32), sI (12 : Int32), sJ (gn 7), .second]) rfl k) ?_
        show own_Go _ _ _ _ T60 (mkF m 22 #[sR a, sI (2 : Int32), sI (1 : Int32), sI (8 : Int32), sI (16 : Int32), sI (12 : Int32), sJ (gn 7), .second] [])
        refine own_st (fun t k => XS.iload X60.here hx rfl (hb hby d17_22) rfl k) ?_
        show own_Go _ _ _ _ T60 (mkF m 24 _ [(.int (16 : Int32))])
        refine own_st (fun t k => XS.iconst X60.here hx rfl (hb hby d17_24) k) ?_
        show own_Go _ _ _ _ T60 (mkF m 25 _ [(.int (4 : Int32)), (.int (16 : Int32))])
        refine own_st (fun t k => XS.iadd X60.here hx rfl (hb hby d17_25) rfl k) ?_
        show own_Go _ _ _ _ T60 (mkF m 26 _ [(.int (20 : Int32))])
        refine own_st (fun t k => XS.istore X60.here hx rfl (hb hby d17_26) rfl (l' := #[sR a, sI (2 : Int32), sI (1 : Int32), sI (8 : Int32), sI (16 : Int32), sI (20 : Int32), sJ (gn 7), .second]) rfl k) ?_
        show own_Go _ _ _ _ T60 (mkF m 28 #[sR a, sI (2 : Int32), sI (1 : Int32), sI (8 : Int32), sI (16 : Int32), sI (20 : Int32), sJ (gn 7), .second] [])
        refine own_st (fun t k => XS.iloadN X60.here hx rfl (hb hby d17_28) rfl k) ?_
        show own_Go _ _ _ _ T60 (mkF m 29 _ [(.int (1 : Int32))])
        refine own_st (fun t k => XS.ifNo X60.here hx rfl (hb hby d17_29) rfl ((if0 _ _).trans (feq (by decide : ¬ ((1 : Int32) = (0 : Int32)))).1) k) ?_
        show own_Go _ _ _ _ T60 (mkF m 32 _ [])
        refine own_st (fun t k => XS.aloadN X60.here hx rfl (hb hby d17_32) rfl rfl k) ?_
        show own_Go _ _ _ _ T60 (mkF m 33 _ [(.ref a)])
        obtain ⟨T61, X61, e61, st61⟩ := getF X60 hx hZ hown (host := "") (Or.inl (own_w hw 28 rfl)) Via.refl e60 F1 (g := (mkF m 33 #[sR a, sI (2 : Int32), sI (1 : Int32), sI (8 : Int32), sI (16 : Int32), sI (20 : Int32), sJ (gn 7), .second] [(.ref a)])) rfl rfl (hb hby d17_33)
        refine own_st st61 ?_
        show own_Go _ _ _ _ T61 (mkF m 36 _ [(.ref na)])
        refine own_st (fun t k => XS.iloadN X61.here hx rfl (hb hby d17_36) rfl k) ?_
        show own_Go _ _ _ _ T61 (mkF m 37 _ [(.int (8 : Int32)), (.ref na)])
        refine own_st (fun t k => XS.iconst X61.here hx rfl (hb hby d17_37) k) ?_
        show own_Go _ _ _ _ T61 (mkF m 38 _ [(.int (3 : Int32)), (.int (8 : Int32)), (.ref na)])
        refine own_st (fun t k => XS.iadd X61.here hx rfl (hb hby d17_38) rfl k) ?_
        show own_Go _ _ _ _ T61 (mkF m 39 _ [(.int (11 : Int32)), (.ref na)])
        obtain ⟨c62, Ar62, q62, S62, N62, H62⟩ := id F2
        refine own_st (fun t k => X61.laload hx (j := (11 : Int32)) (v := (.long (gn 11))) (by rw [e61]; exact Ar62.1) (State.isArrayOf_alike hZ.alike Ar62.2.1) Ar62.2.2 (inb_of S62 ⟨by decide, by decide⟩) (H62 _ (own_lt (inb_of S62 ⟨by decide, by decide⟩))) (g := (mkF m 39 #[sR a, sI (2 : Int32), sI (1 : Int32), sI (8 : Int32), sI (16 : Int32), sI (20 : Int32), sJ (gn 7), .second] [(.int (11 : Int32)), (.ref na)])) rfl rfl (hb hby d17_39) _ k) ?_
        show own_Go _ _ _ _ T61 (mkF m 40 _ [(.long (gn 11))])
        refine own_st (fun t k => XS.lstore X61.here hx rfl (hb hby d17_40) rfl (l' := #[sR a, sI (2 : Int32), sI (1 : Int32), sI (8 : Int32), sI (16 : Int32), sI (20 : Int32), sJ (gn 11), .second]) rfl k) ?_
        show own_Go _ _ _ _ T61 (mkF m 42 #[sR a, sI (2 : Int32), sI (1 : Int32), sI (8 : Int32), sI (16 : Int32), sI (20 : Int32), sJ (gn 11), .second] [])
        refine own_st (fun t k => XS.lload X61.here hx rfl (hb hby d17_42) rfl k) ?_
        show own_Go _ _ _ _ T61 (mkF m 44 _ [(.long (gn 11))])
        refine own_st (fun t k => XS.aloadN X61.here hx rfl (hb hby d17_44) rfl rfl k) ?_
        show own_Go _ _ _ _ T61 (mkF m 45 _ [(.ref a), (.long (gn 11))])
        obtain ⟨T63, X63, e63, st63⟩ := getF X61 hx hZ hown (host := "") (Or.inl (own_w hw 28 rfl)) Via.refl e61 F1 (g := (mkF m 45 #[sR a, sI (2 : Int32), sI (1 : Int32), sI (8 : Int32), sI (16 : Int32), sI (20 : Int32), sJ (gn 11), .second] [(.ref a), (.long (gn 11))])) rfl rfl (hb hby d17_45)
        refine own_st st63 ?_
        show own_Go _ _ _ _ T63 (mkF m 48 _ [(.ref na), (.long (gn 11))])
        refine own_st (fun t k => XS.iload X63.here hx rfl (hb hby d17_48) rfl k) ?_
        show own_Go _ _ _ _ T63 (mkF m 50 _ [(.int (20 : Int32)), (.ref na), (.long (gn 11))])
        refine own_st (fun t k => XS.iconst X63.here hx rfl (hb hby d17_50) k) ?_
        show own_Go _ _ _ _ T63 (mkF m 51 _ [(.int (3 : Int32)), (.int (20 : Int32)), (.ref na), (.long (gn 11))])
        refine own_st (fun t k => XS.iadd X63.here hx rfl (hb hby d17_51) rfl k) ?_
        show own_Go _ _ _ _ T63 (mkF m 52 _ [(.int (23 : Int32)), (.ref na), (.long (gn 11))])
        obtain ⟨c64, Ar64, q64, S64, N64, H64⟩ := id F2
        refine own_st (fun t k => X63.laload hx (j := (23 : Int32)) (v := (.long (gn 23))) (by rw [e63]; exact Ar64.1) (State.isArrayOf_alike hZ.alike Ar64.2.1) Ar64.2.2 (inb_of S64 ⟨by decide, by decide⟩) (H64 _ (own_lt (inb_of S64 ⟨by decide, by decide⟩))) (g := (mkF m 52 #[sR a, sI (2 : Int32), sI (1 : Int32), sI (8 : Int32), sI (16 : Int32), sI (20 : Int32), sJ (gn 11), .second] [(.int (23 : Int32)), (.ref na), (.long (gn 11))])) rfl rfl (hb hby d17_52) _ k) ?_
        show own_Go _ _ _ _ T63 (mkF m 53 _ [(.long (gn 23)), (.long (gn 11))])
        refine own_st (fun t k => XS.lcmp X63.here hx rfl (hb hby d17_53) rfl k) ?_
        show own_Go _ _ _ _ T63 (mkF m 54 _ [(.int (lcmpW (gn 11) (gn 23)))])
        by_cases c65 : (gn 11) = (gn 23)
        · skip
          refine own_st (fun t k => XS.ifNo X63.here hx rfl (hb hby d17_54) rfl (own_lcF (cd := .ne) (not_not_intro c65)) k) ?_
          show own_Go _ _ _ _ T63 (mkF m 57 _ [])
          refine own_st (fun t k => XS.iconst X63.here hx rfl (hb hby d17_57) k) ?_
          show own_Go _ _ _ _ T63 (mkF m 58 _ [(.int (2 : Int32))])
          refine own_st (fun t k => XS.iloadN X63.here hx rfl (hb hby d17_58) rfl k) ?_
          show own_Go _ _ _ _ T63 (mkF m 59 _ [(.int (2 : Int32)), (.int (2 : Int32))])
          refine own_st (fun t k => XS.imul X63.here hx rfl (hb hby d17_59) rfl k) ?_
          show own_Go _ _ _ _ T63 (mkF m 60 _ [(.int (4 : Int32))])
          refine own_st (fun t k => XS.iconst X63.here hx rfl (hb hby d17_60) k) ?_
          show own_Go _ _ _ _ T63 (mkF m 61 _ [(.int (1 : Int32)), (.int (4 : Int32))])
          refine own_st (fun t k => XS.iadd X63.here hx rfl (hb hby d17_61) rfl k) ?_
          show own_Go _ _ _ _ T63 (mkF m 62 _ [(.int (5 : Int32))])
          refine own_st (fun t k => XS.istoreN X63.here hx rfl (hb hby d17_62) rfl (l' := #[sR a, sI (5 : Int32), sI (1 : Int32), sI (8 : Int32), sI (16 : Int32), sI (20 : Int32), sJ (gn 11), .second]) rfl k) ?_
          show own_Go _ _ _ _ T63 (mkF m 63 #[sR a, sI (5 : Int32), sI (1 : Int32), sI (8 : Int32), sI (16 : Int32), sI (20 : Int32), sJ (gn 11), .second] [])
          refine own_st (fun t k => XS.goto X63.here hx rfl (pc0 := 63) (pc' := 106) rfl (hb hby d17_63) (by decide) (by decide) k) ?_
          show own_Go _ _ _ _ T63 (mkF m 106 _ [])
          refine own_st (fun t k => XS.goto X63.here hx rfl (pc0 := 106) (pc' := 164) rfl (hb hby d17_106) (by decide) (by decide) k) ?_
          show own_Go _ _ _ _ T63 (mkF m 164 _ [])
          refine own_st (fun t k => XS.goto X63.here hx rfl (pc0 := 164) (pc' := 4) rfl (hb hby d17_164) (by decide) (by decide) k) ?_
          show own_Go _ _ _ _ T63 (mkF m 4 _ [])
          refine own_st (fun t k => XS.iloadN X63.here hx rfl (hb hby d17_4) rfl k) ?_
          show own_Go _ _ _ _ T63 (mkF m 5 _ [(.int (5 : Int32))])
          refine own_st (fun t k => XS.aloadN X63.here hx rfl (hb hby d17_5) rfl rfl k) ?_
          show own_Go _ _ _ _ T63 (mkF m 6 _ [(.ref a), (.int (5 : Int32))])
          obtain ⟨T66, X66, e66, st66⟩ := getF X63 hx hZ hown (host := "") (Or.inl (own_w hw 35 rfl)) Via.refl e63 F3 (g := (mkF m 6 #[sR a, sI (5 : Int32), sI (1 : Int32), sI (8 : Int32), sI (16 : Int32), sI (20 : Int32), sJ (gn 11), .second] [(.ref a), (.int (5 : Int32))])) rfl rfl (hb hby d17_6)
          refine own_st st66 ?_
          show own_Go _ _ _ _ T66 (mkF m 9 _ [(.int (4 : Int32)), (.int (5 : Int32))])
          refine own_st (fun t k => XS.icmpYes X66.here hx rfl (pc0 := 9) (pc' := 167) rfl (hb hby d17_9) rfl (flt (by decide : ¬ ((5 : Int32) < (4 : Int32)))).2.1 (by decide) (by decide) k) ?_
          show own_Go _ _ _ _ T66 (mkF m 167 _ [])
          refine own_st (fun t k => XS.iloadN X66.here hx rfl (hb hby d17_167) rfl k) ?_
          show own_Go _ _ _ _ T66 (mkF m 168 _ [(.int (5 : Int32))])
          refine own_st (fun t k => XS.aloadN X66.here hx rfl (hb hby d17_168) rfl rfl k) ?_
          show own_Go _ _ _ _ T66 (mkF m 169 _ [(.ref a), (.int (5 : Int32))])
          obtain ⟨T67, X67, e67, st67⟩ := getF X66 hx hZ hown (host := "") (Or.inl (own_w hw 35 rfl)) Via.refl e66 F3 (g := (mkF m 169 #[sR a, sI (5 : Int32), sI (1 : Int32), sI (8 : Int32), sI (16 : Int32), sI (20 : Int32), sJ (gn 11), .second] [(.ref a), (.int (5 : Int32))])) rfl rfl (hb hby d17_169)
          refine own_st st67 ?_
          show own_Go _ _ _ _ T67 (mkF m 172 _ [(.int (4 : Int32)), (.int (5 : Int32))])
          refine own_st (fun t k => XS.isub X67.here hx rfl (hb hby d17_172) rfl k) ?_
          show own_Go _ _ _ _ T67 (mkF m 173 _ [(.int (1 : Int32))])
          subst hPq
          refine own_out X67 (v := some (.int (1 : Int32))) (fun h => by rw [Bd.returns] at h; cases h) Bd.notSynchronized (own_retI X67 hx Bd.returns (hb hby d17_173)) (by decide) (by decide) ?_
          show Q35 Z a na kn gn (4 : Int32) h0 n0 _ T67.heap _
          rw [e67]
          have eg : (1 : Int32) = own_rg4 gn := by
              unfold own_rg4
              rw [if_neg c25, if_neg c47, if_pos c65]
          exact ⟨congrArg (fun z => some (Value.int z)) eg, N0, rfl⟩
        · skip
          refine own_st (fun t k => XS.ifYes X63.here hx rfl (pc0 := 54) (pc' := 66) rfl (hb hby d17_54) rfl (own_lcT (cd := .ne) c65) (by decide) (by decide) k) ?_
          show own_Go _ _ _ _ T63 (mkF m 66 _ [])
          refine own_st (fun t k => XS.lload X63.here hx rfl (hb hby d17_66) rfl k) ?_
          show own_Go _ _ _ _ T63 (mkF m 68 _ [(.long (gn 11))])
          refine own_st (fun t k => XS.aloadN X63.here hx rfl (hb hby d17_68) rfl rfl k) ?_
          show own_Go _ _ _ _ T63 (mkF m 69 _ [(.ref a), (.long (gn 11))])
          obtain ⟨T68, X68, e68, st68⟩ := getF X63 hx hZ hown (host := "") (Or.inl (own_w hw 28 rfl)) Via.refl e63 F1 (g := (mkF m 69 #[sR a, sI (2 : Int32), sI (1 : Int32), sI (8 : Int32), sI (16 : Int32), sI (20 : Int32), sJ (gn 11), .second] [(.ref a), (.long (gn 11))])) rfl rfl (hb hby d17_69)
          refine own_st st68 ?_
          show own_Go _ _ _ _ T68 (mkF m 72 _ [(.ref na), (.long (gn 11))])
          refine own_st (fun t k => XS.iload X68.here hx rfl (hb hby d17_72) rfl k) ?_
          show own_Go _ _ _ _ T68 (mkF m 74 _ [(.int (16 : Int32)), (.ref na), (.long (gn 11))])
          refine own_st (fun t k => XS.iconst X68.here hx rfl (hb hby d17_74) k) ?_
          show own_Go _ _ _ _ T68 (mkF m 75 _ [(.int (1 : Int32)), (.int (16 : Int32)), (.ref na), (.long (gn 11))])
          refine own_st (fun t k => XS.iadd X68.here hx rfl (hb hby d17_75) rfl k) ?_
          show own_Go _ _ _ _ T68 (mkF m 76 _ [(.int (17 : Int32)), (.ref na), (.long (gn 11))])
          obtain ⟨c69, Ar69, q69, S69, N69, H69⟩ := id F2
          refine own_st (fun t k => X68.laload hx (j := (17 : Int32)) (v := (.long (gn 17))) (by rw [e68]; exact Ar69.1) (State.isArrayOf_alike hZ.alike Ar69.2.1) Ar69.2.2 (inb_of S69 ⟨by decide, by decide⟩) (H69 _ (own_lt (inb_of S69 ⟨by decide, by decide⟩))) (g := (mkF m 76 #[sR a, sI (2 : Int32), sI (1 : Int32), sI (8 : Int32), sI (16 : Int32), sI (20 : Int32), sJ (gn 11), .second] [(.int (17 : Int32)), (.ref na), (.long (gn 11))])) rfl rfl (hb hby d17_76) _ k) ?_
          show own_Go _ _ _ _ T68 (mkF m 77 _ [(.long (gn 17)), (.long (gn 11))])
          refine own_st (fun t k => XS.aloadN X68.here hx rfl (hb hby d17_77) rfl rfl k) ?_
          show own_Go _ _ _ _ T68 (mkF m 78 _ [(.ref a), (.long (gn 17)), (.long (gn 11))])
          obtain ⟨T70, X70, e70, st70⟩ := getF X68 hx hZ hown (host := "") (Or.inl (own_w hw 28 rfl)) Via.refl e68 F1 (g := (mkF m 78 #[sR a, sI (2 : Int32), sI (1 : Int32), sI (8 : Int32), sI (16 : Int32), sI (20 : Int32), sJ (gn 11), .second] [(.ref a), (.long (gn 17)), (.long (gn 11))])) rfl rfl (hb hby d17_78)
          refine own_st st70 ?_
          show own_Go _ _ _ _ T70 (mkF m 81 _ [(.ref na), (.long (gn 17)), (.long (gn 11))])
          refine own_st (fun t k => XS.iload X70.here hx rfl (hb hby d17_81) rfl k) ?_
          show own_Go _ _ _ _ T70 (mkF m 83 _ [(.int (20 : Int32)), (.ref na), (.long (gn 17)), (.long (gn 11))])
          refine own_st (fun t k => XS.iconst X70.here hx rfl (hb hby d17_83) k) ?_
          show own_Go _ _ _ _ T70 (mkF m 84 _ [(.int (2 : Int32)), (.int (20 : Int32)), (.ref na), (.long (gn 17)), (.long (gn 11))])
          refine own_st (fun t k => XS.iadd X70.here hx rfl (hb hby d17_84) rfl k) ?_
          show own_Go _ _ _ _ T70 (mkF m 85 _ [(.int (22 : Int32)), (.ref na), (.long (gn 17)), (.long (gn 11))])
          obtain ⟨c71, Ar71, q71, S71, N71, H71⟩ := id F2
          refine own_st (fun t k => X70.laload hx (j := (22 : Int32)) (v := (.long (gn 22))) (by rw [e70]; exact Ar71.1) (State.isArrayOf_alike hZ.alike Ar71.2.1) Ar71.2.2 (inb_of S71 ⟨by decide, by decide⟩) (H71 _ (own_lt (inb_of S71 ⟨by decide, by decide⟩))) (g := (mkF m 85 #[sR a, sI (2 : Int32), sI (1 : Int32), sI (8 : Int32), sI (16 : Int32), sI (20 : Int32), sJ (gn 11), .second] [(.int (22 : Int32)), (.ref na), (.long (gn 17)), (.long (gn 11))])) rfl rfl (hb hby d17_85) _ k) ?_
          show own_Go _ _ _ _ T70 (mkF m 86 _ [(.long (gn 22)), (.long (gn 17)), (.long (gn 11))])
          refine own_st (fun t k => XS.ladd X70.here hx rfl (hb hby d17_86) rfl k) ?_
          show own_Go _ _ _ _ T70 (mkF m 87 _ [(.long ((gn 17) + (gn 22))), (.long (gn 11))])
          refine own_st (fun t k => XS.lcmp X70.here hx rfl (hb hby d17_87) rfl k) ?_
          show own_Go _ _ _ _ T70 (mkF m 88 _ [(.int (lcmpW (gn 11) ((gn 17) + (gn 22))))])
          by_cases c72 : (gn 11) = ((gn 17) + (gn 22))
          · skip
            refine own_st (fun t k => XS.ifNo X70.here hx rfl (hb hby d17_88) rfl (own_lcF (cd := .ne) (not_not_intro c72)) k) ?_
            show own_Go _ _ _ _ T70 (mkF m 91 _ [])
            refine own_st (fun t k => XS.iconst X70.here hx rfl (hb hby d17_91) k) ?_
            show own_Go _ _ _ _ T70 (mkF m 92 _ [(.int (2 : Int32))])
            refine own_st (fun t k => XS.iloadN X70.here hx rfl (hb hby d17_92) rfl k) ?_
            show own_Go _ _ _ _ T70 (mkF m 93 _ [(.int (2 : Int32)), (.int (2 : Int32))])
            refine own_st (fun t k => XS.imul X70.here hx rfl (hb hby d17_93) rfl k) ?_
            show own_Go _ _ _ _ T70 (mkF m 94 _ [(.int (4 : Int32))])
            refine own_st (fun t k => XS.iconst X70.here hx rfl (hb hby d17_94) k) ?_
            show own_Go _ _ _ _ T70 (mkF m 95 _ [(.int (1 : Int32)), (.int (4 : Int32))])
            refine own_st (fun t k => XS.iadd X70.here hx rfl (hb hby d17_95) rfl k) ?_
            show own_Go _ _ _ _ T70 (mkF m 96 _ [(.int (5 : Int32))])
            refine own_st (fun t k => XS.istoreN X70.here hx rfl (hb hby d17_96) rfl (l' := #[sR a, sI (5 : Int32), sI (1 : Int32), sI (8 : Int32), sI (16 : Int32), sI (20 : Int32), sJ (gn 11), .second]) rfl k) ?_
            show own_Go _ _ _ _ T70 (mkF m 97 #[sR a, sI (5 : Int32), sI (1 : Int32), sI (8 : Int32), sI (16 : Int32), sI (20 : Int32), sJ (gn 11), .second] [])
            refine own_st (fun t k => XS.iconst X70.here hx rfl (hb hby d17_97) k) ?_
            show own_Go _ _ _ _ T70 (mkF m 98 _ [(.int (0 : Int32))])
            refine own_st (fun t k => XS.istoreN X70.here hx rfl (hb hby d17_98) rfl (l' := #[sR a, sI (5 : Int32), sI (0 : Int32), sI (8 : Int32), sI (16 : Int32), sI (20 : Int32), sJ (gn 11), .second]) rfl k) ?_
            show own_Go _ _ _ _ T70 (mkF m 99 #[sR a, sI (5 : Int32), sI (0 : Int32), sI (8 : Int32), sI (16 : Int32), sI (20 : Int32), sJ (gn 11), .second] [])
            refine own_st (fun t k => XS.goto X70.here hx rfl (pc0 := 99) (pc' := 106) rfl (hb hby d17_99) (by decide) (by decide) k) ?_
            show own_Go _ _ _ _ T70 (mkF m 106 _ [])
            refine own_st (fun t k => XS.goto X70.here hx rfl (pc0 := 106) (pc' := 164) rfl (hb hby d17_106) (by decide) (by decide) k) ?_
            show own_Go _ _ _ _ T70 (mkF m 164 _ [])
            refine own_st (fun t k => XS.goto X70.here hx rfl (pc0 := 164) (pc' := 4) rfl (hb hby d17_164) (by decide) (by decide) k) ?_
            show own_Go _ _ _ _ T70 (mkF m 4 _ [])
            refine own_st (fun t k => XS.iloadN X70.here hx rfl (hb hby d17_4) rfl k) ?_
            show own_Go _ _ _ _ T70 (mkF m 5 _ [(.int (5 : Int32))])
            refine own_st (fun t k => XS.aloadN X70.here hx rfl (hb hby d17_5) rfl rfl k) ?_
            show own_Go _ _ _ _ T70 (mkF m 6 _ [(.ref a), (.int (5 : Int32))])
            obtain ⟨T73, X73, e73, st73⟩ := getF X70 hx hZ hown (host := "") (Or.inl (own_w hw 35 rfl)) Via.refl e70 F3 (g := (mkF m 6 #[sR a, sI (5 : Int32), sI (0 : Int32), sI (8 : Int32), sI (16 : Int32), sI (20 : Int32), sJ (gn 11), .second] [(.ref a), (.int (5 : Int32))])) rfl rfl (hb hby d17_6)
            refine own_st st73 ?_
            show own_Go _ _ _ _ T73 (mkF m 9 _ [(.int (4 : Int32)), (.int (5 : Int32))])
            refine own_st (fun t k => XS.icmpYes X73.here hx rfl (pc0 := 9) (pc' := 167) rfl (hb hby d17_9) rfl (flt (by decide : ¬ ((5 : Int32) < (4 : Int32)))).2.1 (by decide) (by decide) k) ?_
            show own_Go _ _ _ _ T73 (mkF m 167 _ [])
            refine own_st (fun t k => XS.iloadN X73.here hx rfl (hb hby d17_167) rfl k) ?_
            show own_Go _ _ _ _ T73 (mkF m 168 _ [(.int (5 : Int32))])
            refine own_st (fun t k => XS.aloadN X73.here hx rfl (hb hby d17_168) rfl rfl k) ?_
            show own_Go _ _ _ _ T73 (mkF m 169 _ [(.ref a), (.int (5 : Int32))])
            obtain ⟨T74, X74, e74, st74⟩ := getF X73 hx hZ hown (host := "") (Or.inl (own_w hw 35 rfl)) Via.refl e73 F3 (g := (mkF m 169 #[sR a, sI (5 : Int32), sI (0 : Int32), sI (8 : Int32), sI (16 : Int32), sI (20 : Int32), sJ (gn 11), .second] [(.ref a), (.int (5 : Int32))])) rfl rfl (hb hby d17_169)
            refine own_st st74 ?_
            show own_Go _ _ _ _ T74 (mkF m 172 _ [(.int (4 : Int32)), (.int (5 : Int32))])
            refine own_st (fun t k => XS.isub X74.here hx rfl (hb hby d17_172) rfl k) ?_
            show own_Go _ _ _ _ T74 (mkF m 173 _ [(.int (1 : Int32))])
            subst hPq
            refine own_out X74 (v := some (.int (1 : Int32))) (fun h => by rw [Bd.returns] at h; cases h) Bd.notSynchronized (own_retI X74 hx Bd.returns (hb hby d17_173)) (by decide) (by decide) ?_
            show Q35 Z a na kn gn (4 : Int32) h0 n0 _ T74.heap _
            rw [e74]
            have eg : (1 : Int32) = own_rg4 gn := by
                unfold own_rg4
                rw [if_neg c25, if_neg c47, if_neg c65, if_pos c72]
            exact ⟨congrArg (fun z => some (Value.int z)) eg, N0, rfl⟩
          · skip
            refine own_st (fun t k => XS.ifYes X70.here hx rfl (pc0 := 88) (pc' := 102) rfl (hb hby d17_88) rfl (own_lcT (cd := .ne) c72) (by decide) (by decide) k) ?_
            show own_Go _ _ _ _ T70 (mkF m 102 _ [])
            refine own_st (fun t k => XS.iconst X70.here hx rfl (hb hby d17_102) k) ?_
            show own_Go _ _ _ _ T70 (mkF m 103 _ [(.int (2 : Int32))])
            refine own_st (fun t k => XS.iloadN X70.here hx rfl (hb hby d17_103) rfl k) ?_
            show own_Go _ _ _ _ T70 (mkF m 104 _ [(.int (2 : Int32)), (.int (2 : Int32))])
            refine own_st (fun t k => XS.imul X70.here hx rfl (hb hby d17_104) rfl k) ?_
            show own_Go _ _ _ _ T70 (mkF m 105 _ [(.int (4 : Int32))])
            refine own_st (fun t k => XS.istoreN X70.here hx rfl (hb hby d17_105) rfl (l' := #[sR a, sI (4 : Int32), sI (1 : Int32), sI (8 : Int32), sI (16 : Int32), sI (20 : Int32), sJ (gn 11), .second]) rfl k) ?_
            show own_Go _ _ _ _ T70 (mkF m 106 #[sR a, sI (4 : Int32), sI (1 : Int32), sI (8 : Int32), sI (16 : Int32), sI (20 : Int32), sJ (gn 11), .second] [])
            refine own_st (fun t k => XS.goto X70.here hx rfl (pc0 := 106) (pc' := 164) rfl (hb hby d17_106) (by decide) (by decide) k) ?_
            show own_Go _ _ _ _ T70 (mkF m 164 _ [])
            refine own_st (fun t k => XS.goto X70.here hx rfl (pc0 := 164) (pc' := 4) rfl (hb hby d17_164) (by decide) (by decide) k) ?_
            show own_Go _ _ _ _ T70 (mkF m 4 _ [])
            refine own_st (fun t k => XS.iloadN X70.here hx rfl (hb hby d17_4) rfl k) ?_
            show own_Go _ _ _ _ T70 (mkF m 5 _ [(.int (4 : Int32))])
            refine own_st (fun t k => XS.aloadN X70.here hx rfl (hb hby d17_5) rfl rfl k) ?_
            show own_Go _ _ _ _ T70 (mkF m 6 _ [(.ref a), (.int (4 : Int32))])
            obtain ⟨T75, X75, e75, st75⟩ := getF X70 hx hZ hown (host := "") (Or.inl (own_w hw 35 rfl)) Via.refl e70 F3 (g := (mkF m 6 #[sR a, sI (4 : Int32), sI (1 : Int32), sI (8 : Int32), sI (16 : Int32), sI (20 : Int32), sJ (gn 11), .second] [(.ref a), (.int (4 : Int32))])) rfl rfl (hb hby d17_6)
            refine own_st st75 ?_
            show own_Go _ _ _ _ T75 (mkF m 9 _ [(.int (4 : Int32)), (.int (4 : Int32))])
            refine own_st (fun t k => XS.icmpYes X75.here hx rfl (pc0 := 9) (pc' := 167) rfl (hb hby d17_9) rfl (flt (by decide : ¬ ((4 : Int32) < (4 : Int32)))).2.1 (by decide) (by decide) k) ?_
            show own_Go _ _ _ _ T75 (mkF m 167 _ [])
            refine own_st (fun t k => XS.iloadN X75.here hx rfl (hb hby d17_167) rfl k) ?_
            show own_Go _ _ _ _ T75 (mkF m 168 _ [(.int (4 : Int32))])
            refine own_st (fun t k => XS.aloadN X75.here hx rfl (hb hby d17_168) rfl rfl k) ?_
            show own_Go _ _ _ _ T75 (mkF m 169 _ [(.ref a), (.int (4 : Int32))])
            obtain ⟨T76, X76, e76, st76⟩ := getF X75 hx hZ hown (host := "") (Or.inl (own_w hw 35 rfl)) Via.refl e75 F3 (g := (mkF m 169 #[sR a, sI (4 : Int32), sI (1 : Int32), sI (8 : Int32), sI (16 : Int32), sI (20 : Int32), sJ (gn 11), .second] [(.ref a), (.int (4 : Int32))])) rfl rfl (hb hby d17_169)
            refine own_st st76 ?_
            show own_Go _ _ _ _ T76 (mkF m 172 _ [(.int (4 : Int32)), (.int (4 : Int32))])
            refine own_st (fun t k => XS.isub X76.here hx rfl (hb hby d17_172) rfl k) ?_
            show own_Go _ _ _ _ T76 (mkF m 173 _ [(.int (0 : Int32))])
            subst hPq
            refine own_out X76 (v := some (.int (0 : Int32))) (fun h => by rw [Bd.returns] at h; cases h) Bd.notSynchronized (own_retI X76 hx Bd.returns (hb hby d17_173)) (by decide) (by decide) ?_
            show Q35 Z a na kn gn (4 : Int32) h0 n0 _ T76.heap _
            rw [e76]
            have eg : (0 : Int32) = own_rg4 gn := by
                unfold own_rg4
                rw [if_neg c25, if_neg c47, if_neg c65, if_neg c72]
            exact ⟨congrArg (fun z => some (Value.int z)) eg, N0, rfl⟩
theorem own_ifc {P : Prop} {d1 d2 : Decidable P} {α : Type} {a b c d : α} (h1 : a = c) (h2 : b = d) : @ite α P d1 a b = @ite α P d2 c d := by
  subst h1 h2
  by_cases h : P
  · rw [if_pos h, if_pos h]
  · rw [if_neg h, if_neg h]
abbrev own_Z := Int × Int × Int × Int
def own_Z.e (p : own_Z) : Int := p.1
def own_Z.v (p : own_Z) : Int := p.2.1
def own_Z.a (p : own_Z) : Int := p.2.2.1
def own_Z.b (p : own_Z) : Int := p.2.2.2
theorem own_eM (e v a b : Int) : own_Z.e (e, v, a, b) = e := rfl
theorem own_vM (e v a b : Int) : own_Z.v (e, v, a, b) = v := rfl
theorem own_aM (e v a b : Int) : own_Z.a (e, v, a, b) = a := rfl
theorem own_bM (e v a b : Int) : own_Z.b (e, v, a, b) = b := rfl
def own_Z.c (p q : own_Z) : own_Z := ⟨p.e + q.e, max (p.v + q.e) q.v, max (p.a + q.e) (p.e + q.a), max q.b (max (p.v + q.a) (p.b + q.e))⟩
def own_Z.sw (p : own_Z) : own_Z := ⟨p.a, p.b, p.a, p.b⟩
def own_E (p0 p1 p2 p3 : own_Z) : Int := max (max (max (p0.v + p1.e + p2.e + p3.e) (p1.v + p2.e + p3.e)) (p2.v + p3.e)) p3.v
def own_Z.ok (p : own_Z) : Prop := p.e ≤ p.a ∧ p.v ≤ p.b
theorem own_mxf (x y : Int) : x ≤ max x y ∧ y ≤ max x y ∧ (max x y = x ∨ max x y = y) := by omega
theorem own_Ele {p0 p1 p2 p3 : own_Z} {X : Int} (h0 : p0.v + p1.e + p2.e + p3.e ≤ X) (h1 : p1.v + p2.e + p3.e ≤ X) (h2 : p2.v + p3.e ≤ X) (h3 : p3.v ≤ X) : own_E p0 p1 p2 p3 ≤ X := by
  unfold own_E; exact Int.max_le.mpr ⟨Int.max_le.mpr ⟨Int.max_le.mpr ⟨h0, h1⟩, h2⟩, h3⟩
theorem own_Ege (p0 p1 p2 p3 : own_Z) : p0.v + p1.e + p2.e + p3.e ≤ own_E p0 p1 p2 p3 ∧ p1.v + p2.e + p3.e ≤ own_E p0 p1 p2 p3 ∧ p2.v + p3.e ≤ own_E p0 p1 p2 p3 ∧ p3.v ≤ own_E p0 p1 p2 p3 := by
  unfold own_E
  have a := own_mxf (p0.v + p1.e + p2.e + p3.e) (p1.v + p2.e + p3.e)
  generalize max (p0.v + p1.e + p2.e + p3.e) (p1.v + p2.e + p3.e) = A at *
  have b := own_mxf A (p2.v + p3.e)
  generalize max A (p2.v + p3.e) = B at *
  have c := own_mxf B p3.v
  generalize max B p3.v = C at *
  omega
theorem own_cf (p q : own_Z) : (p.c q).e = p.e + q.e ∧ (p.v + q.e ≤ (p.c q).v ∧ q.v ≤ (p.c q).v ∧ ((p.c q).v = p.v + q.e ∨ (p.c q).v = q.v)) ∧ (p.a + q.e ≤ (p.c q).a ∧ p.e + q.a ≤ (p.c q).a ∧ ((p.c q).a = p.a + q.e ∨ (p.c q).a = p.e + q.a)) ∧ (q.b ≤ (p.c q).b ∧ p.v + q.a ≤ (p.c q).b ∧ p.b + q.e ≤ (p.c q).b ∧ ((p.c q).b = q.b ∨ (p.c q).b = p.v + q.a ∨ (p.c q).b = p.b + q.e)) := by
  simp only [own_Z.c, own_eM, own_vM, own_aM, own_bM]
  have a := own_mxf (p.v + q.e) q.v
  generalize max (p.v + q.e) q.v = A at *
  have b := own_mxf (p.a + q.e) (p.e + q.a)
  generalize max (p.a + q.e) (p.e + q.a) = B at *
  have c := own_mxf (p.v + q.a) (p.b + q.e)
  generalize max (p.v + q.a) (p.b + q.e) = C at *
  have d := own_mxf q.b C
  generalize max q.b C = D at *
  refine ⟨trivial, a, b, ?_⟩
  omega
theorem own_swf (p : own_Z) : p.sw.e = p.a ∧ p.sw.v = p.b := ⟨rfl, rfl⟩
theorem own_core4 (p0 p1 p2 p3 : own_Z) (h0 : p0.ok) (h1 : p1.ok) (h2 : p2.ok) (h3 : p3.ok) :
    own_E p0 p1 p2 p3 = ((p0.c p1).c (p2.c p3)).v ∧ own_E p0.sw p1 p2 p3 ≤ ((p0.c p1).c (p2.c p3)).b ∧ own_E p0 p1.sw p2 p3 ≤ ((p0.c p1).c (p2.c p3)).b ∧ own_E p0 p1 p2.sw p3 ≤ ((p0.c p1).c (p2.c p3)).b ∧ own_E p0 p1 p2 p3.sw ≤ ((p0.c p1).c (p2.c p3)).b := by
  have f1 := own_cf p0 p1; have f2 := own_cf p2 p3; have f3 := own_cf (p0.c p1) (p2.c p3)
  have g := own_Ege p0 p1 p2 p3
  generalize p0.c p1 = l at *; generalize p2.c p3 = r at *; generalize l.c r = R at *
  unfold own_Z.ok at *
  obtain ⟨f1e, ⟨f1a, f1b, f1c⟩, ⟨f1d, f1f, -⟩, f1g, f1h, f1i, -⟩ := f1
  obtain ⟨f2e, ⟨f2a, f2b, f2c⟩, ⟨f2d, f2f, -⟩, f2g, f2h, f2i, -⟩ := f2
  obtain ⟨f3e, ⟨f3a, f3b, f3c⟩, -, f3g, f3h, f3i, -⟩ := f3
  refine ⟨Int.le_antisymm (own_Ele ?_ ?_ ?_ ?_) ?_, own_Ele ?_ ?_ ?_ ?_, own_Ele ?_ ?_ ?_ ?_, own_Ele ?_ ?_ ?_ ?_, own_Ele ?_ ?_ ?_ ?_⟩
  case refine_5 => omega
  all_goals (clear f1c f2c f3c g; try simp only [own_Z.sw, own_eM, own_vM, own_aM, own_bM])
  all_goals omega
set_option maxHeartbeats 4000000 in
theorem own_path4 (p0 p1 p2 p3 : own_Z) (h0 : p0.ok) (h1 : p1.ok) (h2 : p2.ok) (h3 : p3.ok) (r : Int32) (hlt : ((p0.c p1).c (p2.c p3)).v < ((p0.c p1).c (p2.c p3)).b)
    (hr : r = if ((p0.c p1).c (p2.c p3)).b = (p2.c p3).b then (if (p2.c p3).b = p3.b then 3 else if (p2.c p3).b = p2.v + p3.a then 3 else 2) else if ((p0.c p1).c (p2.c p3)).b = (p0.c p1).v + (p2.c p3).a then (if (p2.c p3).a = p2.a + p3.e then 2 else 3) else (if (p0.c p1).b = p1.b then 1 else if (p0.c p1).b = p0.v + p1.a then 1 else 0)) :
    (r = 0 ∧ (p0.e < p0.a ∨ p0.v < p0.b) ∧ ((p0.c p1).c (p2.c p3)).b ≤ own_E p0.sw p1 p2 p3) ∨ (r = 1 ∧ (p1.e < p1.a ∨ p1.v < p1.b) ∧ ((p0.c p1).c (p2.c p3)).b ≤ own_E p0 p1.sw p2 p3) ∨ (r = 2 ∧ (p2.e < p2.a ∨ p2.v < p2.b) ∧ ((p0.c p1).c (p2.c p3)).b ≤ own_E p0 p1 p2.sw p3) ∨ (r = 3 ∧ (p3.e < p3.a ∨ p3.v < p3.b) ∧ ((p0.c p1).c (p2.c p3)).b ≤ own_E p0 p1 p2 p3.sw) := by
  have f1 := own_cf p0 p1; have f2 := own_cf p2 p3; have f3 := own_cf (p0.c p1) (p2.c p3)
  have g0 := own_Ege p0.sw p1 p2 p3; have g1 := own_Ege p0 p1.sw p2 p3; have g2 := own_Ege p0 p1 p2.sw p3; have g3 := own_Ege p0 p1 p2 p3.sw
  generalize p0.c p1 = l at *; generalize p2.c p3 = q at *; generalize l.c q = R at *
  unfold own_Z.ok at *
  simp only [own_swf] at g0 g1 g2 g3
  generalize own_E p0.sw p1 p2 p3 = E0 at *; generalize own_E p0 p1.sw p2 p3 = E1 at *; generalize own_E p0 p1 p2.sw p3 = E2 at *; generalize own_E p0 p1 p2 p3.sw = E3 at *
  by_cases k1 : R.b = q.b
  · rw [if_pos k1] at hr
    by_cases k2 : q.b = p3.b
    · rw [if_pos k2] at hr
      refine Or.inr (Or.inr (Or.inr ⟨hr, ?_, ?_⟩)) <;> omega
    · rw [if_neg k2] at hr
      by_cases k3 : q.b = p2.v + p3.a
      · rw [if_pos k3] at hr
        refine Or.inr (Or.inr (Or.inr ⟨hr, ?_, ?_⟩)) <;> omega
      · rw [if_neg k3] at hr
        refine Or.inr (Or.inr (Or.inl ⟨hr, ?_, ?_⟩)) <;> omega
  · rw [if_neg k1] at hr
    by_cases k2 : R.b = l.v + q.a
    · rw [if_pos k2] at hr
      by_cases k3 : q.a = p2.a + p3.e
      · rw [if_pos k3] at hr
        refine Or.inr (Or.inr (Or.inl ⟨hr, ?_, ?_⟩)) <;> omega
      · rw [if_neg k3] at hr
        refine Or.inr (Or.inr (Or.inr ⟨hr, ?_, ?_⟩)) <;> omega
    · rw [if_neg k2] at hr
      by_cases k3 : l.b = p1.b
      · rw [if_pos k3] at hr
        refine Or.inr (Or.inl ⟨hr, ?_, ?_⟩) <;> omega
      · rw [if_neg k3] at hr
        by_cases k4 : l.b = p0.v + p1.a
        · rw [if_pos k4] at hr
          refine Or.inr (Or.inl ⟨hr, ?_, ?_⟩) <;> omega
        · rw [if_neg k4] at hr
          refine Or.inl ⟨hr, ?_, ?_⟩ <;> omega
def own_q (g : Nat → Int64) (n : Nat) : own_Z := ⟨(g (4 * n)).toInt, (g (4 * n + 1)).toInt, (g (4 * n + 2)).toInt, (g (4 * n + 3)).toInt⟩
def own_Z.bd (p : own_Z) (k : Int) : Prop := 0 ≤ p.e ∧ p.e ≤ k ∧ 0 ≤ p.a ∧ p.a ≤ k ∧ -4611686018427387904 ≤ p.v ∧ p.v ≤ 1099511627776 + k ∧ -4611686018427387904 ≤ p.b ∧ p.b ≤ 1099511627776 + k
theorem own_q_same (g : Nat → Int64) (n : Nat) (e v a b : Int64) : own_q (own_set g n e v a b) n = ⟨e.toInt, v.toInt, a.toInt, b.toInt⟩ := by
  unfold own_q own_set own_updJ
  simp
theorem own_q_ne {n m : Nat} (g : Nat → Int64) (e v a b : Int64) (h : m ≠ n) : own_q (own_set g n e v a b) m = own_q g m := by
  unfold own_q own_set own_updJ
  rw [Prod.mk.injEq, Prod.mk.injEq, Prod.mk.injEq]
  refine ⟨?_, ?_, ?_, ?_⟩ <;> (rw [if_neg (by omega), if_neg (by omega), if_neg (by omega), if_neg (by omega)])
theorem own_max_z (x y : Int64) : (own_max x y).toInt = max x.toInt y.toInt := by
  unfold own_max
  by_cases h : x < y
  · rw [if_pos h]; rw [Int64.lt_iff_toInt_lt] at h; omega
  · rw [if_neg h]; rw [Int64.lt_iff_toInt_lt] at h; omega
theorem own_add_z {x y : Int64} (h : -9223372036854775808 ≤ x.toInt + y.toInt ∧ x.toInt + y.toInt < 9223372036854775808) : (x + y).toInt = x.toInt + y.toInt := by
  have a := c_ladd x y; have r := rng64 (x + y); omega
theorem own_q_comb {g : Nat → Int64} {n : Nat} {p q : own_Z} (hp : own_q g (2 * n) = p) (hq : own_q g (2 * n + 1) = q) (bp : p.bd 262140) (bq : q.bd 262140) : own_q (own_comb g n) n = p.c q := by
  unfold own_comb
  rw [own_q_same]
  subst hp hq
  unfold own_q own_Z.bd at *
  rw [show 4 * (2 * n + 1) = 8 * n + 4 by omega, show 4 * (2 * n) = 8 * n by omega] at *
  simp only [own_Z.c, own_max_z, Nat.add_assoc, Nat.reduceAdd, own_eM, own_vM, own_aM, own_bM] at *
  rw [own_add_z (by omega), own_add_z (by omega), own_add_z (by omega), own_add_z (by omega), own_add_z (by omega), own_add_z (by omega)]
theorem own_q_combne {n m : Nat} (g : Nat → Int64) (h : m ≠ n) : own_q (own_comb g n) m = own_q g m := own_q_ne _ _ _ _ _ h
theorem own_bd_c {p q : own_Z} {k l : Int} (hp : p.bd k) (hq : q.bd l) : (p.c q).bd (k + l) := by
  have f := own_cf p q
  unfold own_Z.bd at *
  obtain ⟨f1, ⟨f2, f3, f4⟩, ⟨f5, f6, f7⟩, f8, f9, f10, f11⟩ := f
  refine ⟨by omega, by omega, by omega, by omega, by omega, ?_, by omega, ?_⟩
  · clear f7 f11; omega
  · clear f7 f4; omega
theorem own_bd_le {p : own_Z} {k l : Int} (hp : p.bd k) (h : k ≤ l) : p.bd l := by unfold own_Z.bd at *; omega
def own_stz (s : Int32) (p : own_Z) : own_Z := if s = 1 then ⟨0, -4611686018427387904, p.a, p.b⟩ else if s = 2 then ⟨0, -4611686018427387904, 0, -4611686018427387904⟩ else p
theorem own_bd_st {p : own_Z} {k : Int} (s : Int32) (h : p.bd k) (hk : 0 ≤ k) : (own_stz s p).bd k := by
  unfold own_stz own_Z.bd at *
  split
  · simp only [own_eM, own_vM, own_aM, own_bM] at *; omega
  · split
    · simp only [own_eM, own_vM, own_aM, own_bM] at *; omega
    · omega
def own_T4 (g : Nat → Int64) (p0 p1 p2 p3 : own_Z) : Prop := own_q g 4 = p0 ∧ own_q g 5 = p1 ∧ own_q g 6 = p2 ∧ own_q g 7 = p3 ∧ own_q g 2 = p0.c p1 ∧ own_q g 3 = p2.c p3 ∧ own_q g 1 = (p0.c p1).c (p2.c p3)
theorem own_T4l {g : Nat → Int64} {p0 p1 p2 p3 : own_Z} (b0 : p0.bd 65535) (b1 : p1.bd 65535) (b2 : p2.bd 65535) (b3 : p3.bd 65535) (h0 : own_q g 4 = p0) (h1 : own_q g 5 = p1) (h2 : own_q g 6 = p2) (h3 : own_q g 7 = p3) (h : own_q g 3 = p2.c p3) : own_T4 (own_comb (own_comb g 2) 1) p0 p1 p2 p3 := by
  have e2 : own_q (own_comb g 2) 2 = p0.c p1 := own_q_comb h0 h1 (own_bd_le b0 (by decide)) (own_bd_le b1 (by decide))
  have e3 : own_q (own_comb g 2) 3 = p2.c p3 := (own_q_combne g (by decide)).trans h
  refine ⟨?_, ?_, ?_, ?_, ?_, ?_, own_q_comb e2 e3 (own_bd_le (own_bd_c b0 b1) (by decide)) (own_bd_le (own_bd_c b2 b3) (by decide))⟩
  · rw [own_q_combne _ (by decide), own_q_combne _ (by decide), h0]
  · rw [own_q_combne _ (by decide), own_q_combne _ (by decide), h1]
  · rw [own_q_combne _ (by decide), own_q_combne _ (by decide), h2]
  · rw [own_q_combne _ (by decide), own_q_combne _ (by decide), h3]
  · rw [own_q_combne _ (by decide), e2]
  · rw [own_q_combne _ (by decide), e3]
theorem own_T4r {g : Nat → Int64} {p0 p1 p2 p3 : own_Z} (b0 : p0.bd 65535) (b1 : p1.bd 65535) (b2 : p2.bd 65535) (b3 : p3.bd 65535) (h0 : own_q g 4 = p0) (h1 : own_q g 5 = p1) (h2 : own_q g 6 = p2) (h3 : own_q g 7 = p3) (h : own_q g 2 = p0.c p1) : own_T4 (own_comb (own_comb g 3) 1) p0 p1 p2 p3 := by
  have e3 : own_q (own_comb g 3) 3 = p2.c p3 := own_q_comb h2 h3 (own_bd_le b2 (by decide)) (own_bd_le b3 (by decide))
  have e2 : own_q (own_comb g 3) 2 = p0.c p1 := (own_q_combne g (by decide)).trans h
  refine ⟨?_, ?_, ?_, ?_, ?_, ?_, own_q_comb e2 e3 (own_bd_le (own_bd_c b0 b1) (by decide)) (own_bd_le (own_bd_c b2 b3) (by decide))⟩
  · rw [own_q_combne _ (by decide), own_q_combne _ (by decide), h0]
  · rw [own_q_combne _ (by decide), own_q_combne _ (by decide), h1]
  · rw [own_q_combne _ (by decide), own_q_combne _ (by decide), h2]
  · rw [own_q_combne _ (by decide), own_q_combne _ (by decide), h3]
  · rw [own_q_combne _ (by decide), e2]
  · rw [own_q_combne _ (by decide), e3]
theorem own_T4f {g : Nat → Int64} {p0 p1 p2 p3 : own_Z} (b0 : p0.bd 65535) (b1 : p1.bd 65535) (b2 : p2.bd 65535) (b3 : p3.bd 65535) (h0 : own_q g 4 = p0) (h1 : own_q g 5 = p1) (h2 : own_q g 6 = p2) (h3 : own_q g 7 = p3) : own_T4 (own_comb (own_comb (own_comb g 3) 2) 1) p0 p1 p2 p3 := by
  have e3 : own_q (own_comb g 3) 3 = p2.c p3 := own_q_comb h2 h3 (own_bd_le b2 (by decide)) (own_bd_le b3 (by decide))
  exact own_T4l b0 b1 b2 b3 ((own_q_combne g (by decide)).trans h0) ((own_q_combne g (by decide)).trans h1) ((own_q_combne g (by decide)).trans h2) ((own_q_combne g (by decide)).trans h3) e3
def own_A : own_Z := ⟨0, -4611686018427387904, 0, -4611686018427387904⟩
/-- what a leaf's change makes of the node -/
theorem own_q_gray (g : Nat → Int64) (n : Nat) : own_q (own_gray g n) n = ⟨0, -4611686018427387904, (own_q g n).a, (own_q g n).b⟩ := own_q_same _ _ _ _ _ _
theorem own_q_rem (g : Nat → Int64) (n : Nat) : own_q (own_rem g n) n = own_A := own_q_same _ _ _ _ _ _
theorem own_q_grayne {n m : Nat} (g : Nat → Int64) (h : m ≠ n) : own_q (own_gray g n) m = own_q g m := own_q_ne _ _ _ _ _ h
theorem own_q_remne {n m : Nat} (g : Nat → Int64) (h : m ≠ n) : own_q (own_rem g n) m = own_q g m := own_q_ne _ _ _ _ _ h
theorem own_T4a0 {g : Nat → Int64} {p0 p1 p2 p3 : own_Z} (b0 : p0.bd 65535) (b1 : p1.bd 65535) (b2 : p2.bd 65535) (b3 : p3.bd 65535) (T : own_T4 g p0 p1 p2 p3) (s v : Int32) (hv : (0 : Int32) < v ∨ (s = 2 ∧ p0 = own_A)) : own_T4 (own_apl g 4 (0 : Int32) s v) (own_stz s p0) p1 p2 p3 := by
  unfold own_apl
  obtain ⟨h0, h1, h2, h3, h4, h5, h6⟩ := T
  by_cases k : (0 : Int32) < v
  · rw [if_pos k]
    by_cases k1 : s = 1
    · rw [if_pos k1]
      have HH : own_q (own_gray g 4) 4 = own_stz s p0 := by rw [own_q_gray, h0]; unfold own_stz; rw [if_pos k1]
      exact own_T4l (own_bd_st s b0 (by decide)) b1 b2 b3 HH ((own_q_grayne g (by decide)).trans h1) ((own_q_grayne g (by decide)).trans h2) ((own_q_grayne g (by decide)).trans h3) ((own_q_grayne g (by decide)).trans h5)
    · rw [if_neg k1]
      by_cases k2 : s = 2
      · rw [if_pos k2]
        have HH : own_q (own_rem g 4) 4 = own_stz s p0 := by rw [own_q_rem]; unfold own_stz; rw [if_neg k1, if_pos k2]; rfl
        exact own_T4l (own_bd_st s b0 (by decide)) b1 b2 b3 HH ((own_q_remne g (by decide)).trans h1) ((own_q_remne g (by decide)).trans h2) ((own_q_remne g (by decide)).trans h3) ((own_q_remne g (by decide)).trans h5)
      · rw [if_neg k2]
        have HH : own_stz s p0 = p0 := by unfold own_stz; rw [if_neg k1, if_neg k2]
        rw [HH]; exact ⟨h0, h1, h2, h3, h4, h5, h6⟩
  · rw [if_neg k]
    obtain ⟨hs, hA⟩ := hv.resolve_left k
    have HH : own_stz s p0 = p0 := by rw [hs, hA]; rfl
    rw [HH]; exact ⟨h0, h1, h2, h3, h4, h5, h6⟩
theorem own_T4a1 {g : Nat → Int64} {p0 p1 p2 p3 : own_Z} (b0 : p0.bd 65535) (b1 : p1.bd 65535) (b2 : p2.bd 65535) (b3 : p3.bd 65535) (T : own_T4 g p0 p1 p2 p3) (s v : Int32) (hv : (1 : Int32) < v ∨ (s = 2 ∧ p1 = own_A)) : own_T4 (own_apl g 4 (1 : Int32) s v) p0 (own_stz s p1) p2 p3 := by
  unfold own_apl
  obtain ⟨h0, h1, h2, h3, h4, h5, h6⟩ := T
  by_cases k : (1 : Int32) < v
  · rw [if_pos k]
    by_cases k1 : s = 1
    · rw [if_pos k1]
      have HH : own_q (own_gray g 5) 5 = own_stz s p1 := by rw [own_q_gray, h1]; unfold own_stz; rw [if_pos k1]
      exact own_T4l b0 (own_bd_st s b1 (by decide)) b2 b3 ((own_q_grayne g (by decide)).trans h0) HH ((own_q_grayne g (by decide)).trans h2) ((own_q_grayne g (by decide)).trans h3) ((own_q_grayne g (by decide)).trans h5)
    · rw [if_neg k1]
      by_cases k2 : s = 2
      · rw [if_pos k2]
        have HH : own_q (own_rem g 5) 5 = own_stz s p1 := by rw [own_q_rem]; unfold own_stz; rw [if_neg k1, if_pos k2]; rfl
        exact own_T4l b0 (own_bd_st s b1 (by decide)) b2 b3 ((own_q_remne g (by decide)).trans h0) HH ((own_q_remne g (by decide)).trans h2) ((own_q_remne g (by decide)).trans h3) ((own_q_remne g (by decide)).trans h5)
      · rw [if_neg k2]
        have HH : own_stz s p1 = p1 := by unfold own_stz; rw [if_neg k1, if_neg k2]
        rw [HH]; exact ⟨h0, h1, h2, h3, h4, h5, h6⟩
  · rw [if_neg k]
    obtain ⟨hs, hA⟩ := hv.resolve_left k
    have HH : own_stz s p1 = p1 := by rw [hs, hA]; rfl
    rw [HH]; exact ⟨h0, h1, h2, h3, h4, h5, h6⟩
theorem own_T4a2 {g : Nat → Int64} {p0 p1 p2 p3 : own_Z} (b0 : p0.bd 65535) (b1 : p1.bd 65535) (b2 : p2.bd 65535) (b3 : p3.bd 65535) (T : own_T4 g p0 p1 p2 p3) (s v : Int32) (hv : (2 : Int32) < v ∨ (s = 2 ∧ p2 = own_A)) : own_T4 (own_apl g 4 (2 : Int32) s v) p0 p1 (own_stz s p2) p3 := by
  unfold own_apl
  obtain ⟨h0, h1, h2, h3, h4, h5, h6⟩ := T
  by_cases k : (2 : Int32) < v
  · rw [if_pos k]
    by_cases k1 : s = 1
    · rw [if_pos k1]
      have HH : own_q (own_gray g 6) 6 = own_stz s p2 := by rw [own_q_gray, h2]; unfold own_stz; rw [if_pos k1]
      exact own_T4r b0 b1 (own_bd_st s b2 (by decide)) b3 ((own_q_grayne g (by decide)).trans h0) ((own_q_grayne g (by decide)).trans h1) HH ((own_q_grayne g (by decide)).trans h3) ((own_q_grayne g (by decide)).trans h4)
    · rw [if_neg k1]
      by_cases k2 : s = 2
      · rw [if_pos k2]
        have HH : own_q (own_rem g 6) 6 = own_stz s p2 := by rw [own_q_rem]; unfold own_stz; rw [if_neg k1, if_pos k2]; rfl
        exact own_T4r b0 b1 (own_bd_st s b2 (by decide)) b3 ((own_q_remne g (by decide)).trans h0) ((own_q_remne g (by decide)).trans h1) HH ((own_q_remne g (by decide)).trans h3) ((own_q_remne g (by decide)).trans h4)
      · rw [if_neg k2]
        have HH : own_stz s p2 = p2 := by unfold own_stz; rw [if_neg k1, if_neg k2]
        rw [HH]; exact ⟨h0, h1, h2, h3, h4, h5, h6⟩
  · rw [if_neg k]
    obtain ⟨hs, hA⟩ := hv.resolve_left k
    have HH : own_stz s p2 = p2 := by rw [hs, hA]; rfl
    rw [HH]; exact ⟨h0, h1, h2, h3, h4, h5, h6⟩
theorem own_T4a3 {g : Nat → Int64} {p0 p1 p2 p3 : own_Z} (b0 : p0.bd 65535) (b1 : p1.bd 65535) (b2 : p2.bd 65535) (b3 : p3.bd 65535) (T : own_T4 g p0 p1 p2 p3) (s v : Int32) (hv : (3 : Int32) < v ∨ (s = 2 ∧ p3 = own_A)) : own_T4 (own_apl g 4 (3 : Int32) s v) p0 p1 p2 (own_stz s p3) := by
  unfold own_apl
  obtain ⟨h0, h1, h2, h3, h4, h5, h6⟩ := T
  by_cases k : (3 : Int32) < v
  · rw [if_pos k]
    by_cases k1 : s = 1
    · rw [if_pos k1]
      have HH : own_q (own_gray g 7) 7 = own_stz s p3 := by rw [own_q_gray, h3]; unfold own_stz; rw [if_pos k1]
      exact own_T4r b0 b1 b2 (own_bd_st s b3 (by decide)) ((own_q_grayne g (by decide)).trans h0) ((own_q_grayne g (by decide)).trans h1) ((own_q_grayne g (by decide)).trans h2) HH ((own_q_grayne g (by decide)).trans h4)
    · rw [if_neg k1]
      by_cases k2 : s = 2
      · rw [if_pos k2]
        have HH : own_q (own_rem g 7) 7 = own_stz s p3 := by rw [own_q_rem]; unfold own_stz; rw [if_neg k1, if_pos k2]; rfl
        exact own_T4r b0 b1 b2 (own_bd_st s b3 (by decide)) ((own_q_remne g (by decide)).trans h0) ((own_q_remne g (by decide)).trans h1) ((own_q_remne g (by decide)).trans h2) HH ((own_q_remne g (by decide)).trans h4)
      · rw [if_neg k2]
        have HH : own_stz s p3 = p3 := by unfold own_stz; rw [if_neg k1, if_neg k2]
        rw [HH]; exact ⟨h0, h1, h2, h3, h4, h5, h6⟩
  · rw [if_neg k]
    obtain ⟨hs, hA⟩ := hv.resolve_left k
    have HH : own_stz s p3 = p3 := by rw [hs, hA]; rfl
    rw [HH]; exact ⟨h0, h1, h2, h3, h4, h5, h6⟩
def own_Lf (e m : Int) : own_Z := ⟨e, m + e, e, m + e⟩
theorem own_Lf_bd {e m : Int} (he : 0 ≤ e ∧ e ≤ 65535) (hm : 0 ≤ m ∧ m ≤ 1099511627776) : (own_Lf e m).bd 65535 := by unfold own_Lf own_Z.bd; simp only [own_eM, own_vM, own_aM, own_bM]; omega
theorem own_A_bd : own_A.bd 65535 := by unfold own_A own_Z.bd; decide
theorem own_leafW {e m : Int64} (he : 0 ≤ e.toInt ∧ e.toInt ≤ 65535) (hm : 0 ≤ m.toInt ∧ m.toInt ≤ 1099511627776) : (⟨e.toInt, (m + e).toInt, e.toInt, (m + e).toInt⟩ : own_Z) = own_Lf e.toInt m.toInt := by
  unfold own_Lf; rw [own_add_z (by omega)]
section own_tree
variable {c : Int64} {go ge : Nat → Int64} {g : Nat → Int64}
theorem own_F4 (he : ∀ k, k < 4 → 0 ≤ (ge k).toInt ∧ (ge k).toInt ≤ 65535) (hm : ∀ k, k < 4 → 0 ≤ (c * go k).toInt ∧ (c * go k).toInt ≤ 1099511627776) :
    own_T4 (own_fill4 g c go ge) (own_Lf (ge 0).toInt (c * go 0).toInt) (own_Lf (ge 1).toInt (c * go 1).toInt) (own_Lf (ge 2).toInt (c * go 2).toInt) (own_Lf (ge 3).toInt (c * go 3).toInt) := by
  unfold own_fill4
  refine own_T4f (own_Lf_bd (he 0 (by decide)) (hm 0 (by decide))) (own_Lf_bd (he 1 (by decide)) (hm 1 (by decide))) (own_Lf_bd (he 2 (by decide)) (hm 2 (by decide))) (own_Lf_bd (he 3 (by decide)) (hm 3 (by decide))) ?_ ?_ ?_ ?_
  · rw [own_q_ne _ _ _ _ _ (by decide), own_q_ne _ _ _ _ _ (by decide), own_q_ne _ _ _ _ _ (by decide), own_q_same]; exact own_leafW (he 0 (by decide)) (hm 0 (by decide))
  · rw [own_q_ne _ _ _ _ _ (by decide), own_q_ne _ _ _ _ _ (by decide), own_q_same]; exact own_leafW (he 1 (by decide)) (hm 1 (by decide))
  · rw [own_q_ne _ _ _ _ _ (by decide), own_q_same]; exact own_leafW (he 2 (by decide)) (hm 2 (by decide))
  · rw [own_q_same]; exact own_leafW (he 3 (by decide)) (hm 3 (by decide))
theorem own_F3 (he : ∀ k, k < 4 → 0 ≤ (ge k).toInt ∧ (ge k).toInt ≤ 65535) (hm : ∀ k, k < 4 → 0 ≤ (c * go k).toInt ∧ (c * go k).toInt ≤ 1099511627776) :
    own_T4 (own_fill3 g c go ge) (own_Lf (ge 0).toInt (c * go 0).toInt) (own_Lf (ge 1).toInt (c * go 1).toInt) (own_Lf (ge 2).toInt (c * go 2).toInt) own_A := by
  unfold own_fill3
  refine own_T4f (own_Lf_bd (he 0 (by decide)) (hm 0 (by decide))) (own_Lf_bd (he 1 (by decide)) (hm 1 (by decide))) (own_Lf_bd (he 2 (by decide)) (hm 2 (by decide))) own_A_bd ?_ ?_ ?_ ?_
  · rw [own_q_ne _ _ _ _ _ (by decide), own_q_ne _ _ _ _ _ (by decide), own_q_ne _ _ _ _ _ (by decide), own_q_same]; exact own_leafW (he 0 (by decide)) (hm 0 (by decide))
  · rw [own_q_ne _ _ _ _ _ (by decide), own_q_ne _ _ _ _ _ (by decide), own_q_same]; exact own_leafW (he 1 (by decide)) (hm 1 (by decide))
  · rw [own_q_ne _ _ _ _ _ (by decide), own_q_same]; exact own_leafW (he 2 (by decide)) (hm 2 (by decide))
  · rw [own_q_same]; rfl
/-- the tree's answer, in plain numbers: the root's two envelopes and the leaf that is named -/
def own_ans (r : Int32) (p0 p1 p2 p3 : own_Z) (v b : Int) : Prop :=
  own_E p0 p1 p2 p3 = v ∧ own_E p0.sw p1 p2 p3 ≤ b ∧ own_E p0 p1.sw p2 p3 ≤ b ∧ own_E p0 p1 p2.sw p3 ≤ b ∧ own_E p0 p1 p2 p3.sw ≤ b ∧
  (v < b → (r = 0 ∧ (p0.e < p0.a ∨ p0.v < p0.b) ∧ b ≤ own_E p0.sw p1 p2 p3) ∨ (r = 1 ∧ (p1.e < p1.a ∨ p1.v < p1.b) ∧ b ≤ own_E p0 p1.sw p2 p3) ∨ (r = 2 ∧ (p2.e < p2.a ∨ p2.v < p2.b) ∧ b ≤ own_E p0 p1 p2.sw p3) ∨ (r = 3 ∧ (p3.e < p3.a ∨ p3.v < p3.b) ∧ b ≤ own_E p0 p1 p2 p3.sw))
theorem own_ans4 {p0 p1 p2 p3 : own_Z} (b0 : p0.bd 65535) (b1 : p1.bd 65535) (b2 : p2.bd 65535) (b3 : p3.bd 65535) (k0 : p0.ok) (k1 : p1.ok) (k2 : p2.ok) (k3 : p3.ok) (T : own_T4 g p0 p1 p2 p3) : ∃ v b, own_ans (own_rg4 g) p0 p1 p2 p3 v b := by
  obtain ⟨c1, c2, c3, c4, c5⟩ := own_core4 p0 p1 p2 p3 k0 k1 k2 k3
  refine ⟨_, _, c1, c2, c3, c4, c5, fun hlt => own_path4 p0 p1 p2 p3 k0 k1 k2 k3 _ hlt ?_⟩
  have bl := own_bd_c b0 b1; have br := own_bd_c b2 b3
  obtain ⟨h0, h1, h2, h3, h4, h5, h6⟩ := T
  rw [← h6, ← h5, ← h4, ← h3, ← h2, ← h1, ← h0]
  rw [← h5] at br; rw [← h4] at bl; rw [← h0] at b0; rw [← h1] at b1; rw [← h2] at b2; rw [← h3] at b3
  unfold own_rg4
  unfold own_Z.bd own_q at *
  simp only [Nat.reduceMul, Nat.reduceAdd, own_eM, own_vM, own_aM, own_bM] at *
  have q : ∀ x y : Int64, (x = y) = (x.toInt = y.toInt) := fun x y => propext ⟨fun h => by rw [h], fun h => Int64.toInt_inj.mp h⟩
  simp only [q]
  rw [own_add_z (x := g 9) (by omega), own_add_z (x := g 25) (by omega), own_add_z (x := g 26) (by omega), own_add_z (x := g 17) (by omega)]
    <;> exact own_ifc (own_ifc rfl (own_ifc rfl rfl)) (own_ifc (own_ifc rfl rfl) (own_ifc rfl (own_ifc rfl rfl)))
def own_T2 (g : Nat → Int64) (p0 p1 : own_Z) : Prop := own_q g 2 = p0 ∧ own_q g 3 = p1 ∧ own_q g 1 = p0.c p1
theorem own_T2f {p0 p1 : own_Z} (b0 : p0.bd 65535) (b1 : p1.bd 65535) (h0 : own_q g 2 = p0) (h1 : own_q g 3 = p1) : own_T2 (own_comb g 1) p0 p1 := by
  refine ⟨?_, ?_, own_q_comb h0 h1 (own_bd_le b0 (by decide)) (own_bd_le b1 (by decide))⟩
  · rw [own_q_combne _ (by decide), h0]
  · rw [own_q_combne _ (by decide), h1]
theorem own_F2 (he : ∀ k, k < 4 → 0 ≤ (ge k).toInt ∧ (ge k).toInt ≤ 65535) (hm : ∀ k, k < 4 → 0 ≤ (c * go k).toInt ∧ (c * go k).toInt ≤ 1099511627776) :
    own_T2 (own_fill2 g c go ge) (own_Lf (ge 0).toInt (c * go 0).toInt) (own_Lf (ge 1).toInt (c * go 1).toInt) := by
  unfold own_fill2
  refine own_T2f (own_Lf_bd (he 0 (by decide)) (hm 0 (by decide))) (own_Lf_bd (he 1 (by decide)) (hm 1 (by decide))) ?_ ?_
  · rw [own_q_ne _ _ _ _ _ (by decide), own_q_same]; exact own_leafW (he 0 (by decide)) (hm 0 (by decide))
  · rw [own_q_same]; exact own_leafW (he 1 (by decide)) (hm 1 (by decide))
theorem own_F1 (he : ∀ k, k < 4 → 0 ≤ (ge k).toInt ∧ (ge k).toInt ≤ 65535) (hm : ∀ k, k < 4 → 0 ≤ (c * go k).toInt ∧ (c * go k).toInt ≤ 1099511627776) :
    own_q (own_fill1 g c go ge) 1 = own_Lf (ge 0).toInt (c * go 0).toInt := by
  unfold own_fill1
  rw [own_q_same]; exact own_leafW (he 0 (by decide)) (hm 0 (by decide))
theorem own_T2a0 {p0 p1 : own_Z} (b0 : p0.bd 65535) (b1 : p1.bd 65535) (T : own_T2 g p0 p1) (s : Int32) : own_T2 (own_apl g 2 (0 : Int32) s 2) (own_stz s p0) p1 := by
  unfold own_apl
  obtain ⟨h0, h1, h2⟩ := T
  rw [if_pos (by decide)]
  by_cases k1 : s = 1
  · rw [if_pos k1]
    have HH : own_q (own_gray g 2) 2 = own_stz s p0 := by rw [own_q_gray, h0]; unfold own_stz; rw [if_pos k1]
    exact own_T2f (own_bd_st s b0 (by decide)) b1 HH ((own_q_grayne g (by decide)).trans h1)
  · rw [if_neg k1]
    by_cases k2 : s = 2
    · rw [if_pos k2]
      have HH : own_q (own_rem g 2) 2 = own_stz s p0 := by rw [own_q_rem]; unfold own_stz; rw [if_neg k1, if_pos k2]; rfl
      exact own_T2f (own_bd_st s b0 (by decide)) b1 HH ((own_q_remne g (by decide)).trans h1)
    · rw [if_neg k2]
      have HH : own_stz s p0 = p0 := by unfold own_stz; rw [if_neg k1, if_neg k2]
      rw [HH]; exact ⟨h0, h1, h2⟩
theorem own_T2a1 {p0 p1 : own_Z} (b0 : p0.bd 65535) (b1 : p1.bd 65535) (T : own_T2 g p0 p1) (s : Int32) : own_T2 (own_apl g 2 (1 : Int32) s 2) p0 (own_stz s p1) := by
  unfold own_apl
  obtain ⟨h0, h1, h2⟩ := T
  rw [if_pos (by decide)]
  by_cases k1 : s = 1
  · rw [if_pos k1]
    have HH : own_q (own_gray g 3) 3 = own_stz s p1 := by rw [own_q_gray, h1]; unfold own_stz; rw [if_pos k1]
    exact own_T2f b0 (own_bd_st s b1 (by decide)) ((own_q_grayne g (by decide)).trans h0) HH
  · rw [if_neg k1]
    by_cases k2 : s = 2
    · rw [if_pos k2]
      have HH : own_q (own_rem g 3) 3 = own_stz s p1 := by rw [own_q_rem]; unfold own_stz; rw [if_neg k1, if_pos k2]; rfl
      exact own_T2f b0 (own_bd_st s b1 (by decide)) ((own_q_remne g (by decide)).trans h0) HH
    · rw [if_neg k2]
      have HH : own_stz s p1 = p1 := by unfold own_stz; rw [if_neg k1, if_neg k2]
      rw [HH]; exact ⟨h0, h1, h2⟩
theorem own_T1a0 {p0 : own_Z} (T : own_q g 1 = p0) (s : Int32) : own_q (own_apl g 1 (0 : Int32) s 1) 1 = own_stz s p0 := by
  unfold own_apl
  rw [if_pos (by decide)]
  by_cases k1 : s = 1
  · rw [if_pos k1]
    have HH : own_q (own_gray g 1) 1 = own_stz s p0 := by rw [own_q_gray, T]; unfold own_stz; rw [if_pos k1]
    exact HH
  · rw [if_neg k1]
    by_cases k2 : s = 2
    · rw [if_pos k2]
      have HH : own_q (own_rem g 1) 1 = own_stz s p0 := by rw [own_q_rem]; unfold own_stz; rw [if_neg k1, if_pos k2]; rfl
      exact HH
    · rw [if_neg k2]
      have HH : own_stz s p0 = p0 := by unfold own_stz; rw [if_neg k1, if_neg k2]
      rw [HH]; exact T
theorem own_ans1 {p0 : own_Z} (b0 : p0.bd 65535) (k0 : p0.ok) : ∃ v b, own_ans 0 p0 own_A own_A own_A v b := by
  unfold own_Z.bd own_Z.ok at *
  refine ⟨p0.v, p0.b, ?_, ?_, ?_, ?_, ?_, fun h => Or.inl ⟨rfl, Or.inr h, ?_⟩⟩
  · have f := own_Ege p0 own_A own_A own_A
    refine Int.le_antisymm (own_Ele ?_ ?_ ?_ ?_) ?_ <;> simp only [own_A, own_eM, own_vM, own_aM, own_bM] at * <;> omega
  · refine own_Ele ?_ ?_ ?_ ?_ <;> simp only [own_A, own_Z.sw, own_eM, own_vM, own_aM, own_bM] at * <;> omega
  · refine own_Ele ?_ ?_ ?_ ?_ <;> simp only [own_A, own_Z.sw, own_eM, own_vM, own_aM, own_bM] at * <;> omega
  · refine own_Ele ?_ ?_ ?_ ?_ <;> simp only [own_A, own_Z.sw, own_eM, own_vM, own_aM, own_bM] at * <;> omega
  · refine own_Ele ?_ ?_ ?_ ?_ <;> simp only [own_A, own_Z.sw, own_eM, own_vM, own_aM, own_bM] at * <;> omega
  · have f := own_Ege p0.sw own_A own_A own_A
    simp only [own_A, own_Z.sw, own_eM, own_vM, own_aM, own_bM] at *; omega
theorem own_ans2 {p0 p1 : own_Z} (b0 : p0.bd 65535) (b1 : p1.bd 65535) (k0 : p0.ok) (k1 : p1.ok) (T : own_T2 g p0 p1) : ∃ v b, own_ans (own_rg2 g) p0 p1 own_A own_A v b := by
  obtain ⟨h0, h1, h2⟩ := T
  have hr : own_rg2 g = if (p0.c p1).b = p1.b then 1 else if (p0.c p1).b = p0.v + p1.a then 1 else 0 := by
    rw [← h2, ← h1, ← h0]
    rw [← h0] at b0; rw [← h1] at b1
    unfold own_rg2
    unfold own_Z.bd own_q at *
    simp only [Nat.reduceMul, Nat.reduceAdd, own_eM, own_vM, own_aM, own_bM] at *
    have q : ∀ x y : Int64, (x = y) = (x.toInt = y.toInt) := fun x y => propext ⟨fun h => by rw [h], fun h => Int64.toInt_inj.mp h⟩
    simp only [q]
    rw [own_add_z (x := g 9) (by omega)]
      <;> exact own_ifc rfl (own_ifc rfl rfl)
  generalize own_rg2 g = r at *
  have f := own_cf p0 p1
  clear h0 h1 h2
  generalize p0.c p1 = R at *
  unfold own_Z.bd own_Z.ok at *
  refine ⟨R.v, R.b, ?_, ?_, ?_, ?_, ?_, fun hlt => ?_⟩
  · have f2 := own_Ege p0 p1 own_A own_A
    refine Int.le_antisymm (own_Ele ?_ ?_ ?_ ?_) ?_ <;> simp only [own_A, own_eM, own_vM, own_aM, own_bM] at * <;> omega
  · refine own_Ele ?_ ?_ ?_ ?_ <;> simp only [own_A, own_Z.sw, own_eM, own_vM, own_aM, own_bM] at * <;> omega
  · refine own_Ele ?_ ?_ ?_ ?_ <;> simp only [own_A, own_Z.sw, own_eM, own_vM, own_aM, own_bM] at * <;> omega
  · refine own_Ele ?_ ?_ ?_ ?_ <;> simp only [own_A, own_Z.sw, own_eM, own_vM, own_aM, own_bM] at * <;> omega
  · refine own_Ele ?_ ?_ ?_ ?_ <;> simp only [own_A, own_Z.sw, own_eM, own_vM, own_aM, own_bM] at * <;> omega
  · have g0 := own_Ege p0.sw p1 own_A own_A; have g1 := own_Ege p0 p1.sw own_A own_A
    by_cases k3 : R.b = p1.b
    · rw [if_pos k3] at hr
      refine Or.inr (Or.inl ⟨hr, ?_, ?_⟩) <;> simp only [own_A, own_Z.sw, own_eM, own_vM, own_aM, own_bM] at * <;> omega
    · rw [if_neg k3] at hr
      by_cases k4 : R.b = p0.v + p1.a
      · rw [if_pos k4] at hr
        refine Or.inr (Or.inl ⟨hr, ?_, ?_⟩) <;> simp only [own_A, own_Z.sw, own_eM, own_vM, own_aM, own_bM] at * <;> omega
      · rw [if_neg k4] at hr
        refine Or.inl ⟨hr, ?_, ?_⟩ <;> simp only [own_A, own_Z.sw, own_eM, own_vM, own_aM, own_bM] at * <;> omega
end own_tree
def own_mk (i : Int32) (e m : Int) : own_Z := if i = 0 then own_A else own_Lf e m
theorem own_bf (i : Int32) (m x : Int64) : m.toInt ≤ (own_b i m x).toInt ∧ (¬ i = 0 → x.toInt ≤ (own_b i m x).toInt) ∧ ((own_b i m x).toInt = m.toInt ∨ (¬ i = 0 ∧ (own_b i m x).toInt = x.toInt)) := by
  unfold own_b
  by_cases h : i = 0
  · rw [if_pos h]; exact ⟨Int.le_refl _, fun q => absurd h q, Or.inl rfl⟩
  · rw [if_neg h, own_max_z]; have f := own_mxf m.toInt x.toInt
    exact ⟨f.1, fun _ => f.2.1, f.2.2.imp id fun q => ⟨h, q⟩⟩
theorem own_sf (i : Int32) (x : Int64) (h : 0 ≤ x.toInt ∧ x.toInt ≤ 65535) : (own_s i x).toInt = (if i = 0 then 0 else x.toInt) ∧ 0 ≤ (own_s i x).toInt ∧ (own_s i x).toInt ≤ 65535 := by
  unfold own_s
  by_cases q : i = 0
  · rw [if_pos q, if_pos q]; decide
  · rw [if_neg q, if_neg q]; exact ⟨rfl, h⟩
set_option maxHeartbeats 4000000 in
theorem own_ev_z {c : Int64} {go ge : Nat → Int64} (he : ∀ k, k < 4 → 0 ≤ (ge k).toInt ∧ (ge k).toInt ≤ 65535) (hm : ∀ k, k < 4 → 0 ≤ (c * go k).toInt ∧ (c * go k).toInt ≤ 1099511627776) (i0 i1 i2 i3 : Int32) :
    (own_ev c go ge i0 i1 i2 i3).toInt = own_E (own_mk i0 (ge 0).toInt (c * go 0).toInt) (own_mk i1 (ge 1).toInt (c * go 1).toInt) (own_mk i2 (ge 2).toInt (c * go 2).toInt) (own_mk i3 (ge 3).toInt (c * go 3).toInt) := by
  have e0 := he 0 (by decide); have e1 := he 1 (by decide); have e2 := he 2 (by decide); have e3 := he 3 (by decide)
  have m0 := hm 0 (by decide); have m1 := hm 1 (by decide); have m2 := hm 2 (by decide); have m3 := hm 3 (by decide)
  have G := own_Ege (own_mk i0 (ge 0).toInt (c * go 0).toInt) (own_mk i1 (ge 1).toInt (c * go 1).toInt) (own_mk i2 (ge 2).toInt (c * go 2).toInt) (own_mk i3 (ge 3).toInt (c * go 3).toInt)
  have F : ∀ X, _ → _ → _ → _ → own_E (own_mk i0 (ge 0).toInt (c * go 0).toInt) (own_mk i1 (ge 1).toInt (c * go 1).toInt) (own_mk i2 (ge 2).toInt (c * go 2).toInt) (own_mk i3 (ge 3).toInt (c * go 3).toInt) ≤ X := fun X a b c d => own_Ele a b c d
  unfold own_ev
  obtain ⟨s0, t0⟩ := own_sf i0 (ge 0) e0; obtain ⟨s1, t1⟩ := own_sf i1 (ge 1) e1; obtain ⟨s2, t2⟩ := own_sf i2 (ge 2) e2; obtain ⟨s3, t3⟩ := own_sf i3 (ge 3) e3
  generalize own_s i0 (ge 0) = S0 at *; generalize own_s i1 (ge 1) = S1 at *; generalize own_s i2 (ge 2) = S2 at *; generalize own_s i3 (ge 3) = S3 at *
  have a32 := own_add_z (x := S3) (y := S2) (by omega)
  generalize S3 + S2 = S32 at *
  have a321 := own_add_z (x := S32) (y := S1) (by omega)
  generalize S32 + S1 = S321 at *
  have a3210 := own_add_z (x := S321) (y := S0) (by omega)
  generalize S321 + S0 = S at *
  generalize c * go 0 = M0 at *; generalize c * go 1 = M1 at *; generalize c * go 2 = M2 at *; generalize c * go 3 = M3 at *
  have u0 := own_add_z (x := M0) (y := S) (by omega)
  have u1 := own_add_z (x := M1) (y := S321) (by omega)
  have u2 := own_add_z (x := M2) (y := S32) (by omega)
  have u3 := own_add_z (x := M3) (y := S3) (by omega)
  generalize M0 + S = U0 at *; generalize M1 + S321 = U1 at *; generalize M2 + S32 = U2 at *; generalize M3 + S3 = U3 at *
  have f0 := own_bf i0 (-4611686018427387904) U0
  rw [show (-4611686018427387904 : Int64).toInt = -4611686018427387904 by decide] at f0
  generalize own_b i0 (-4611686018427387904) U0 = B0 at *
  have f1 := own_bf i1 B0 U1
  generalize own_b i1 B0 U1 = B1 at *
  have f2 := own_bf i2 B1 U2
  generalize own_b i2 B1 U2 = B2 at *
  have f3 := own_bf i3 B2 U3
  generalize own_b i3 B2 U3 = B3 at *
  refine Int.le_antisymm ?_ (F _ ?_ ?_ ?_ ?_)
  all_goals (clear F; generalize own_E _ _ _ _ = X at *; unfold own_mk own_Lf own_A at *)
  all_goals (by_cases k0 : i0 = 0 <;> by_cases k1 : i1 = 0 <;> by_cases k2 : i2 = 0 <;> by_cases k3 : i3 = 0)
  all_goals (simp only [k0, k1, k2, k3, if_true, if_false, not_true_eq_false, not_false_eq_true, false_and, true_and, or_false, false_imp_iff, true_imp_iff, forall_const, own_eM, own_vM, own_aM, own_bM] at *; omega)
theorem own_Ecg {p0 p1 p2 p3 q0 q1 q2 q3 : own_Z} (h0 : p0.e = q0.e ∧ p0.v = q0.v) (h1 : p1.e = q1.e ∧ p1.v = q1.v) (h2 : p2.e = q2.e ∧ p2.v = q2.v) (h3 : p3.e = q3.e ∧ p3.v = q3.v) : own_E p0 p1 p2 p3 = own_E q0 q1 q2 q3 := by
  unfold own_E; rw [h0.2, h1.1, h1.2, h2.1, h2.2, h3.1, h3.2]
theorem own_mkn {s m : Int32} {e M : Int} (hs : s = 0 ∨ s = 1 ∨ s = 2 ∨ s = 3) (h : m = if s = 0 then 1 else if s = 3 then 1 else 0) : (own_mk m e M).e = (own_stz s (own_Lf e M)).e ∧ (own_mk m e M).v = (own_stz s (own_Lf e M)).v := by
  rcases hs with rfl | rfl | rfl | rfl <;> subst h <;> exact ⟨rfl, rfl⟩
theorem own_mke {s m : Int32} {e M : Int} (hs : s = 1) (h : m = 1) : (own_mk m e M).e = (own_stz s (own_Lf e M)).sw.e ∧ (own_mk m e M).v = (own_stz s (own_Lf e M)).sw.v := by
  subst hs h; exact ⟨rfl, rfl⟩
theorem own_stgray {s : Int32} {e M : Int} (hs : s = 0 ∨ s = 1 ∨ s = 2 ∨ s = 3) (h : (own_stz s (own_Lf e M)).e < (own_stz s (own_Lf e M)).a ∨ (own_stz s (own_Lf e M)).v < (own_stz s (own_Lf e M)).b) : s = 1 := by
  rcases hs with rfl | rfl | rfl | rfl
  · exact absurd h (by simp [own_stz, own_Lf, own_eM, own_vM, own_aM, own_bM])
  · rfl
  · exact absurd h (by simp [own_stz, own_eM, own_vM, own_aM, own_bM])
  · exact absurd h (by simp [own_stz, own_Lf, own_eM, own_vM, own_aM, own_bM])
theorem own_stok {s : Int32} {e M : Int} (hs : s = 0 ∨ s = 1 ∨ s = 2 ∨ s = 3) (he : 0 ≤ e) (hM : 0 ≤ M) : (own_stz s (own_Lf e M)).ok := by
  rcases hs with rfl | rfl | rfl | rfl <;> simp [own_stz, own_Lf, own_Z.ok, own_eM, own_vM, own_aM, own_bM] <;> omega
section own_last
variable {c : Int64} {go ge : Nat → Int64} {gs : Nat → Int32}
theorem own_envn (he : ∀ k, k < 4 → 0 ≤ (ge k).toInt ∧ (ge k).toInt ≤ 65535) (hm : ∀ k, k < 4 → 0 ≤ (c * go k).toInt ∧ (c * go k).toInt ≤ 1099511627776) (hs : ∀ k, k < 4 → gs k = 0 ∨ gs k = 1 ∨ gs k = 2 ∨ gs k = 3) :
    (own_env c go ge gs (-1)).toInt = own_E (own_stz (gs 0) (own_Lf (ge 0).toInt (c * go 0).toInt)) (own_stz (gs 1) (own_Lf (ge 1).toInt (c * go 1).toInt)) (own_stz (gs 2) (own_Lf (ge 2).toInt (c * go 2).toInt)) (own_stz (gs 3) (own_Lf (ge 3).toInt (c * go 3).toInt)) := by
  unfold own_env
  rw [own_ev_z he hm]
  exact own_Ecg (own_mkn (hs 0 (by decide)) rfl) (own_mkn (hs 1 (by decide)) rfl) (own_mkn (hs 2 (by decide)) rfl) (own_mkn (hs 3 (by decide)) rfl)
theorem own_env0 (he : ∀ k, k < 4 → 0 ≤ (ge k).toInt ∧ (ge k).toInt ≤ 65535) (hm : ∀ k, k < 4 → 0 ≤ (c * go k).toInt ∧ (c * go k).toInt ≤ 1099511627776) (hs : ∀ k, k < 4 → gs k = 0 ∨ gs k = 1 ∨ gs k = 2 ∨ gs k = 3) (h : gs 0 = 1) :
    (own_env c go ge gs 0).toInt = own_E (own_stz (gs 0) (own_Lf (ge 0).toInt (c * go 0).toInt)).sw (own_stz (gs 1) (own_Lf (ge 1).toInt (c * go 1).toInt)) (own_stz (gs 2) (own_Lf (ge 2).toInt (c * go 2).toInt)) (own_stz (gs 3) (own_Lf (ge 3).toInt (c * go 3).toInt)) := by
  unfold own_env
  rw [own_ev_z he hm]
  exact own_Ecg (own_mke h (by unfold own_mem0; rw [h]; rfl)) (own_mkn (hs 1 (by decide)) rfl) (own_mkn (hs 2 (by decide)) rfl) (own_mkn (hs 3 (by decide)) rfl)
theorem own_env1 (he : ∀ k, k < 4 → 0 ≤ (ge k).toInt ∧ (ge k).toInt ≤ 65535) (hm : ∀ k, k < 4 → 0 ≤ (c * go k).toInt ∧ (c * go k).toInt ≤ 1099511627776) (hs : ∀ k, k < 4 → gs k = 0 ∨ gs k = 1 ∨ gs k = 2 ∨ gs k = 3) (h : gs 1 = 1) :
    (own_env c go ge gs 1).toInt = own_E (own_stz (gs 0) (own_Lf (ge 0).toInt (c * go 0).toInt)) (own_stz (gs 1) (own_Lf (ge 1).toInt (c * go 1).toInt)).sw (own_stz (gs 2) (own_Lf (ge 2).toInt (c * go 2).toInt)) (own_stz (gs 3) (own_Lf (ge 3).toInt (c * go 3).toInt)) := by
  unfold own_env
  rw [own_ev_z he hm]
  exact own_Ecg (own_mkn (hs 0 (by decide)) rfl) (own_mke h (by unfold own_mem1; rw [h]; rfl)) (own_mkn (hs 2 (by decide)) rfl) (own_mkn (hs 3 (by decide)) rfl)
theorem own_env2 (he : ∀ k, k < 4 → 0 ≤ (ge k).toInt ∧ (ge k).toInt ≤ 65535) (hm : ∀ k, k < 4 → 0 ≤ (c * go k).toInt ∧ (c * go k).toInt ≤ 1099511627776) (hs : ∀ k, k < 4 → gs k = 0 ∨ gs k = 1 ∨ gs k = 2 ∨ gs k = 3) (h : gs 2 = 1) :
    (own_env c go ge gs 2).toInt = own_E (own_stz (gs 0) (own_Lf (ge 0).toInt (c * go 0).toInt)) (own_stz (gs 1) (own_Lf (ge 1).toInt (c * go 1).toInt)) (own_stz (gs 2) (own_Lf (ge 2).toInt (c * go 2).toInt)).sw (own_stz (gs 3) (own_Lf (ge 3).toInt (c * go 3).toInt)) := by
  unfold own_env
  rw [own_ev_z he hm]
  exact own_Ecg (own_mkn (hs 0 (by decide)) rfl) (own_mkn (hs 1 (by decide)) rfl) (own_mke h (by unfold own_mem2; rw [h]; rfl)) (own_mkn (hs 3 (by decide)) rfl)
theorem own_env3 (he : ∀ k, k < 4 → 0 ≤ (ge k).toInt ∧ (ge k).toInt ≤ 65535) (hm : ∀ k, k < 4 → 0 ≤ (c * go k).toInt ∧ (c * go k).toInt ≤ 1099511627776) (hs : ∀ k, k < 4 → gs k = 0 ∨ gs k = 1 ∨ gs k = 2 ∨ gs k = 3) (h : gs 3 = 1) :
    (own_env c go ge gs 3).toInt = own_E (own_stz (gs 0) (own_Lf (ge 0).toInt (c * go 0).toInt)) (own_stz (gs 1) (own_Lf (ge 1).toInt (c * go 1).toInt)) (own_stz (gs 2) (own_Lf (ge 2).toInt (c * go 2).toInt)) (own_stz (gs 3) (own_Lf (ge 3).toInt (c * go 3).toInt)).sw := by
  unfold own_env
  rw [own_ev_z he hm]
  exact own_Ecg (own_mkn (hs 0 (by decide)) rfl) (own_mkn (hs 1 (by decide)) rfl) (own_mkn (hs 2 (by decide)) rfl) (own_mke h (by unfold own_mem3; rw [h]; rfl))
theorem own_pick {r : Int32} {base best : Int64} {b0 b1 b2 : Int64} (he : ∀ k, k < 4 → 0 ≤ (ge k).toInt ∧ (ge k).toInt ≤ 65535) (hm : ∀ k, k < 4 → 0 ≤ (c * go k).toInt ∧ (c * go k).toInt ≤ 1099511627776) (hs : ∀ k, k < 4 → gs k = 0 ∨ gs k = 1 ∨ gs k = 2 ∨ gs k = 3)
    (h0 : own_env c go ge gs (-1) = base) (h1 : own_wg0 base c go ge gs = b0) (h2 : own_wg1 b0 c go ge gs = b1) (h3 : own_wg2 b1 c go ge gs = b2) (h4 : own_wg3 b2 c go ge gs = best) (hlt : base < best)
    (A : ∃ x y, own_ans r (own_stz (gs 0) (own_Lf (ge 0).toInt (c * go 0).toInt)) (own_stz (gs 1) (own_Lf (ge 1).toInt (c * go 1).toInt)) (own_stz (gs 2) (own_Lf (ge 2).toInt (c * go 2).toInt)) (own_stz (gs 3) (own_Lf (ge 3).toInt (c * go 3).toInt)) x y) : (r = 0 ∧ gs 0 = 1 ∧ own_env c go ge gs 0 = best) ∨ (r = 1 ∧ gs 1 = 1 ∧ own_env c go ge gs 1 = best) ∨ (r = 2 ∧ gs 2 = 1 ∧ own_env c go ge gs 2 = best) ∨ (r = 3 ∧ gs 3 = 1 ∧ own_env c go ge gs 3 = best) := by
  obtain ⟨x, y, a1, a2, a3, a4, a5, a6⟩ := A
  have E := own_envn he hm hs
  rw [h0, a1] at E
  have w : ∀ (s : Int32) (m e : Int64), m.toInt ≤ (if s = 1 then own_max m e else m).toInt ∧ (s = 1 → e.toInt ≤ (if s = 1 then own_max m e else m).toInt) ∧ ((if s = 1 then own_max m e else m).toInt = m.toInt ∨ (s = 1 ∧ (if s = 1 then own_max m e else m).toInt = e.toInt)) := by
    intro s m e
    by_cases q : s = 1
    · rw [if_pos q, own_max_z]; have f := own_mxf m.toInt e.toInt
      exact ⟨f.1, fun _ => f.2.1, f.2.2.imp id fun k => ⟨q, k⟩⟩
    · rw [if_neg q]; exact ⟨Int.le_refl _, fun k => absurd k q, Or.inl rfl⟩
  have w0 := w (gs 0) base (own_env c go ge gs 0); have w1 := w (gs 1) b0 (own_env c go ge gs 1); have w2 := w (gs 2) b1 (own_env c go ge gs 2); have w3 := w (gs 3) b2 (own_env c go ge gs 3)
  unfold own_wg0 at h1; unfold own_wg1 at h2; unfold own_wg2 at h3; unfold own_wg3 at h4
  rw [h1] at w0; rw [h2] at w1; rw [h3] at w2; rw [h4] at w3
  have z0 : gs 0 = 1 → (own_env c go ge gs 0).toInt ≤ y := fun q => by rw [own_env0 he hm hs q]; exact a2
  have z1 : gs 1 = 1 → (own_env c go ge gs 1).toInt ≤ y := fun q => by rw [own_env1 he hm hs q]; exact a3
  have z2 : gs 2 = 1 → (own_env c go ge gs 2).toInt ≤ y := fun q => by rw [own_env2 he hm hs q]; exact a4
  have z3 : gs 3 = 1 → (own_env c go ge gs 3).toInt ≤ y := fun q => by rw [own_env3 he hm hs q]; exact a5
  rw [Int64.lt_iff_toInt_lt] at hlt
  have hy : best.toInt ≤ y := by
    clear a1 a2 a3 a4 a5 a6 w
    rcases w3.2.2 with k3 | ⟨g3, k3⟩
    · rcases w2.2.2 with k2 | ⟨g2, k2⟩
      · rcases w1.2.2 with k1 | ⟨g1, k1⟩
        · rcases w0.2.2 with k0 | ⟨g0, k0⟩
          · omega
          · have := z0 g0; omega
        · have := z1 g1; omega
      · have := z2 g2; omega
    · have := z3 g3; omega
  have hxy : x < y := by omega
  rcases a6 hxy with ⟨hr, hg, hb⟩ | ⟨hr, hg, hb⟩ | ⟨hr, hg, hb⟩ | ⟨hr, hg, hb⟩

  · have gg := own_stgray (hs 0 (by decide)) hg
    refine Or.inl ⟨hr, gg, Int64.toInt_inj.mp ?_⟩
    rw [← own_env0 he hm hs gg] at hb
    have l0 := w0.2.1 gg; have l1 := w1.1; have l2 := w2.1; have l3 := w3.1
    omega
  · have gg := own_stgray (hs 1 (by decide)) hg
    refine Or.inr (Or.inl ⟨hr, gg, Int64.toInt_inj.mp ?_⟩)
    rw [← own_env1 he hm hs gg] at hb
    have l0 := w1.2.1 gg; have l2 := w2.1; have l3 := w3.1
    omega
  · have gg := own_stgray (hs 2 (by decide)) hg
    refine Or.inr (Or.inr (Or.inl ⟨hr, gg, Int64.toInt_inj.mp ?_⟩))
    rw [← own_env2 he hm hs gg] at hb
    have l0 := w2.2.1 gg; have l3 := w3.1
    omega
  · have gg := own_stgray (hs 3 (by decide)) hg
    refine Or.inr (Or.inr (Or.inr ⟨hr, gg, Int64.toInt_inj.mp ?_⟩))
    rw [← own_env3 he hm hs gg] at hb
    have l0 := w3.2.1 gg
    omega
theorem own_aplo {g : Nat → Int64} {l x1 x2 x3 : Int32} (h : ¬ x1 < x3) : own_apl g l x1 x2 x3 = g := if_neg h
theorem own_lv1 : own_lv 1 = 1 := if_pos rfl
theorem own_lv2 : own_lv 2 = 2 := by unfold own_lv; rw [if_neg (by decide), if_pos rfl]
theorem own_lv3 : own_lv 3 = 4 := by unfold own_lv; rw [if_neg (by decide), if_neg (by decide)]
theorem own_lv4 : own_lv 4 = 4 := by unfold own_lv; rw [if_neg (by decide), if_neg (by decide)]
theorem own_fl1 (g : Nat → Int64) : own_fill g c go ge 1 = own_fill1 g c go ge := if_pos rfl
theorem own_fl2 (g : Nat → Int64) : own_fill g c go ge 2 = own_fill2 g c go ge := by unfold own_fill; rw [if_neg (by decide), if_pos rfl]
theorem own_fl3 (g : Nat → Int64) : own_fill g c go ge 3 = own_fill3 g c go ge := by unfold own_fill; rw [if_neg (by decide), if_neg (by decide), if_pos rfl]
theorem own_fl4 (g : Nat → Int64) : own_fill g c go ge 4 = own_fill4 g c go ge := by unfold own_fill; rw [if_neg (by decide), if_neg (by decide), if_neg (by decide)]
theorem own_rgl1 (g : Nat → Int64) : own_rg g 1 = 0 := if_pos rfl
theorem own_rgl2 (g : Nat → Int64) : own_rg g 2 = own_rg2 g := by unfold own_rg; rw [if_neg (by decide), if_pos rfl]
theorem own_rgl4 (g : Nat → Int64) : own_rg g 4 = own_rg4 g := by unfold own_rg; rw [if_neg (by decide), if_neg (by decide)]
theorem own_tree {v : Int32} (he : ∀ k, k < 4 → 0 ≤ (ge k).toInt ∧ (ge k).toInt ≤ 65535) (hm : ∀ k, k < 4 → 0 ≤ (c * go k).toInt ∧ (c * go k).toInt ≤ 1099511627776) (hs : ∀ k, k < 4 → gs k = 0 ∨ gs k = 1 ∨ gs k = 2 ∨ gs k = 3) (hv : v = 1 ∨ v = 2 ∨ v = 3 ∨ v = 4)
    (t1 : ¬ (1 : Int32) < v → gs 1 = 2) (t2 : ¬ (2 : Int32) < v → gs 2 = 2) (t3 : ¬ (3 : Int32) < v → gs 3 = 2) :
    ∃ x y, own_ans (own_rg (own_apl (own_apl (own_apl (own_apl (own_fill (fun _ => 0) c go ge v) (own_lv v) (0 : Int32) (gs 0) v) (own_lv v) (1 : Int32) (gs 1) v) (own_lv v) (2 : Int32) (gs 2) v) (own_lv v) (3 : Int32) (gs 3) v) (own_lv v)) (own_stz (gs 0) (own_Lf (ge 0).toInt (c * go 0).toInt)) (own_stz (gs 1) (own_Lf (ge 1).toInt (c * go 1).toInt)) (own_stz (gs 2) (own_Lf (ge 2).toInt (c * go 2).toInt)) (own_stz (gs 3) (own_Lf (ge 3).toInt (c * go 3).toInt)) x y := by
  rcases hv with rfl | rfl | rfl | rfl
  · rw [own_lv1, own_fl1, own_rgl1]
    have e1 := t1 (by decide); have e2 := t2 (by decide); have e3 := t3 (by decide)
    have R := own_ans1 (own_bd_st (gs 0) (own_Lf_bd (he 0 (by decide)) (hm 0 (by decide))) (by decide)) (own_stok (hs 0 (by decide)) (he 0 (by decide)).1 (hm 0 (by decide)).1)
    have z : ∀ q : own_Z, own_stz 2 q = own_A := fun _ => rfl
    rw [e1, e2, e3, z, z, z]
    exact R
  · rw [own_lv2, own_fl2, own_rgl2, own_aplo (x1 := 3) (by decide), own_aplo (x1 := 2) (by decide)]
    have e2 := t2 (by decide); have e3 := t3 (by decide)
    have T := own_T2a1 (own_bd_st (gs 0) (own_Lf_bd (he 0 (by decide)) (hm 0 (by decide))) (by decide)) (own_Lf_bd (he 1 (by decide)) (hm 1 (by decide))) (own_T2a0 (own_Lf_bd (he 0 (by decide)) (hm 0 (by decide))) (own_Lf_bd (he 1 (by decide)) (hm 1 (by decide))) (own_F2 (g := fun _ => 0) he hm) (gs 0)) (gs 1)
    have R := own_ans2 (own_bd_st (gs 0) (own_Lf_bd (he 0 (by decide)) (hm 0 (by decide))) (by decide)) (own_bd_st (gs 1) (own_Lf_bd (he 1 (by decide)) (hm 1 (by decide))) (by decide)) (own_stok (hs 0 (by decide)) (he 0 (by decide)).1 (hm 0 (by decide)).1) (own_stok (hs 1 (by decide)) (he 1 (by decide)).1 (hm 1 (by decide)).1) T
    have z : ∀ q : own_Z, own_stz 2 q = own_A := fun _ => rfl
    rw [e2, e3, z, z]
    exact R
  · rw [own_lv3, own_fl3, own_rgl4]
    have e3 := t3 (by decide)
    have T := own_T4a3 (own_bd_st (gs 0) (own_Lf_bd (he 0 (by decide)) (hm 0 (by decide))) (by decide)) (own_bd_st (gs 1) (own_Lf_bd (he 1 (by decide)) (hm 1 (by decide))) (by decide)) (own_bd_st (gs 2) (own_Lf_bd (he 2 (by decide)) (hm 2 (by decide))) (by decide)) own_A_bd (own_T4a2 (own_bd_st (gs 0) (own_Lf_bd (he 0 (by decide)) (hm 0 (by decide))) (by decide)) (own_bd_st (gs 1) (own_Lf_bd (he 1 (by decide)) (hm 1 (by decide))) (by decide)) (own_Lf_bd (he 2 (by decide)) (hm 2 (by decide))) own_A_bd (own_T4a1 (own_bd_st (gs 0) (own_Lf_bd (he 0 (by decide)) (hm 0 (by decide))) (by decide)) (own_Lf_bd (he 1 (by decide)) (hm 1 (by decide))) (own_Lf_bd (he 2 (by decide)) (hm 2 (by decide))) own_A_bd (own_T4a0 (own_Lf_bd (he 0 (by decide)) (hm 0 (by decide))) (own_Lf_bd (he 1 (by decide)) (hm 1 (by decide))) (own_Lf_bd (he 2 (by decide)) (hm 2 (by decide))) own_A_bd (own_F3 (g := fun _ => 0) he hm) (gs 0) 3 (Or.inl (by decide))) (gs 1) 3 (Or.inl (by decide))) (gs 2) 3 (Or.inl (by decide))) (gs 3) 3 (Or.inr ⟨e3, rfl⟩)
    have z : own_stz (gs 3) own_A = own_stz (gs 3) (own_Lf (ge 3).toInt (c * go 3).toInt) := by rw [e3]; rfl
    rw [z] at T
    exact own_ans4 (own_bd_st (gs 0) (own_Lf_bd (he 0 (by decide)) (hm 0 (by decide))) (by decide)) (own_bd_st (gs 1) (own_Lf_bd (he 1 (by decide)) (hm 1 (by decide))) (by decide)) (own_bd_st (gs 2) (own_Lf_bd (he 2 (by decide)) (hm 2 (by decide))) (by decide)) (own_bd_st (gs 3) (own_Lf_bd (he 3 (by decide)) (hm 3 (by decide))) (by decide)) (own_stok (hs 0 (by decide)) (he 0 (by decide)).1 (hm 0 (by decide)).1) (own_stok (hs 1 (by decide)) (he 1 (by decide)).1 (hm 1 (by decide)).1) (own_stok (hs 2 (by decide)) (he 2 (by decide)).1 (hm 2 (by decide)).1) (own_stok (hs 3 (by decide)) (he 3 (by decide)).1 (hm 3 (by decide)).1) T
  · rw [own_lv4, own_fl4, own_rgl4]
    have T := own_T4a3 (own_bd_st (gs 0) (own_Lf_bd (he 0 (by decide)) (hm 0 (by decide))) (by decide)) (own_bd_st (gs 1) (own_Lf_bd (he 1 (by decide)) (hm 1 (by decide))) (by decide)) (own_bd_st (gs 2) (own_Lf_bd (he 2 (by decide)) (hm 2 (by decide))) (by decide)) (own_Lf_bd (he 3 (by decide)) (hm 3 (by decide))) (own_T4a2 (own_bd_st (gs 0) (own_Lf_bd (he 0 (by decide)) (hm 0 (by decide))) (by decide)) (own_bd_st (gs 1) (own_Lf_bd (he 1 (by decide)) (hm 1 (by decide))) (by decide)) (own_Lf_bd (he 2 (by decide)) (hm 2 (by decide))) (own_Lf_bd (he 3 (by decide)) (hm 3 (by decide))) (own_T4a1 (own_bd_st (gs 0) (own_Lf_bd (he 0 (by decide)) (hm 0 (by decide))) (by decide)) (own_Lf_bd (he 1 (by decide)) (hm 1 (by decide))) (own_Lf_bd (he 2 (by decide)) (hm 2 (by decide))) (own_Lf_bd (he 3 (by decide)) (hm 3 (by decide))) (own_T4a0 (own_Lf_bd (he 0 (by decide)) (hm 0 (by decide))) (own_Lf_bd (he 1 (by decide)) (hm 1 (by decide))) (own_Lf_bd (he 2 (by decide)) (hm 2 (by decide))) (own_Lf_bd (he 3 (by decide)) (hm 3 (by decide))) (own_F4 (g := fun _ => 0) he hm) (gs 0) 4 (Or.inl (by decide))) (gs 1) 4 (Or.inl (by decide))) (gs 2) 4 (Or.inl (by decide))) (gs 3) 4 (Or.inl (by decide))
    exact own_ans4 (own_bd_st (gs 0) (own_Lf_bd (he 0 (by decide)) (hm 0 (by decide))) (by decide)) (own_bd_st (gs 1) (own_Lf_bd (he 1 (by decide)) (hm 1 (by decide))) (by decide)) (own_bd_st (gs 2) (own_Lf_bd (he 2 (by decide)) (hm 2 (by decide))) (by decide)) (own_bd_st (gs 3) (own_Lf_bd (he 3 (by decide)) (hm 3 (by decide))) (by decide)) (own_stok (hs 0 (by decide)) (he 0 (by decide)).1 (hm 0 (by decide)).1) (own_stok (hs 1 (by decide)) (he 1 (by decide)).1 (hm 1 (by decide)).1) (own_stok (hs 2 (by decide)) (he 2 (by decide)).1 (hm 2 (by decide)).1) (own_stok (hs 3 (by decide)) (he 3 (by decide)).1 (hm 3 (by decide)).1) T
end own_last
theorem own_prod {c o : Int64} (hc : 0 ≤ c.toInt ∧ c.toInt ≤ 65535) (ho : 0 ≤ o.toInt ∧ o.toInt ≤ 262140) : 0 ≤ (c * o).toInt ∧ (c * o).toInt ≤ 1099511627776 := by
  have e := c_lmul c o
  have r := rng64 (c * o)
  have p1 : 0 ≤ c.toInt * o.toInt := Int.mul_nonneg hc.1 ho.1
  have p2 : c.toInt * o.toInt ≤ 65535 * 262140 := Int.mul_le_mul hc.2 ho.2 ho.1 (by decide)
  generalize c.toInt * o.toInt = z at *
  omega
theorem own_mL (x : Int64) : 0 ≤ (x &&& (65535 : Int64)).toInt ∧ (x &&& (65535 : Int64)).toInt ≤ 65535 := by
  have e := c_maskL x 65535 16 (by decide) (by decide)
  omega
theorem own_addb {x y z : Int64} {k : Int} (h : x + y = z) (hx : 0 ≤ x.toInt ∧ x.toInt ≤ k) (hy : 0 ≤ y.toInt ∧ y.toInt ≤ 65535) (hk : k ≤ 1000000) : 0 ≤ z.toInt ∧ z.toInt ≤ k + 65535 := by
  rw [← h, own_add_z (by omega)]; omega
theorem own_m3i {x : Int32} {P : Prop} [Decidable P] {p : Int32} (h : p = if P then (x &&& (3 : Int32)) else 2) : p = 0 ∨ p = 1 ∨ p = 2 ∨ p = 3 := by
  by_cases q : P
  · rw [if_pos q] at h
    have e := c_mask x 3 2 (by decide) (by decide)
    rw [← h] at e
    have s : p.toInt = 0 ∨ p.toInt = 1 ∨ p.toInt = 2 ∨ p.toInt = 3 := by omega
    rcases s with s | s | s | s
    · exact Or.inl (Int32.toInt_inj.mp s)
    · exact Or.inr (Or.inl (Int32.toInt_inj.mp s))
    · exact Or.inr (Or.inr (Or.inl (Int32.toInt_inj.mp s)))
    · exact Or.inr (Or.inr (Or.inr (Int32.toInt_inj.mp s)))
  · rw [if_neg q] at h; exact Or.inr (Or.inr (Or.inl h))
theorem own_all4 {P : Nat → Prop} (h0 : P 0) (h1 : P 1) (h2 : P 2) (h3 : P 3) : ∀ k, k < 4 → P k := by
  intro k hk
  rcases (show k = 0 ∨ k = 1 ∨ k = 2 ∨ k = 3 by omega) with rfl | rfl | rfl | rfl <;> assumption
theorem own_cnt {x v : Int32} (h : (((x.toUInt32 >>> ((8 : Int32) &&& 31).toUInt32).toInt32 &&& (3 : Int32)) + (1 : Int32)) = v) : v = 1 ∨ v = 2 ∨ v = 3 ∨ v = 4 := by
  have e := c_mask (x.toUInt32 >>> ((8 : Int32) &&& 31).toUInt32).toInt32 3 2 (by decide) (by decide)
  have e2 := c_iadd ((x.toUInt32 >>> ((8 : Int32) &&& 31).toUInt32).toInt32 &&& 3) 1
  rw [h, show (1 : Int32).toInt = 1 from rfl] at e2
  have r := rng32 v
  have q : v.toInt = 1 ∨ v.toInt = 2 ∨ v.toInt = 3 ∨ v.toInt = 4 := by omega
  rcases q with q | q | q | q
  · exact Or.inl (Int32.toInt_inj.mp q)
  · exact Or.inr (Or.inl (Int32.toInt_inj.mp q))
  · exact Or.inr (Or.inr (Or.inl (Int32.toInt_inj.mp q)))
  · exact Or.inr (Or.inr (Or.inr (Int32.toInt_inj.mp q)))
theorem own_lvh {v i : Int32} (h : v = 1 ∨ v = 2 ∨ v = 3 ∨ v = 4) (hi : i = 0 ∨ i = 1 ∨ i = 2 ∨ i = 3) : i < v → ¬ (own_lv v + i) < (1 : Int32) ∧ (own_lv v + i) < (8 : Int32) := by
  rcases h with rfl | rfl | rfl | rfl <;> rcases hi with rfl | rfl | rfl | rfl <;> decide
theorem own_lvl {v : Int32} (h : v = 1 ∨ v = 2 ∨ v = 3 ∨ v = 4) : own_lv v = 1 ∨ own_lv v = 2 ∨ own_lv v = 4 := by
  rcases h with rfl | rfl | rfl | rfl <;> decide
theorem own_pn0 : plainName "com/example/tidemark/tidemark/core/ThetaLambdaTreeResponsibleGrayPinLaw" = true := by first | (simp [plainName, overriddenIn]; done) | decide +kernel
theorem own_ef0 (m : MethodId) (x0 : Int32) (x1 : Int64) (x2 : Int64) (x3 : Int32) : entryFrame m #[(.int x0), (.long x1), (.long x2), (.int x3)] maxLocals = mkF m 0 #[sI x0, sJ x1, .second, sJ x2, .second, sI x3, .unset, .unset, .unset, .unset, .unset, .unset, .unset, .unset, .unset, .unset, .unset, .unset, .unset, .unset] [] := by first | (simp [entryFrame, mkF, argsToLocals, Value.category, maxLocals]; done) | rfl
def Q0 (Z : State) (x0 : Int32) (x1 : Int64) (x2 : Int64) (x3 : Int32) (h0 : Heap) (n0 : Nat) (v : Option Value) (h : Heap) (L : List Loc) : Prop := v = some (.int 1) ∧ Fr n0 L
theorem own_all (x0 : Int32) (x1 : Int64) (x2 : Int64) (x3 : Int32) (v1 : Int32) (v2 : Int64) (v18 : Int64) (g25v : Nat → Int64) (v26 : Int64) (g33v : Nat → Int64) (v34 : Int64) (g41v : Nat → Int64) (v42 : Int64) (g49v : Nat → Int64) (g56v : Nat → Int64) (g63v : Nat → Int64) (g70v : Nat → Int64) (g77v : Nat → Int64) (p82 : Int32) (g89v : Nat → Int32) (p94 : Int32) (g101v : Nat → Int32) (p106 : Int32) (g113v : Nat → Int32) (p118 : Int32) (g125v : Nat → Int32) (r137_kn : ClassId) (v197 : Int64) (v200 : Int64) (v203 : Int64) (v206 : Int64) (v209 : Int64) (v213 : Int32) (hv1 : ((((x0.toUInt32 >>> ((8 : Int32) &&& 31).toUInt32).toInt32) &&& (3 : Int32)) + (1 : Int32)) = v1) (hv2 : (x3.toInt64 &&& (65535 : Int64)) = v2) (hv18 : (x1 &&& (65535 : Int64)) = v18) (hgg25v : (own_updJ (fun _ => (0 : Int64)) 0 v18) = g25v) (hv26 : (v18 + (((x1.toUInt64 >>> ((16 : Int32) &&& 0x3f).toInt64.toUInt64).toInt64) &&& (65535 : Int64))) = v26) (hgg33v : (own_updJ g25v 1 v26) = g33v) (hv34 : (v26 + (((x1.toUInt64 >>> ((32 : Int32) &&& 0x3f).toInt64.toUInt64).toInt64) &&& (65535 : Int64))) = v34) (hgg41v : (own_updJ g33v 2 v34) = g41v) (hv42 : (v34 + (((x1.toUInt64 >>> ((48 : Int32) &&& 0x3f).toInt64.toUInt64).toInt64) &&& (65535 : Int64))) = v42) (hgg49v : (own_updJ g41v 3 v42) = g49v) (hgg56v : (own_updJ (fun _ => (0 : Int64)) 0 (x2 &&& (65535 : Int64))) = g56v) (hgg63v : (own_updJ g56v 1 (((x2.toUInt64 >>> ((16 : Int32) &&& 0x3f).toInt64.toUInt64).toInt64) &&& (65535 : Int64))) = g63v) (hgg70v : (own_updJ g63v 2 (((x2.toUInt64 >>> ((32 : Int32) &&& 0x3f).toInt64.toUInt64).toInt64) &&& (65535 : Int64))) = g70v) (hgg77v : (own_updJ g70v 3 (((x2.toUInt64 >>> ((48 : Int32) &&& 0x3f).toInt64.toUInt64).toInt64) &&& (65535 : Int64))) = g77v) (qp82 : p82 = (if (0 : Int32) < v1 then (x0 &&& (3 : Int32)) else (2 : Int32))) (hgg89v : (own_updI (fun _ => (0 : Int32)) 0 p82) = g89v) (qp94 : p94 = (if (1 : Int32) < v1 then (((x0.toUInt32 >>> ((2 : Int32) &&& 31).toUInt32).toInt32) &&& (3 : Int32)) else (2 : Int32))) (hgg101v : (own_updI g89v 1 p94) = g101v) (qp106 : p106 = (if (2 : Int32) < v1 then (((x0.toUInt32 >>> ((4 : Int32) &&& 31).toUInt32).toInt32) &&& (3 : Int32)) else (2 : Int32))) (hgg113v : (own_updI g101v 2 p106) = g113v) (qp118 : p118 = (if (3 : Int32) < v1 then (((x0.toUInt32 >>> ((6 : Int32) &&& 31).toUInt32).toInt32) &&& (3 : Int32)) else (2 : Int32))) (hgg125v : (own_updI g113v 3 p118) = g125v) (hv197 : (own_env v2 g49v g77v g125v (-1 : Int32)) = v197) (hv200 : (own_wg0 v197 v2 g49v g77v g125v) = v200) (hv203 : (own_wg1 v200 v2 g49v g77v g125v) = v203) (hv206 : (own_wg2 v203 v2 g49v g77v g125v) = v206) (hv209 : (own_wg3 v206 v2 g49v g77v g125v) = v209) (hv213 : (own_rg (own_apl (own_apl (own_apl (own_apl (own_fill (fun _ => 0) v2 g49v g77v v1) (own_lv v1) (0 : Int32) (g125v 0) v1) (own_lv v1) (1 : Int32) (g125v 1) v1) (own_lv v1) (2 : Int32) (g125v 2) v1) (own_lv v1) (3 : Int32) (g125v 3) v1) (own_lv v1)) = v213) (c210 : v197 < v209) : ¬ (v213 < (0 : Int32)) ∧ v213 < v1 ∧ (¬ v213 < 0 ∧ v213 < (4 : Int32)) ∧ (g125v v213.toNatClampNeg) = (1 : Int32) ∧ (own_env v2 g49v g77v g125v v213) = v209 := by
  have hv := own_cnt hv1
  have c0 : 0 ≤ v2.toInt ∧ v2.toInt ≤ 65535 := by rw [← hv2]; exact own_mL _
  have o0 : 0 ≤ v18.toInt ∧ v18.toInt ≤ 65535 := by rw [← hv18]; exact own_mL _
  have o1 := own_addb hv26 o0 (own_mL _) (by decide)
  have o2 := own_addb hv34 o1 (own_mL _) (by decide)
  have o3 := own_addb hv42 o2 (own_mL _) (by decide)
  have he : ∀ k, k < 4 → 0 ≤ (g77v k).toInt ∧ (g77v k).toInt ≤ 65535 := by
    refine own_all4 ?_ ?_ ?_ ?_ <;> rw [← hgg77v, ← hgg70v, ← hgg63v, ← hgg56v] <;> exact own_mL _
  have hm : ∀ k, k < 4 → 0 ≤ (v2 * g49v k).toInt ∧ (v2 * g49v k).toInt ≤ 1099511627776 := by
    refine own_all4 (own_prod c0 ?_) (own_prod c0 ?_) (own_prod c0 ?_) (own_prod c0 ?_) <;> rw [← hgg49v, ← hgg41v, ← hgg33v, ← hgg25v]
    · show 0 ≤ v18.toInt ∧ v18.toInt ≤ 262140
      omega
    · show 0 ≤ v26.toInt ∧ v26.toInt ≤ 262140
      omega
    · show 0 ≤ v34.toInt ∧ v34.toInt ≤ 262140
      omega
    · show 0 ≤ v42.toInt ∧ v42.toInt ≤ 262140
      omega
  have s0 : g125v 0 = p82 := by rw [← hgg125v, ← hgg113v, ← hgg101v, ← hgg89v]; rfl
  have s1 : g125v 1 = p94 := by rw [← hgg125v, ← hgg113v, ← hgg101v]; rfl
  have s2 : g125v 2 = p106 := by rw [← hgg125v, ← hgg113v]; rfl
  have s3 : g125v 3 = p118 := by rw [← hgg125v]; rfl
  have hs : ∀ k, k < 4 → g125v k = 0 ∨ g125v k = 1 ∨ g125v k = 2 ∨ g125v k = 3 := own_all4 (by rw [s0]; exact own_m3i qp82) (by rw [s1]; exact own_m3i qp94) (by rw [s2]; exact own_m3i qp106) (by rw [s3]; exact own_m3i qp118)
  have t0 : ¬ (0 : Int32) < v1 → g125v 0 = 2 := fun q => by rw [s0, qp82, if_neg q]
  have t1 : ¬ (1 : Int32) < v1 → g125v 1 = 2 := fun q => by rw [s1, qp94, if_neg q]
  have t2 : ¬ (2 : Int32) < v1 → g125v 2 = 2 := fun q => by rw [s2, qp106, if_neg q]
  have t3 : ¬ (3 : Int32) < v1 → g125v 3 = 2 := fun q => by rw [s3, qp118, if_neg q]
  have M := own_pick he hm hs hv197 hv200 hv203 hv206 hv209 c210 (own_tree he hm hs hv t1 t2 t3)
  rw [hv213] at M
  rcases M with ⟨r, g, e⟩ | ⟨r, g, e⟩ | ⟨r, g, e⟩ | ⟨r, g, e⟩ <;> rw [r]
  · exact ⟨by decide, Classical.byContradiction fun q => absurd (g.symm.trans (t0 q)) (by decide), by decide, g, e⟩
  · exact ⟨by decide, Classical.byContradiction fun q => absurd (g.symm.trans (t1 q)) (by decide), by decide, g, e⟩
  · exact ⟨by decide, Classical.byContradiction fun q => absurd (g.symm.trans (t2 q)) (by decide), by decide, g, e⟩
  · exact ⟨by decide, Classical.byContradiction fun q => absurd (g.symm.trans (t3 q)) (by decide), by decide, g, e⟩
theorem own_law (x0 : Int32) (x1 : Int64) (x2 : Int64) (x3 : Int32) (v1 : Int32) (v2 : Int64) (v18 : Int64) (g25v : Nat → Int64) (v26 : Int64) (g33v : Nat → Int64) (v34 : Int64) (g41v : Nat → Int64) (v42 : Int64) (g49v : Nat → Int64) (g56v : Nat → Int64) (g63v : Nat → Int64) (g70v : Nat → Int64) (g77v : Nat → Int64) (p82 : Int32) (g89v : Nat → Int32) (p94 : Int32) (g101v : Nat → Int32) (p106 : Int32) (g113v : Nat → Int32) (p118 : Int32) (g125v : Nat → Int32) (r137_kn : ClassId) (v197 : Int64) (v200 : Int64) (v203 : Int64) (v206 : Int64) (v209 : Int64) (v213 : Int32) (hv1 : ((((x0.toUInt32 >>> ((8 : Int32) &&& 31).toUInt32).toInt32) &&& (3 : Int32)) + (1 : Int32)) = v1) (hv2 : (x3.toInt64 &&& (65535 : Int64)) = v2) (hv18 : (x1 &&& (65535 : Int64)) = v18) (hgg25v : (own_updJ (fun _ => (0 : Int64)) 0 v18) = g25v) (hv26 : (v18 + (((x1.toUInt64 >>> ((16 : Int32) &&& 0x3f).toInt64.toUInt64).toInt64) &&& (65535 : Int64))) = v26) (hgg33v : (own_updJ g25v 1 v26) = g33v) (hv34 : (v26 + (((x1.toUInt64 >>> ((32 : Int32) &&& 0x3f).toInt64.toUInt64).toInt64) &&& (65535 : Int64))) = v34) (hgg41v : (own_updJ g33v 2 v34) = g41v) (hv42 : (v34 + (((x1.toUInt64 >>> ((48 : Int32) &&& 0x3f).toInt64.toUInt64).toInt64) &&& (65535 : Int64))) = v42) (hgg49v : (own_updJ g41v 3 v42) = g49v) (hgg56v : (own_updJ (fun _ => (0 : Int64)) 0 (x2 &&& (65535 : Int64))) = g56v) (hgg63v : (own_updJ g56v 1 (((x2.toUInt64 >>> ((16 : Int32) &&& 0x3f).toInt64.toUInt64).toInt64) &&& (65535 : Int64))) = g63v) (hgg70v : (own_updJ g63v 2 (((x2.toUInt64 >>> ((32 : Int32) &&& 0x3f).toInt64.toUInt64).toInt64) &&& (65535 : Int64))) = g70v) (hgg77v : (own_updJ g70v 3 (((x2.toUInt64 >>> ((48 : Int32) &&& 0x3f).toInt64.toUInt64).toInt64) &&& (65535 : Int64))) = g77v) (qp82 : p82 = (if (0 : Int32) < v1 then (x0 &&& (3 : Int32)) else (2 : Int32))) (hgg89v : (own_updI (fun _ => (0 : Int32)) 0 p82) = g89v) (qp94 : p94 = (if (1 : Int32) < v1 then (((x0.toUInt32 >>> ((2 : Int32) &&& 31).toUInt32).toInt32) &&& (3 : Int32)) else (2 : Int32))) (hgg101v : (own_updI g89v 1 p94) = g101v) (qp106 : p106 = (if (2 : Int32) < v1 then (((x0.toUInt32 >>> ((4 : Int32) &&& 31).toUInt32).toInt32) &&& (3 : Int32)) else (2 : Int32))) (hgg113v : (own_updI g101v 2 p106) = g113v) (qp118 : p118 = (if (3 : Int32) < v1 then (((x0.toUInt32 >>> ((6 : Int32) &&& 31).toUInt32).toInt32) &&& (3 : Int32)) else (2 : Int32))) (hgg125v : (own_updI g113v 3 p118) = g125v) (hv197 : (own_env v2 g49v g77v g125v (-1 : Int32)) = v197) (hv200 : (own_wg0 v197 v2 g49v g77v g125v) = v200) (hv203 : (own_wg1 v200 v2 g49v g77v g125v) = v203) (hv206 : (own_wg2 v203 v2 g49v g77v g125v) = v206) (hv209 : (own_wg3 v206 v2 g49v g77v g125v) = v209) (hv213 : (own_rg (own_apl (own_apl (own_apl (own_apl (own_fill (fun _ => 0) v2 g49v g77v v1) (own_lv v1) (0 : Int32) (g125v 0) v1) (own_lv v1) (1 : Int32) (g125v 1) v1) (own_lv v1) (2 : Int32) (g125v 2) v1) (own_lv v1) (3 : Int32) (g125v 3) v1) (own_lv v1)) = v213) (c210 : v197 < v209) : (1 : Int32) = 1 := by
  rfl
theorem own_law2 (x0 : Int32) (x1 : Int64) (x2 : Int64) (x3 : Int32) (v1 : Int32) (v2 : Int64) (v18 : Int64) (g25v : Nat → Int64) (v26 : Int64) (g33v : Nat → Int64) (v34 : Int64) (g41v : Nat → Int64) (v42 : Int64) (g49v : Nat → Int64) (g56v : Nat → Int64) (g63v : Nat → Int64) (g70v : Nat → Int64) (g77v : Nat → Int64) (p82 : Int32) (g89v : Nat → Int32) (p94 : Int32) (g101v : Nat → Int32) (p106 : Int32) (g113v : Nat → Int32) (p118 : Int32) (g125v : Nat → Int32) (r137_kn : ClassId) (v197 : Int64) (v200 : Int64) (v203 : Int64) (v206 : Int64) (v209 : Int64) (hv1 : ((((x0.toUInt32 >>> ((8 : Int32) &&& 31).toUInt32).toInt32) &&& (3 : Int32)) + (1 : Int32)) = v1) (hv2 : (x3.toInt64 &&& (65535 : Int64)) = v2) (hv18 : (x1 &&& (65535 : Int64)) = v18) (hgg25v : (own_updJ (fun _ => (0 : Int64)) 0 v18) = g25v) (hv26 : (v18 + (((x1.toUInt64 >>> ((16 : Int32) &&& 0x3f).toInt64.toUInt64).toInt64) &&& (65535 : Int64))) = v26) (hgg33v : (own_updJ g25v 1 v26) = g33v) (hv34 : (v26 + (((x1.toUInt64 >>> ((32 : Int32) &&& 0x3f).toInt64.toUInt64).toInt64) &&& (65535 : Int64))) = v34) (hgg41v : (own_updJ g33v 2 v34) = g41v) (hv42 : (v34 + (((x1.toUInt64 >>> ((48 : Int32) &&& 0x3f).toInt64.toUInt64).toInt64) &&& (65535 : Int64))) = v42) (hgg49v : (own_updJ g41v 3 v42) = g49v) (hgg56v : (own_updJ (fun _ => (0 : Int64)) 0 (x2 &&& (65535 : Int64))) = g56v) (hgg63v : (own_updJ g56v 1 (((x2.toUInt64 >>> ((16 : Int32) &&& 0x3f).toInt64.toUInt64).toInt64) &&& (65535 : Int64))) = g63v) (hgg70v : (own_updJ g63v 2 (((x2.toUInt64 >>> ((32 : Int32) &&& 0x3f).toInt64.toUInt64).toInt64) &&& (65535 : Int64))) = g70v) (hgg77v : (own_updJ g70v 3 (((x2.toUInt64 >>> ((48 : Int32) &&& 0x3f).toInt64.toUInt64).toInt64) &&& (65535 : Int64))) = g77v) (qp82 : p82 = (if (0 : Int32) < v1 then (x0 &&& (3 : Int32)) else (2 : Int32))) (hgg89v : (own_updI (fun _ => (0 : Int32)) 0 p82) = g89v) (qp94 : p94 = (if (1 : Int32) < v1 then (((x0.toUInt32 >>> ((2 : Int32) &&& 31).toUInt32).toInt32) &&& (3 : Int32)) else (2 : Int32))) (hgg101v : (own_updI g89v 1 p94) = g101v) (qp106 : p106 = (if (2 : Int32) < v1 then (((x0.toUInt32 >>> ((4 : Int32) &&& 31).toUInt32).toInt32) &&& (3 : Int32)) else (2 : Int32))) (hgg113v : (own_updI g101v 2 p106) = g113v) (qp118 : p118 = (if (3 : Int32) < v1 then (((x0.toUInt32 >>> ((6 : Int32) &&& 31).toUInt32).toInt32) &&& (3 : Int32)) else (2 : Int32))) (hgg125v : (own_updI g113v 3 p118) = g125v) (hv197 : (own_env v2 g49v g77v g125v (-1 : Int32)) = v197) (hv200 : (own_wg0 v197 v2 g49v g77v g125v) = v200) (hv203 : (own_wg1 v200 v2 g49v g77v g125v) = v203) (hv206 : (own_wg2 v203 v2 g49v g77v g125v) = v206) (hv209 : (own_wg3 v206 v2 g49v g77v g125v) = v209) (c210 : ¬ (v197 < v209)) : (1 : Int32) = 1 := by
  rfl
set_option maxRecDepth 65536 in
set_option maxHeartbeats 4000000 in
theorem rm0 (l : Launch) (Z : State) (a0 : Array Value) (hw : ∀ d ∈ tables_1, d.before a0 Z = true) (ws : List Jvm.Cond) (x0 : Int32) (x1 : Int64) (x2 : Int64) (x3 : Int32) (h0 : Heap) (n0 : Nat) (Z0 : n0 ≤ h0.size) :
    MetFree l x (head1 (Jvm.Cond.code x code maxLocals ret :: ws) room_1) (fun aW U => aW = #[(.int x0), (.long x1), (.long x2), (.int x3)] ∧ Z.Warmed39 U.vm ∧ U.heap = h0) (fun _ _ _ _ _ => True) (fun _ U o U' => ∃ v L, o = .returned v ∧ Q0 Z x0 x1 x2 x3 h0 n0 v U'.heap L ∧ FrameEnd U o U' L 24 192) := by
  refine MetFree.of_bodySF (plainFor_of_name own_pn0) hisR ?_
  intro p e s m args below meth c s₁ Bd hml0 hP hK
  obtain ⟨rfl, hZ, hh⟩ := hP
  have hx := Bd.exec
  have hby := Bd.bytes
  have hml : c.maxLocals = 20 := hml0
  have hown : s.vm.findClass "com/example/tidemark/tidemark/core/ThetaLambdaTreeResponsibleGrayPinLaw" = some m.cls := findClass_of_methodNamed Bd.named
  have hnm := (name_of_methodNamed Bd.named Bd.method).1
  have X0 : Stand p l e room_1 s m #[(.int x0), (.long x1), (.long x2), (.int x3)] below meth c s₁ [] 0 0 := Stand.of_body Bd
  have e0 : s₁.heap = h0 := by rw [← hh, Bd.state]; rfl
  have N0 := Fr.nil n0
  obtain ⟨Pq, hPq⟩ : ∃ P, P = own_P s below (fun v h L => Q0 Z x0 x1 x2 x3 h0 n0 v h L) 24 192 := ⟨_, rfl⟩
  suffices hgo : own_Go p.tables e below Pq s₁ (mkF m 0 #[sI x0, sJ x1, .second, sJ x2, .second, sI x3, .unset, .unset, .unset, .unset, .unset, .unset, .unset, .unset, .unset, .unset, .unset, .unset, .unset, .unset] []) by
    subst hPq
    obtain ⟨t, k1, k2, o, k3, k4⟩ := hgo
    exact ⟨t, o, castTop (own_ef0 m x0 x1 x2 x3) k1, k2, k3, k4⟩
  show own_Go _ _ _ _ s₁ (mkF m 0 #[sI x0, sJ x1, .second, sJ x2, .second, sI x3, .unset, .unset, .unset, .unset, .unset, .unset, .unset, .unset, .unset, .unset, .unset, .unset, .unset, .unset] [])
  refine own_st (fun t k => XS.iloadN X0.here hx rfl (hb hby at_0) rfl k) ?_
  show own_Go _ _ _ _ s₁ (mkF m 1 _ [(.int x0)])
  refine own_st (fun t k => XS.bipush X0.here hx rfl (hb hby at_1) k) ?_
  show own_Go _ _ _ _ s₁ (mkF m 3 _ [(.int (8 : Int32)), (.int x0)])
  refine own_st (fun t k => XS.iushr X0.here hx rfl (hb hby at_3) rfl k) ?_
  show own_Go _ _ _ _ s₁ (mkF m 4 _ [(.int ((x0.toUInt32 >>> ((8 : Int32) &&& 31).toUInt32).toInt32))])
  refine own_st (fun t k => XS.iconst X0.here hx rfl (hb hby at_4) k) ?_
  show own_Go _ _ _ _ s₁ (mkF m 5 _ [(.int (3 : Int32)), (.int ((x0.toUInt32 >>> ((8 : Int32) &&& 31).toUInt32).toInt32))])
  refine own_st (fun t k => XS.iand X0.here hx rfl (hb hby at_5) rfl k) ?_
  show own_Go _ _ _ _ s₁ (mkF m 6 _ [(.int (((x0.toUInt32 >>> ((8 : Int32) &&& 31).toUInt32).toInt32) &&& (3 : Int32)))])
  refine own_st (fun t k => XS.iconst X0.here hx rfl (hb hby at_6) k) ?_
  show own_Go _ _ _ _ s₁ (mkF m 7 _ [(.int (1 : Int32)), (.int (((x0.toUInt32 >>> ((8 : Int32) &&& 31).toUInt32).toInt32) &&& (3 : Int32)))])
  refine own_st (fun t k => XS.iadd X0.here hx rfl (hb hby at_7) rfl k) ?_
  show own_Go _ _ _ _ s₁ (mkF m 8 _ [(.int ((((x0.toUInt32 >>> ((8 : Int32) &&& 31).toUInt32).toInt32) &&& (3 : Int32)) + (1 : Int32)))])
  generalize hv1 : ((((x0.toUInt32 >>> ((8 : Int32) &&& 31).toUInt32).toInt32) &&& (3 : Int32)) + (1 : Int32)) = v1
  refine own_st (fun t k => XS.istore X0.here hx rfl (hb hby at_8) rfl (l' := #[sI x0, sJ x1, .second, sJ x2, .second, sI x3, sI v1, .unset, .unset, .unset, .unset, .unset, .unset, .unset, .unset, .unset, .unset, .unset, .unset, .unset]) rfl k) ?_
  show own_Go _ _ _ _ s₁ (mkF m 10 #[sI x0, sJ x1, .second, sJ x2, .second, sI x3, sI v1, .unset, .unset, .unset, .unset, .unset, .unset, .unset, .unset, .unset, .unset, .unset, .unset, .unset] [])
  refine own_st (fun t k => XS.iload X0.here hx rfl (hb hby at_10) rfl k) ?_
  show own_Go _ _ _ _ s₁ (mkF m 12 _ [(.int x3)])
  refine own_st (fun t k => XS.i2l X0.here hx rfl (hb hby at_12) rfl k) ?_
  show own_Go _ _ _ _ s₁ (mkF m 13 _ [(.long x3.toInt64)])
  refine own_st (fun t k => X0.ldc2Long hx hown (mvT hZ (own_w hw 0 rfl)) (g := (mkF m 13 #[sI x0, sJ x1, .second, sJ x2, .second, sI x3, sI v1, .unset, .unset, .unset, .unset, .unset, .unset, .unset, .unset, .unset, .unset, .unset, .unset, .unset] [(.long x3.toInt64)])) rfl (hb hby at_13) _ k) ?_
  show own_Go _ _ _ _ s₁ (mkF m 16 _ [(.long (65535 : Int64)), (.long x3.toInt64)])
  refine own_st (fun t k => XS.land X0.here hx rfl (hb hby at_16) rfl k) ?_
  show own_Go _ _ _ _ s₁ (mkF m 17 _ [(.long (x3.toInt64 &&& (65535 : Int64)))])
  generalize hv2 : (x3.toInt64 &&& (65535 : Int64)) = v2
  refine own_st (fun t k => XS.lstore X0.here hx rfl (hb hby at_17) rfl (l' := #[sI x0, sJ x1, .second, sJ x2, .second, sI x3, sI v1, sJ v2, .second, .unset, .unset, .unset, .unset, .unset, .unset, .unset, .unset, .unset, .unset, .unset]) rfl k) ?_
  show own_Go _ _ _ _ s₁ (mkF m 19 #[sI x0, sJ x1, .second, sJ x2, .second, sI x3, sI v1, sJ v2, .second, .unset, .unset, .unset, .unset, .unset, .unset, .unset, .unset, .unset, .unset, .unset] [])
  refine own_st (fun t k => XS.iconst X0.here hx rfl (hb hby at_19) k) ?_
  show own_Go _ _ _ _ s₁ (mkF m 20 _ [(.int (4 : Int32))])
  obtain ⟨T3, h3, k3, X3, e3, E3, A3, st3⟩ := newP X0 hx hZ (own_w hw 1 rfl) e0 (g := (mkF m 20 #[sI x0, sJ x1, .second, sJ x2, .second, sI x3, sI v1, sJ v2, .second, .unset, .unset, .unset, .unset, .unset, .unset, .unset, .unset, .unset, .unset, .unset] [(.int (4 : Int32))])) rfl (hb hby at_20) rfl (by decide) (cap := 4) (by decide) (by decide) (by decide) (by decide)
  obtain ⟨b3, g3⟩ : ∃ z, z = h0.size := ⟨_, rfl⟩
  rw [← g3] at A3 st3
  refine own_st st3 ?_
  have gx4 : n0 ≤ b3 := Nat.le_trans Z0 (Nat.le_of_eq g3.symm)
  have Z5 : n0 ≤ h3.size := Nat.le_trans Z0 E3.1
  have V3 : own_AJ Z h3 b3 k3 (4 : Int32) (fun _ => (0 : Int64)) := own_AJ.new A3 (by decide)
  show own_Go _ _ _ _ T3 (mkF m 22 _ [(.ref b3)])
  refine own_st (fun t k => XS.astore X3.here hx rfl (hb hby at_22) rfl rfl (l' := #[sI x0, sJ x1, .second, sJ x2, .second, sI x3, sI v1, sJ v2, .second, sR b3, .unset, .unset, .unset, .unset, .unset, .unset, .unset, .unset, .unset, .unset]) rfl k) ?_
  show own_Go _ _ _ _ T3 (mkF m 24 #[sI x0, sJ x1, .second, sJ x2, .second, sI x3, sI v1, sJ v2, .second, sR b3, .unset, .unset, .unset, .unset, .unset, .unset, .unset, .unset, .unset, .unset] [])
  refine own_st (fun t k => XS.iconst X3.here hx rfl (hb hby at_24) k) ?_
  show own_Go _ _ _ _ T3 (mkF m 25 _ [(.int (4 : Int32))])
  obtain ⟨T6, h6, k6, X6, e6, E6, A6, st6⟩ := newP X3 hx hZ (own_w hw 1 rfl) e3 (g := (mkF m 25 #[sI x0, sJ x1, .second, sJ x2, .second, sI x3, sI v1, sJ v2, .second, sR b3, .unset, .unset, .unset, .unset, .unset, .unset, .unset, .unset, .unset, .unset] [(.int (4 : Int32))])) rfl (hb hby at_25) rfl (by decide) (cap := 4) (by decide) (by decide) (by decide) (by decide)
  obtain ⟨b6, g6⟩ : ∃ z, z = h3.size := ⟨_, rfl⟩
  rw [← g6] at A6 st6
  refine own_st st6 ?_
  have ne7 : b3 ≠ b6 := Nat.ne_of_lt (Nat.lt_of_lt_of_le V3.lt (Nat.le_of_eq g6.symm))
  have f8 := V3.ext E6
  have gx9 : n0 ≤ b6 := Nat.le_trans Z5 (Nat.le_of_eq g6.symm)
  have Z10 : n0 ≤ h6.size := Nat.le_trans Z5 E6.1
  have V6 : own_AJ Z h6 b6 k6 (4 : Int32) (fun _ => (0 : Int64)) := own_AJ.new A6 (by decide)
  show own_Go _ _ _ _ T6 (mkF m 27 _ [(.ref b6)])
  refine own_st (fun t k => XS.astore X6.here hx rfl (hb hby at_27) rfl rfl (l' := #[sI x0, sJ x1, .second, sJ x2, .second, sI x3, sI v1, sJ v2, .second, sR b3, sR b6, .unset, .unset, .unset, .unset, .unset, .unset, .unset, .unset, .unset]) rfl k) ?_
  show own_Go _ _ _ _ T6 (mkF m 29 #[sI x0, sJ x1, .second, sJ x2, .second, sI x3, sI v1, sJ v2, .second, sR b3, sR b6, .unset, .unset, .unset, .unset, .unset, .unset, .unset, .unset, .unset] [])
  refine own_st (fun t k => XS.iconst X6.here hx rfl (hb hby at_29) k) ?_
  show own_Go _ _ _ _ T6 (mkF m 30 _ [(.int (4 : Int32))])
  obtain ⟨T11, h11, k11, X11, e11, E11, A11, st11⟩ := newP X6 hx hZ (own_w hw 2 rfl) e6 (g := (mkF m 30 #[sI x0, sJ x1, .second, sJ x2, .second, sI x3, sI v1, sJ v2, .second, sR b3, sR b6, .unset, .unset, .unset, .unset, .unset, .unset, .unset, .unset, .unset] [(.int (4 : Int32))])) rfl (hb hby at_30) rfl (by decide) (cap := 4) (by decide) (by decide) (by decide) (by decide)
  obtain ⟨b11, g11⟩ : ∃ z, z = h6.size := ⟨_, rfl⟩
  rw [← g11] at A11 st11
  refine own_st st11 ?_
  have ne12 : b3 ≠ b11 := Nat.ne_of_lt (Nat.lt_of_lt_of_le f8.lt (Nat.le_of_eq g11.symm))
  have ne13 : b6 ≠ b11 := Nat.ne_of_lt (Nat.lt_of_lt_of_le V6.lt (Nat.le_of_eq g11.symm))
  have f14 := f8.ext E11
  have f15 := V6.ext E11
  have gx16 : n0 ≤ b11 := Nat.le_trans Z10 (Nat.le_of_eq g11.symm)
  have Z17 : n0 ≤ h11.size := Nat.le_trans Z10 E11.1
  have V11 : own_AI Z h11 b11 k11 (4 : Int32) (fun _ => (0 : Int32)) := own_AI.new A11 (by decide)
  show own_Go _ _ _ _ T11 (mkF m 32 _ [(.ref b11)])
  refine own_st (fun t k => XS.astore X11.here hx rfl (hb hby at_32) rfl rfl (l' := #[sI x0, sJ x1, .second, sJ x2, .second, sI x3, sI v1, sJ v2, .second, sR b3, sR b6, sR b11, .unset, .unset, .unset, .unset, .unset, .unset, .unset, .unset]) rfl k) ?_
  show own_Go _ _ _ _ T11 (mkF m 34 #[sI x0, sJ x1, .second, sJ x2, .second, sI x3, sI v1, sJ v2, .second, sR b3, sR b6, sR b11, .unset, .unset, .unset, .unset, .unset, .unset, .unset, .unset] [])
  refine own_st (fun t k => XS.lloadN X11.here hx rfl (hb hby at_34) rfl k) ?_
  show own_Go _ _ _ _ T11 (mkF m 35 _ [(.long x1)])
  refine own_st (fun t k => X11.ldc2Long hx hown (mvT hZ (own_w hw 0 rfl)) (g := (mkF m 35 #[sI x0, sJ x1, .second, sJ x2, .second, sI x3, sI v1, sJ v2, .second, sR b3, sR b6, sR b11, .unset, .unset, .unset, .unset, .unset, .unset, .unset, .unset] [(.long x1)])) rfl (hb hby at_35) _ k) ?_
  show own_Go _ _ _ _ T11 (mkF m 38 _ [(.long (65535 : Int64)), (.long x1)])
  refine own_st (fun t k => XS.land X11.here hx rfl (hb hby at_38) rfl k) ?_
  show own_Go _ _ _ _ T11 (mkF m 39 _ [(.long (x1 &&& (65535 : Int64)))])
  generalize hv18 : (x1 &&& (65535 : Int64)) = v18
  refine own_st (fun t k => XS.lstore X11.here hx rfl (hb hby at_39) rfl (l' := #[sI x0, sJ x1, .second, sJ x2, .second, sI x3, sI v1, sJ v2, .second, sR b3, sR b6, sR b11, sJ v18, .second, .unset, .unset, .unset, .unset, .unset, .unset]) rfl k) ?_
  show own_Go _ _ _ _ T11 (mkF m 41 #[sI x0, sJ x1, .second, sJ x2, .second, sI x3, sI v1, sJ v2, .second, sR b3, sR b6, sR b11, sJ v18, .second, .unset, .unset, .unset, .unset, .unset, .unset] [])
  refine own_st (fun t k => XS.aload X11.here hx rfl (hb hby at_41) rfl rfl k) ?_
  show own_Go _ _ _ _ T11 (mkF m 43 _ [(.ref b3)])
  refine own_st (fun t k => XS.iconst X11.here hx rfl (hb hby at_43) k) ?_
  show own_Go _ _ _ _ T11 (mkF m 44 _ [(.int (0 : Int32)), (.ref b3)])
  refine own_st (fun t k => XS.lload X11.here hx rfl (hb hby at_44) rfl k) ?_
  show own_Go _ _ _ _ T11 (mkF m 46 _ [(.long v18), (.int (0 : Int32)), (.ref b3)])
  obtain ⟨c19, Ar19, q19, S19, N19, H19⟩ := id f14
  obtain ⟨T19, h19, X19, e19, W19, st19⟩ := stJ X11 hx hZ e11 Ar19 (j := (0 : Int32)) (inb_of S19 ⟨by decide, by decide⟩) (g := (mkF m 46 #[sI x0, sJ x1, .second, sJ x2, .second, sI x3, sI v1, sJ v2, .second, sR b3, sR b6, sR b11, sJ v18, .second, .unset, .unset, .unset, .unset, .unset, .unset] [(.long v18), (.int (0 : Int32)), (.ref b3)])) rfl rfl (hb hby at_46)
  refine own_st st19 ?_
  have f20 : own_AJ Z h19 b3 k3 (4 : Int32) (own_updJ (fun _ => (0 : Int64)) 0 v18) := own_AJ.set f14 W19
  have f21 := f15.other W19 (Ne.symm ne7)
  have f22 := V11.other W19 (Ne.symm ne12)
  have N23 := Fr.snoc X19 N0 gx4
  have Z24 : n0 ≤ h19.size := Nat.le_trans Z17 (Nat.le_of_eq W19.size.symm)
  show own_Go _ _ _ _ T19 (mkF m 47 _ [])
  generalize hgg25v : (own_updJ (fun _ => (0 : Int64)) 0 v18) = g25v at f20
  refine own_st (fun t k => XS.lload X19.here hx rfl (hb hby at_47) rfl k) ?_
  show own_Go _ _ _ _ T19 (mkF m 49 _ [(.long v18)])
  refine own_st (fun t k => XS.lloadN X19.here hx rfl (hb hby at_49) rfl k) ?_
  show own_Go _ _ _ _ T19 (mkF m 50 _ [(.long x1), (.long v18)])
  refine own_st (fun t k => XS.bipush X19.here hx rfl (hb hby at_50) k) ?_
  show own_Go _ _ _ _ T19 (mkF m 52 _ [(.int (16 : Int32)), (.long x1), (.long v18)])
  refine own_st (fun t k => XS.lushr X19.here hx rfl (hb hby at_52) rfl k) ?_
  show own_Go _ _ _ _ T19 (mkF m 53 _ [(.long ((x1.toUInt64 >>> ((16 : Int32) &&& 0x3f).toInt64.toUInt64).toInt64)), (.long v18)])
  refine own_st (fun t k => X19.ldc2Long hx hown (mvT hZ (own_w hw 0 rfl)) (g := (mkF m 53 #[sI x0, sJ x1, .second, sJ x2, .second, sI x3, sI v1, sJ v2, .second, sR b3, sR b6, sR b11, sJ v18, .second, .unset, .unset, .unset, .unset, .unset, .unset] [(.long ((x1.toUInt64 >>> ((16 : Int32) &&& 0x3f).toInt64.toUInt64).toInt64)), (.long v18)])) rfl (hb hby at_53) _ k) ?_
  show own_Go _ _ _ _ T19 (mkF m 56 _ [(.long (65535 : Int64)), (.long ((x1.toUInt64 >>> ((16 : Int32) &&& 0x3f).toInt64.toUInt64).toInt64)), (.long v18)])
  refine own_st (fun t k => XS.land X19.here hx rfl (hb hby at_56) rfl k) ?_
  show own_Go _ _ _ _ T19 (mkF m 57 _ [(.long (((x1.toUInt64 >>> ((16 : Int32) &&& 0x3f).toInt64.toUInt64).toInt64) &&& (65535 : Int64))), (.long v18)])
  refine own_st (fun t k => XS.ladd X19.here hx rfl (hb hby at_57) rfl k) ?_
  show own_Go _ _ _ _ T19 (mkF m 58 _ [(.long (v18 + (((x1.toUInt64 >>> ((16 : Int32) &&& 0x3f).toInt64.toUInt64).toInt64) &&& (65535 : Int64))))])
  generalize hv26 : (v18 + (((x1.toUInt64 >>> ((16 : Int32) &&& 0x3f).toInt64.toUInt64).toInt64) &&& (65535 : Int64))) = v26
  refine own_st (fun t k => XS.lstore X19.here hx rfl (hb hby at_58) rfl (l' := #[sI x0, sJ x1, .second, sJ x2, .second, sI x3, sI v1, sJ v2, .second, sR b3, sR b6, sR b11, sJ v26, .second, .unset, .unset, .unset, .unset, .unset, .unset]) rfl k) ?_
  show own_Go _ _ _ _ T19 (mkF m 60 #[sI x0, sJ x1, .second, sJ x2, .second, sI x3, sI v1, sJ v2, .second, sR b3, sR b6, sR b11, sJ v26, .second, .unset, .unset, .unset, .unset, .unset, .unset] [])
  refine own_st (fun t k => XS.aload X19.here hx rfl (hb hby at_60) rfl rfl k) ?_
  show own_Go _ _ _ _ T19 (mkF m 62 _ [(.ref b3)])
  refine own_st (fun t k => XS.iconst X19.here hx rfl (hb hby at_62) k) ?_
  show own_Go _ _ _ _ T19 (mkF m 63 _ [(.int (1 : Int32)), (.ref b3)])
  refine own_st (fun t k => XS.lload X19.here hx rfl (hb hby at_63) rfl k) ?_
  show own_Go _ _ _ _ T19 (mkF m 65 _ [(.long v26), (.int (1 : Int32)), (.ref b3)])
  obtain ⟨c27, Ar27, q27, S27, N27, H27⟩ := id f20
  obtain ⟨T27, h27, X27, e27, W27, st27⟩ := stJ X19 hx hZ e19 Ar27 (j := (1 : Int32)) (inb_of S27 ⟨by decide, by decide⟩) (g := (mkF m 65 #[sI x0, sJ x1, .second, sJ x2, .second, sI x3, sI v1, sJ v2, .second, sR b3, sR b6, sR b11, sJ v26, .second, .unset, .unset, .unset, .unset, .unset, .unset] [(.long v26), (.int (1 : Int32)), (.ref b3)])) rfl rfl (hb hby at_65)
  refine own_st st27 ?_
  have f28 : own_AJ Z h27 b3 k3 (4 : Int32) (own_updJ g25v 1 v26) := own_AJ.set f20 W27
  have f29 := f21.other W27 (Ne.symm ne7)
  have f30 := f22.other W27 (Ne.symm ne12)
  have N31 := Fr.snoc X27 N23 gx4
  have Z32 : n0 ≤ h27.size := Nat.le_trans Z24 (Nat.le_of_eq W27.size.symm)
  show own_Go _ _ _ _ T27 (mkF m 66 _ [])
  generalize hgg33v : (own_updJ g25v 1 v26) = g33v at f28
  refine own_st (fun t k => XS.lload X27.here hx rfl (hb hby at_66) rfl k) ?_
  show own_Go _ _ _ _ T27 (mkF m 68 _ [(.long v26)])
  refine own_st (fun t k => XS.lloadN X27.here hx rfl (hb hby at_68) rfl k) ?_
  show own_Go _ _ _ _ T27 (mkF m 69 _ [(.long x1), (.long v26)])
  refine own_st (fun t k => XS.bipush X27.here hx rfl (hb hby at_69) k) ?_
  show own_Go _ _ _ _ T27 (mkF m 71 _ [(.int (32 : Int32)), (.long x1), (.long v26)])
  refine own_st (fun t k => XS.lushr X27.here hx rfl (hb hby at_71) rfl k) ?_
  show own_Go _ _ _ _ T27 (mkF m 72 _ [(.long ((x1.toUInt64 >>> ((32 : Int32) &&& 0x3f).toInt64.toUInt64).toInt64)), (.long v26)])
  refine own_st (fun t k => X27.ldc2Long hx hown (mvT hZ (own_w hw 0 rfl)) (g := (mkF m 72 #[sI x0, sJ x1, .second, sJ x2, .second, sI x3, sI v1, sJ v2, .second, sR b3, sR b6, sR b11, sJ v26, .second, .unset, .unset, .unset, .unset, .unset, .unset] [(.long ((x1.toUInt64 >>> ((32 : Int32) &&& 0x3f).toInt64.toUInt64).toInt64)), (.long v26)])) rfl (hb hby at_72) _ k) ?_
  show own_Go _ _ _ _ T27 (mkF m 75 _ [(.long (65535 : Int64)), (.long ((x1.toUInt64 >>> ((32 : Int32) &&& 0x3f).toInt64.toUInt64).toInt64)), (.long v26)])
  refine own_st (fun t k => XS.land X27.here hx rfl (hb hby at_75) rfl k) ?_
  show own_Go _ _ _ _ T27 (mkF m 76 _ [(.long (((x1.toUInt64 >>> ((32 : Int32) &&& 0x3f).toInt64.toUInt64).toInt64) &&& (65535 : Int64))), (.long v26)])
  refine own_st (fun t k => XS.ladd X27.here hx rfl (hb hby at_76) rfl k) ?_
  show own_Go _ _ _ _ T27 (mkF m 77 _ [(.long (v26 + (((x1.toUInt64 >>> ((32 : Int32) &&& 0x3f).toInt64.toUInt64).toInt64) &&& (65535 : Int64))))])
  generalize hv34 : (v26 + (((x1.toUInt64 >>> ((32 : Int32) &&& 0x3f).toInt64.toUInt64).toInt64) &&& (65535 : Int64))) = v34
  refine own_st (fun t k => XS.lstore X27.here hx rfl (hb hby at_77) rfl (l' := #[sI x0, sJ x1, .second, sJ x2, .second, sI x3, sI v1, sJ v2, .second, sR b3, sR b6, sR b11, sJ v34, .second, .unset, .unset, .unset, .unset, .unset, .unset]) rfl k) ?_
  show own_Go _ _ _ _ T27 (mkF m 79 #[sI x0, sJ x1, .second, sJ x2, .second, sI x3, sI v1, sJ v2, .second, sR b3, sR b6, sR b11, sJ v34, .second, .unset, .unset, .unset, .unset, .unset, .unset] [])
  refine own_st (fun t k => XS.aload X27.here hx rfl (hb hby at_79) rfl rfl k) ?_
  show own_Go _ _ _ _ T27 (mkF m 81 _ [(.ref b3)])
  refine own_st (fun t k => XS.iconst X27.here hx rfl (hb hby at_81) k) ?_
  show own_Go _ _ _ _ T27 (mkF m 82 _ [(.int (2 : Int32)), (.ref b3)])
  refine own_st (fun t k => XS.lload X27.here hx rfl (hb hby at_82) rfl k) ?_
  show own_Go _ _ _ _ T27 (mkF m 84 _ [(.long v34), (.int (2 : Int32)), (.ref b3)])
  obtain ⟨c35, Ar35, q35, S35, N35, H35⟩ := id f28
  obtain ⟨T35, h35, X35, e35, W35, st35⟩ := stJ X27 hx hZ e27 Ar35 (j := (2 : Int32)) (inb_of S35 ⟨by decide, by decide⟩) (g := (mkF m 84 #[sI x0, sJ x1, .second, sJ x2, .second, sI x3, sI v1, sJ v2, .second, sR b3, sR b6, sR b11, sJ v34, .second, .unset, .unset, .unset, .unset, .unset, .unset] [(.long v34), (.int (2 : Int32)), (.ref b3)])) rfl rfl (hb hby at_84)
  refine own_st st35 ?_
  have f36 : own_AJ Z h35 b3 k3 (4 : Int32) (own_updJ g33v 2 v34) := own_AJ.set f28 W35
  have f37 := f29.other W35 (Ne.symm ne7)
  have f38 := f30.other W35 (Ne.symm ne12)
  have N39 := Fr.snoc X35 N31 gx4
  have Z40 : n0 ≤ h35.size := Nat.le_trans Z32 (Nat.le_of_eq W35.size.symm)
  show own_Go _ _ _ _ T35 (mkF m 85 _ [])
  generalize hgg41v : (own_updJ g33v 2 v34) = g41v at f36
  refine own_st (fun t k => XS.lload X35.here hx rfl (hb hby at_85) rfl k) ?_
  show own_Go _ _ _ _ T35 (mkF m 87 _ [(.long v34)])
  refine own_st (fun t k => XS.lloadN X35.here hx rfl (hb hby at_87) rfl k) ?_
  show own_Go _ _ _ _ T35 (mkF m 88 _ [(.long x1), (.long v34)])
  refine own_st (fun t k => XS.bipush X35.here hx rfl (hb hby at_88) k) ?_
  show own_Go _ _ _ _ T35 (mkF m 90 _ [(.int (48 : Int32)), (.long x1), (.long v34)])
  refine own_st (fun t k => XS.lushr X35.here hx rfl (hb hby at_90) rfl k) ?_
  show own_Go _ _ _ _ T35 (mkF m 91 _ [(.long ((x1.toUInt64 >>> ((48 : Int32) &&& 0x3f).toInt64.toUInt64).toInt64)), (.long v34)])
  refine own_st (fun t k => X35.ldc2Long hx hown (mvT hZ (own_w hw 0 rfl)) (g := (mkF m 91 #[sI x0, sJ x1, .second, sJ x2, .second, sI x3, sI v1, sJ v2, .second, sR b3, sR b6, sR b11, sJ v34, .second, .unset, .unset, .unset, .unset, .unset, .unset] [(.long ((x1.toUInt64 >>> ((48 : Int32) &&& 0x3f).toInt64.toUInt64).toInt64)), (.long v34)])) rfl (hb hby at_91) _ k) ?_
  show own_Go _ _ _ _ T35 (mkF m 94 _ [(.long (65535 : Int64)), (.long ((x1.toUInt64 >>> ((48 : Int32) &&& 0x3f).toInt64.toUInt64).toInt64)), (.long v34)])
  refine own_st (fun t k => XS.land X35.here hx rfl (hb hby at_94) rfl k) ?_
  show own_Go _ _ _ _ T35 (mkF m 95 _ [(.long (((x1.toUInt64 >>> ((48 : Int32) &&& 0x3f).toInt64.toUInt64).toInt64) &&& (65535 : Int64))), (.long v34)])
  refine own_st (fun t k => XS.ladd X35.here hx rfl (hb hby at_95) rfl k) ?_
  show own_Go _ _ _ _ T35 (mkF m 96 _ [(.long (v34 + (((x1.toUInt64 >>> ((48 : Int32) &&& 0x3f).toInt64.toUInt64).toInt64) &&& (65535 : Int64))))])
  generalize hv42 : (v34 + (((x1.toUInt64 >>> ((48 : Int32) &&& 0x3f).toInt64.toUInt64).toInt64) &&& (65535 : Int64))) = v42
  refine own_st (fun t k => XS.lstore X35.here hx rfl (hb hby at_96) rfl (l' := #[sI x0, sJ x1, .second, sJ x2, .second, sI x3, sI v1, sJ v2, .second, sR b3, sR b6, sR b11, sJ v42, .second, .unset, .unset, .unset, .unset, .unset, .unset]) rfl k) ?_
  show own_Go _ _ _ _ T35 (mkF m 98 #[sI x0, sJ x1, .second, sJ x2, .second, sI x3, sI v1, sJ v2, .second, sR b3, sR b6, sR b11, sJ v42, .second, .unset, .unset, .unset, .unset, .unset, .unset] [])
  refine own_st (fun t k => XS.aload X35.here hx rfl (hb hby at_98) rfl rfl k) ?_
  show own_Go _ _ _ _ T35 (mkF m 100 _ [(.ref b3)])
  refine own_st (fun t k => XS.iconst X35.here hx rfl (hb hby at_100) k) ?_
  show own_Go _ _ _ _ T35 (mkF m 101 _ [(.int (3 : Int32)), (.ref b3)])
  refine own_st (fun t k => XS.lload X35.here hx rfl (hb hby at_101) rfl k) ?_
  show own_Go _ _ _ _ T35 (mkF m 103 _ [(.long v42), (.int (3 : Int32)), (.ref b3)])
  obtain ⟨c43, Ar43, q43, S43, N43, H43⟩ := id f36
  obtain ⟨T43, h43, X43, e43, W43, st43⟩ := stJ X35 hx hZ e35 Ar43 (j := (3 : Int32)) (inb_of S43 ⟨by decide, by decide⟩) (g := (mkF m 103 #[sI x0, sJ x1, .second, sJ x2, .second, sI x3, sI v1, sJ v2, .second, sR b3, sR b6, sR b11, sJ v42, .second, .unset, .unset, .unset, .unset, .unset, .unset] [(.long v42), (.int (3 : Int32)), (.ref b3)])) rfl rfl (hb hby at_103)
  refine own_st st43 ?_
  have f44 : own_AJ Z h43 b3 k3 (4 : Int32) (own_updJ g41v 3 v42) := own_AJ.set f36 W43
  have f45 := f37.other W43 (Ne.symm ne7)
  have f46 := f38.other W43 (Ne.symm ne12)
  have N47 := Fr.snoc X43 N39 gx4
  have Z48 : n0 ≤ h43.size := Nat.le_trans Z40 (Nat.le_of_eq W43.size.symm)
  show own_Go _ _ _ _ T43 (mkF m 104 _ [])
  generalize hgg49v : (own_updJ g41v 3 v42) = g49v at f44
  refine own_st (fun t k => XS.aload X43.here hx rfl (hb hby at_104) rfl rfl k) ?_
  show own_Go _ _ _ _ T43 (mkF m 106 _ [(.ref b6)])
  refine own_st (fun t k => XS.iconst X43.here hx rfl (hb hby at_106) k) ?_
  show own_Go _ _ _ _ T43 (mkF m 107 _ [(.int (0 : Int32)), (.ref b6)])
  refine own_st (fun t k => XS.lloadN X43.here hx rfl (hb hby at_107) rfl k) ?_
  show own_Go _ _ _ _ T43 (mkF m 108 _ [(.long x2), (.int (0 : Int32)), (.ref b6)])
  refine own_st (fun t k => X43.ldc2Long hx hown (mvT hZ (own_w hw 0 rfl)) (g := (mkF m 108 #[sI x0, sJ x1, .second, sJ x2, .second, sI x3, sI v1, sJ v2, .second, sR b3, sR b6, sR b11, sJ v42, .second, .unset, .unset, .unset, .unset, .unset, .unset] [(.long x2), (.int (0 : Int32)), (.ref b6)])) rfl (hb hby at_108) _ k) ?_
  show own_Go _ _ _ _ T43 (mkF m 111 _ [(.long (65535 : Int64)), (.long x2), (.int (0 : Int32)), (.ref b6)])
  refine own_st (fun t k => XS.land X43.here hx rfl (hb hby at_111) rfl k) ?_
  show own_Go _ _ _ _ T43 (mkF m 112 _ [(.long (x2 &&& (65535 : Int64))), (.int (0 : Int32)), (.ref b6)])
  obtain ⟨c50, Ar50, q50, S50, N50, H50⟩ := id f45
  obtain ⟨T50, h50, X50, e50, W50, st50⟩ := stJ X43 hx hZ e43 Ar50 (j := (0 : Int32)) (inb_of S50 ⟨by decide, by decide⟩) (g := (mkF m 112 #[sI x0, sJ x1, .second, sJ x2, .second, sI x3, sI v1, sJ v2, .second, sR b3, sR b6, sR b11, sJ v42, .second, .unset, .unset, .unset, .unset, .unset, .unset] [(.long (x2 &&& (65535 : Int64))), (.int (0 : Int32)), (.ref b6)])) rfl rfl (hb hby at_112)
  refine own_st st50 ?_
  have f51 : own_AJ Z h50 b6 k6 (4 : Int32) (own_updJ (fun _ => (0 : Int64)) 0 (x2 &&& (65535 : Int64))) := own_AJ.set f45 W50
  have f52 := f46.other W50 (Ne.symm ne13)
  have f53 := f44.other W50 ne7
  have N54 := Fr.snoc X50 N47 gx9
  have Z55 : n0 ≤ h50.size := Nat.le_trans Z48 (Nat.le_of_eq W50.size.symm)
  show own_Go _ _ _ _ T50 (mkF m 113 _ [])
  generalize hgg56v : (own_updJ (fun _ => (0 : Int64)) 0 (x2 &&& (65535 : Int64))) = g56v at f51
  refine own_st (fun t k => XS.aload X50.here hx rfl (hb hby at_113) rfl rfl k) ?_
  show own_Go _ _ _ _ T50 (mkF m 115 _ [(.ref b6)])
  refine own_st (fun t k => XS.iconst X50.here hx rfl (hb hby at_115) k) ?_
  show own_Go _ _ _ _ T50 (mkF m 116 _ [(.int (1 : Int32)), (.ref b6)])
  refine own_st (fun t k => XS.lloadN X50.here hx rfl (hb hby at_116) rfl k) ?_
  show own_Go _ _ _ _ T50 (mkF m 117 _ [(.long x2), (.int (1 : Int32)), (.ref b6)])
  refine own_st (fun t k => XS.bipush X50.here hx rfl (hb hby at_117) k) ?_
  show own_Go _ _ _ _ T50 (mkF m 119 _ [(.int (16 : Int32)), (.long x2), (.int (1 : Int32)), (.ref b6)])
  refine own_st (fun t k => XS.lushr X50.here hx rfl (hb hby at_119) rfl k) ?_
  show own_Go _ _ _ _ T50 (mkF m 120 _ [(.long ((x2.toUInt64 >>> ((16 : Int32) &&& 0x3f).toInt64.toUInt64).toInt64)), (.int (1 : Int32)), (.ref b6)])
  refine own_st (fun t k => X50.ldc2Long hx hown (mvT hZ (own_w hw 0 rfl)) (g := (mkF m 120 #[sI x0, sJ x1, .second, sJ x2, .second, sI x3, sI v1, sJ v2, .second, sR b3, sR b6, sR b11, sJ v42, .second, .unset, .unset, .unset, .unset, .unset, .unset] [(.long ((x2.toUInt64 >>> ((16 : Int32) &&& 0x3f).toInt64.toUInt64).toInt64)), (.int (1 : Int32)), (.ref b6)])) rfl (hb hby at_120) _ k) ?_
  show own_Go _ _ _ _ T50 (mkF m 123 _ [(.long (65535 : Int64)), (.long ((x2.toUInt64 >>> ((16 : Int32) &&& 0x3f).toInt64.toUInt64).toInt64)), (.int (1 : Int32)), (.ref b6)])
  refine own_st (fun t k => XS.land X50.here hx rfl (hb hby at_123) rfl k) ?_
  show own_Go _ _ _ _ T50 (mkF m 124 _ [(.long (((x2.toUInt64 >>> ((16 : Int32) &&& 0x3f).toInt64.toUInt64).toInt64) &&& (65535 : Int64))), (.int (1 : Int32)), (.ref b6)])
  obtain ⟨c57, Ar57, q57, S57, N57, H57⟩ := id f51
  obtain ⟨T57, h57, X57, e57, W57, st57⟩ := stJ X50 hx hZ e50 Ar57 (j := (1 : Int32)) (inb_of S57 ⟨by decide, by decide⟩) (g := (mkF m 124 #[sI x0, sJ x1, .second, sJ x2, .second, sI x3, sI v1, sJ v2, .second, sR b3, sR b6, sR b11, sJ v42, .second, .unset, .unset, .unset, .unset, .unset, .unset] [(.long (((x2.toUInt64 >>> ((16 : Int32) &&& 0x3f).toInt64.toUInt64).toInt64) &&& (65535 : Int64))), (.int (1 : Int32)), (.ref b6)])) rfl rfl (hb hby at_124)
  refine own_st st57 ?_
  have f58 : own_AJ Z h57 b6 k6 (4 : Int32) (own_updJ g56v 1 (((x2.toUInt64 >>> ((16 : Int32) &&& 0x3f).toInt64.toUInt64).toInt64) &&& (65535 : Int64))) := own_AJ.set f51 W57
  have f59 := f52.other W57 (Ne.symm ne13)
  have f60 := f53.other W57 ne7
  have N61 := Fr.snoc X57 N54 gx9
  have Z62 : n0 ≤ h57.size := Nat.le_trans Z55 (Nat.le_of_eq W57.size.symm)
  show own_Go _ _ _ _ T57 (mkF m 125 _ [])
  generalize hgg63v : (own_updJ g56v 1 (((x2.toUInt64 >>> ((16 : Int32) &&& 0x3f).toInt64.toUInt64).toInt64) &&& (65535 : Int64))) = g63v at f58
  refine own_st (fun t k => XS.aload X57.here hx rfl (hb hby at_125) rfl rfl k) ?_
  show own_Go _ _ _ _ T57 (mkF m 127 _ [(.ref b6)])
  refine own_st (fun t k => XS.iconst X57.here hx rfl (hb hby at_127) k) ?_
  show own_Go _ _ _ _ T57 (mkF m 128 _ [(.int (2 : Int32)), (.ref b6)])
  refine own_st (fun t k => XS.lloadN X57.here hx rfl (hb hby at_128) rfl k) ?_
  show own_Go _ _ _ _ T57 (mkF m 129 _ [(.long x2), (.int (2 : Int32)), (.ref b6)])
  refine own_st (fun t k => XS.bipush X57.here hx rfl (hb hby at_129) k) ?_
  show own_Go _ _ _ _ T57 (mkF m 131 _ [(.int (32 : Int32)), (.long x2), (.int (2 : Int32)), (.ref b6)])
  refine own_st (fun t k => XS.lushr X57.here hx rfl (hb hby at_131) rfl k) ?_
  show own_Go _ _ _ _ T57 (mkF m 132 _ [(.long ((x2.toUInt64 >>> ((32 : Int32) &&& 0x3f).toInt64.toUInt64).toInt64)), (.int (2 : Int32)), (.ref b6)])
  refine own_st (fun t k => X57.ldc2Long hx hown (mvT hZ (own_w hw 0 rfl)) (g := (mkF m 132 #[sI x0, sJ x1, .second, sJ x2, .second, sI x3, sI v1, sJ v2, .second, sR b3, sR b6, sR b11, sJ v42, .second, .unset, .unset, .unset, .unset, .unset, .unset] [(.long ((x2.toUInt64 >>> ((32 : Int32) &&& 0x3f).toInt64.toUInt64).toInt64)), (.int (2 : Int32)), (.ref b6)])) rfl (hb hby at_132) _ k) ?_
  show own_Go _ _ _ _ T57 (mkF m 135 _ [(.long (65535 : Int64)), (.long ((x2.toUInt64 >>> ((32 : Int32) &&& 0x3f).toInt64.toUInt64).toInt64)), (.int (2 : Int32)), (.ref b6)])
  refine own_st (fun t k => XS.land X57.here hx rfl (hb hby at_135) rfl k) ?_
  show own_Go _ _ _ _ T57 (mkF m 136 _ [(.long (((x2.toUInt64 >>> ((32 : Int32) &&& 0x3f).toInt64.toUInt64).toInt64) &&& (65535 : Int64))), (.int (2 : Int32)), (.ref b6)])
  obtain ⟨c64, Ar64, q64, S64, N64, H64⟩ := id f58
  obtain ⟨T64, h64, X64, e64, W64, st64⟩ := stJ X57 hx hZ e57 Ar64 (j := (2 : Int32)) (inb_of S64 ⟨by decide, by decide⟩) (g := (mkF m 136 #[sI x0, sJ x1, .second, sJ x2, .second, sI x3, sI v1, sJ v2, .second, sR b3, sR b6, sR b11, sJ v42, .second, .unset, .unset, .unset, .unset, .unset, .unset] [(.long (((x2.toUInt64 >>> ((32 : Int32) &&& 0x3f).toInt64.toUInt64).toInt64) &&& (65535 : Int64))), (.int (2 : Int32)), (.ref b6)])) rfl rfl (hb hby at_136)
  refine own_st st64 ?_
  have f65 : own_AJ Z h64 b6 k6 (4 : Int32) (own_updJ g63v 2 (((x2.toUInt64 >>> ((32 : Int32) &&& 0x3f).toInt64.toUInt64).toInt64) &&& (65535 : Int64))) := own_AJ.set f58 W64
  have f66 := f59.other W64 (Ne.symm ne13)
  have f67 := f60.other W64 ne7
  have N68 := Fr.snoc X64 N61 gx9
  have Z69 : n0 ≤ h64.size := Nat.le_trans Z62 (Nat.le_of_eq W64.size.symm)
  show own_Go _ _ _ _ T64 (mkF m 137 _ [])
  generalize hgg70v : (own_updJ g63v 2 (((x2.toUInt64 >>> ((32 : Int32) &&& 0x3f).toInt64.toUInt64).toInt64) &&& (65535 : Int64))) = g70v at f65
  refine own_st (fun t k => XS.aload X64.here hx rfl (hb hby at_137) rfl rfl k) ?_
  show own_Go _ _ _ _ T64 (mkF m 139 _ [(.ref b6)])
  refine own_st (fun t k => XS.iconst X64.here hx rfl (hb hby at_139) k) ?_
  show own_Go _ _ _ _ T64 (mkF m 140 _ [(.int (3 : Int32)), (.ref b6)])
  refine own_st (fun t k => XS.lloadN X64.here hx rfl (hb hby at_140) rfl k) ?_
  show own_Go _ _ _ _ T64 (mkF m 141 _ [(.long x2), (.int (3 : Int32)), (.ref b6)])
  refine own_st (fun t k => XS.bipush X64.here hx rfl (hb hby at_141) k) ?_
  show own_Go _ _ _ _ T64 (mkF m 143 _ [(.int (48 : Int32)), (.long x2), (.int (3 : Int32)), (.ref b6)])
  refine own_st (fun t k => XS.lushr X64.here hx rfl (hb hby at_143) rfl k) ?_
  show own_Go _ _ _ _ T64 (mkF m 144 _ [(.long ((x2.toUInt64 >>> ((48 : Int32) &&& 0x3f).toInt64.toUInt64).toInt64)), (.int (3 : Int32)), (.ref b6)])
  refine own_st (fun t k => X64.ldc2Long hx hown (mvT hZ (own_w hw 0 rfl)) (g := (mkF m 144 #[sI x0, sJ x1, .second, sJ x2, .second, sI x3, sI v1, sJ v2, .second, sR b3, sR b6, sR b11, sJ v42, .second, .unset, .unset, .unset, .unset, .unset, .unset] [(.long ((x2.toUInt64 >>> ((48 : Int32) &&& 0x3f).toInt64.toUInt64).toInt64)), (.int (3 : Int32)), (.ref b6)])) rfl (hb hby at_144) _ k) ?_
  show own_Go _ _ _ _ T64 (mkF m 147 _ [(.long (65535 : Int64)), (.long ((x2.toUInt64 >>> ((48 : Int32) &&& 0x3f).toInt64.toUInt64).toInt64)), (.int (3 : Int32)), (.ref b6)])
  refine own_st (fun t k => XS.land X64.here hx rfl (hb hby at_147) rfl k) ?_
  show own_Go _ _ _ _ T64 (mkF m 148 _ [(.long (((x2.toUInt64 >>> ((48 : Int32) &&& 0x3f).toInt64.toUInt64).toInt64) &&& (65535 : Int64))), (.int (3 : Int32)), (.ref b6)])
  obtain ⟨c71, Ar71, q71, S71, N71, H71⟩ := id f65
  obtain ⟨T71, h71, X71, e71, W71, st71⟩ := stJ X64 hx hZ e64 Ar71 (j := (3 : Int32)) (inb_of S71 ⟨by decide, by decide⟩) (g := (mkF m 148 #[sI x0, sJ x1, .second, sJ x2, .second, sI x3, sI v1, sJ v2, .second, sR b3, sR b6, sR b11, sJ v42, .second, .unset, .unset, .unset, .unset, .unset, .unset] [(.long (((x2.toUInt64 >>> ((48 : Int32) &&& 0x3f).toInt64.toUInt64).toInt64) &&& (65535 : Int64))), (.int (3 : Int32)), (.ref b6)])) rfl rfl (hb hby at_148)
  refine own_st st71 ?_
  have f72 : own_AJ Z h71 b6 k6 (4 : Int32) (own_updJ g70v 3 (((x2.toUInt64 >>> ((48 : Int32) &&& 0x3f).toInt64.toUInt64).toInt64) &&& (65535 : Int64))) := own_AJ.set f65 W71
  have f73 := f66.other W71 (Ne.symm ne13)
  have f74 := f67.other W71 ne7
  have N75 := Fr.snoc X71 N68 gx9
  have Z76 : n0 ≤ h71.size := Nat.le_trans Z69 (Nat.le_of_eq W71.size.symm)
  show own_Go _ _ _ _ T71 (mkF m 149 _ [])
  generalize hgg77v : (own_updJ g70v 3 (((x2.toUInt64 >>> ((48 : Int32) &&& 0x3f).toInt64.toUInt64).toInt64) &&& (65535 : Int64))) = g77v at f72
  refine own_st (fun t k => XS.aload X71.here hx rfl (hb hby at_149) rfl rfl k) ?_
  show own_Go _ _ _ _ T71 (mkF m 151 _ [(.ref b11)])
  refine own_st (fun t k => XS.iconst X71.here hx rfl (hb hby at_151) k) ?_
  show own_Go _ _ _ _ T71 (mkF m 152 _ [(.int (0 : Int32)), (.ref b11)])
  refine own_st (fun t k => XS.iconst X71.here hx rfl (hb hby at_152) k) ?_
  show own_Go _ _ _ _ T71 (mkF m 153 _ [(.int (0 : Int32)), (.int (0 : Int32)), (.ref b11)])
  refine own_st (fun t k => XS.iload X71.here hx rfl (hb hby at_153) rfl k) ?_
  show own_Go _ _ _ _ T71 (mkF m 155 _ [(.int v1), (.int (0 : Int32)), (.int (0 : Int32)), (.ref b11)])
  have J81 : ∀ (Tj81 : State) (Lj81 : List Loc) (p82 : Int32), Stand p l e room_1 s m #[(.int x0), (.long x1), (.long x2), (.int x3)] below meth c Tj81 Lj81 3 12 → Tj81.heap = h71 → Fr n0 Lj81 → p82 = (if (0 : Int32) < v1 then (x0 &&& (3 : Int32)) else (2 : Int32)) → own_Go p.tables e below Pq Tj81 (mkF m 165 #[sI x0, sJ x1, .second, sJ x2, .second, sI x3, sI v1, sJ v2, .second, sR b3, sR b6, sR b11, sJ v42, .second, .unset, .unset, .unset, .unset, .unset, .unset] [(.int p82), (.int (0 : Int32)), (.ref b11)]) := by
    intro Tj81 Lj81 p82 Xj81 ej81 Nj81 qp82
    show own_Go _ _ _ _ Tj81 (mkF m 165 _ [(.int p82), (.int (0 : Int32)), (.ref b11)])
    obtain ⟨c83, Ar83, q83, S83, N83, H83⟩ := id f73
    obtain ⟨T83, h83, X83, e83, W83, st83⟩ := stI Xj81 hx hZ ej81 Ar83 (j := (0 : Int32)) (inb_of S83 ⟨by decide, by decide⟩) (g := (mkF m 165 #[sI x0, sJ x1, .second, sJ x2, .second, sI x3, sI v1, sJ v2, .second, sR b3, sR b6, sR b11, sJ v42, .second, .unset, .unset, .unset, .unset, .unset, .unset] [(.int p82), (.int (0 : Int32)), (.ref b11)])) rfl rfl (hb hby at_165)
    refine own_st st83 ?_
    have f84 : own_AI Z h83 b11 k11 (4 : Int32) (own_updI (fun _ => (0 : Int32)) 0 p82) := own_AI.set f73 W83
    have f85 := f74.other W83 ne12
    have f86 := f72.other W83 ne13
    have N87 := Fr.snoc X83 Nj81 gx16
    have Z88 : n0 ≤ h83.size := Nat.le_trans Z76 (Nat.le_of_eq W83.size.symm)
    show own_Go _ _ _ _ T83 (mkF m 166 _ [])
    generalize hgg89v : (own_updI (fun _ => (0 : Int32)) 0 p82) = g89v at f84
    refine own_st (fun t k => XS.aload X83.here hx rfl (hb hby at_166) rfl rfl k) ?_
    show own_Go _ _ _ _ T83 (mkF m 168 _ [(.ref b11)])
    refine own_st (fun t k => XS.iconst X83.here hx rfl (hb hby at_168) k) ?_
    show own_Go _ _ _ _ T83 (mkF m 169 _ [(.int (1 : Int32)), (.ref b11)])
    refine own_st (fun t k => XS.iconst X83.here hx rfl (hb hby at_169) k) ?_
    show own_Go _ _ _ _ T83 (mkF m 170 _ [(.int (1 : Int32)), (.int (1 : Int32)), (.ref b11)])
    refine own_st (fun t k => XS.iload X83.here hx rfl (hb hby at_170) rfl k) ?_
    show own_Go _ _ _ _ T83 (mkF m 172 _ [(.int v1), (.int (1 : Int32)), (.int (1 : Int32)), (.ref b11)])
    have J93 : ∀ (Tj93 : State) (Lj93 : List Loc) (p94 : Int32), Stand p l e room_1 s m #[(.int x0), (.long x1), (.long x2), (.int x3)] below meth c Tj93 Lj93 3 12 → Tj93.heap = h83 → Fr n0 Lj93 → p94 = (if (1 : Int32) < v1 then (((x0.toUInt32 >>> ((2 : Int32) &&& 31).toUInt32).toInt32) &&& (3 : Int32)) else (2 : Int32)) → own_Go p.tables e below Pq Tj93 (mkF m 184 #[sI x0, sJ x1, .second, sJ x2, .second, sI x3, sI v1, sJ v2, .second, sR b3, sR b6, sR b11, sJ v42, .second, .unset, .unset, .unset, .unset, .unset, .unset] [(.int p94), (.int (1 : Int32)), (.ref b11)]) := by
      intro Tj93 Lj93 p94 Xj93 ej93 Nj93 qp94
      show own_Go _ _ _ _ Tj93 (mkF m 184 _ [(.int p94), (.int (1 : Int32)), (.ref b11)])
      obtain ⟨c95, Ar95, q95, S95, N95, H95⟩ := id f84
      obtain ⟨T95, h95, X95, e95, W95, st95⟩ := stI Xj93 hx hZ ej93 Ar95 (j := (1 : Int32)) (inb_of S95 ⟨by decide, by decide⟩) (g := (mkF m 184 #[sI x0, sJ x1, .second, sJ x2, .second, sI x3, sI v1, sJ v2, .second, sR b3, sR b6, sR b11, sJ v42, .second, .unset, .unset, .unset, .unset, .unset, .unset] [(.int p94), (.int (1 : Int32)), (.ref b11)])) rfl rfl (hb hby at_184)
      refine own_st st95 ?_
      have f96 : own_AI Z h95 b11 k11 (4 : Int32) (own_updI g89v 1 p94) := own_AI.set f84 W95
      have f97 := f85.other W95 ne12
      have f98 := f86.other W95 ne13
      have N99 := Fr.snoc X95 Nj93 gx16
      have Z100 : n0 ≤ h95.size := Nat.le_trans Z88 (Nat.le_of_eq W95.size.symm)
      show own_Go _ _ _ _ T95 (mkF m 185 _ [])
      generalize hgg101v : (own_updI g89v 1 p94) = g101v at f96
      refine own_st (fun t k => XS.aload X95.here hx rfl (hb hby at_185) rfl rfl k) ?_
      show own_Go _ _ _ _ T95 (mkF m 187 _ [(.ref b11)])
      refine own_st (fun t k => XS.iconst X95.here hx rfl (hb hby at_187) k) ?_
      show own_Go _ _ _ _ T95 (mkF m 188 _ [(.int (2 : Int32)), (.ref b11)])
      refine own_st (fun t k => XS.iconst X95.here hx rfl (hb hby at_188) k) ?_
      show own_Go _ _ _ _ T95 (mkF m 189 _ [(.int (2 : Int32)), (.int (2 : Int32)), (.ref b11)])
      refine own_st (fun t k => XS.iload X95.here hx rfl (hb hby at_189) rfl k) ?_
      show own_Go _ _ _ _ T95 (mkF m 191 _ [(.int v1), (.int (2 : Int32)), (.int (2 : Int32)), (.ref b11)])
      have J105 : ∀ (Tj105 : State) (Lj105 : List Loc) (p106 : Int32), Stand p l e room_1 s m #[(.int x0), (.long x1), (.long x2), (.int x3)] below meth c Tj105 Lj105 3 12 → Tj105.heap = h95 → Fr n0 Lj105 → p106 = (if (2 : Int32) < v1 then (((x0.toUInt32 >>> ((4 : Int32) &&& 31).toUInt32).toInt32) &&& (3 : Int32)) else (2 : Int32)) → own_Go p.tables e below Pq Tj105 (mkF m 203 #[sI x0, sJ x1, .second, sJ x2, .second, sI x3, sI v1, sJ v2, .second, sR b3, sR b6, sR b11, sJ v42, .second, .unset, .unset, .unset, .unset, .unset, .unset] [(.int p106), (.int (2 : Int32)), (.ref b11)]) := by
        intro Tj105 Lj105 p106 Xj105 ej105 Nj105 qp106
        show own_Go _ _ _ _ Tj105 (mkF m 203 _ [(.int p106), (.int (2 : Int32)), (.ref b11)])
        obtain ⟨c107, Ar107, q107, S107, N107, H107⟩ := id f96
        obtain ⟨T107, h107, X107, e107, W107, st107⟩ := stI Xj105 hx hZ ej105 Ar107 (j := (2 : Int32)) (inb_of S107 ⟨by decide, by decide⟩) (g := (mkF m 203 #[sI x0, sJ x1, .second, sJ x2, .second, sI x3, sI v1, sJ v2, .second, sR b3, sR b6, sR b11, sJ v42, .second, .unset, .unset, .unset, .unset, .unset, .unset] [(.int p106), (.int (2 : Int32)), (.ref b11)])) rfl rfl (hb hby at_203)
        refine own_st st107 ?_
        have f108 : own_AI Z h107 b11 k11 (4 : Int32) (own_updI g101v 2 p106) := own_AI.set f96 W107
        have f109 := f97.other W107 ne12
        have f110 := f98.other W107 ne13
        have N111 := Fr.snoc X107 Nj105 gx16
        have Z112 : n0 ≤ h107.size := Nat.le_trans Z100 (Nat.le_of_eq W107.size.symm)
        show own_Go _ _ _ _ T107 (mkF m 204 _ [])
        generalize hgg113v : (own_updI g101v 2 p106) = g113v at f108
        refine own_st (fun t k => XS.aload X107.here hx rfl (hb hby at_204) rfl rfl k) ?_
        show own_Go _ _ _ _ T107 (mkF m 206 _ [(.ref b11)])
        refine own_st (fun t k => XS.iconst X107.here hx rfl (hb hby at_206) k) ?_
        show own_Go _ _ _ _ T107 (mkF m 207 _ [(.int (3 : Int32)), (.ref b11)])
        refine own_st (fun t k => XS.iconst X107.here hx rfl (hb hby at_207) k) ?_
        show own_Go _ _ _ _ T107 (mkF m 208 _ [(.int (3 : Int32)), (.int (3 : Int32)), (.ref b11)])
        refine own_st (fun t k => XS.iload X107.here hx rfl (hb hby at_208) rfl k) ?_
        show own_Go _ _ _ _ T107 (mkF m 210 _ [(.int v1), (.int (3 : Int32)), (.int (3 : Int32)), (.ref b11)])
        have J117 : ∀ (Tj117 : State) (Lj117 : List Loc) (p118 : Int32), Stand p l e room_1 s m #[(.int x0), (.long x1), (.long x2), (.int x3)] below meth c Tj117 Lj117 3 12 → Tj117.heap = h107 → Fr n0 Lj117 → p118 = (if (3 : Int32) < v1 then (((x0.toUInt32 >>> ((6 : Int32) &&& 31).toUInt32).toInt32) &&& (3 : Int32)) else (2 : Int32)) → own_Go p.tables e below Pq Tj117 (mkF m 223 #[sI x0, sJ x1, .second, sJ x2, .second, sI x3, sI v1, sJ v2, .second, sR b3, sR b6, sR b11, sJ v42, .second, .unset, .unset, .unset, .unset, .unset, .unset] [(.int p118), (.int (3 : Int32)), (.ref b11)]) := by
          intro Tj117 Lj117 p118 Xj117 ej117 Nj117 qp118
          show own_Go _ _ _ _ Tj117 (mkF m 223 _ [(.int p118), (.int (3 : Int32)), (.ref b11)])
          obtain ⟨c119, Ar119, q119, S119, N119, H119⟩ := id f108
          obtain ⟨T119, h119, X119, e119, W119, st119⟩ := stI Xj117 hx hZ ej117 Ar119 (j := (3 : Int32)) (inb_of S119 ⟨by decide, by decide⟩) (g := (mkF m 223 #[sI x0, sJ x1, .second, sJ x2, .second, sI x3, sI v1, sJ v2, .second, sR b3, sR b6, sR b11, sJ v42, .second, .unset, .unset, .unset, .unset, .unset, .unset] [(.int p118), (.int (3 : Int32)), (.ref b11)])) rfl rfl (hb hby at_223)
          refine own_st st119 ?_
          have f120 : own_AI Z h119 b11 k11 (4 : Int32) (own_updI g113v 3 p118) := own_AI.set f108 W119
          have f121 := f109.other W119 ne12
          have f122 := f110.other W119 ne13
          have N123 := Fr.snoc X119 Nj117 gx16
          have Z124 : n0 ≤ h119.size := Nat.le_trans Z112 (Nat.le_of_eq W119.size.symm)
          show own_Go _ _ _ _ T119 (mkF m 224 _ [])
          generalize hgg125v : (own_updI g113v 3 p118) = g125v at f120
          obtain ⟨T126, h126, X126, e126, E126, A126, D126, -, st126⟩ := newO X119 hx hZ hown (own_w hw 3 rfl) (own_w hw 4 rfl) (own_w hw 5 rfl) e119 (g := (mkF m 224 #[sI x0, sJ x1, .second, sJ x2, .second, sI x3, sI v1, sJ v2, .second, sR b3, sR b6, sR b11, sJ v42, .second, .unset, .unset, .unset, .unset, .unset, .unset] [])) rfl (hb hby at_224) (by decide) (by decide)
          obtain ⟨b126, g126⟩ : ∃ z, z = h119.size := ⟨_, rfl⟩
          rw [← g126] at A126 D126 st126
          refine own_st st126 ?_
          have ne127 : b3 ≠ b126 := Nat.ne_of_lt (Nat.lt_of_lt_of_le f121.lt (Nat.le_of_eq g126.symm))
          have ne128 : b6 ≠ b126 := Nat.ne_of_lt (Nat.lt_of_lt_of_le f122.lt (Nat.le_of_eq g126.symm))
          have ne129 : b11 ≠ b126 := Nat.ne_of_lt (Nat.lt_of_lt_of_le f120.lt (Nat.le_of_eq g126.symm))
          have f130 := f121.ext E126
          have f131 := f122.ext E126
          have f132 := f120.ext E126
          have gx133 : n0 ≤ b126 := Nat.le_trans Z124 (Nat.le_of_eq g126.symm)
          have Z134 : n0 ≤ h126.size := Nat.le_trans Z124 E126.1
          have f135 : Fld Z h126 b126 "com/example/tidemark/tidemark/core/ThetaLambdaTree" "nodes" "[J" .null := D126 (Or.inr (own_w hw 29 rfl)) (ty := (.array .long)) (by decide)
          have f136 : Fld Z h126 b126 "com/example/tidemark/tidemark/core/ThetaLambdaTree" "leaves" "I" (.int (0 : Int32)) := D126 (Or.inl (own_w hw 36 rfl)) (ty := .int) (by decide)
          show own_Go _ _ _ _ T126 (mkF m 227 _ [(.ref b126)])
          refine own_st (fun t k => XS.dup X126.here hx rfl (hb hby at_227) rfl rfl k) ?_
          show own_Go _ _ _ _ T126 (mkF m 228 _ [(.ref b126), (.ref b126)])
          refine own_st (fun t k => XS.iconst X126.here hx rfl (hb hby at_228) k) ?_
          show own_Go _ _ _ _ T126 (mkF m 229 _ [(.int (4 : Int32)), (.ref b126), (.ref b126)])
          obtain ⟨_, _, ⟨T137, L137, k137, n137⟩, -, X137, ⟨Lc137, hQ137, l137, y137, z137⟩, st137⟩ := X126.specialBack hx (y := ym6) rfl hown (mvT hZ (own_w hw 6 rfl)) (mvT hZ (own_w hw 7 rfl)) (mvT hZ (own_w hw 8 rfl)) (by decide) (backOf (W := 1) (rm18 l Z a0 hw [] b126 (.null) h126 n0 Z134 A126 f135 f136 gx133) hZ (own_w hw 8 rfl) (own_w hw 5 rfl) (by decide) (by decide)) (g := (mkF m 229 #[sI x0, sJ x1, .second, sJ x2, .second, sI x3, sI v1, sJ v2, .second, sR b3, sR b6, sR b11, sJ v42, .second, .unset, .unset, .unset, .unset, .unset, .unset] [(.int (4 : Int32)), (.ref b126), (.ref b126)])) rfl (by rw [hml]; rfl) (Steps.refl _) (a := b126) (argsL := [(.int (4 : Int32))]) (rest := [(.ref b126)]) (lenOf own_pd__I_V rfl) rfl (by show 2 * 0 + _ ≤ _; exact Nat.le_of_eq rfl) (hb hby at_229) (fun _ _ => ⟨rfl, e126, (by decide : 4 + 1 ≤ _), (by decide : 14 + 32 ≤ _)⟩)
          dsimp only [Pt.U, Pt.locs, Pt.cells, Pt.slots] at X137 l137 y137 z137 st137 hQ137
          subst l137 y137 z137
          obtain ⟨r137_kn, b137_na, rfl, NQ137, K137, gx_b137_na, sz_b137_na, fq137_0, fq137_1, fq137_2, fq137_3⟩ := hQ137
          have N138 := Fr.app N123 NQ137
          refine own_st (fun t k => st137.trans k) ?_
          have f139 := f130.keep K137 (ninS ne127 nin0)
          have f140 := f131.keep K137 (ninS ne128 nin0)
          have f141 := f132.keep K137 (ninS ne129 nin0)
          have f142 := A126.keep K137
          have Z143 : n0 ≤ T137.heap.size := Nat.le_trans Z134 K137.1
          have ne144 : b3 ≠ b137_na := Nat.ne_of_lt (Nat.lt_of_lt_of_le f130.lt sz_b137_na)
          have ne145 : b6 ≠ b137_na := Nat.ne_of_lt (Nat.lt_of_lt_of_le f131.lt sz_b137_na)
          have ne146 : b11 ≠ b137_na := Nat.ne_of_lt (Nat.lt_of_lt_of_le f132.lt sz_b137_na)
          have ne147 : b126 ≠ b137_na := Nat.ne_of_lt (Nat.lt_of_lt_of_le A126.lt sz_b137_na)
          show own_Go _ _ _ _ T137 (mkF m 232 _ [(.ref b126)])
          refine own_st (fun t k => XS.astore X137.here hx rfl (hb hby at_232) rfl rfl (l' := #[sI x0, sJ x1, .second, sJ x2, .second, sI x3, sI v1, sJ v2, .second, sR b3, sR b6, sR b11, sJ v42, .second, sR b126, .unset, .unset, .unset, .unset, .unset]) rfl k) ?_
          show own_Go _ _ _ _ T137 (mkF m 234 #[sI x0, sJ x1, .second, sJ x2, .second, sI x3, sI v1, sJ v2, .second, sR b3, sR b6, sR b11, sJ v42, .second, sR b126, .unset, .unset, .unset, .unset, .unset] [])
          refine own_st (fun t k => XS.aload X137.here hx rfl (hb hby at_234) rfl rfl k) ?_
          show own_Go _ _ _ _ T137 (mkF m 236 _ [(.ref b126)])
          refine own_st (fun t k => XS.iload X137.here hx rfl (hb hby at_236) rfl k) ?_
          show own_Go _ _ _ _ T137 (mkF m 238 _ [(.int v1), (.ref b126)])
          refine own_st (fun t k => XS.lload X137.here hx rfl (hb hby at_238) rfl k) ?_
          show own_Go _ _ _ _ T137 (mkF m 240 _ [(.long v2), (.int v1), (.ref b126)])
          refine own_st (fun t k => XS.aload X137.here hx rfl (hb hby at_240) rfl rfl k) ?_
          show own_Go _ _ _ _ T137 (mkF m 242 _ [(.ref b3), (.long v2), (.int v1), (.ref b126)])
          refine own_st (fun t k => XS.aload X137.here hx rfl (hb hby at_242) rfl rfl k) ?_
          show own_Go _ _ _ _ T137 (mkF m 244 _ [(.ref b6), (.ref b3), (.long v2), (.int v1), (.ref b126)])
          obtain ⟨cq148, kq148, q148a, q148b, q148c⟩ := isOf hZ rfl fq137_0
          obtain ⟨_, _, ⟨T148, L148, k148, n148⟩, -, X148, ⟨Lc148, hQ148, l148, y148, z148⟩, st148⟩ := X137.virtualBack hx (y := ym13) (z := ym13) hown (mvT hZ (own_w hw 30 rfl)) (mvT hZ (own_w hw 31 rfl)) (notFace_of_selects (args := #[]) (mvT hZ (own_w hw 33 rfl))) (mvT hZ (own_w hw 33 rfl)) (mvT hZ (own_w hw 32 rfl)) (by decide) (backOf (W := 0) (rm25 l Z a0 hw [] b126 v1 v2 b3 b6 b137_na r137_kn (fun _ => 0) k3 g49v k6 g77v (0 : Int32) T137.heap n0 Z143 fq137_0 fq137_1 fq137_3 fq137_2 f139 f140 (Ne.symm ne147) ne144 ne145 ne127 ne128 (own_cnt hv1) gx_b137_na gx133) hZ (own_w hw 34 rfl) (own_w hw 5 rfl) (by decide) (by decide)) q148a q148c (g := (mkF m 244 #[sI x0, sJ x1, .second, sJ x2, .second, sI x3, sI v1, sJ v2, .second, sR b3, sR b6, sR b11, sJ v42, .second, sR b126, .unset, .unset, .unset, .unset, .unset] [(.ref b6), (.ref b3), (.long v2), (.int v1), (.ref b126)])) rfl (by rw [hml]; rfl) (Steps.refl _) (argsL := [(.int v1), (.long v2), (.ref b3), (.ref b6)]) (rest := []) (lenOf own_pd__IJ_J_J_V rfl) rfl (by show 2 * 0 + _ ≤ _; exact Nat.le_of_eq rfl) (hb hby at_244) (fun _ _ => ⟨rfl, rfl, (by decide : 5 + 0 ≤ _), (by decide : 46 + 0 ≤ _)⟩)
          dsimp only [Pt.U, Pt.locs, Pt.cells, Pt.slots] at X148 l148 y148 z148 st148 hQ148
          subst l148 y148 z148
          obtain ⟨rfl, NQ148, K148, fq148_0, fq148_1, fq148_2, fq148_3⟩ := hQ148
          have N149 := Fr.app N138 NQ148
          refine own_st (fun t k => st148.trans k) ?_
          have f150 := f139.keep K148 (ninS ne144 (ninS ne127 nin0))
          have f151 := f140.keep K148 (ninS ne145 (ninS ne128 nin0))
          have f152 := f141.keep K148 (ninS ne146 (ninS ne129 nin0))
          have f153 := fq137_0.keep K148
          have Z154 : n0 ≤ T148.heap.size := Nat.le_trans Z143 K148.1
          show own_Go _ _ _ _ T148 (mkF m 247 _ [])
          refine own_st (fun t k => XS.aload X148.here hx rfl (hb hby at_247) rfl rfl k) ?_
          show own_Go _ _ _ _ T148 (mkF m 249 _ [(.ref b126)])
          refine own_st (fun t k => XS.iconst X148.here hx rfl (hb hby at_249) k) ?_
          show own_Go _ _ _ _ T148 (mkF m 250 _ [(.int (0 : Int32)), (.ref b126)])
          refine own_st (fun t k => XS.aload X148.here hx rfl (hb hby at_250) rfl rfl k) ?_
          show own_Go _ _ _ _ T148 (mkF m 252 _ [(.ref b11), (.int (0 : Int32)), (.ref b126)])
          refine own_st (fun t k => XS.iconst X148.here hx rfl (hb hby at_252) k) ?_
          show own_Go _ _ _ _ T148 (mkF m 253 _ [(.int (0 : Int32)), (.ref b11), (.int (0 : Int32)), (.ref b126)])
          obtain ⟨c155, Ar155, q155, S155, N155, H155⟩ := id f152
          refine own_st (fun t k => X148.iaload hx (j := (0 : Int32)) (v := (.int (g125v 0))) (by exact Ar155.1) (State.isArrayOf_alike hZ.alike Ar155.2.1) Ar155.2.2 (inb_of S155 ⟨by decide, by decide⟩) (H155 _ (own_lt (inb_of S155 ⟨by decide, by decide⟩))) (g := (mkF m 253 #[sI x0, sJ x1, .second, sJ x2, .second, sI x3, sI v1, sJ v2, .second, sR b3, sR b6, sR b11, sJ v42, .second, sR b126, .unset, .unset, .unset, .unset, .unset] [(.int (0 : Int32)), (.ref b11), (.int (0 : Int32)), (.ref b126)])) rfl rfl (hb hby at_253) _ k) ?_
          show own_Go _ _ _ _ T148 (mkF m 254 _ [(.int (g125v 0)), (.int (0 : Int32)), (.ref b126)])
          refine own_st (fun t k => XS.iload X148.here hx rfl (hb hby at_254) rfl k) ?_
          show own_Go _ _ _ _ T148 (mkF m 256 _ [(.int v1), (.int (g125v 0)), (.int (0 : Int32)), (.ref b126)])
          obtain ⟨_, _, ⟨T156, L156, k156, n156⟩, -, X156, ⟨Lc156, hQ156, l156, y156, z156⟩, st156⟩ := Jvm.LawKit.callS X148 hx (y := ym12) hown (mvT hZ (own_w hw 41 rfl)) (mvT hZ (own_w hw 42 rfl)) (mvT hZ (own_w hw 43 rfl)) (mvT hZ (own_w hw 44 rfl)) (by decide) (backOf (W := 0) (rm24 l Z a0 hw [] b126 b137_na r137_kn (own_fill (fun _ => 0) v2 g49v g77v v1) (0 : Int32) (g125v 0) v1 (own_lv v1) T148.heap n0 Z154 fq148_0 fq148_1 fq148_3 fq148_2 (Ne.symm ne147) (own_lvh (own_cnt hv1) (by decide)) gx_b137_na) hZ (own_w hw 44 rfl) (own_w hw 43 rfl) (by decide) (by decide)) (g := (mkF m 256 #[sI x0, sJ x1, .second, sJ x2, .second, sI x3, sI v1, sJ v2, .second, sR b3, sR b6, sR b11, sJ v42, .second, sR b126, .unset, .unset, .unset, .unset, .unset] [(.int v1), (.int (g125v 0)), (.int (0 : Int32)), (.ref b126)])) rfl (by rw [hml]; rfl) (argsL := [(.ref b126), (.int (0 : Int32)), (.int (g125v 0)), (.int v1)]) (rest := []) (lenOf own_pd__Lcom_example_tidemark_tidemark_core_ThetaLambdaTree_III_V rfl) rfl (by show 2 * 0 + _ ≤ _; exact Nat.le_of_eq rfl) (hb hby at_256) (fun _ _ => ⟨rfl, rfl, (by decide : 5 + 0 ≤ _), (by decide : 46 + 0 ≤ _)⟩)
          dsimp only [Pt.U, Pt.locs, Pt.cells, Pt.slots] at X156 l156 y156 z156 st156 hQ156
          subst l156 y156 z156
          obtain ⟨rfl, NQ156, K156, fq156_0⟩ := hQ156
          have N157 := Fr.app N149 NQ156
          refine own_st st156 ?_
          have f158 := f150.keep K156 (ninS ne144 nin0)
          have f159 := f151.keep K156 (ninS ne145 nin0)
          have f160 := f152.keep K156 (ninS ne146 nin0)
          have f161 := fq148_0.keep K156
          have f162 := fq148_1.keep K156 (ninS ne147 nin0)
          have f163 := fq148_2.keep K156 (ninS ne147 nin0)
          have Z164 : n0 ≤ T156.heap.size := Nat.le_trans Z154 K156.1
          show own_Go _ _ _ _ T156 (mkF m 259 _ [])
          refine own_st (fun t k => XS.aload X156.here hx rfl (hb hby at_259) rfl rfl k) ?_
          show own_Go _ _ _ _ T156 (mkF m 261 _ [(.ref b126)])
          refine own_st (fun t k => XS.iconst X156.here hx rfl (hb hby at_261) k) ?_
          show own_Go _ _ _ _ T156 (mkF m 262 _ [(.int (1 : Int32)), (.ref b126)])
          refine own_st (fun t k => XS.aload X156.here hx rfl (hb hby at_262) rfl rfl k) ?_
          show own_Go _ _ _ _ T156 (mkF m 264 _ [(.ref b11), (.int (1 : Int32)), (.ref b126)])
          refine own_st (fun t k => XS.iconst X156.here hx rfl (hb hby at_264) k) ?_
          show own_Go _ _ _ _ T156 (mkF m 265 _ [(.int (1 : Int32)), (.ref b11), (.int (1 : Int32)), (.ref b126)])
          obtain ⟨c165, Ar165, q165, S165, N165, H165⟩ := id f160
          refine own_st (fun t k => X156.iaload hx (j := (1 : Int32)) (v := (.int (g125v 1))) (by exact Ar165.1) (State.isArrayOf_alike hZ.alike Ar165.2.1) Ar165.2.2 (inb_of S165 ⟨by decide, by decide⟩) (H165 _ (own_lt (inb_of S165 ⟨by decide, by decide⟩))) (g := (mkF m 265 #[sI x0, sJ x1, .second, sJ x2, .second, sI x3, sI v1, sJ v2, .second, sR b3, sR b6, sR b11, sJ v42, .second, sR b126, .unset, .unset, .unset, .unset, .unset] [(.int (1 : Int32)), (.ref b11), (.int (1 : Int32)), (.ref b126)])) rfl rfl (hb hby at_265) _ k) ?_
          show own_Go _ _ _ _ T156 (mkF m 266 _ [(.int (g125v 1)), (.int (1 : Int32)), (.ref b126)])
          refine own_st (fun t k => XS.iload X156.here hx rfl (hb hby at_266) rfl k) ?_
          show own_Go _ _ _ _ T156 (mkF m 268 _ [(.int v1), (.int (g125v 1)), (.int (1 : Int32)), (.ref b126)])
          obtain ⟨_, _, ⟨T166, L166, k166, n166⟩, -, X166, ⟨Lc166, hQ166, l166, y166, z166⟩, st166⟩ := Jvm.LawKit.callS X156 hx (y := ym12) hown (mvT hZ (own_w hw 41 rfl)) (mvT hZ (own_w hw 42 rfl)) (mvT hZ (own_w hw 43 rfl)) (mvT hZ (own_w hw 44 rfl)) (by decide) (backOf (W := 0) (rm24 l Z a0 hw [] b126 b137_na r137_kn (own_apl (own_fill (fun _ => 0) v2 g49v g77v v1) (own_lv v1) (0 : Int32) (g125v 0) v1) (1 : Int32) (g125v 1) v1 (own_lv v1) T156.heap n0 Z164 f161 f162 fq156_0 f163 (Ne.symm ne147) (own_lvh (own_cnt hv1) (by decide)) gx_b137_na) hZ (own_w hw 44 rfl) (own_w hw 43 rfl) (by decide) (by decide)) (g := (mkF m 268 #[sI x0, sJ x1, .second, sJ x2, .second, sI x3, sI v1, sJ v2, .second, sR b3, sR b6, sR b11, sJ v42, .second, sR b126, .unset, .unset, .unset, .unset, .unset] [(.int v1), (.int (g125v 1)), (.int (1 : Int32)), (.ref b126)])) rfl (by rw [hml]; rfl) (argsL := [(.ref b126), (.int (1 : Int32)), (.int (g125v 1)), (.int v1)]) (rest := []) (lenOf own_pd__Lcom_example_tidemark_tidemark_core_ThetaLambdaTree_III_V rfl) rfl (by show 2 * 0 + _ ≤ _; exact Nat.le_of_eq rfl) (hb hby at_268) (fun _ _ => ⟨rfl, rfl, (by decide : 5 + 0 ≤ _), (by decide : 46 + 0 ≤ _)⟩)
          dsimp only [Pt.U, Pt.locs, Pt.cells, Pt.slots] at X166 l166 y166 z166 st166 hQ166
          subst l166 y166 z166
          obtain ⟨rfl, NQ166, K166, fq166_0⟩ := hQ166
          have N167 := Fr.app N157 NQ166
          refine own_st st166 ?_
          have f168 := f158.keep K166 (ninS ne144 nin0)
          have f169 := f159.keep K166 (ninS ne145 nin0)
          have f170 := f160.keep K166 (ninS ne146 nin0)
          have f171 := f161.keep K166
          have f172 := f162.keep K166 (ninS ne147 nin0)
          have f173 := f163.keep K166 (ninS ne147 nin0)
          have Z174 : n0 ≤ T166.heap.size := Nat.le_trans Z164 K166.1
          show own_Go _ _ _ _ T166 (mkF m 271 _ [])
          refine own_st (fun t k => XS.aload X166.here hx rfl (hb hby at_271) rfl rfl k) ?_
          show own_Go _ _ _ _ T166 (mkF m 273 _ [(.ref b126)])
          refine own_st (fun t k => XS.iconst X166.here hx rfl (hb hby at_273) k) ?_
          show own_Go _ _ _ _ T166 (mkF m 274 _ [(.int (2 : Int32)), (.ref b126)])
          refine own_st (fun t k => XS.aload X166.here hx rfl (hb hby at_274) rfl rfl k) ?_
          show own_Go _ _ _ _ T166 (mkF m 276 _ [(.ref b11), (.int (2 : Int32)), (.ref b126)])
          refine own_st (fun t k => XS.iconst X166.here hx rfl (hb hby at_276) k) ?_
          show own_Go _ _ _ _ T166 (mkF m 277 _ [(.int (2 : Int32)), (.ref b11), (.int (2 : Int32)), (.ref b126)])
          obtain ⟨c175, Ar175, q175, S175, N175, H175⟩ := id f170
          refine own_st (fun t k => X166.iaload hx (j := (2 : Int32)) (v := (.int (g125v 2))) (by exact Ar175.1) (State.isArrayOf_alike hZ.alike Ar175.2.1) Ar175.2.2 (inb_of S175 ⟨by decide, by decide⟩) (H175 _ (own_lt (inb_of S175 ⟨by decide, by decide⟩))) (g := (mkF m 277 #[sI x0, sJ x1, .second, sJ x2, .second, sI x3, sI v1, sJ v2, .second, sR b3, sR b6, sR b11, sJ v42, .second, sR b126, .unset, .unset, .unset, .unset, .unset] [(.int (2 : Int32)), (.ref b11), (.int (2 : Int32)), (.ref b126)])) rfl rfl (hb hby at_277) _ k) ?_
          show own_Go _ _ _ _ T166 (mkF m 278 _ [(.int (g125v 2)), (.int (2 : Int32)), (.ref b126)])
          refine own_st (fun t k => XS.iload X166.here hx rfl (hb hby at_278) rfl k) ?_
          show own_Go _ _ _ _ T166 (mkF m 280 _ [(.int v1), (.int (g125v 2)), (.int (2 : Int32)), (.ref b126)])
          obtain ⟨_, _, ⟨T176, L176, k176, n176⟩, -, X176, ⟨Lc176, hQ176, l176, y176, z176⟩, st176⟩ := Jvm.LawKit.callS X166 hx (y := ym12) hown (mvT hZ (own_w hw 41 rfl)) (mvT hZ (own_w hw 42 rfl)) (mvT hZ (own_w hw 43 rfl)) (mvT hZ (own_w hw 44 rfl)) (by decide) (backOf (W := 0) (rm24 l Z a0 hw [] b126 b137_na r137_kn (own_apl (own_apl (own_fill (fun _ => 0) v2 g49v g77v v1) (own_lv v1) (0 : Int32) (g125v 0) v1) (own_lv v1) (1 : Int32) (g125v 1) v1) (2 : Int32) (g125v 2) v1 (own_lv v1) T166.heap n0 Z174 f171 f172 fq166_0 f173 (Ne.symm ne147) (own_lvh (own_cnt hv1) (by decide)) gx_b137_na) hZ (own_w hw 44 rfl) (own_w hw 43 rfl) (by decide) (by decide)) (g := (mkF m 280 #[sI x0, sJ x1, .second, sJ x2, .second, sI x3, sI v1, sJ v2, .second, sR b3, sR b6, sR b11, sJ v42, .second, sR b126, .unset, .unset, .unset, .unset, .unset] [(.int v1), (.int (g125v 2)), (.int (2 : Int32)), (.ref b126)])) rfl (by rw [hml]; rfl) (argsL := [(.ref b126), (.int (2 : Int32)), (.int (g125v 2)), (.int v1)]) (rest := []) (lenOf own_pd__Lcom_example_tidemark_tidemark_core_ThetaLambdaTree_III_V rfl) rfl (by show 2 * 0 + _ ≤ _; exact Nat.le_of_eq rfl) (hb hby at_280) (fun _ _ => ⟨rfl, rfl, (by decide : 5 + 0 ≤ _), (by decide : 46 + 0 ≤ _)⟩)
          dsimp only [Pt.U, Pt.locs, Pt.cells, Pt.slots] at X176 l176 y176 z176 st176 hQ176
          subst l176 y176 z176
          obtain ⟨rfl, NQ176, K176, fq176_0⟩ := hQ176
          have N177 := Fr.app N167 NQ176
          refine own_st st176 ?_
          have f178 := f168.keep K176 (ninS ne144 nin0)
          have f179 := f169.keep K176 (ninS ne145 nin0)
          have f180 := f170.keep K176 (ninS ne146 nin0)
          have f181 := f171.keep K176
          have f182 := f172.keep K176 (ninS ne147 nin0)
          have f183 := f173.keep K176 (ninS ne147 nin0)
          have Z184 : n0 ≤ T176.heap.size := Nat.le_trans Z174 K176.1
          show own_Go _ _ _ _ T176 (mkF m 283 _ [])
          refine own_st (fun t k => XS.aload X176.here hx rfl (hb hby at_283) rfl rfl k) ?_
          show own_Go _ _ _ _ T176 (mkF m 285 _ [(.ref b126)])
          refine own_st (fun t k => XS.iconst X176.here hx rfl (hb hby at_285) k) ?_
          show own_Go _ _ _ _ T176 (mkF m 286 _ [(.int (3 : Int32)), (.ref b126)])
          refine own_st (fun t k => XS.aload X176.here hx rfl (hb hby at_286) rfl rfl k) ?_
          show own_Go _ _ _ _ T176 (mkF m 288 _ [(.ref b11), (.int (3 : Int32)), (.ref b126)])
          refine own_st (fun t k => XS.iconst X176.here hx rfl (hb hby at_288) k) ?_
          show own_Go _ _ _ _ T176 (mkF m 289 _ [(.int (3 : Int32)), (.ref b11), (.int (3 : Int32)), (.ref b126)])
          obtain ⟨c185, Ar185, q185, S185, N185, H185⟩ := id f180
          refine own_st (fun t k => X176.iaload hx (j := (3 : Int32)) (v := (.int (g125v 3))) (by exact Ar185.1) (State.isArrayOf_alike hZ.alike Ar185.2.1) Ar185.2.2 (inb_of S185 ⟨by decide, by decide⟩) (H185 _ (own_lt (inb_of S185 ⟨by decide, by decide⟩))) (g := (mkF m 289 #[sI x0, sJ x1, .second, sJ x2, .second, sI x3, sI v1, sJ v2, .second, sR b3, sR b6, sR b11, sJ v42, .second, sR b126, .unset, .unset, .unset, .unset, .unset] [(.int (3 : Int32)), (.ref b11), (.int (3 : Int32)), (.ref b126)])) rfl rfl (hb hby at_289) _ k) ?_
          show own_Go _ _ _ _ T176 (mkF m 290 _ [(.int (g125v 3)), (.int (3 : Int32)), (.ref b126)])
          refine own_st (fun t k => XS.iload X176.here hx rfl (hb hby at_290) rfl k) ?_
          show own_Go _ _ _ _ T176 (mkF m 292 _ [(.int v1), (.int (g125v 3)), (.int (3 : Int32)), (.ref b126)])
          obtain ⟨_, _, ⟨T186, L186, k186, n186⟩, -, X186, ⟨Lc186, hQ186, l186, y186, z186⟩, st186⟩ := Jvm.LawKit.callS X176 hx (y := ym12) hown (mvT hZ (own_w hw 41 rfl)) (mvT hZ (own_w hw 42 rfl)) (mvT hZ (own_w hw 43 rfl)) (mvT hZ (own_w hw 44 rfl)) (by decide) (backOf (W := 0) (rm24 l Z a0 hw [] b126 b137_na r137_kn (own_apl (own_apl (own_apl (own_fill (fun _ => 0) v2 g49v g77v v1) (own_lv v1) (0 : Int32) (g125v 0) v1) (own_lv v1) (1 : Int32) (g125v 1) v1) (own_lv v1) (2 : Int32) (g125v 2) v1) (3 : Int32) (g125v 3) v1 (own_lv v1) T176.heap n0 Z184 f181 f182 fq176_0 f183 (Ne.symm ne147) (own_lvh (own_cnt hv1) (by decide)) gx_b137_na) hZ (own_w hw 44 rfl) (own_w hw 43 rfl) (by decide) (by decide)) (g := (mkF m 292 #[sI x0, sJ x1, .second, sJ x2, .second, sI x3, sI v1, sJ v2, .second, sR b3, sR b6, sR b11, sJ v42, .second, sR b126, .unset, .unset, .unset, .unset, .unset] [(.int v1), (.int (g125v 3)), (.int (3 : Int32)), (.ref b126)])) rfl (by rw [hml]; rfl) (argsL := [(.ref b126), (.int (3 : Int32)), (.int (g125v 3)), (.int v1)]) (rest := []) (lenOf own_pd__Lcom_example_tidemark_tidemark_core_ThetaLambdaTree_III_V rfl) rfl (by show 2 * 0 + _ ≤ _; exact Nat.le_of_eq rfl) (hb hby at_292) (fun _ _ => ⟨rfl, rfl, (by decide : 5 + 0 ≤ _), (by decide : 46 + 0 ≤ _)⟩)
          dsimp only [Pt.U, Pt.locs, Pt.cells, Pt.slots] at X186 l186 y186 z186 st186 hQ186
          subst l186 y186 z186
          obtain ⟨rfl, NQ186, K186, fq186_0⟩ := hQ186
          have N187 := Fr.app N177 NQ186
          refine own_st st186 ?_
          have f188 := f178.keep K186 (ninS ne144 nin0)
          have f189 := f179.keep K186 (ninS ne145 nin0)
          have f190 := f180.keep K186 (ninS ne146 nin0)
          have f191 := f181.keep K186
          have f192 := f182.keep K186 (ninS ne147 nin0)
          have f193 := f183.keep K186 (ninS ne147 nin0)
          have Z194 : n0 ≤ T186.heap.size := Nat.le_trans Z184 K186.1
          show own_Go _ _ _ _ T186 (mkF m 295 _ [])
          refine own_st (fun t k => XS.lload X186.here hx rfl (hb hby at_295) rfl k) ?_
          show own_Go _ _ _ _ T186 (mkF m 297 _ [(.long v2)])
          refine own_st (fun t k => XS.aload X186.here hx rfl (hb hby at_297) rfl rfl k) ?_
          show own_Go _ _ _ _ T186 (mkF m 299 _ [(.ref b3), (.long v2)])
          refine own_st (fun t k => XS.aload X186.here hx rfl (hb hby at_299) rfl rfl k) ?_
          show own_Go _ _ _ _ T186 (mkF m 301 _ [(.ref b6), (.ref b3), (.long v2)])
          refine own_st (fun t k => XS.aload X186.here hx rfl (hb hby at_301) rfl rfl k) ?_
          show own_Go _ _ _ _ T186 (mkF m 303 _ [(.ref b11), (.ref b6), (.ref b3), (.long v2)])
          refine own_st (fun t k => XS.iconst X186.here hx rfl (hb hby at_303) k) ?_
          show own_Go _ _ _ _ T186 (mkF m 304 _ [(.int (-1 : Int32)), (.ref b11), (.ref b6), (.ref b3), (.long v2)])
          obtain ⟨_, _, ⟨T195, L195, k195, n195⟩, -, X195, ⟨Lc195, hQ195, l195, y195, z195⟩, st195⟩ := Jvm.LawKit.callS X186 hx (y := ym15) hown (mvT hZ (own_w hw 45 rfl)) (mvT hZ (own_w hw 46 rfl)) (mvT hZ (own_w hw 43 rfl)) (mvT hZ (own_w hw 47 rfl)) (by decide) (backOf (W := 0) (rm30 l Z a0 hw [] v2 b3 b6 b11 (-1 : Int32) k3 g49v k6 g77v k11 g125v T186.heap n0 Z194 f188 f189 f190) hZ (own_w hw 47 rfl) (own_w hw 43 rfl) (by decide) (by decide)) (g := (mkF m 304 #[sI x0, sJ x1, .second, sJ x2, .second, sI x3, sI v1, sJ v2, .second, sR b3, sR b6, sR b11, sJ v42, .second, sR b126, .unset, .unset, .unset, .unset, .unset] [(.int (-1 : Int32)), (.ref b11), (.ref b6), (.ref b3), (.long v2)])) rfl (by rw [hml]; rfl) (argsL := [(.long v2), (.ref b3), (.ref b6), (.ref b11), (.int (-1 : Int32))]) (rest := []) (lenOf own_pd__J_J_J_II_J rfl) rfl (by show 2 * 0 + _ ≤ _; exact Nat.le_of_eq rfl) (hb hby at_304) (fun _ _ => ⟨rfl, rfl, (by decide : 5 + 0 ≤ _), (by decide : 46 + 0 ≤ _)⟩)
          dsimp only [Pt.U, Pt.locs, Pt.cells, Pt.slots] at X195 l195 y195 z195 st195 hQ195
          subst l195 y195 z195
          obtain ⟨rfl, NQ195, eq195⟩ := hQ195
          have N196 := Fr.app N187 NQ195
          refine own_st st195 ?_
          show own_Go _ _ _ _ T195 (mkF m 307 _ [(.long (own_env v2 g49v g77v g125v (-1 : Int32)))])
          generalize hv197 : (own_env v2 g49v g77v g125v (-1 : Int32)) = v197
          refine own_st (fun t k => XS.lstore X195.here hx rfl (hb hby at_307) rfl (l' := #[sI x0, sJ x1, .second, sJ x2, .second, sI x3, sI v1, sJ v2, .second, sR b3, sR b6, sR b11, sJ v42, .second, sR b126, sJ v197, .second, .unset, .unset, .unset]) rfl k) ?_
          show own_Go _ _ _ _ T195 (mkF m 309 #[sI x0, sJ x1, .second, sJ x2, .second, sI x3, sI v1, sJ v2, .second, sR b3, sR b6, sR b11, sJ v42, .second, sR b126, sJ v197, .second, .unset, .unset, .unset] [])
          refine own_st (fun t k => XS.lload X195.here hx rfl (hb hby at_309) rfl k) ?_
          show own_Go _ _ _ _ T195 (mkF m 311 _ [(.long v197)])
          refine own_st (fun t k => XS.lstore X195.here hx rfl (hb hby at_311) rfl (l' := #[sI x0, sJ x1, .second, sJ x2, .second, sI x3, sI v1, sJ v2, .second, sR b3, sR b6, sR b11, sJ v42, .second, sR b126, sJ v197, .second, sJ v197, .second, .unset]) rfl k) ?_
          show own_Go _ _ _ _ T195 (mkF m 313 #[sI x0, sJ x1, .second, sJ x2, .second, sI x3, sI v1, sJ v2, .second, sR b3, sR b6, sR b11, sJ v42, .second, sR b126, sJ v197, .second, sJ v197, .second, .unset] [])
          refine own_st (fun t k => XS.lload X195.here hx rfl (hb hby at_313) rfl k) ?_
          show own_Go _ _ _ _ T195 (mkF m 315 _ [(.long v197)])
          refine own_st (fun t k => XS.lload X195.here hx rfl (hb hby at_315) rfl k) ?_
          show own_Go _ _ _ _ T195 (mkF m 317 _ [(.long v2), (.long v197)])
          refine own_st (fun t k => XS.aload X195.here hx rfl (hb hby at_317) rfl rfl k) ?_
          show own_Go _ _ _ _ T195 (mkF m 319 _ [(.ref b3), (.long v2), (.long v197)])
          refine own_st (fun t k => XS.aload X195.here hx rfl (hb hby at_319) rfl rfl k) ?_
          show own_Go _ _ _ _ T195 (mkF m 321 _ [(.ref b6), (.ref b3), (.long v2), (.long v197)])
          refine own_st (fun t k => XS.aload X195.here hx rfl (hb hby at_321) rfl rfl k) ?_
          show own_Go _ _ _ _ T195 (mkF m 323 _ [(.ref b11), (.ref b6), (.ref b3), (.long v2), (.long v197)])
          refine own_st (fun t k => XS.iconst X195.here hx rfl (hb hby at_323) k) ?_
          show own_Go _ _ _ _ T195 (mkF m 324 _ [(.int (0 : Int32)), (.ref b11), (.ref b6), (.ref b3), (.long v2), (.long v197)])
          obtain ⟨_, _, ⟨T198, L198, k198, n198⟩, -, X198, ⟨Lc198, hQ198, l198, y198, z198⟩, st198⟩ := Jvm.LawKit.callS X195 hx (y := ym16) hown (mvT hZ (own_w hw 55 rfl)) (mvT hZ (own_w hw 56 rfl)) (mvT hZ (own_w hw 43 rfl)) (mvT hZ (own_w hw 57 rfl)) (by decide) (backOf (W := 0) (rm31 l Z a0 hw [] v197 v2 b3 b6 b11 k3 g49v k6 g77v k11 g125v T186.heap n0 Z194 f188 f189 f190) hZ (own_w hw 57 rfl) (own_w hw 43 rfl) (by decide) (by decide)) (g := (mkF m 324 #[sI x0, sJ x1, .second, sJ x2, .second, sI x3, sI v1, sJ v2, .second, sR b3, sR b6, sR b11, sJ v42, .second, sR b126, sJ v197, .second, sJ v197, .second, .unset] [(.int (0 : Int32)), (.ref b11), (.ref b6), (.ref b3), (.long v2), (.long v197)])) rfl (by rw [hml]; rfl) (argsL := [(.long v197), (.long v2), (.ref b3), (.ref b6), (.ref b11), (.int (0 : Int32))]) (rest := []) (lenOf own_pd__JJ_J_J_II_J rfl) rfl (by show 2 * 0 + _ ≤ _; exact Nat.le_of_eq rfl) (hb hby at_324) (fun _ _ => ⟨rfl, eq195, (by decide : 5 + 0 ≤ _), (by decide : 46 + 0 ≤ _)⟩)
          dsimp only [Pt.U, Pt.locs, Pt.cells, Pt.slots] at X198 l198 y198 z198 st198 hQ198
          subst l198 y198 z198
          obtain ⟨rfl, NQ198, eq198⟩ := hQ198
          have N199 := Fr.app N196 NQ198
          refine own_st st198 ?_
          show own_Go _ _ _ _ T198 (mkF m 327 _ [(.long (own_wg0 v197 v2 g49v g77v g125v))])
          generalize hv200 : (own_wg0 v197 v2 g49v g77v g125v) = v200
          refine own_st (fun t k => XS.lstore X198.here hx rfl (hb hby at_327) rfl (l' := #[sI x0, sJ x1, .second, sJ x2, .second, sI x3, sI v1, sJ v2, .second, sR b3, sR b6, sR b11, sJ v42, .second, sR b126, sJ v197, .second, sJ v200, .second, .unset]) rfl k) ?_
          show own_Go _ _ _ _ T198 (mkF m 329 #[sI x0, sJ x1, .second, sJ x2, .second, sI x3, sI v1, sJ v2, .second, sR b3, sR b6, sR b11, sJ v42, .second, sR b126, sJ v197, .second, sJ v200, .second, .unset] [])
          refine own_st (fun t k => XS.lload X198.here hx rfl (hb hby at_329) rfl k) ?_
          show own_Go _ _ _ _ T198 (mkF m 331 _ [(.long v200)])
          refine own_st (fun t k => XS.lload X198.here hx rfl (hb hby at_331) rfl k) ?_
          show own_Go _ _ _ _ T198 (mkF m 333 _ [(.long v2), (.long v200)])
          refine own_st (fun t k => XS.aload X198.here hx rfl (hb hby at_333) rfl rfl k) ?_
          show own_Go _ _ _ _ T198 (mkF m 335 _ [(.ref b3), (.long v2), (.long v200)])
          refine own_st (fun t k => XS.aload X198.here hx rfl (hb hby at_335) rfl rfl k) ?_
          show own_Go _ _ _ _ T198 (mkF m 337 _ [(.ref b6), (.ref b3), (.long v2), (.long v200)])
          refine own_st (fun t k => XS.aload X198.here hx rfl (hb hby at_337) rfl rfl k) ?_
          show own_Go _ _ _ _ T198 (mkF m 339 _ [(.ref b11), (.ref b6), (.ref b3), (.long v2), (.long v200)])
          refine own_st (fun t k => XS.iconst X198.here hx rfl (hb hby at_339) k) ?_
          show own_Go _ _ _ _ T198 (mkF m 340 _ [(.int (1 : Int32)), (.ref b11), (.ref b6), (.ref b3), (.long v2), (.long v200)])
          obtain ⟨_, _, ⟨T201, L201, k201, n201⟩, -, X201, ⟨Lc201, hQ201, l201, y201, z201⟩, st201⟩ := Jvm.LawKit.callS X198 hx (y := ym16) hown (mvT hZ (own_w hw 55 rfl)) (mvT hZ (own_w hw 56 rfl)) (mvT hZ (own_w hw 43 rfl)) (mvT hZ (own_w hw 57 rfl)) (by decide) (backOf (W := 0) (rm32 l Z a0 hw [] v200 v2 b3 b6 b11 k3 g49v k6 g77v k11 g125v T186.heap n0 Z194 f188 f189 f190) hZ (own_w hw 57 rfl) (own_w hw 43 rfl) (by decide) (by decide)) (g := (mkF m 340 #[sI x0, sJ x1, .second, sJ x2, .second, sI x3, sI v1, sJ v2, .second, sR b3, sR b6, sR b11, sJ v42, .second, sR b126, sJ v197, .second, sJ v200, .second, .unset] [(.int (1 : Int32)), (.ref b11), (.ref b6), (.ref b3), (.long v2), (.long v200)])) rfl (by rw [hml]; rfl) (argsL := [(.long v200), (.long v2), (.ref b3), (.ref b6), (.ref b11), (.int (1 : Int32))]) (rest := []) (lenOf own_pd__JJ_J_J_II_J rfl) rfl (by show 2 * 0 + _ ≤ _; exact Nat.le_of_eq rfl) (hb hby at_340) (fun _ _ => ⟨rfl, eq198, (by decide : 5 + 0 ≤ _), (by decide : 46 + 0 ≤ _)⟩)
          dsimp only [Pt.U, Pt.locs, Pt.cells, Pt.slots] at X201 l201 y201 z201 st201 hQ201
          subst l201 y201 z201
          obtain ⟨rfl, NQ201, eq201⟩ := hQ201
          have N202 := Fr.app N199 NQ201
          refine own_st st201 ?_
          show own_Go _ _ _ _ T201 (mkF m 343 _ [(.long (own_wg1 v200 v2 g49v g77v g125v))])
          generalize hv203 : (own_wg1 v200 v2 g49v g77v g125v) = v203
          refine own_st (fun t k => XS.lstore X201.here hx rfl (hb hby at_343) rfl (l' := #[sI x0, sJ x1, .second, sJ x2, .second, sI x3, sI v1, sJ v2, .second, sR b3, sR b6, sR b11, sJ v42, .second, sR b126, sJ v197, .second, sJ v203, .second, .unset]) rfl k) ?_
          show own_Go _ _ _ _ T201 (mkF m 345 #[sI x0, sJ x1, .second, sJ x2, .second, sI x3, sI v1, sJ v2, .second, sR b3, sR b6, sR b11, sJ v42, .second, sR b126, sJ v197, .second, sJ v203, .second, .unset] [])
          refine own_st (fun t k => XS.lload X201.here hx rfl (hb hby at_345) rfl k) ?_
          show own_Go _ _ _ _ T201 (mkF m 347 _ [(.long v203)])
          refine own_st (fun t k => XS.lload X201.here hx rfl (hb hby at_347) rfl k) ?_
          show own_Go _ _ _ _ T201 (mkF m 349 _ [(.long v2), (.long v203)])
          refine own_st (fun t k => XS.aload X201.here hx rfl (hb hby at_349) rfl rfl k) ?_
          show own_Go _ _ _ _ T201 (mkF m 351 _ [(.ref b3), (.long v2), (.long v203)])
          refine own_st (fun t k => XS.aload X201.here hx rfl (hb hby at_351) rfl rfl k) ?_
          show own_Go _ _ _ _ T201 (mkF m 353 _ [(.ref b6), (.ref b3), (.long v2), (.long v203)])
          refine own_st (fun t k => XS.aload X201.here hx rfl (hb hby at_353) rfl rfl k) ?_
          show own_Go _ _ _ _ T201 (mkF m 355 _ [(.ref b11), (.ref b6), (.ref b3), (.long v2), (.long v203)])
          refine own_st (fun t k => XS.iconst X201.here hx rfl (hb hby at_355) k) ?_
          show own_Go _ _ _ _ T201 (mkF m 356 _ [(.int (2 : Int32)), (.ref b11), (.ref b6), (.ref b3), (.long v2), (.long v203)])
          obtain ⟨_, _, ⟨T204, L204, k204, n204⟩, -, X204, ⟨Lc204, hQ204, l204, y204, z204⟩, st204⟩ := Jvm.LawKit.callS X201 hx (y := ym16) hown (mvT hZ (own_w hw 55 rfl)) (mvT hZ (own_w hw 56 rfl)) (mvT hZ (own_w hw 43 rfl)) (mvT hZ (own_w hw 57 rfl)) (by decide) (backOf (W := 0) (rm33 l Z a0 hw [] v203 v2 b3 b6 b11 k3 g49v k6 g77v k11 g125v T186.heap n0 Z194 f188 f189 f190) hZ (own_w hw 57 rfl) (own_w hw 43 rfl) (by decide) (by decide)) (g := (mkF m 356 #[sI x0, sJ x1, .second, sJ x2, .second, sI x3, sI v1, sJ v2, .second, sR b3, sR b6, sR b11, sJ v42, .second, sR b126, sJ v197, .second, sJ v203, .second, .unset] [(.int (2 : Int32)), (.ref b11), (.ref b6), (.ref b3), (.long v2), (.long v203)])) rfl (by rw [hml]; rfl) (argsL := [(.long v203), (.long v2), (.ref b3), (.ref b6), (.ref b11), (.int (2 : Int32))]) (rest := []) (lenOf own_pd__JJ_J_J_II_J rfl) rfl (by show 2 * 0 + _ ≤ _; exact Nat.le_of_eq rfl) (hb hby at_356) (fun _ _ => ⟨rfl, eq201, (by decide : 5 + 0 ≤ _), (by decide : 46 + 0 ≤ _)⟩)
          dsimp only [Pt.U, Pt.locs, Pt.cells, Pt.slots] at X204 l204 y204 z204 st204 hQ204
          subst l204 y204 z204
          obtain ⟨rfl, NQ204, eq204⟩ := hQ204
          have N205 := Fr.app N202 NQ204
          refine own_st st204 ?_
          show own_Go _ _ _ _ T204 (mkF m 359 _ [(.long (own_wg2 v203 v2 g49v g77v g125v))])
          generalize hv206 : (own_wg2 v203 v2 g49v g77v g125v) = v206
          refine own_st (fun t k => XS.lstore X204.here hx rfl (hb hby at_359) rfl (l' := #[sI x0, sJ x1, .second, sJ x2, .second, sI x3, sI v1, sJ v2, .second, sR b3, sR b6, sR b11, sJ v42, .second, sR b126, sJ v197, .second, sJ v206, .second, .unset]) rfl k) ?_
          show own_Go _ _ _ _ T204 (mkF m 361 #[sI x0, sJ x1, .second, sJ x2, .second, sI x3, sI v1, sJ v2, .second, sR b3, sR b6, sR b11, sJ v42, .second, sR b126, sJ v197, .second, sJ v206, .second, .unset] [])
          refine own_st (fun t k => XS.lload X204.here hx rfl (hb hby at_361) rfl k) ?_
          show own_Go _ _ _ _ T204 (mkF m 363 _ [(.long v206)])
          refine own_st (fun t k => XS.lload X204.here hx rfl (hb hby at_363) rfl k) ?_
          show own_Go _ _ _ _ T204 (mkF m 365 _ [(.long v2), (.long v206)])
          refine own_st (fun t k => XS.aload X204.here hx rfl (hb hby at_365) rfl rfl k) ?_
          show own_Go _ _ _ _ T204 (mkF m 367 _ [(.ref b3), (.long v2), (.long v206)])
          refine own_st (fun t k => XS.aload X204.here hx rfl (hb hby at_367) rfl rfl k) ?_
          show own_Go _ _ _ _ T204 (mkF m 369 _ [(.ref b6), (.ref b3), (.long v2), (.long v206)])
          refine own_st (fun t k => XS.aload X204.here hx rfl (hb hby at_369) rfl rfl k) ?_
          show own_Go _ _ _ _ T204 (mkF m 371 _ [(.ref b11), (.ref b6), (.ref b3), (.long v2), (.long v206)])
          refine own_st (fun t k => XS.iconst X204.here hx rfl (hb hby at_371) k) ?_
          show own_Go _ _ _ _ T204 (mkF m 372 _ [(.int (3 : Int32)), (.ref b11), (.ref b6), (.ref b3), (.long v2), (.long v206)])
          obtain ⟨_, _, ⟨T207, L207, k207, n207⟩, -, X207, ⟨Lc207, hQ207, l207, y207, z207⟩, st207⟩ := Jvm.LawKit.callS X204 hx (y := ym16) hown (mvT hZ (own_w hw 55 rfl)) (mvT hZ (own_w hw 56 rfl)) (mvT hZ (own_w hw 43 rfl)) (mvT hZ (own_w hw 57 rfl)) (by decide) (backOf (W := 0) (rm34 l Z a0 hw [] v206 v2 b3 b6 b11 k3 g49v k6 g77v k11 g125v T186.heap n0 Z194 f188 f189 f190) hZ (own_w hw 57 rfl) (own_w hw 43 rfl) (by decide) (by decide)) (g := (mkF m 372 #[sI x0, sJ x1, .second, sJ x2, .second, sI x3, sI v1, sJ v2, .second, sR b3, sR b6, sR b11, sJ v42, .second, sR b126, sJ v197, .second, sJ v206, .second, .unset] [(.int (3 : Int32)), (.ref b11), (.ref b6), (.ref b3), (.long v2), (.long v206)])) rfl (by rw [hml]; rfl) (argsL := [(.long v206), (.long v2), (.ref b3), (.ref b6), (.ref b11), (.int (3 : Int32))]) (rest := []) (lenOf own_pd__JJ_J_J_II_J rfl) rfl (by show 2 * 0 + _ ≤ _; exact Nat.le_of_eq rfl) (hb hby at_372) (fun _ _ => ⟨rfl, eq204, (by decide : 5 + 0 ≤ _), (by decide : 46 + 0 ≤ _)⟩)
          dsimp only [Pt.U, Pt.locs, Pt.cells, Pt.slots] at X207 l207 y207 z207 st207 hQ207
          subst l207 y207 z207
          obtain ⟨rfl, NQ207, eq207⟩ := hQ207
          have N208 := Fr.app N205 NQ207
          refine own_st st207 ?_
          show own_Go _ _ _ _ T207 (mkF m 375 _ [(.long (own_wg3 v206 v2 g49v g77v g125v))])
          generalize hv209 : (own_wg3 v206 v2 g49v g77v g125v) = v209
          refine own_st (fun t k => XS.lstore X207.here hx rfl (hb hby at_375) rfl (l' := #[sI x0, sJ x1, .second, sJ x2, .second, sI x3, sI v1, sJ v2, .second, sR b3, sR b6, sR b11, sJ v42, .second, sR b126, sJ v197, .second, sJ v209, .second, .unset]) rfl k) ?_
          show own_Go _ _ _ _ T207 (mkF m 377 #[sI x0, sJ x1, .second, sJ x2, .second, sI x3, sI v1, sJ v2, .second, sR b3, sR b6, sR b11, sJ v42, .second, sR b126, sJ v197, .second, sJ v209, .second, .unset] [])
          refine own_st (fun t k => XS.lload X207.here hx rfl (hb hby at_377) rfl k) ?_
          show own_Go _ _ _ _ T207 (mkF m 379 _ [(.long v209)])
          refine own_st (fun t k => XS.lload X207.here hx rfl (hb hby at_379) rfl k) ?_
          show own_Go _ _ _ _ T207 (mkF m 381 _ [(.long v197), (.long v209)])
          refine own_st (fun t k => XS.lcmp X207.here hx rfl (hb hby at_381) rfl k) ?_
          show own_Go _ _ _ _ T207 (mkF m 382 _ [(.int (lcmpW v209 v197))])
          by_cases c210 : v197 < v209
          · skip
            refine own_st (fun t k => XS.ifYes X207.here hx rfl (pc0 := 382) (pc' := 387) rfl (hb hby at_382) rfl (own_lcT (cd := .gt) c210) (by decide) (by decide) k) ?_
            show own_Go _ _ _ _ T207 (mkF m 387 _ [])
            refine own_st (fun t k => XS.aload X207.here hx rfl (hb hby at_387) rfl rfl k) ?_
            show own_Go _ _ _ _ T207 (mkF m 389 _ [(.ref b126)])
            obtain ⟨cq211, kq211, q211a, q211b, q211c⟩ := isOf hZ eq207 f191
            obtain ⟨_, _, ⟨T211, L211, k211, n211⟩, -, X211, ⟨Lc211, hQ211, l211, y211, z211⟩, st211⟩ := X207.virtualBack hx (y := ym17) (z := ym17) hown (mvT hZ (own_w hw 73 rfl)) (mvT hZ (own_w hw 74 rfl)) (notFace_of_selects (args := #[]) (mvT hZ (own_w hw 76 rfl))) (mvT hZ (own_w hw 76 rfl)) (mvT hZ (own_w hw 75 rfl)) (by decide) (backOf (W := 0) (rm35 l Z a0 hw [] b126 b137_na r137_kn (own_apl (own_apl (own_apl (own_apl (own_fill (fun _ => 0) v2 g49v g77v v1) (own_lv v1) (0 : Int32) (g125v 0) v1) (own_lv v1) (1 : Int32) (g125v 1) v1) (own_lv v1) (2 : Int32) (g125v 2) v1) (own_lv v1) (3 : Int32) (g125v 3) v1) (own_lv v1) T186.heap n0 Z194 f191 f192 fq186_0 f193 (own_lvl (own_cnt hv1))) hZ (own_w hw 77 rfl) (own_w hw 5 rfl) (by decide) (by decide)) q211a q211c (g := (mkF m 389 #[sI x0, sJ x1, .second, sJ x2, .second, sI x3, sI v1, sJ v2, .second, sR b3, sR b6, sR b11, sJ v42, .second, sR b126, sJ v197, .second, sJ v209, .second, .unset] [(.ref b126)])) rfl (by rw [hml]; rfl) (Steps.refl _) (argsL := []) (rest := []) (lenOf own_pd___I rfl) rfl (by show 2 * 0 + _ ≤ _; exact Nat.le_of_eq rfl) (hb hby at_389) (fun _ _ => ⟨rfl, eq207, (by decide : 5 + 0 ≤ _), (by decide : 46 + 0 ≤ _)⟩)
            dsimp only [Pt.U, Pt.locs, Pt.cells, Pt.slots] at X211 l211 y211 z211 st211 hQ211
            subst l211 y211 z211
            obtain ⟨rfl, NQ211, eq211⟩ := hQ211
            have N212 := Fr.app N208 NQ211
            refine own_st (fun t k => st211.trans k) ?_
            show own_Go _ _ _ _ T211 (mkF m 392 _ [(.int (own_rg (own_apl (own_apl (own_apl (own_apl (own_fill (fun _ => 0) v2 g49v g77v v1) (own_lv v1) (0 : Int32) (g125v 0) v1) (own_lv v1) (1 : Int32) (g125v 1) v1) (own_lv v1) (2 : Int32) (g125v 2) v1) (own_lv v1) (3 : Int32) (g125v 3) v1) (own_lv v1)))])
            generalize hv213 : (own_rg (own_apl (own_apl (own_apl (own_apl (own_fill (fun _ => 0) v2 g49v g77v v1) (own_lv v1) (0 : Int32) (g125v 0) v1) (own_lv v1) (1 : Int32) (g125v 1) v1) (own_lv v1) (2 : Int32) (g125v 2) v1) (own_lv v1) (3 : Int32) (g125v 3) v1) (own_lv v1)) = v213
            refine own_st (fun t k => XS.istore X211.here hx rfl (hb hby at_392) rfl (l' := #[sI x0, sJ x1, .second, sJ x2, .second, sI x3, sI v1, sJ v2, .second, sR b3, sR b6, sR b11, sJ v42, .second, sR b126, sJ v197, .second, sJ v209, .second, sI v213]) rfl k) ?_
            show own_Go _ _ _ _ T211 (mkF m 394 #[sI x0, sJ x1, .second, sJ x2, .second, sI x3, sI v1, sJ v2, .second, sR b3, sR b6, sR b11, sJ v42, .second, sR b126, sJ v197, .second, sJ v209, .second, sI v213] [])
            refine own_st (fun t k => XS.iload X211.here hx rfl (hb hby at_394) rfl k) ?_
            show own_Go _ _ _ _ T211 (mkF m 396 _ [(.int v213)])
            have MM := (own_all x0 x1 x2 x3 v1 v2 v18 g25v v26 g33v v34 g41v v42 g49v g56v g63v g70v g77v p82 g89v p94 g101v p106 g113v p118 g125v r137_kn v197 v200 v203 v206 v209 v213 hv1 hv2 hv18 hgg25v hv26 hgg33v hv34 hgg41v hv42 hgg49v hgg56v hgg63v hgg70v hgg77v qp82 hgg89v qp94 hgg101v qp106 hgg113v qp118 hgg125v hv197 hv200 hv203 hv206 hv209 hv213 c210)
            refine own_st (fun t k => XS.ifNo X211.here hx rfl (hb hby at_396) rfl ((if0 _ _).trans (flt MM.1).1) k) ?_
            show own_Go _ _ _ _ T211 (mkF m 399 _ [])
            refine own_st (fun t k => XS.iload X211.here hx rfl (hb hby at_399) rfl k) ?_
            show own_Go _ _ _ _ T211 (mkF m 401 _ [(.int v213)])
            refine own_st (fun t k => XS.iload X211.here hx rfl (hb hby at_401) rfl k) ?_
            show own_Go _ _ _ _ T211 (mkF m 403 _ [(.int v1), (.int v213)])
            refine own_st (fun t k => XS.icmpYes X211.here hx rfl (pc0 := 403) (pc' := 408) rfl (hb hby at_403) rfl (tlt MM.2.1).1 (by decide) (by decide) k) ?_
            show own_Go _ _ _ _ T211 (mkF m 408 _ [])
            refine own_st (fun t k => XS.aload X211.here hx rfl (hb hby at_408) rfl rfl k) ?_
            show own_Go _ _ _ _ T211 (mkF m 410 _ [(.ref b11)])
            refine own_st (fun t k => XS.iload X211.here hx rfl (hb hby at_410) rfl k) ?_
            show own_Go _ _ _ _ T211 (mkF m 412 _ [(.int v213), (.ref b11)])
            obtain ⟨c214, Ar214, q214, S214, N214, H214⟩ := id f190
            refine own_st (fun t k => X211.iaload hx (j := v213) (v := (.int (g125v v213.toNatClampNeg))) (by rw [eq211]; exact Ar214.1) (State.isArrayOf_alike hZ.alike Ar214.2.1) Ar214.2.2 (inb_of S214 MM.2.2.1) (H214 _ (own_lt (inb_of S214 MM.2.2.1))) (g := (mkF m 412 #[sI x0, sJ x1, .second, sJ x2, .second, sI x3, sI v1, sJ v2, .second, sR b3, sR b6, sR b11, sJ v42, .second, sR b126, sJ v197, .second, sJ v209, .second, sI v213] [(.int v213), (.ref b11)])) rfl rfl (hb hby at_412) _ k) ?_
            show own_Go _ _ _ _ T211 (mkF m 413 _ [(.int (g125v v213.toNatClampNeg))])
            refine own_st (fun t k => XS.iconst X211.here hx rfl (hb hby at_413) k) ?_
            show own_Go _ _ _ _ T211 (mkF m 414 _ [(.int (1 : Int32)), (.int (g125v v213.toNatClampNeg))])
            refine own_st (fun t k => XS.icmpNo X211.here hx rfl (hb hby at_414) rfl (teq MM.2.2.2.1).2 k) ?_
            show own_Go _ _ _ _ T211 (mkF m 417 _ [])
            refine own_st (fun t k => XS.lload X211.here hx rfl (hb hby at_417) rfl k) ?_
            show own_Go _ _ _ _ T211 (mkF m 419 _ [(.long v2)])
            refine own_st (fun t k => XS.aload X211.here hx rfl (hb hby at_419) rfl rfl k) ?_
            show own_Go _ _ _ _ T211 (mkF m 421 _ [(.ref b3), (.long v2)])
            refine own_st (fun t k => XS.aload X211.here hx rfl (hb hby at_421) rfl rfl k) ?_
            show own_Go _ _ _ _ T211 (mkF m 423 _ [(.ref b6), (.ref b3), (.long v2)])
            refine own_st (fun t k => XS.aload X211.here hx rfl (hb hby at_423) rfl rfl k) ?_
            show own_Go _ _ _ _ T211 (mkF m 425 _ [(.ref b11), (.ref b6), (.ref b3), (.long v2)])
            refine own_st (fun t k => XS.iload X211.here hx rfl (hb hby at_425) rfl k) ?_
            show own_Go _ _ _ _ T211 (mkF m 427 _ [(.int v213), (.ref b11), (.ref b6), (.ref b3), (.long v2)])
            obtain ⟨_, _, ⟨T215, L215, k215, n215⟩, -, X215, ⟨Lc215, hQ215, l215, y215, z215⟩, st215⟩ := Jvm.LawKit.callS X211 hx (y := ym15) hown (mvT hZ (own_w hw 45 rfl)) (mvT hZ (own_w hw 46 rfl)) (mvT hZ (own_w hw 43 rfl)) (mvT hZ (own_w hw 47 rfl)) (by decide) (backOf (W := 0) (rm30 l Z a0 hw [] v2 b3 b6 b11 v213 k3 g49v k6 g77v k11 g125v T186.heap n0 Z194 f188 f189 f190) hZ (own_w hw 47 rfl) (own_w hw 43 rfl) (by decide) (by decide)) (g := (mkF m 427 #[sI x0, sJ x1, .second, sJ x2, .second, sI x3, sI v1, sJ v2, .second, sR b3, sR b6, sR b11, sJ v42, .second, sR b126, sJ v197, .second, sJ v209, .second, sI v213] [(.int v213), (.ref b11), (.ref b6), (.ref b3), (.long v2)])) rfl (by rw [hml]; rfl) (argsL := [(.long v2), (.ref b3), (.ref b6), (.ref b11), (.int v213)]) (rest := []) (lenOf own_pd__J_J_J_II_J rfl) rfl (by show 2 * 0 + _ ≤ _; exact Nat.le_of_eq rfl) (hb hby at_427) (fun _ _ => ⟨rfl, eq211, (by decide : 5 + 0 ≤ _), (by decide : 46 + 0 ≤ _)⟩)
            dsimp only [Pt.U, Pt.locs, Pt.cells, Pt.slots] at X215 l215 y215 z215 st215 hQ215
            subst l215 y215 z215
            obtain ⟨rfl, NQ215, eq215⟩ := hQ215
            have N216 := Fr.app N212 NQ215
            refine own_st st215 ?_
            show own_Go _ _ _ _ T215 (mkF m 430 _ [(.long (own_env v2 g49v g77v g125v v213))])
            refine own_st (fun t k => XS.lload X215.here hx rfl (hb hby at_430) rfl k) ?_
            show own_Go _ _ _ _ T215 (mkF m 432 _ [(.long v209), (.long (own_env v2 g49v g77v g125v v213))])
            refine own_st (fun t k => XS.lcmp X215.here hx rfl (hb hby at_432) rfl k) ?_
            show own_Go _ _ _ _ T215 (mkF m 433 _ [(.int (lcmpW (own_env v2 g49v g77v g125v v213) v209))])
            refine own_st (fun t k => XS.ifNo X215.here hx rfl (hb hby at_433) rfl (own_lcF (cd := .ne) (not_not_intro MM.2.2.2.2)) k) ?_
            show own_Go _ _ _ _ T215 (mkF m 436 _ [])
            refine own_st (fun t k => XS.iconst X215.here hx rfl (hb hby at_436) k) ?_
            show own_Go _ _ _ _ T215 (mkF m 437 _ [(.int (1 : Int32))])
            refine own_st (fun t k => XS.goto X215.here hx rfl (pc0 := 437) (pc' := 441) rfl (hb hby at_437) (by decide) (by decide) k) ?_
            show own_Go _ _ _ _ T215 (mkF m 441 _ [(.int (1 : Int32))])
            subst hPq
            refine own_out X215 (v := some (.int (nar .boolean (1 : Int32)))) (fun h => by rw [Bd.returns] at h; cases h) Bd.notSynchronized (fun fs hr => retN X215 hx (t := .boolean) Bd.returns (by simp) (hb hby at_441) hr) (by decide) (by decide) ?_
            show Q0 Z x0 x1 x2 x3 h0 n0 _ T215.heap _
            rw [eq215]
            exact ⟨congrArg (fun z => some (Value.int (nar .boolean z))) (own_law x0 x1 x2 x3 v1 v2 v18 g25v v26 g33v v34 g41v v42 g49v g56v g63v g70v g77v p82 g89v p94 g101v p106 g113v p118 g125v r137_kn v197 v200 v203 v206 v209 v213 hv1 hv2 hv18 hgg25v hv26 hgg33v hv34 hgg41v hv42 hgg49v hgg56v hgg63v hgg70v hgg77v qp82 hgg89v qp94 hgg101v qp106 hgg113v qp118 hgg125v hv197 hv200 hv203 hv206 hv209 hv213 c210), N216⟩
          · skip
            refine own_st (fun t k => XS.ifNo X207.here hx rfl (hb hby at_382) rfl (own_lcF (cd := .gt) c210) k) ?_
            show own_Go _ _ _ _ T207 (mkF m 385 _ [])
            refine own_st (fun t k => XS.iconst X207.here hx rfl (hb hby at_385) k) ?_
            show own_Go _ _ _ _ T207 (mkF m 386 _ [(.int (1 : Int32))])
            subst hPq
            refine own_out X207 (v := some (.int (nar .boolean (1 : Int32)))) (fun h => by rw [Bd.returns] at h; cases h) Bd.notSynchronized (fun fs hr => retN X207 hx (t := .boolean) Bd.returns (by simp) (hb hby at_386) hr) (by decide) (by decide) ?_
            show Q0 Z x0 x1 x2 x3 h0 n0 _ T207.heap _
            rw [eq207]
            exact ⟨congrArg (fun z => some (Value.int (nar .boolean z))) (own_law2 x0 x1 x2 x3 v1 v2 v18 g25v v26 g33v v34 g41v v42 g49v g56v g63v g70v g77v p82 g89v p94 g101v p106 g113v p118 g125v r137_kn v197 v200 v203 v206 v209 hv1 hv2 hv18 hgg25v hv26 hgg33v hv34 hgg41v hv42 hgg49v hgg56v hgg63v hgg70v hgg77v qp82 hgg89v qp94 hgg101v qp106 hgg113v qp118 hgg125v hv197 hv200 hv203 hv206 hv209 c210), N208⟩
        by_cases c114 : (3 : Int32) < v1
        · skip
          refine own_st (fun t k => XS.icmpNo X107.here hx rfl (hb hby at_210) rfl (tlt c114).2.1 k) ?_
          show own_Go _ _ _ _ T107 (mkF m 213 _ [(.int (3 : Int32)), (.ref b11)])
          refine own_st (fun t k => XS.iloadN X107.here hx rfl (hb hby at_213) rfl k) ?_
          show own_Go _ _ _ _ T107 (mkF m 214 _ [(.int x0), (.int (3 : Int32)), (.ref b11)])
          refine own_st (fun t k => XS.bipush X107.here hx rfl (hb hby at_214) k) ?_
          show own_Go _ _ _ _ T107 (mkF m 216 _ [(.int (6 : Int32)), (.int x0), (.int (3 : Int32)), (.ref b11)])
          refine own_st (fun t k => XS.iushr X107.here hx rfl (hb hby at_216) rfl k) ?_
          show own_Go _ _ _ _ T107 (mkF m 217 _ [(.int ((x0.toUInt32 >>> ((6 : Int32) &&& 31).toUInt32).toInt32)), (.int (3 : Int32)), (.ref b11)])
          refine own_st (fun t k => XS.iconst X107.here hx rfl (hb hby at_217) k) ?_
          show own_Go _ _ _ _ T107 (mkF m 218 _ [(.int (3 : Int32)), (.int ((x0.toUInt32 >>> ((6 : Int32) &&& 31).toUInt32).toInt32)), (.int (3 : Int32)), (.ref b11)])
          refine own_st (fun t k => XS.iand X107.here hx rfl (hb hby at_218) rfl k) ?_
          show own_Go _ _ _ _ T107 (mkF m 219 _ [(.int (((x0.toUInt32 >>> ((6 : Int32) &&& 31).toUInt32).toInt32) &&& (3 : Int32))), (.int (3 : Int32)), (.ref b11)])
          refine own_st (fun t k => XS.goto X107.here hx rfl (pc0 := 219) (pc' := 223) rfl (hb hby at_219) (by decide) (by decide) k) ?_
          show own_Go _ _ _ _ T107 (mkF m 223 _ [(.int (((x0.toUInt32 >>> ((6 : Int32) &&& 31).toUInt32).toInt32) &&& (3 : Int32))), (.int (3 : Int32)), (.ref b11)])
          exact J117 T107 _ _ (X107.mono (by decide) (by decide)) e107 N111 (by simp only [if_pos c114])
        · skip
          refine own_st (fun t k => XS.icmpYes X107.here hx rfl (pc0 := 210) (pc' := 222) rfl (hb hby at_210) rfl (flt c114).2.1 (by decide) (by decide) k) ?_
          show own_Go _ _ _ _ T107 (mkF m 222 _ [(.int (3 : Int32)), (.ref b11)])
          refine own_st (fun t k => XS.iconst X107.here hx rfl (hb hby at_222) k) ?_
          show own_Go _ _ _ _ T107 (mkF m 223 _ [(.int (2 : Int32)), (.int (3 : Int32)), (.ref b11)])
          exact J117 T107 _ _ (X107.mono (by decide) (by decide)) e107 N111 (by simp only [if_neg c114])
      by_cases c102 : (2 : Int32) < v1
      · skip
        refine own_st (fun t k => XS.icmpNo X95.here hx rfl (hb hby at_191) rfl (tlt c102).2.1 k) ?_
        show own_Go _ _ _ _ T95 (mkF m 194 _ [(.int (2 : Int32)), (.ref b11)])
        refine own_st (fun t k => XS.iloadN X95.here hx rfl (hb hby at_194) rfl k) ?_
        show own_Go _ _ _ _ T95 (mkF m 195 _ [(.int x0), (.int (2 : Int32)), (.ref b11)])
        refine own_st (fun t k => XS.iconst X95.here hx rfl (hb hby at_195) k) ?_
        show own_Go _ _ _ _ T95 (mkF m 196 _ [(.int (4 : Int32)), (.int x0), (.int (2 : Int32)), (.ref b11)])
        refine own_st (fun t k => XS.iushr X95.here hx rfl (hb hby at_196) rfl k) ?_
        show own_Go _ _ _ _ T95 (mkF m 197 _ [(.int ((x0.toUInt32 >>> ((4 : Int32) &&& 31).toUInt32).toInt32)), (.int (2 : Int32)), (.ref b11)])
        refine own_st (fun t k => XS.iconst X95.here hx rfl (hb hby at_197) k) ?_
        show own_Go _ _ _ _ T95 (mkF m 198 _ [(.int (3 : Int32)), (.int ((x0.toUInt32 >>> ((4 : Int32) &&& 31).toUInt32).toInt32)), (.int (2 : Int32)), (.ref b11)])
        refine own_st (fun t k => XS.iand X95.here hx rfl (hb hby at_198) rfl k) ?_
        show own_Go _ _ _ _ T95 (mkF m 199 _ [(.int (((x0.toUInt32 >>> ((4 : Int32) &&& 31).toUInt32).toInt32) &&& (3 : Int32))), (.int (2 : Int32)), (.ref b11)])
        refine own_st (fun t k => XS.goto X95.here hx rfl (pc0 := 199) (pc' := 203) rfl (hb hby at_199) (by decide) (by decide) k) ?_
        show own_Go _ _ _ _ T95 (mkF m 203 _ [(.int (((x0.toUInt32 >>> ((4 : Int32) &&& 31).toUInt32).toInt32) &&& (3 : Int32))), (.int (2 : Int32)), (.ref b11)])
        exact J105 T95 _ _ X95 e95 N99 (by simp only [if_pos c102])
      · skip
        refine own_st (fun t k => XS.icmpYes X95.here hx rfl (pc0 := 191) (pc' := 202) rfl (hb hby at_191) rfl (flt c102).2.1 (by decide) (by decide) k) ?_
        show own_Go _ _ _ _ T95 (mkF m 202 _ [(.int (2 : Int32)), (.ref b11)])
        refine own_st (fun t k => XS.iconst X95.here hx rfl (hb hby at_202) k) ?_
        show own_Go _ _ _ _ T95 (mkF m 203 _ [(.int (2 : Int32)), (.int (2 : Int32)), (.ref b11)])
        exact J105 T95 _ _ X95 e95 N99 (by simp only [if_neg c102])
    by_cases c90 : (1 : Int32) < v1
    · skip
      refine own_st (fun t k => XS.icmpNo X83.here hx rfl (hb hby at_172) rfl (tlt c90).2.1 k) ?_
      show own_Go _ _ _ _ T83 (mkF m 175 _ [(.int (1 : Int32)), (.ref b11)])
      refine own_st (fun t k => XS.iloadN X83.here hx rfl (hb hby at_175) rfl k) ?_
      show own_Go _ _ _ _ T83 (mkF m 176 _ [(.int x0), (.int (1 : Int32)), (.ref b11)])
      refine own_st (fun t k => XS.iconst X83.here hx rfl (hb hby at_176) k) ?_
      show own_Go _ _ _ _ T83 (mkF m 177 _ [(.int (2 : Int32)), (.int x0), (.int (1 : Int32)), (.ref b11)])
      refine own_st (fun t k => XS.iushr X83.here hx rfl (hb hby at_177) rfl k) ?_
      show own_Go _ _ _ _ T83 (mkF m 178 _ [(.int ((x0.toUInt32 >>> ((2 : Int32) &&& 31).toUInt32).toInt32)), (.int (1 : Int32)), (.ref b11)])
      refine own_st (fun t k => XS.iconst X83.here hx rfl (hb hby at_178) k) ?_
      show own_Go _ _ _ _ T83 (mkF m 179 _ [(.int (3 : Int32)), (.int ((x0.toUInt32 >>> ((2 : Int32) &&& 31).toUInt32).toInt32)), (.int (1 : Int32)), (.ref b11)])
      refine own_st (fun t k => XS.iand X83.here hx rfl (hb hby at_179) rfl k) ?_
      show own_Go _ _ _ _ T83 (mkF m 180 _ [(.int (((x0.toUInt32 >>> ((2 : Int32) &&& 31).toUInt32).toInt32) &&& (3 : Int32))), (.int (1 : Int32)), (.ref b11)])
      refine own_st (fun t k => XS.goto X83.here hx rfl (pc0 := 180) (pc' := 184) rfl (hb hby at_180) (by decide) (by decide) k) ?_
      show own_Go _ _ _ _ T83 (mkF m 184 _ [(.int (((x0.toUInt32 >>> ((2 : Int32) &&& 31).toUInt32).toInt32) &&& (3 : Int32))), (.int (1 : Int32)), (.ref b11)])
      exact J93 T83 _ _ X83 e83 N87 (by simp only [if_pos c90])
    · skip
      refine own_st (fun t k => XS.icmpYes X83.here hx rfl (pc0 := 172) (pc' := 183) rfl (hb hby at_172) rfl (flt c90).2.1 (by decide) (by decide) k) ?_
      show own_Go _ _ _ _ T83 (mkF m 183 _ [(.int (1 : Int32)), (.ref b11)])
      refine own_st (fun t k => XS.iconst X83.here hx rfl (hb hby at_183) k) ?_
      show own_Go _ _ _ _ T83 (mkF m 184 _ [(.int (2 : Int32)), (.int (1 : Int32)), (.ref b11)])
      exact J93 T83 _ _ X83 e83 N87 (by simp only [if_neg c90])
  by_cases c78 : (0 : Int32) < v1
  · skip
    refine own_st (fun t k => XS.icmpNo X71.here hx rfl (hb hby at_155) rfl (tlt c78).2.1 k) ?_
    show own_Go _ _ _ _ T71 (mkF m 158 _ [(.int (0 : Int32)), (.ref b11)])
    refine own_st (fun t k => XS.iloadN X71.here hx rfl (hb hby at_158) rfl k) ?_
    show own_Go _ _ _ _ T71 (mkF m 159 _ [(.int x0), (.int (0 : Int32)), (.ref b11)])
    refine own_st (fun t k => XS.iconst X71.here hx rfl (hb hby at_159) k) ?_
    show own_Go _ _ _ _ T71 (mkF m 160 _ [(.int (3 : Int32)), (.int x0), (.int (0 : Int32)), (.ref b11)])
    refine own_st (fun t k => XS.iand X71.here hx rfl (hb hby at_160) rfl k) ?_
    show own_Go _ _ _ _ T71 (mkF m 161 _ [(.int (x0 &&& (3 : Int32))), (.int (0 : Int32)), (.ref b11)])
    refine own_st (fun t k => XS.goto X71.here hx rfl (pc0 := 161) (pc' := 165) rfl (hb hby at_161) (by decide) (by decide) k) ?_
    show own_Go _ _ _ _ T71 (mkF m 165 _ [(.int (x0 &&& (3 : Int32))), (.int (0 : Int32)), (.ref b11)])
    exact J81 T71 _ _ X71 e71 N75 (by simp only [if_pos c78])
  · skip
    refine own_st (fun t k => XS.icmpYes X71.here hx rfl (pc0 := 155) (pc' := 164) rfl (hb hby at_155) rfl (flt c78).2.1 (by decide) (by decide) k) ?_
    show own_Go _ _ _ _ T71 (mkF m 164 _ [(.int (0 : Int32)), (.ref b11)])
    refine own_st (fun t k => XS.iconst X71.here hx rfl (hb hby at_164) k) ?_
    show own_Go _ _ _ _ T71 (mkF m 165 _ [(.int (2 : Int32)), (.int (0 : Int32)), (.ref b11)])
    exact J81 T71 _ _ X71 e71 N75 (by simp only [if_neg c78])
set_option maxRecDepth 65536 in
set_option maxHeartbeats 4000000 in
theorem own_comes {Post : Tables → Env → Array Value → State → Outcome → State → Prop} (hpost : ∀ tb e args s v u, (limb_1_1.after args s (.returned v) u = true ∧ limb_1_2.after args s (.returned v) u = true ∧ True) → FrameEnd s (.returned v) u (Jvm.fieldLocs frame_1_writes args s ++ Jvm.arrayLocs frame_1_arrays args s ++ Jvm.staticLocs frame_1_statics s) 24 192 → Post tb e args s (.returned v) u) :
    ArmFor flags0 classFile x code maxLocals ret World_1 tables_1 room_1 Calls_1 rest_1 Pre_1 Post := by
  intro l hfl _ _ p e ha hc hk s m args below hf hA hF happ hP
  obtain ⟨hcalls, hrest, hpre⟩ := hP
  obtain ⟨-, -, -, hnamed, -, -, -, hat⟩ := (Spec.applies_iff hf).mp happ
  obtain ⟨hg, hn⟩ := and_e (Cond.before_iff.mp (show (Jvm.Cond.and given_1 narrow_1).before args s = true from hpre))
  obtain ⟨g0, r0⟩ := and_e hg
  obtain ⟨g1, r1⟩ := and_e r0
  obtain ⟨g2, r2⟩ := and_e r1
  obtain ⟨g3, r3⟩ := and_e r2
  obtain ⟨w0, w1, w2, w3, rfl⟩ : ∃ w0 w1 w2 w3 : Value, args = #[w0, w1, w2, w3] := by
    have hs : args.size = 4 := by simpa [Cond.value, given_1] using g0
    obtain ⟨L⟩ := args
    match L, hs with
    | [w0, w1, w2, w3], _ => exact ⟨w0, w1, w2, w3, rfl⟩
  have hw := fun d (hd : d ∈ tables_1) => atoms_spec (ws := Jvm.Cond.code x code maxLocals ret :: tables_1) hat d (List.mem_cons_of_mem _ hd)
  obtain ⟨i0, ei0⟩ := is_v g1
  obtain rfl : w0 = (.int i0) := Option.some.inj ei0
  obtain ⟨i1, ei1⟩ := isL_v g2
  obtain rfl : w1 = (.long i1) := Option.some.inj ei1
  obtain ⟨i2, ei2⟩ := isL_v g3
  obtain rfl : w2 = (.long i2) := Option.some.inj ei2
  obtain ⟨i3, ei3⟩ := is_v r3
  obtain rfl : w3 = (.int i3) := Option.some.inj ei3
  obtain ⟨n, o, h1, h2, h3, _, L, rfl, ⟨rfl, N⟩, hq⟩ := rm0 l s _ hw tables_1 i0 i1 i2 i3 s.heap s.heap.size (Nat.le_refl _) p e ha hc hk s m _ below hf ((Spec.applies_iff_loose hf).mp happ).1 ⟨rfl, State.Warmed39.refl s, rfl⟩ trivial
  refine ⟨n, _, h1, h2, h3, hpost _ _ _ _ _ _ ⟨Cond.after_iff.mpr rfl, Cond.after_iff.mpr (eq_i res_at (Term.int_eval (1)) rfl), trivial⟩ ⟨hq.1, hq.2.1, (hq.2.2.sift fun y hy => Or.inr (N y hy)).mono (by decide) (by decide)⟩⟩
theorem main_1_1 : Claimed_1_1 := own_comes fun _ _ _ _ _ _ h hF => ⟨h.1, hF⟩
theorem main_1_2 : Claimed_1_2 := own_comes fun _ _ _ _ _ _ h hF => ⟨h.2.1, hF⟩
end Jvm.Pilot.@@N@@
namespace Jvm.Pilot.@@N@@
open Jvm Jvm.ClassFile Sem Op Lib Jvm.Free Jvm.Stand Jvm.Pilot.@@N@@.Jvm.D
/-! MADE BY PROGRAM (witnessworld.py) out of the Statement's table words and the real class files: 17 classes; the members and pool entries that the words name. The judged class is class 1, her method 1. -/
namespace start1
open Jvm.ClassFile
def u (s : String) : CpInfo := .utf8 (stringToUtf16 s)
/-- a pool by its gaps: so many unusable entries, then the entry; so many at the end -/
def gap : Nat → List CpInfo → List CpInfo
  | 0, r => r
  | n + 1, r => .unusable :: gap n r
def poolList (es : List (Nat × CpInfo)) (last : Nat) : List CpInfo := es.foldr (fun e r => gap e.1 (e.2 :: r)) (gap last [])
def pool (es : List (Nat × CpInfo)) (last : Nat) : Array CpInfo := ⟨poolList es last⟩
def fileOf (pool : Array CpInfo) (this : Nat) (attrs : Array Attribute := #[]) (ms : Array MethodInfo := #[]) (fl : Nat := 33) (sup : Nat := 0) (ifs : Array Nat := #[]) (fds : Array FieldInfo := #[]) : ClassFile where
  minorVersion := 0
  majorVersion := 65
  constantPool := pool
  accessFlags := fl
  thisClass := this
  superClass := sup
  interfaces := ifs
  fields := fds
  methods := ms
  attributes := attrs
def plain (name : String) (sup : Option ClassId) : Class where
  name := name
  kind := .ordinary
  loader := none
  accessFlags := 33
  super := sup
  interfaces := #[]
  cf := none
  fields := #[]
  methods := #[]
  instanceTypes := #[]
  staticTypes := #[]
  resolved := #[]
  callSites := []
  init := .initialized
  statics := none
  mirror := none

def pool0 : Array CpInfo := pool [(5, u "<init>"), (0, u "()V"), (1, .class_ 10), (1, u "java/lang/Object")] 113

def k0c0 : Code := { maxStack := 0, maxLocals := 1, code := object_method_1_code, exceptionTable := #[], attributes := #[] }
def k0m0 : Method := { name := "<init>", desc := "()V", sig := { parameters := [], returnType := none }, accessFlags := 1, code := some k0c0 }
/-- java/lang/Object -/
def k0 : Class := { plain "java/lang/Object" none with
  accessFlags := 33
  interfaces := #[]
  cf := some (fileOf pool0 8 #[] #[{ accessFlags := 1, nameIndex := 5, descriptorIndex := 6, attributes := #[] }] 33 0 #[] #[])
  fields := #[]
  methods := #[k0m0]
  instanceTypes := #[]
  staticTypes := #[]
  resolved := Array.replicate 124 none
  statics := none }

def pool1 : Array CpInfo := pool [(2, .class_ 4), (1, u "java/lang/Object"), (0, u "<init>"), (0, u "()V"), (0, .long 65535), (1, .class_ 10), (0, u "com/example/tidemark/tidemark/core/ThetaLambdaTree"), (0, .methodref 9 12), (0, .nameAndType 5 13), (0, u "(I)V"), (0, .methodref 9 15), (0, .nameAndType 16 17), (0, u "fill"), (0, u "(IJ[J[J)V"), (0, .methodref 19 20), (0, .class_ 21), (0, .nameAndType 22 23), (0, u "com/example/tidemark/tidemark/core/ThetaLambdaTreeResponsibleGrayPinLaw"), (0, u "apply"), (0, u "(Lcom/example/tidemark/tidemark/core/ThetaLambdaTree;III)V"), (0, .methodref 19 25), (0, .nameAndType 26 27), (0, u "env"), (0, u "(J[J[J[II)J"), (0, .methodref 19 29), (0, .nameAndType 30 31), (0, u "withGray"), (0, u "(JJ[J[J[II)J"), (0, .methodref 9 33), (0, .nameAndType 34 35), (0, u "responsibleGray"), (0, u "()I"), (0, .methodref 9 37), (0, .nameAndType 38 13), (0, u "gray"), (0, .methodref 9 40), (0, .nameAndType 41 13), (0, u "remove"), (0, .methodref 43 44), (0, .class_ 45), (0, .nameAndType 46 47), (0, u "java/lang/Math"), (0, u "max"), (0, u "(JJ)J"), (0, .methodref 19 49), (0, .nameAndType 50 51), (0, u "member"), (0, u "([III)Z"), (0, .long 13835058055282163712), (3, u "law"), (0, u "(IJJI)Z")] 7

def k1m0 : Method := { name := "<init>", desc := "()V", sig := { parameters := [], returnType := none }, accessFlags := 1, code := none }
def k1c1 : Code := { maxStack := 8, maxLocals := 20, code := code, exceptionTable := #[], attributes := #[] }
def k1m1 : Method := { name := "law", desc := "(IJJI)Z", sig := { parameters := [.int, .long, .long, .int], returnType := some .boolean }, accessFlags := 9, code := some k1c1 }
def k1c2 : Code := { maxStack := 2, maxLocals := 4, code := method_3_code, exceptionTable := #[], attributes := #[] }
def k1m2 : Method := { name := "apply", desc := "(Lcom/example/tidemark/tidemark/core/ThetaLambdaTree;III)V", sig := { parameters := [(.object "com/example/tidemark/tidemark/core/ThetaLambdaTree"), .int, .int, .int], returnType := none }, accessFlags := 10, code := some k1c2 }
def k1c3 : Code := { maxStack := 8, maxLocals := 8, code := method_4_code, exceptionTable := #[], attributes := #[] }
def k1m3 : Method := { name := "withGray", desc := "(JJ[J[J[II)J", sig := { parameters := [.long, .long, (.array .long), (.array .long), (.array .int), .int], returnType := some .long }, accessFlags := 10, code := some k1c3 }
def k1c4 : Code := { maxStack := 2, maxLocals := 3, code := method_5_code, exceptionTable := #[], attributes := #[] }
def k1m4 : Method := { name := "member", desc := "([III)Z", sig := { parameters := [(.array .int), .int, .int], returnType := some .boolean }, accessFlags := 10, code := some k1c4 }
def k1c5 : Code := { maxStack := 6, maxLocals := 20, code := method_6_code, exceptionTable := #[], attributes := #[] }
def k1m5 : Method := { name := "env", desc := "(J[J[J[II)J", sig := { parameters := [.long, (.array .long), (.array .long), (.array .int), .int], returnType := some .long }, accessFlags := 10, code := some k1c5 }
/-- com/example/tidemark/tidemark/core/ThetaLambdaTreeResponsibleGrayPinLaw -/
def k1 : Class := { plain "com/example/tidemark/tidemark/core/ThetaLambdaTreeResponsibleGrayPinLaw" (some 0) with
  accessFlags := 49
  interfaces := #[]
  cf := some (fileOf pool1 19 #[] #[{ accessFlags := 1, nameIndex := 5, descriptorIndex := 6, attributes := #[] }, { accessFlags := 9, nameIndex := 56, descriptorIndex := 57, attributes := #[] }, { accessFlags := 10, nameIndex := 22, descriptorIndex := 23, attributes := #[] }, { accessFlags := 10, nameIndex := 30, descriptorIndex := 31, attributes := #[] }, { accessFlags := 10, nameIndex := 50, descriptorIndex := 51, attributes := #[] }, { accessFlags := 10, nameIndex := 26, descriptorIndex := 27, attributes := #[] }] 49 2 #[] #[])
  fields := #[]
  methods := #[k1m0, k1m1, k1m2, k1m3, k1m4, k1m5]
  instanceTypes := #[]
  staticTypes := #[]
  resolved := Array.replicate 65 none
  statics := none }

def pool2 : Array CpInfo := pool [(3, .methodref 4 5), (0, .class_ 6), (0, .nameAndType 7 8), (0, u "java/lang/Object"), (0, u "<init>"), (0, u "()V"), (0, .class_ 10), (0, u "com/example/tidemark/tidemark/core/ThetaLambdaTree"), (0, .methodref 9 12), (0, .nameAndType 13 14), (0, u "leavesFor"), (0, u "(I)I"), (0, .fieldref 9 16), (0, .nameAndType 17 18), (0, u "nodes"), (0, u "[J"), (0, .methodref 20 21), (0, .class_ 22), (0, .nameAndType 23 24), (0, u "java/lang/Math"), (0, u "max"), (0, u "(II)I"), (0, .methodref 26 27), (0, .class_ 28), (0, .nameAndType 29 14), (0, u "java/lang/Integer"), (0, u "highestOneBit"), (0, .fieldref 9 31), (0, .nameAndType 32 33), (0, u "leaves"), (0, u "I"), (0, .methodref 9 35), (0, .nameAndType 36 37), (0, u "set"), (0, u "(IJJJJ)V"), (0, .long 13835058055282163712), (1, .methodref 9 41), (0, .nameAndType 42 43), (0, u "combine"), (0, u "(I)V"), (0, .methodref 9 45), (0, .nameAndType 46 43), (0, u "update"), (0, .methodref 20 48), (0, .nameAndType 23 49), (0, u "(JJ)J"), (0, u "NONE"), (0, u "J"), (1, u "STRIDE"), (1, u "ENERGY"), (1, u "ENVELOPE"), (1, u "GRAY_ENERGY"), (1, u "GRAY_ENVELOPE"), (3, u "fill"), (0, u "(IJ[J[J)V"), (1, u "gray"), (0, u "remove"), (3, u "responsibleGray"), (0, u "()I")] 2

def k2c0 : Code := { maxStack := 3, maxLocals := 2, code := prog_46_method_1_code, exceptionTable := #[], attributes := #[] }
def k2m0 : Method := { name := "<init>", desc := "(I)V", sig := { parameters := [.int], returnType := none }, accessFlags := 0, code := some k2c0 }
def k2c1 : Code := { maxStack := 3, maxLocals := 1, code := prog_46_method_2_code, exceptionTable := #[], attributes := #[] }
def k2m1 : Method := { name := "leavesFor", desc := "(I)I", sig := { parameters := [.int], returnType := some .int }, accessFlags := 8, code := some k2c1 }
def k2c2 : Code := { maxStack := 10, maxLocals := 9, code := prog_46_method_3_code, exceptionTable := #[], attributes := #[] }
def k2m2 : Method := { name := "fill", desc := "(IJ[J[J)V", sig := { parameters := [.int, .long, (.array .long), (.array .long)], returnType := none }, accessFlags := 0, code := some k2c2 }
def k2c3 : Code := { maxStack := 11, maxLocals := 3, code := prog_46_method_4_code, exceptionTable := #[], attributes := #[] }
def k2m3 : Method := { name := "gray", desc := "(I)V", sig := { parameters := [.int], returnType := none }, accessFlags := 0, code := some k2c3 }
def k2c4 : Code := { maxStack := 10, maxLocals := 2, code := prog_46_method_5_code, exceptionTable := #[], attributes := #[] }
def k2m4 : Method := { name := "remove", desc := "(I)V", sig := { parameters := [.int], returnType := none }, accessFlags := 0, code := some k2c4 }
def k2c5 : Code := { maxStack := 7, maxLocals := 8, code := prog_46_method_8_code, exceptionTable := #[], attributes := #[] }
def k2m5 : Method := { name := "responsibleGray", desc := "()I", sig := { parameters := [], returnType := some .int }, accessFlags := 0, code := some k2c5 }
def k2c6 : Code := { maxStack := 4, maxLocals := 11, code := prog_46_method_9_code, exceptionTable := #[], attributes := #[] }
def k2m6 : Method := { name := "set", desc := "(IJJJJ)V", sig := { parameters := [.int, .long, .long, .long, .long], returnType := none }, accessFlags := 2, code := some k2c6 }
def k2c7 : Code := { maxStack := 2, maxLocals := 3, code := prog_46_method_10_code, exceptionTable := #[], attributes := #[] }
def k2m7 : Method := { name := "update", desc := "(I)V", sig := { parameters := [.int], returnType := none }, accessFlags := 2, code := some k2c7 }
def k2c8 : Code := { maxStack := 16, maxLocals := 12, code := prog_46_method_11_code, exceptionTable := #[], attributes := #[] }
def k2m8 : Method := { name := "combine", desc := "(I)V", sig := { parameters := [.int], returnType := none }, accessFlags := 2, code := some k2c8 }
/-- com/example/tidemark/tidemark/core/ThetaLambdaTree -/
def k2 : Class := { plain "com/example/tidemark/tidemark/core/ThetaLambdaTree" (some 0) with
  accessFlags := 48
  interfaces := #[]
  cf := some (fileOf pool2 9 #[] #[{ accessFlags := 0, nameIndex := 7, descriptorIndex := 43, attributes := #[] }, { accessFlags := 8, nameIndex := 13, descriptorIndex := 14, attributes := #[] }, { accessFlags := 0, nameIndex := 65, descriptorIndex := 66, attributes := #[] }, { accessFlags := 0, nameIndex := 68, descriptorIndex := 43, attributes := #[] }, { accessFlags := 0, nameIndex := 69, descriptorIndex := 43, attributes := #[] }, { accessFlags := 0, nameIndex := 73, descriptorIndex := 74, attributes := #[] }, { accessFlags := 2, nameIndex := 36, descriptorIndex := 37, attributes := #[] }, { accessFlags := 2, nameIndex := 46, descriptorIndex := 43, attributes := #[] }, { accessFlags := 2, nameIndex := 42, descriptorIndex := 43, attributes := #[] }] 48 4 #[] #[{ accessFlags := 24, nameIndex := 50, descriptorIndex := 51, attributes := #[] }, { accessFlags := 26, nameIndex := 53, descriptorIndex := 33, attributes := #[] }, { accessFlags := 26, nameIndex := 55, descriptorIndex := 33, attributes := #[] }, { accessFlags := 26, nameIndex := 57, descriptorIndex := 33, attributes := #[] }, { accessFlags := 26, nameIndex := 59, descriptorIndex := 33, attributes := #[] }, { accessFlags := 26, nameIndex := 61, descriptorIndex := 33, attributes := #[] }, { accessFlags := 18, nameIndex := 17, descriptorIndex := 18, attributes := #[] }, { accessFlags := 2, nameIndex := 32, descriptorIndex := 33, attributes := #[] }])
  fields := #[{ name := "NONE", type := .long, accessFlags := 24, slot := 0, constantValue := 0 }, { name := "STRIDE", type := .int, accessFlags := 26, slot := 1, constantValue := 0 }, { name := "ENERGY", type := .int, accessFlags := 26, slot := 2, constantValue := 0 }, { name := "ENVELOPE", type := .int, accessFlags := 26, slot := 3, constantValue := 0 }, { name := "GRAY_ENERGY", type := .int, accessFlags := 26, slot := 4, constantValue := 0 }, { name := "GRAY_ENVELOPE", type := .int, accessFlags := 26, slot := 5, constantValue := 0 }, { name := "nodes", type := (.array .long), accessFlags := 18, slot := 0, constantValue := 0 }, { name := "leaves", type := .int, accessFlags := 2, slot := 1, constantValue := 0 }]
  methods := #[k2m0, k2m1, k2m2, k2m3, k2m4, k2m5, k2m6, k2m7, k2m8]
  instanceTypes := #[(.array .long), .int]
  staticTypes := #[.long, .int, .int, .int, .int, .int]
  resolved := Array.replicate 77 none
  statics := none }

def pool3 : Array CpInfo := pool [(1, .class_ 2), (0, u "java/lang/Math"), (1, .class_ 6), (1, u "java/lang/Object"), (0, u "<init>"), (0, u "()V"), (89, .class_ 100), (1, u "java/lang/Math$RandomNumberGeneratorHolder"), (20, u "(JJ)J"), (50, u "negativeZeroFloatBits"), (0, u "J"), (2, u "negativeZeroDoubleBits"), (21, u "max"), (46, u "$assertionsDisabled"), (0, u "Z"), (88, u "(II)I"), (2, u "twoToTheDoubleScaleDown"), (0, u "D"), (4, u "twoToTheDoubleScaleUp"), (9, u "E"), (3, u "PI"), (2, u "TAU"), (2, u "DEGREES_TO_RADIANS"), (0, u "RADIANS_TO_DEGREES")] 94

def k3m0 : Method := { name := "<init>", desc := "()V", sig := { parameters := [], returnType := none }, accessFlags := 2, code := none }
def k3c1 : Code := { maxStack := 2, maxLocals := 2, code := jdk_29_method_65_code, exceptionTable := #[], attributes := #[] }
def k3m1 : Method := { name := "max", desc := "(II)I", sig := { parameters := [.int, .int], returnType := some .int }, accessFlags := 9, code := some k3c1 }
def k3c2 : Code := { maxStack := 4, maxLocals := 4, code := jdk_29_method_66_code, exceptionTable := #[], attributes := #[] }
def k3m2 : Method := { name := "max", desc := "(JJ)J", sig := { parameters := [.long, .long], returnType := some .long }, accessFlags := 9, code := some k3c2 }
/-- java/lang/Math -/
def k3 : Class := { plain "java/lang/Math" (some 0) with
  accessFlags := 49
  interfaces := #[]
  cf := some (fileOf pool3 1 #[.nestMembers #[98]] #[{ accessFlags := 2, nameIndex := 7, descriptorIndex := 8, attributes := #[] }, { accessFlags := 9, nameIndex := 198, descriptorIndex := 335, attributes := #[] }, { accessFlags := 9, nameIndex := 198, descriptorIndex := 121, attributes := #[] }] 49 4 #[] #[{ accessFlags := 25, nameIndex := 354, descriptorIndex := 339, attributes := #[] }, { accessFlags := 25, nameIndex := 358, descriptorIndex := 339, attributes := #[] }, { accessFlags := 25, nameIndex := 361, descriptorIndex := 339, attributes := #[] }, { accessFlags := 26, nameIndex := 364, descriptorIndex := 339, attributes := #[] }, { accessFlags := 26, nameIndex := 365, descriptorIndex := 339, attributes := #[] }, { accessFlags := 26, nameIndex := 172, descriptorIndex := 173, attributes := #[] }, { accessFlags := 26, nameIndex := 176, descriptorIndex := 173, attributes := #[] }, { accessFlags := 8, nameIndex := 344, descriptorIndex := 339, attributes := #[] }, { accessFlags := 8, nameIndex := 338, descriptorIndex := 339, attributes := #[] }, { accessFlags := 4120, nameIndex := 245, descriptorIndex := 246, attributes := #[] }])
  fields := #[{ name := "E", type := .double, accessFlags := 25, slot := 0, constantValue := 0 }, { name := "PI", type := .double, accessFlags := 25, slot := 1, constantValue := 0 }, { name := "TAU", type := .double, accessFlags := 25, slot := 2, constantValue := 0 }, { name := "DEGREES_TO_RADIANS", type := .double, accessFlags := 26, slot := 3, constantValue := 0 }, { name := "RADIANS_TO_DEGREES", type := .double, accessFlags := 26, slot := 4, constantValue := 0 }, { name := "negativeZeroFloatBits", type := .long, accessFlags := 26, slot := 5, constantValue := 0 }, { name := "negativeZeroDoubleBits", type := .long, accessFlags := 26, slot := 6, constantValue := 0 }, { name := "twoToTheDoubleScaleUp", type := .double, accessFlags := 8, slot := 7, constantValue := 0 }, { name := "twoToTheDoubleScaleDown", type := .double, accessFlags := 8, slot := 8, constantValue := 0 }, { name := "$assertionsDisabled", type := .boolean, accessFlags := 4120, slot := 9, constantValue := 0 }]
  methods := #[k3m0, k3m1, k3m2]
  instanceTypes := #[]
  staticTypes := #[.double, .double, .double, .double, .double, .long, .long, .double, .double, .boolean]
  resolved := Array.replicate 460 none
  statics := none }

def pool4 : Array CpInfo := pool [(1, .class_ 2), (0, u "java/io/Serializable"), (0, .class_ 4), (0, u "java/lang/Object")] 2

/-- java/io/Serializable -/
def k4 : Class := { plain "java/io/Serializable" (some 0) with
  accessFlags := 1537
  interfaces := #[]
  cf := some (fileOf pool4 1 #[] #[] 1537 3 #[] #[])
  fields := #[]
  methods := #[]
  instanceTypes := #[]
  staticTypes := #[]
  resolved := Array.replicate 7 none
  statics := none }

def pool5 : Array CpInfo := pool [(2, .class_ 4), (1, u "java/lang/Object"), (0, u "<init>"), (0, u "()V"), (1, .class_ 10), (1, u "java/lang/Number"), (2, .class_ 14), (0, u "java/io/Serializable"), (0, u "serialVersionUID"), (0, u "J")] 20

def k5m0 : Method := { name := "<init>", desc := "()V", sig := { parameters := [], returnType := none }, accessFlags := 1, code := none }
/-- java/lang/Number -/
def k5 : Class := { plain "java/lang/Number" (some 0) with
  accessFlags := 1057
  interfaces := #[4]
  cf := some (fileOf pool5 8 #[] #[{ accessFlags := 1, nameIndex := 5, descriptorIndex := 6, attributes := #[] }] 1057 2 #[13] #[{ accessFlags := 26, nameIndex := 15, descriptorIndex := 16, attributes := #[] }])
  fields := #[{ name := "serialVersionUID", type := .long, accessFlags := 26, slot := 0, constantValue := 0 }]
  methods := #[k5m0]
  instanceTypes := #[]
  staticTypes := #[.long]
  resolved := Array.replicate 37 none
  statics := none }

def pool6 : Array CpInfo := pool [(1, .class_ 2), (0, u "java/lang/Comparable"), (0, .class_ 4), (0, u "java/lang/Object")] 7

/-- java/lang/Comparable -/
def k6 : Class := { plain "java/lang/Comparable" (some 0) with
  accessFlags := 1537
  interfaces := #[]
  cf := some (fileOf pool6 1 #[] #[] 1537 3 #[] #[])
  fields := #[]
  methods := #[]
  instanceTypes := #[]
  staticTypes := #[]
  resolved := Array.replicate 12 none
  statics := none }

def pool7 : Array CpInfo := pool [(1, .class_ 2), (0, u "java/lang/constant/Constable"), (0, .class_ 4), (0, u "java/lang/Object")] 6

/-- java/lang/constant/Constable -/
def k7 : Class := { plain "java/lang/constant/Constable" (some 0) with
  accessFlags := 1537
  interfaces := #[]
  cf := some (fileOf pool7 1 #[] #[] 1537 3 #[] #[])
  fields := #[]
  methods := #[]
  instanceTypes := #[]
  staticTypes := #[]
  resolved := Array.replicate 11 none
  statics := none }

def pool8 : Array CpInfo := pool [(1, .class_ 2), (0, u "java/lang/constant/ConstantDesc"), (0, .class_ 4), (0, u "java/lang/Object")] 32

/-- java/lang/constant/ConstantDesc -/
def k8 : Class := { plain "java/lang/constant/ConstantDesc" (some 0) with
  accessFlags := 1537
  interfaces := #[]
  cf := some (fileOf pool8 1 #[] #[] 1537 3 #[] #[])
  fields := #[]
  methods := #[]
  instanceTypes := #[]
  staticTypes := #[]
  resolved := Array.replicate 37 none
  statics := none }

def pool9 : Array CpInfo := pool [(1, .class_ 2), (0, u "java/lang/Integer"), (16, u "digits"), (0, u "[C"), (30, .methodref 1 52), (0, .nameAndType 53 54), (0, u "numberOfLeadingZeros"), (0, u "(I)I"), (30, u "DigitOnes"), (0, u "[B"), (2, u "DigitTens"), (37, .integer 2147483648), (61, .class_ 190), (0, u "java/lang/Integer$IntegerCache"), (3, u "I"), (8, .class_ 204), (0, u "java/lang/Number"), (2, u "value"), (56, .integer 65536), (37, u "TYPE"), (0, u "Ljava/lang/Class;"), (0, .class_ 305), (0, u "java/lang/Comparable"), (0, .class_ 307), (0, u "java/lang/constant/Constable"), (0, .class_ 309), (0, u "java/lang/constant/ConstantDesc"), (0, u "MIN_VALUE"), (1, u "MAX_VALUE"), (3, u "SIZE"), (1, u "BYTES"), (1, u "serialVersionUID"), (0, u "J"), (81, u "highestOneBit")] 49

def k9c0 : Code := { maxStack := 3, maxLocals := 1, code := jdk_33_method_45_code, exceptionTable := #[], attributes := #[] }
def k9m0 : Method := { name := "highestOneBit", desc := "(I)I", sig := { parameters := [.int], returnType := some .int }, accessFlags := 9, code := some k9c0 }
def k9c1 : Code := { maxStack := 3, maxLocals := 2, code := jdk_33_method_47_code, exceptionTable := #[], attributes := #[] }
def k9m1 : Method := { name := "numberOfLeadingZeros", desc := "(I)I", sig := { parameters := [.int], returnType := some .int }, accessFlags := 9, code := some k9c1 }
/-- java/lang/Integer -/
def k9 : Class := { plain "java/lang/Integer" (some 5) with
  accessFlags := 49
  interfaces := #[6, 7, 8]
  cf := some (fileOf pool9 1 #[.nestMembers #[189]] #[{ accessFlags := 9, nameIndex := 403, descriptorIndex := 54, attributes := #[] }, { accessFlags := 9, nameIndex := 53, descriptorIndex := 54, attributes := #[] }] 49 203 #[304, 306, 308] #[{ accessFlags := 25, nameIndex := 310, descriptorIndex := 194, attributes := #[] }, { accessFlags := 25, nameIndex := 312, descriptorIndex := 194, attributes := #[] }, { accessFlags := 25, nameIndex := 302, descriptorIndex := 303, attributes := #[] }, { accessFlags := 24, nameIndex := 19, descriptorIndex := 20, attributes := #[] }, { accessFlags := 24, nameIndex := 89, descriptorIndex := 86, attributes := #[] }, { accessFlags := 24, nameIndex := 85, descriptorIndex := 86, attributes := #[] }, { accessFlags := 18, nameIndex := 207, descriptorIndex := 194, attributes := #[] }, { accessFlags := 25, nameIndex := 316, descriptorIndex := 194, attributes := #[] }, { accessFlags := 25, nameIndex := 318, descriptorIndex := 194, attributes := #[] }, { accessFlags := 26, nameIndex := 320, descriptorIndex := 321, attributes := #[] }])
  fields := #[{ name := "MIN_VALUE", type := .int, accessFlags := 25, slot := 0, constantValue := 0 }, { name := "MAX_VALUE", type := .int, accessFlags := 25, slot := 1, constantValue := 0 }, { name := "TYPE", type := (.object "java/lang/Class"), accessFlags := 25, slot := 2, constantValue := 0 }, { name := "digits", type := (.array .char), accessFlags := 24, slot := 3, constantValue := 0 }, { name := "DigitTens", type := (.array .byte), accessFlags := 24, slot := 4, constantValue := 0 }, { name := "DigitOnes", type := (.array .byte), accessFlags := 24, slot := 5, constantValue := 0 }, { name := "value", type := .int, accessFlags := 18, slot := 0, constantValue := 0 }, { name := "SIZE", type := .int, accessFlags := 25, slot := 6, constantValue := 0 }, { name := "BYTES", type := .int, accessFlags := 25, slot := 7, constantValue := 0 }, { name := "serialVersionUID", type := .long, accessFlags := 26, slot := 8, constantValue := 0 }]
  methods := #[k9m0, k9m1]
  instanceTypes := #[.int]
  staticTypes := #[.int, .int, (.object "java/lang/Class"), (.array .char), (.array .byte), (.array .byte), .int, .int, .long]
  resolved := Array.replicate 453 none
  statics := none }

def pool10 : Array CpInfo := pool [(1, u "java/lang/Cloneable"), (0, .class_ 1), (0, u "java/lang/Object"), (0, .class_ 3)] 3

/-- java/lang/Cloneable -/
def k10 : Class := { plain "java/lang/Cloneable" (some 0) with
  accessFlags := 1537
  interfaces := #[]
  cf := some (fileOf pool10 2 #[] #[] 1537 4 #[] #[])
  fields := #[]
  methods := #[]
  instanceTypes := #[]
  staticTypes := #[]
  resolved := Array.replicate 8 none
  statics := none }

/-- the primitive byte -/
def k11 : Class := { plain "byte" none with kind := .primitive 'B', accessFlags := 0x411 }
/-- [B -/
def k12 : Class := { plain "[B" (some 0) with kind := .array 11 .byte, interfaces := #[10, 4], accessFlags := 1041 }

/-- the primitive int -/
def k13 : Class := { plain "int" none with kind := .primitive 'I', accessFlags := 0x411 }
/-- [I -/
def k14 : Class := { plain "[I" (some 0) with kind := .array 13 .int, interfaces := #[10, 4], accessFlags := 1041 }

/-- the primitive long -/
def k15 : Class := { plain "long" none with kind := .primitive 'J', accessFlags := 0x411 }
/-- [J -/
def k16 : Class := { plain "[J" (some 0) with kind := .array 15 .long, interfaces := #[10, 4], accessFlags := 1041 }

def heap : Heap := #[]
def classes : Array Class := #[k0, k1, k2, k3, k4, k5, k6, k7, k8, k9, k10, k11, k12, k13, k14, k15, k16]
def interned : List (Array UInt16 × Addr) := []
def slotsUsed : Nat := 0
def theMethod : MethodId := ⟨1, 1⟩
def args0 : Array Value := #[.int 5, .long 5, .long 5, .int 5]
def aboutOver (below : List Frame) : State where
  vm := { classes := classes, interned := interned.toArray }
  heap := heap
  slotsUsed := slotsUsed
  threads := #[{ frames := .invoking theMethod args0 :: below }]
def below0 : List Frame := [.native { method := ⟨0, 0⟩, args := #[] }]
def about1 : State := aboutOver below0
def p0 : Program := .bare "" "" ""
def e0 : Env := launch0.env 0 0 0
theorem w_frames : about1.frames = Frame.invoking theMethod args0 :: below0 := rfl
set_option maxRecDepth 65536 in
theorem w_args : argsFit about1.vm theMethod args0 = true := by decide +kernel
set_option maxRecDepth 65536 in
theorem w_heap : heapFits about1 = true := by decide +kernel
set_option maxRecDepth 65536 in
theorem w_runnable : about1.curStatus? = some .runnable := by decide +kernel
set_option maxRecDepth 65536 in
theorem w_alone : about1.alone = true := by decide +kernel
set_option maxRecDepth 65536 in
theorem w_named : about1.methodNamed? x = some theMethod := by decide +kernel
set_option maxRecDepth 65536 in
theorem w_hears : about1.hears theMethod below0 = true := by decide +kernel
set_option maxRecDepth 65536 in
theorem w_ripe : about1.ripe theMethod args0 below0 = true := by decide +kernel
theorem w_running : about1.status = .running := rfl
set_option maxRecDepth 65536 in
theorem w_room : about1.hasRoom e0.platform room_1 = true :=
  launch0.hasRoom_least _ room_1 (by decide +kernel) (by decide +kernel) (by decide +kernel) (by decide +kernel) (by decide +kernel) (by decide +kernel)
theorem allAtoms_all (ts : List Jvm.Cond) (a : Array Jvm.Value) (st : Jvm.State) : (allAtoms ts).before a st = ts.all (fun c => c.before a st) := by
  induction ts with
  | nil => rfl
  | cons c t ih =>
    show (Jvm.Cond.and c (allAtoms t)).before a st = _
    rw [Jvm.Cond.before_and, ih, List.all_cons]
def words1 : List Jvm.Cond := Jvm.Cond.code x code maxLocals ret :: tables_1
/-- a 'code' word, met by the world's own term for the bytes: nothing is compared byte by byte -/
theorem code_word {y : MethodName} {bytes : ByteArray} {mx : Nat} {rt : Option FieldType} {a : Array Value} {s : State} {m : MethodId} {meth : Method} {c : Code} (h1 : s.methodNamed? y = some m) (h2 : s.vm.method? m = some meth) (h3 : meth.code = some c) (h4 : c.code = bytes)
    (h5 : (c.maxLocals == mx && c.exceptionTable.isEmpty && decide (c.maxStack ≤ mostOperands) && decide (meth.sig.returnType = rt) && !meth.locks && decide (parseMethodDescriptor y.desc = some meth.sig)) = true) : (Jvm.Cond.code y bytes mx rt).before a s = true := by
  simp only [Bool.and_eq_true, beq_iff_eq, Bool.not_eq_true', decide_eq_true_eq] at h5
  obtain ⟨⟨⟨⟨⟨g1, g2⟩, g3⟩, g4⟩, g5⟩, g6⟩ := h5
  simp [Cond.before, Cond.holds, Cond.value, h1, h2, h3, h4, g1, g2, g3, g4, g5, g6]
def isCode : Jvm.Cond → Bool
  | .code _ _ _ _ => true
  | _ => false
theorem all_split {L : List Jvm.Cond} {P : Jvm.Cond → Bool} (h1 : L.all (fun c => isCode c || P c) = true) (h2 : ∀ c ∈ L.filter isCode, P c = true) : L.all P = true := by
  refine List.all_eq_true.mpr fun c hc => ?_
  have h := List.all_eq_true.mp h1 c hc
  rcases Bool.eq_false_or_eq_true (isCode c) with hi | hi
  · exact h2 c (List.mem_filter.mpr ⟨hc, hi⟩)
  · simpa [hi] using h
set_option maxRecDepth 65536 in
theorem w_c0 : (Jvm.Cond.code x code maxLocals ret).before args0 about1 = true := code_word (m := ⟨1, 1⟩) (meth := k1m1) (c := k1c1) (by decide +kernel) rfl rfl rfl (by decide +kernel)
set_option maxRecDepth 65536 in
theorem w_c1 : (Jvm.Cond.code ({ cls := "com/example/tidemark/tidemark/core/ThetaLambdaTree", name := "<init>", desc := "(I)V" } : Jvm.MethodName) prog_46_method_1_code (2 : Nat) (Option.none : Option Jvm.ClassFile.FieldType)).before args0 about1 = true := code_word (m := ⟨2, 0⟩) (meth := k2m0) (c := k2c0) (by decide +kernel) rfl rfl rfl (by decide +kernel)
set_option maxRecDepth 65536 in
theorem w_c2 : (Jvm.Cond.code ({ cls := "java/lang/Object", name := "<init>", desc := "()V" } : Jvm.MethodName) object_method_1_code (1 : Nat) (Option.none : Option Jvm.ClassFile.FieldType)).before args0 about1 = true := code_word (m := ⟨0, 0⟩) (meth := k0m0) (c := k0c0) (by decide +kernel) rfl rfl rfl (by decide +kernel)
set_option maxRecDepth 65536 in
theorem w_c3 : (Jvm.Cond.code ({ cls := "com/example/tidemark/tidemark/core/ThetaLambdaTree", name := "leavesFor", desc := "(I)I" } : Jvm.MethodName) prog_46_method_2_code (1 : Nat) (Option.some Jvm.ClassFile.FieldType.int)).before args0 about1 = true := code_word (m := ⟨2, 1⟩) (meth := k2m1) (c := k2c1) (by decide +kernel) rfl rfl rfl (by decide +kernel)
set_option maxRecDepth 65536 in
theorem w_c4 : (Jvm.Cond.code ({ cls := "java/lang/Math", name := "max", desc := "(II)I" } : Jvm.MethodName) jdk_29_method_65_code (2 : Nat) (Option.some Jvm.ClassFile.FieldType.int)).before args0 about1 = true := code_word (m := ⟨3, 1⟩) (meth := k3m1) (c := k3c1) (by decide +kernel) rfl rfl rfl (by decide +kernel)
set_option maxRecDepth 65536 in
theorem w_c5 : (Jvm.Cond.code ({ cls := "java/lang/Integer", name := "highestOneBit", desc := "(I)I" } : Jvm.MethodName) jdk_33_method_45_code (1 : Nat) (Option.some Jvm.ClassFile.FieldType.int)).before args0 about1 = true := code_word (m := ⟨9, 0⟩) (meth := k9m0) (c := k9c0) (by decide +kernel) rfl rfl rfl (by decide +kernel)
set_option maxRecDepth 65536 in
theorem w_c6 : (Jvm.Cond.code ({ cls := "java/lang/Integer", name := "numberOfLeadingZeros", desc := "(I)I" } : Jvm.MethodName) jdk_33_method_47_code (2 : Nat) (Option.some Jvm.ClassFile.FieldType.int)).before args0 about1 = true := code_word (m := ⟨9, 1⟩) (meth := k9m1) (c := k9c1) (by decide +kernel) rfl rfl rfl (by decide +kernel)
set_option maxRecDepth 65536 in
theorem w_c7 : (Jvm.Cond.code ({ cls := "com/example/tidemark/tidemark/core/ThetaLambdaTree", name := "fill", desc := "(IJ[J[J)V" } : Jvm.MethodName) prog_46_method_3_code (9 : Nat) (Option.none : Option Jvm.ClassFile.FieldType)).before args0 about1 = true := code_word (m := ⟨2, 2⟩) (meth := k2m2) (c := k2c2) (by decide +kernel) rfl rfl rfl (by decide +kernel)
set_option maxRecDepth 65536 in
theorem w_c8 : (Jvm.Cond.code ({ cls := "com/example/tidemark/tidemark/core/ThetaLambdaTree", name := "set", desc := "(IJJJJ)V" } : Jvm.MethodName) prog_46_method_9_code (11 : Nat) (Option.none : Option Jvm.ClassFile.FieldType)).before args0 about1 = true := code_word (m := ⟨2, 6⟩) (meth := k2m6) (c := k2c6) (by decide +kernel) rfl rfl rfl (by decide +kernel)
set_option maxRecDepth 65536 in
theorem w_c9 : (Jvm.Cond.code ({ cls := "com/example/tidemark/tidemark/core/ThetaLambdaTreeResponsibleGrayPinLaw", name := "apply", desc := "(Lcom/example/tidemark/tidemark/core/ThetaLambdaTree;III)V" } : Jvm.MethodName) method_3_code (4 : Nat) (Option.none : Option Jvm.ClassFile.FieldType)).before args0 about1 = true := code_word (m := ⟨1, 2⟩) (meth := k1m2) (c := k1c2) (by decide +kernel) rfl rfl rfl (by decide +kernel)
set_option maxRecDepth 65536 in
theorem w_c10 : (Jvm.Cond.code ({ cls := "com/example/tidemark/tidemark/core/ThetaLambdaTreeResponsibleGrayPinLaw", name := "env", desc := "(J[J[J[II)J" } : Jvm.MethodName) method_6_code (20 : Nat) (Option.some Jvm.ClassFile.FieldType.long)).before args0 about1 = true := code_word (m := ⟨1, 5⟩) (meth := k1m5) (c := k1c5) (by decide +kernel) rfl rfl rfl (by decide +kernel)
set_option maxRecDepth 65536 in
theorem w_c11 : (Jvm.Cond.code ({ cls := "com/example/tidemark/tidemark/core/ThetaLambdaTreeResponsibleGrayPinLaw", name := "member", desc := "([III)Z" } : Jvm.MethodName) method_5_code (3 : Nat) (Option.some Jvm.ClassFile.FieldType.boolean)).before args0 about1 = true := code_word (m := ⟨1, 4⟩) (meth := k1m4) (c := k1c4) (by decide +kernel) rfl rfl rfl (by decide +kernel)
set_option maxRecDepth 65536 in
theorem w_c12 : (Jvm.Cond.code ({ cls := "java/lang/Math", name := "max", desc := "(JJ)J" } : Jvm.MethodName) jdk_29_method_66_code (4 : Nat) (Option.some Jvm.ClassFile.FieldType.long)).before args0 about1 = true := code_word (m := ⟨3, 2⟩) (meth := k3m2) (c := k3c2) (by decide +kernel) rfl rfl rfl (by decide +kernel)
set_option maxRecDepth 65536 in
theorem w_c13 : (Jvm.Cond.code ({ cls := "com/example/tidemark/tidemark/core/ThetaLambdaTreeResponsibleGrayPinLaw", name := "withGray", desc := "(JJ[J[J[II)J" } : Jvm.MethodName) method_4_code (8 : Nat) (Option.some Jvm.ClassFile.FieldType.long)).before args0 about1 = true := code_word (m := ⟨1, 3⟩) (meth := k1m3) (c := k1c3) (by decide +kernel) rfl rfl rfl (by decide +kernel)
set_option maxRecDepth 65536 in
theorem w_c14 : (Jvm.Cond.code ({ cls := "com/example/tidemark/tidemark/core/ThetaLambdaTree", name := "remove", desc := "(I)V" } : Jvm.MethodName) prog_46_method_5_code (2 : Nat) (Option.none : Option Jvm.ClassFile.FieldType)).before args0 about1 = true := code_word (m := ⟨2, 4⟩) (meth := k2m4) (c := k2c4) (by decide +kernel) rfl rfl rfl (by decide +kernel)
set_option maxRecDepth 65536 in
theorem w_c15 : (Jvm.Cond.code ({ cls := "com/example/tidemark/tidemark/core/ThetaLambdaTree", name := "update", desc := "(I)V" } : Jvm.MethodName) prog_46_method_10_code (3 : Nat) (Option.none : Option Jvm.ClassFile.FieldType)).before args0 about1 = true := code_word (m := ⟨2, 7⟩) (meth := k2m7) (c := k2c7) (by decide +kernel) rfl rfl rfl (by decide +kernel)
set_option maxRecDepth 65536 in
theorem w_c16 : (Jvm.Cond.code ({ cls := "com/example/tidemark/tidemark/core/ThetaLambdaTree", name := "gray", desc := "(I)V" } : Jvm.MethodName) prog_46_method_4_code (3 : Nat) (Option.none : Option Jvm.ClassFile.FieldType)).before args0 about1 = true := code_word (m := ⟨2, 3⟩) (meth := k2m3) (c := k2c3) (by decide +kernel) rfl rfl rfl (by decide +kernel)
set_option maxRecDepth 65536 in
theorem w_c17 : (Jvm.Cond.code ({ cls := "com/example/tidemark/tidemark/core/ThetaLambdaTree", name := "responsibleGray", desc := "()I" } : Jvm.MethodName) prog_46_method_8_code (8 : Nat) (Option.some Jvm.ClassFile.FieldType.int)).before args0 about1 = true := code_word (m := ⟨2, 5⟩) (meth := k2m5) (c := k2c5) (by decide +kernel) rfl rfl rfl (by decide +kernel)
set_option maxRecDepth 65536 in
theorem w_c18 : (Jvm.Cond.code ({ cls := "com/example/tidemark/tidemark/core/ThetaLambdaTree", name := "combine", desc := "(I)V" } : Jvm.MethodName) prog_46_method_11_code (12 : Nat) (Option.none : Option Jvm.ClassFile.FieldType)).before args0 about1 = true := code_word (m := ⟨2, 8⟩) (meth := k2m8) (c := k2c8) (by decide +kernel) rfl rfl rfl (by decide +kernel)
def codes1 : List Jvm.Cond := [Jvm.Cond.code x code maxLocals ret, Jvm.Cond.code ({ cls := "com/example/tidemark/tidemark/core/ThetaLambdaTree", name := "<init>", desc := "(I)V" } : Jvm.MethodName) prog_46_method_1_code (2 : Nat) (Option.none : Option Jvm.ClassFile.FieldType), Jvm.Cond.code ({ cls := "java/lang/Object", name := "<init>", desc := "()V" } : Jvm.MethodName) object_method_1_code (1 : Nat) (Option.none : Option Jvm.ClassFile.FieldType), Jvm.Cond.code ({ cls := "com/example/tidemark/tidemark/core/ThetaLambdaTree", name := "leavesFor", desc := "(I)I" } : Jvm.MethodName) prog_46_method_2_code (1 : Nat) (Option.some Jvm.ClassFile.FieldType.int), Jvm.Cond.code ({ cls := "java/lang/Math", name := "max", desc := "(II)I" } : Jvm.MethodName) jdk_29_method_65_code (2 : Nat) (Option.some Jvm.ClassFile.FieldType.int), Jvm.Cond.code ({ cls := "java/lang/Integer", name := "highestOneBit", desc := "(I)I" } : Jvm.MethodName) jdk_33_method_45_code (1 : Nat) (Option.some Jvm.ClassFile.FieldType.int), Jvm.Cond.code ({ cls := "java/lang/Integer", name := "numberOfLeadingZeros", desc := "(I)I" } : Jvm.MethodName) jdk_33_method_47_code (2 : Nat) (Option.some Jvm.ClassFile.FieldType.int), Jvm.Cond.code ({ cls := "com/example/tidemark/tidemark/core/ThetaLambdaTree", name := "fill", desc := "(IJ[J[J)V" } : Jvm.MethodName) prog_46_method_3_code (9 : Nat) (Option.none : Option Jvm.ClassFile.FieldType), Jvm.Cond.code ({ cls := "com/example/tidemark/tidemark/core/ThetaLambdaTree", name := "set", desc := "(IJJJJ)V" } : Jvm.MethodName) prog_46_method_9_code (11 : Nat) (Option.none : Option Jvm.ClassFile.FieldType), Jvm.Cond.code ({ cls := "com/example/tidemark/tidemark/core/ThetaLambdaTreeResponsibleGrayPinLaw", name := "apply", desc := "(Lcom/example/tidemark/tidemark/core/ThetaLambdaTree;III)V" } : Jvm.MethodName) method_3_code (4 : Nat) (Option.none : Option Jvm.ClassFile.FieldType), Jvm.Cond.code ({ cls := "com/example/tidemark/tidemark/core/ThetaLambdaTreeResponsibleGrayPinLaw", name := "env", desc := "(J[J[J[II)J" } : Jvm.MethodName) method_6_code (20 : Nat) (Option.some Jvm.ClassFile.FieldType.long), Jvm.Cond.code ({ cls := "com/example/tidemark/tidemark/core/ThetaLambdaTreeResponsibleGrayPinLaw", name := "member", desc := "([III)Z" } : Jvm.MethodName) method_5_code (3 : Nat) (Option.some Jvm.ClassFile.FieldType.boolean), Jvm.Cond.code ({ cls := "java/lang/Math", name := "max", desc := "(JJ)J" } : Jvm.MethodName) jdk_29_method_66_code (4 : Nat) (Option.some Jvm.ClassFile.FieldType.long), Jvm.Cond.code ({ cls := "com/example/tidemark/tidemark/core/ThetaLambdaTreeResponsibleGrayPinLaw", name := "withGray", desc := "(JJ[J[J[II)J" } : Jvm.MethodName) method_4_code (8 : Nat) (Option.some Jvm.ClassFile.FieldType.long), Jvm.Cond.code ({ cls := "com/example/tidemark/tidemark/core/ThetaLambdaTree", name := "remove", desc := "(I)V" } : Jvm.MethodName) prog_46_method_5_code (2 : Nat) (Option.none : Option Jvm.ClassFile.FieldType), Jvm.Cond.code ({ cls := "com/example/tidemark/tidemark/core/ThetaLambdaTree", name := "update", desc := "(I)V" } : Jvm.MethodName) prog_46_method_10_code (3 : Nat) (Option.none : Option Jvm.ClassFile.FieldType), Jvm.Cond.code ({ cls := "com/example/tidemark/tidemark/core/ThetaLambdaTree", name := "gray", desc := "(I)V" } : Jvm.MethodName) prog_46_method_4_code (3 : Nat) (Option.none : Option Jvm.ClassFile.FieldType), Jvm.Cond.code ({ cls := "com/example/tidemark/tidemark/core/ThetaLambdaTree", name := "responsibleGray", desc := "()I" } : Jvm.MethodName) prog_46_method_8_code (8 : Nat) (Option.some Jvm.ClassFile.FieldType.int), Jvm.Cond.code ({ cls := "com/example/tidemark/tidemark/core/ThetaLambdaTree", name := "combine", desc := "(I)V" } : Jvm.MethodName) prog_46_method_11_code (12 : Nat) (Option.none : Option Jvm.ClassFile.FieldType)]
set_option maxRecDepth 65536 in
theorem codes_eq : words1.filter isCode = codes1 := rfl
theorem w_codes : ∀ c ∈ words1.filter isCode, c.before args0 about1 = true := by
  rw [codes_eq]
  intro c hc
  simp only [codes1, List.mem_cons, List.not_mem_nil, or_false] at hc
  rcases hc with rfl | rfl | rfl | rfl | rfl | rfl | rfl | rfl | rfl | rfl | rfl | rfl | rfl | rfl | rfl | rfl | rfl | rfl | rfl
  · exact w_c0
  · exact w_c1
  · exact w_c2
  · exact w_c3
  · exact w_c4
  · exact w_c5
  · exact w_c6
  · exact w_c7
  · exact w_c8
  · exact w_c9
  · exact w_c10
  · exact w_c11
  · exact w_c12
  · exact w_c13
  · exact w_c14
  · exact w_c15
  · exact w_c16
  · exact w_c17
  · exact w_c18
set_option maxRecDepth 65536 in
theorem w_t1 : (words1.take 24).all (fun c => isCode c || c.before args0 about1) = true := by decide +kernel
set_option maxRecDepth 65536 in
theorem w_t2 : ((words1.drop 24).take 24).all (fun c => isCode c || c.before args0 about1) = true := by decide +kernel
set_option maxRecDepth 65536 in
theorem w_t3 : (((words1.drop 24).drop 24).take 24).all (fun c => isCode c || c.before args0 about1) = true := by decide +kernel
set_option maxRecDepth 65536 in
theorem w_t4 : (((words1.drop 24).drop 24).drop 24).all (fun c => isCode c || c.before args0 about1) = true := by decide +kernel
theorem w_tables : (allAtoms (Jvm.Cond.code x code maxLocals ret :: tables_1)).before args0 about1 = true := by
  rw [allAtoms_all]
  show words1.all (fun c => c.before args0 about1) = true
  refine all_split ?_ w_codes
  rw [← List.take_append_drop 24 words1, List.all_append, w_t1, ← List.take_append_drop 24 (words1.drop 24), List.all_append, w_t2, ← List.take_append_drop 24 ((words1.drop 24).drop 24), List.all_append, w_t3, w_t4]
  rfl
set_option maxRecDepth 65536 in
theorem w_case : (Jvm.Cond.and given_1 narrow_1).before args0 about1 = true := by decide +kernel
theorem w_applies : (headSpec (Jvm.Cond.code x code maxLocals ret :: tables_1) room_1).applies x e0.platform about1 = true :=
  (Spec.applies_iff w_frames).mpr ⟨w_running, w_runnable, w_alone, w_named, w_hears, w_ripe, w_room, w_tables⟩
theorem atStart : AtStart classFile x code maxLocals ret World_1 tables_1 room_1 Calls_1 rest_1 Pre_1 launch0 p0 e0 about1 theMethod args0 below0 :=
  ⟨lists_1, trivial, launch0.admits_env _ _ _, launch0.least_env, fairChoices_fair.cas, fairChoices_fair.clock, w_frames, w_args, w_heap, w_applies, trivial, trivial, w_case⟩
end start1
theorem witness_1 : WitnessClaimed_1 := ⟨start1.p0, start1.e0, start1.about1, start1.theMethod, start1.args0, start1.below0, start1.atStart⟩
end Jvm.Pilot.@@N@@
