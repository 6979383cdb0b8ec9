import JvmDerived
import JvmDerived.Pilot.@@N@@Statement
import JvmDerived.Pilot.@@N@@Code
set_option linter.unusedVariables false
set_option linter.unusedSimpArgs false
@@BLOCK:NumsL.lean.txt@@
namespace Jvm.Pilot.@@N@@
open Jvm Jvm.ClassFile Sem Op Lib Jvm.Free Jvm.Stand Jvm.LawKit Jvm.RoadKit Bundle Jvm.Pilot.@@N@@.Jvm.D
/-- from here the run comes to a state of which P holds -/
def own_Go (tb : Tables) (e : Env) (below : List Frame) (P : State → Prop) (T : State) (g : JFrame) : Prop := ∃ t, Steps tb e below (T.setTop g) t ∧ P t
theorem own_st {tb : Tables} {e : Env} {below : List Frame} {P : State → Prop} {T T' : State} {g g' : JFrame} (h : ∀ t, Steps tb e below (T'.setTop g') t → Steps tb e below (T.setTop g) t) (k : own_Go tb e below P T' g') : own_Go tb e below P T g := by
  obtain ⟨t, a, b⟩ := k; exact ⟨t, h t a, b⟩
/-- what the end of a body must be -/
def own_P (s : State) (below : List Frame) (Q : Option Value → Heap → List Loc → Prop) (C S : Nat) (t : State) : Prop := t.status = .running ∧ ∃ o, Ended t below o ∧ ∃ v L, o = .returned v ∧ Q v t.heap L ∧ FrameEnd s o t L C S
/-- .. of a body that may have interned -/
def own_PW (s : State) (below : List Frame) (Q : Option Value → Heap → List Loc → Prop) (C S : Nat) (t : State) : Prop := t.status = .running ∧ ∃ o, Ended t below o ∧ ∃ v L, o = .returned v ∧ Q v t.heap L ∧ ReturnedEndW s o t L C S
section own
variable {p : Program} {l : Launch} {e : Env} {R : Room} {s : State} {m : MethodId} {args : Array Value} {below : List Frame} {meth : Method} {c : Code} {T : State} {locs : List Loc} {cells slots : Nat} {Qo : Option Value → Heap → List Loc → Prop} {C' S' : Nat}
theorem own_out (X : Stand p l e R s m args below meth c T locs cells slots) {v : Option Value} {g : JFrame} (hv : meth.sig.returnType = none → v = none) (hlocks : meth.locks = false)
    (hst : ∀ fs, (∀ (f : JFrame) (acts : List Action), f.method = m → f.locked = none → f.entered = [] → (doReturn e (T.setTop f) acts v).1 = T.setFrames fs) → Steps p.tables e below (T.setTop g) (T.setFrames fs))
    (hc : cells ≤ C') (hs : slots ≤ S') (hq : Qo v T.heap locs) : own_Go p.tables e below (own_P s below Qo C' S') T g := by
  obtain ⟨fs, hr, hrun, hended, hW, hsame⟩ := X.leave (v := v) hv hlocks
  exact ⟨_, hst fs hr, hrun, _, hended, _, _, rfl, hq, ⟨_, rfl⟩, hW, hsame.mono hc hs⟩
theorem own_outW {vm0 : Vm} (X : Stand p l e R (s.setVm vm0) m args below meth c T locs cells slots) {k0 : Nat} (hS : s.Since vm0 k0) (hk : k0 ≤ T.heap.size) {v : Option Value} {g : JFrame} (hv : meth.sig.returnType = none → v = none) (hlocks : meth.locks = false)
    (hst : ∀ fs, (∀ (f : JFrame) (acts : List Action), f.method = m → f.locked = none → f.entered = [] → (doReturn e (T.setTop f) acts v).1 = T.setFrames fs) → Steps p.tables e below (T.setTop g) (T.setFrames fs))
    (hc : cells ≤ C') (hs : slots ≤ S') (hq : Qo v T.heap locs) : own_Go p.tables e below (own_PW s below Qo C' S') T g := by
  obtain ⟨fs, hr, hrun, hended, hW⟩ := X.leaveW hS hk (v := v) hv hlocks
  exact ⟨_, hst fs hr, hrun, _, hended, _, _, rfl, hq, hW.1, hW.2.1, hW.2.2.1, hW.2.2.2.mono hc hs⟩
theorem own_retI (X : Stand p l e R s m args below meth c T locs cells slots) (hx : p.tables.exec = Jvm.exec) {pc : Nat} {Ls : Array Slot} {z : Int32} {rest : List Value} (hret : meth.sig.returnType = some .int) (hd : decode c.code pc = .ok (.ireturn, 1)) (fs : List Frame)
    (hl : ∀ (f : JFrame) (acts : List Action), f.method = m → f.locked = none → f.entered = [] → (doReturn e (T.setTop f) acts (some (.int z))).1 = T.setFrames fs) : Steps p.tables e below (T.setTop (mkF m pc Ls (.int z :: rest))) (T.setFrames fs) :=
  retOut X hx hret rfl (Or.inl ⟨rfl, Or.inl rfl, _, rfl⟩) hd hl
theorem own_retZ (X : Stand p l e R s m args below meth c T locs cells slots) (hx : p.tables.exec = Jvm.exec) {pc : Nat} {Ls : Array Slot} {z : Int32} {rest : List Value} (hret : meth.sig.returnType = some .boolean) (hd : decode c.code pc = .ok (.ireturn, 1)) (hb : z = 0 ∨ z = 1) (fs : List Frame)
    (hl : ∀ (f : JFrame) (acts : List Action), f.method = m → f.locked = none → f.entered = [] → (doReturn e (T.setTop f) acts (some (.int z))).1 = T.setFrames fs) : Steps p.tables e below (T.setTop (mkF m pc Ls (.int z :: rest))) (T.setFrames fs) := by
  have e1 : nar .boolean z = z := by rcases hb with rfl | rfl <;> decide
  exact retN X hx hret (Or.inl rfl) hd (by rw [e1]; exact hl)
theorem own_retJ (X : Stand p l e R s m args below meth c T locs cells slots) (hx : p.tables.exec = Jvm.exec) {pc : Nat} {Ls : Array Slot} {z : Int64} {rest : List Value} (hret : meth.sig.returnType = some .long) (hd : decode c.code pc = .ok (.lreturn, 1)) (fs : List Frame)
    (hl : ∀ (f : JFrame) (acts : List Action), f.method = m → f.locked = none → f.entered = [] → (doReturn e (T.setTop f) acts (some (.long z))).1 = T.setFrames fs) : Steps p.tables e below (T.setTop (mkF m pc Ls (.long z :: rest))) (T.setFrames fs) :=
  retOut X hx hret rfl (Or.inr (Or.inl ⟨rfl, rfl, _, rfl⟩)) hd hl
theorem own_retD (X : Stand p l e R s m args below meth c T locs cells slots) (hx : p.tables.exec = Jvm.exec) {pc : Nat} {Ls : Array Slot} {z : UInt64} {rest : List Value} (hret : meth.sig.returnType = some .double) (hd : decode c.code pc = .ok (.dreturn, 1)) (fs : List Frame)
    (hl : ∀ (f : JFrame) (acts : List Action), f.method = m → f.locked = none → f.entered = [] → (doReturn e (T.setTop f) acts (some (.double z))).1 = T.setFrames fs) : Steps p.tables e below (T.setTop (mkF m pc Ls (.double z :: rest))) (T.setFrames fs) :=
  retOut X hx hret rfl (Or.inr (Or.inr (Or.inl ⟨rfl, rfl, _, rfl⟩))) hd hl
theorem own_retR (X : Stand p l e R s m args below meth c T locs cells slots) (hx : p.tables.exec = Jvm.exec) {pc : Nat} {Ls : Array Slot} {w : Value} {t : FieldType} {rest : List Value} (hret : meth.sig.returnType = some t) (ht : t.isReference = true) (hw : w.isRef = true) (hn : narrow t w = w) (hd : decode c.code pc = .ok (.areturn, 1)) (fs : List Frame)
    (hl : ∀ (f : JFrame) (acts : List Action), f.method = m → f.locked = none → f.entered = [] → (doReturn e (T.setTop f) acts (some w)).1 = T.setFrames fs) : Steps p.tables e below (T.setTop (mkF m pc Ls (w :: rest))) (T.setFrames fs) :=
  retOut X hx hret hn (Or.inr (Or.inr (Or.inr (Or.inr ⟨rfl, ht, hw⟩)))) hd hl
end own
/-- a private method is the one that is picked -/
theorem own_selp {s : State} {args : Array Value} {y : MethodName} {n : Nat} (hi : (Jvm.Cond.instantiable y.cls n).before args s = true) (hp : s.PrivateAt y) (hm : (Jvm.Cond.instanceMethod y).before args s = true) (hy : y.cls ≠ "java/lang/invoke/MethodHandle" ∧ y.cls ≠ "java/lang/invoke/VarHandle") : (Jvm.Cond.selects y.cls y y).before args s = true := by
  obtain ⟨c, k, h1, h2, -, h4, -⟩ := Cond.instantiable_spec hi
  exact selects_self_of_private h1 h2 (Bool.or_eq_false_iff.mp h4).1 hp hm hy
theorem own_staK {Z : State} {h h' : Heap} {C n d : String} {v : Value} {ws : List Addr} (F : Sta Z h C n d v) (K : Keep h h' ws) (q : ∀ x ∈ ws, ∃ D, Exa Z h x D) : Sta Z h' C n d v := by
  obtain ⟨cf, i, k, f, st, cell, h1, h2, h3, h4, h5, h6, h7⟩ := F
  refine ⟨cf, i, k, f, st, cell, h1, h2, h3, h4, K.2.1 st cell h5 (fun hm => ?_), h6, h7⟩
  obtain ⟨D, c', k', e1, -, -, e4, -⟩ := q st hm
  cases h5.symm.trans e1
  rw [h6] at e4; cases e4
/-- a reference or null -/
theorem own_refOf {w : Value} (h : w.isRef = true) (c : ¬ w = Value.null) : ∃ a, w = .ref a := (ref_cases h).resolve_left c
theorem own_nW {t : FieldType} {w : Value} (ht : t.isReference = true) (h : w.isRef = true) : narrow t w = w := by
  rcases ref_cases h with rfl | ⟨a, rfl⟩ <;> cases t <;> first | rfl | simp [FieldType.isReference] at ht
theorem own_fW {t : FieldType} {w : Value} (ht : t.isReference = true) (h : w.isRef = true) : fits t w = true := by
  rcases ref_cases h with rfl | ⟨a, rfl⟩ <;> cases t <;> first | rfl | simp [FieldType.isReference] at ht
theorem own_nb {z : Int32} (h : z = 0 ∨ z = 1) : narrow .boolean (.int z) = .int z := by rcases h with rfl | rfl <;> rfl
theorem own_fb {z : Int32} (h : z = 0 ∨ z = 1) : fits .boolean (.int z) = true := by rcases h with rfl | rfl <;> rfl
/-- lcmp and a branch, in one -/
def own_lcv : ClassFile.Cond → Int64 → Int64 → Prop
  | .lt, x, y => x < y | .ge, x, y => ¬ x < y | .gt, x, y => y < x | .le, x, y => ¬ y < x | .eq, x, y => x = y | .ne, x, y => ¬ x = y
theorem own_lcT {cd : ClassFile.Cond} {x y : Int64} (h : own_lcv cd x y) : ifCond.holds cd (lcmpW x y) = true := by
  rw [if0]
  cases cd
  · exact (teq ((lw_eq x y).mpr h)).1
  · exact (feq (fun q => h ((lw_eq x y).mp q))).2
  · exact (tlt ((lw_lt x y).mpr h)).1
  · exact (flt (fun q => h ((lw_lt x y).mp q))).2.1
  · exact (tlt ((lw_gt x y).mpr h)).2.2.1
  · exact (flt (fun q => h ((lw_gt x y).mp q))).2.2.2
theorem own_lcF {cd : ClassFile.Cond} {x y : Int64} (h : ¬ own_lcv cd x y) : ifCond.holds cd (lcmpW x y) = false := by
  rw [if0]
  cases cd
  · exact (feq (fun q => h ((lw_eq x y).mp q))).1
  · exact (teq (Classical.byContradiction fun q => h (fun r => q ((lw_eq x y).mpr r)))).2
  · exact (flt (fun q => h ((lw_lt x y).mp q))).1
  · exact (tlt (Classical.byContradiction fun q => h (fun r => q ((lw_lt x y).mpr r)))).2.1
  · exact (flt (fun q => h ((lw_gt x y).mp q))).2.2.1
  · exact (tlt (Classical.byContradiction fun q => h (fun r => q ((lw_gt x y).mpr r)))).2.2.2

theorem own_pd__D_Lcom_example_laermkontur_laermkontur_study_Dispersion_StandardIfrDeparture_ : parseMethodDescriptor "(D)Lcom/example/laermkontur/laermkontur/study/Dispersion$StandardIfrDeparture;" = some ⟨[.double], some (.object "com/example/laermkontur/laermkontur/study/Dispersion$StandardIfrDeparture")⟩ := by decide +kernel
/-- a datum scaled down by a power of two -/
def own_shift : FP.Core.Datum → Nat → FP.Core.Datum
  | .fin s c q, k => .fin s c (q - k)
  | d, _ => d
theorem own_qlow {n : Int} {s : Bool} {c : Nat} {q : Int} (hn : n ≠ 0) (hw : FP.Core.Whole n (.fin s c q)) (hf : FP.Core.fits FP.Core.b64 (.fin s c q)) : -53 ≤ q := by
  have h := FP.Core.whole_natAbs hw
  have hc : c < 2 ^ 53 := hf.1
  refine Int.not_lt.mp fun hq => ?_
  have e1 : q.toNat = 0 := by omega
  have e2 : 53 ≤ (-q).toNat := by omega
  have p := Nat.pow_le_pow_right (n := 2) (by decide) e2
  have hp : 1 ≤ n.natAbs := by omega
  rw [e1, Nat.pow_zero, Nat.mul_one] at h
  have := Nat.mul_le_mul hp p
  omega
theorem own_fitshift {n : Int} {s : Bool} {c : Nat} {q : Int} {k : Nat} (hn : n ≠ 0) (hw : FP.Core.Whole n (.fin s c q)) (hf : FP.Core.fits FP.Core.b64 (.fin s c q)) (hk : k ≤ 1000) : FP.Core.fits FP.Core.b64 (.fin s c (q - k)) := by
  have h := own_qlow hn hw hf
  obtain ⟨h1, h2, h3, h4⟩ := hf
  have e1 : FP.Core.b64.qmin = -1074 := by decide
  rw [e1] at h2 h4
  refine ⟨h1, ?_, ?_, Or.inr ?_⟩
  · rw [e1]; omega
  · omega
  · rcases h4 with h4 | h4
    · omega
    · exact h4
theorem own_v4 : FP.Core.val64 4616189618054758400 = .fin false 4503599627370496 (-50) := by decide +kernel
theorem own_v45 : FP.Core.val64 4631530004285489152 = .fin false 6333186975989760 (-47) := by decide +kernel
theorem own_div4 {n : Int} {x : UInt64} {s : Bool} {c : Nat} {q : Int} (hn : n ≠ 0) (hx : FP.Core.val64 x = .fin s c q) (hw : FP.Core.Whole n (.fin s c q)) : FP.Core.val64 (FP.ddiv x 4616189618054758400) = .fin s c (q - 2) := by
  have hf := FP.Core.val64_fits x
  rw [hx] at hf
  show FP.Core.val64 (FP.Core.ddiv x _) = _
  rw [FP.Core.val64_ddiv, hx, own_v4]
  simp only [FP.Core.quotient]
  rw [if_neg (by decide), show (s != false) = s by cases s <;> rfl]
  refine FP.Core.roundRatio_exact FP.Core.good_b64 (by decide) (own_fitshift (k := 2) hn hw hf (by decide)) ?_
  rw [show (q - -50 - (q - 2)).toNat = 52 by omega, show (q - 2 - (q - -50)).toNat = 0 by omega, Nat.pow_zero, Nat.mul_one, show (2 : Nat) ^ 52 = 4503599627370496 by decide]
theorem own_turn (x : Int32) : (0 : Int32) < cmpValue (FP.dcmp (FP.ddiv (FP.i2d x) (4616189618054758400 : UInt64)) (4631530004285489152 : UInt64)) .g ↔ (180 : Int32) < x := by
  by_cases hx : x = 0
  · subst hx; decide +kernel
  have hn : x.toInt ≠ 0 := fun q => hx (Int32.toInt_inj.mp q)
  have hw : FP.Core.Whole x.toInt (FP.Core.val64 (FP.i2d x)) := FP.Core.i2d_int x
  have hf := FP.Core.val64_fits (FP.i2d x)
  cases hd : FP.Core.val64 (FP.i2d x) with
  | nan => rw [hd] at hw; exact hw.elim
  | inf s => rw [hd] at hw; exact hw.elim
  | fin s c q =>
    rw [hd] at hw hf
    have e := own_div4 hn hd hw
    have f2 := own_fitshift (k := 2) hn hw hf (by decide)
    have w45 : FP.Core.Whole 45 (.fin false 6333186975989760 (-47)) := by show FP.Core.signed false (6333186975989760 * 2 ^ 0) = 45 * ((2 ^ 47 : Nat) : Int); decide
    have f45 := FP.Core.val64_fits 4631530004285489152
    rw [own_v45] at f45
    have o : FP.dcmp (FP.ddiv (FP.i2d x) 4616189618054758400) 4631530004285489152 = some (compare (FP.Core.zval FP.Core.b64 (.fin s c (q - (2 : Nat)))) (FP.Core.zval FP.Core.b64 (.fin false 6333186975989760 (-47)))) := by
      show FP.Core.order (FP.Core.val64 _) (FP.Core.val64 _) = _
      rw [e, own_v45]
      exact FP.Core.order_zval FP.Core.good_b64 f2 f45 (fun h => nomatch h) (fun h => nomatch h)
    rw [o, FP.Core.whole_zval FP.Core.good_b64 f45 w45]
    have z := FP.Core.whole_zval FP.Core.good_b64 hf hw
    have lo := own_qlow hn hw hf
    have m1 : FP.Core.b64.qmin = -1074 := by decide
    rw [m1] at z
    rw [m1]
    have z4 : FP.Core.zval FP.Core.b64 (.fin s c (q - (2 : Nat))) * 4 = FP.Core.zval FP.Core.b64 (.fin s c q) := by
      show FP.Core.signed s (c * 2 ^ (q - (2 : Nat) - FP.Core.b64.qmin).toNat) * 4 = FP.Core.signed s (c * 2 ^ (q - FP.Core.b64.qmin).toNat)
      rw [m1, show (q - -1074).toNat = (q - (2 : Nat) - -1074).toNat + 2 by omega, Nat.pow_add, ← Nat.mul_assoc]
      unfold FP.Core.signed
      cases s <;> simp <;> omega
    rw [z] at z4
    generalize FP.Core.zval FP.Core.b64 (.fin s c (q - (2 : Nat))) = Z at *
    have hP : (0 : Int) < ((2 ^ (- -1074 : Int).toNat : Nat) : Int) := Int.natCast_pos.mpr (Nat.two_pow_pos _)
    generalize ((2 ^ (- -1074 : Int).toNat : Nat) : Int) = P at *
    have key : 45 * P < Z ↔ 180 < x.toInt := by
      constructor
      · intro h
        refine Int.not_le.mp fun g => ?_
        have := Int.mul_le_mul_of_nonneg_right g (Int.le_of_lt hP)
        omega
      · intro h
        have g : 181 ≤ x.toInt := h
        have := Int.mul_le_mul_of_nonneg_right g (Int.le_of_lt hP)
        omega
    rw [Int32.lt_iff_toInt_lt (x := 180), show (180 : Int32).toInt = 180 from rfl, ← key, ← FP.Core.compare_gt_iff]
    cases hc : compare Z (45 * P) <;> decide
theorem own_nn (x : Int32) : Jvm.Free.Fl.NoNaN64 (FP.ddiv (FP.i2d x) (4616189618054758400 : UInt64)) := by
  exact Jvm.Free.Fl.ddiv_out (Jvm.Free.Fl.i2d_fin x).noNaN (show Jvm.Free.Fl.Fin64 _ by unfold Jvm.Free.Fl.Fin64; decide) (show Jvm.Free.Fl.Nz64 _ by unfold Jvm.Free.Fl.Nz64; decide)
theorem d1_0 : decode prog_44_method_4_code 0 = .ok (.dload_n 0, 1) := by decide +kernel
theorem d1_1 : decode prog_44_method_4_code 1 = .ok (.ldc2_w 36, 3) := by decide +kernel
theorem d1_4 : decode prog_44_method_4_code 4 = .ok (.dcmp .g, 1) := by decide +kernel
theorem d1_5 : decode prog_44_method_4_code 5 = .ok (.ifCond .gt 9, 3) := by decide +kernel
theorem d1_8 : decode prog_44_method_4_code 8 = .ok (.getstatic 3, 3) := by decide +kernel
theorem d1_11 : decode prog_44_method_4_code 11 = .ok (.goto 6, 3) := by decide +kernel
theorem d1_14 : decode prog_44_method_4_code 14 = .ok (.getstatic 7, 3) := by decide +kernel
theorem d1_17 : decode prog_44_method_4_code 17 = .ok (.areturn, 1) := by decide +kernel
theorem own_pn1 : plainName "com/example/laermkontur/laermkontur/study/Dispersion$StandardIfrDeparture" = true := by first | (simp [plainName, overriddenIn]; done) | decide +kernel
theorem own_ef1 (m : MethodId) (x0 : UInt64) : entryFrame m #[(.double x0)] 2 = mkF m 0 #[.val (.double x0), .second] [] := by first | (simp [entryFrame, mkF, argsToLocals, Value.category]; done) | rfl
def Q1 (Z : State) (x0 : UInt64) (sa : Addr) (sb : Addr) (h0 : Heap) (n0 : Nat) (v : Option Value) (h : Heap) (L : List Loc) : Prop := ∃ (r : Addr), v = some (.ref r) ∧ Fr n0 L ∧ h = h0 ∧ r = (if (0 : Int32) < (cmpValue (FP.dcmp x0 (4631530004285489152 : UInt64)) .g) then sb else sa)
set_option maxRecDepth 65536 in
set_option maxHeartbeats 4000000 in
theorem rm1 (l : Launch) (Z : State) (a0 : Array Value) (hw : ∀ d ∈ tables_1, d.before a0 Z = true) (ws : List Jvm.Cond) (x0 : UInt64) (sa : Addr) (sb : Addr) (h0 : Heap) (n0 : Nat) (Z0 : n0 ≤ h0.size) (F0 : Sta Z h0 "com/example/laermkontur/laermkontur/study/Dispersion$StandardIfrDeparture" "STRAIGHT" "Lcom/example/laermkontur/laermkontur/study/Dispersion$StandardIfrDeparture;" (.ref sa)) (F1 : Sta Z h0 "com/example/laermkontur/laermkontur/study/Dispersion$StandardIfrDeparture" "TURNING" "Lcom/example/laermkontur/laermkontur/study/Dispersion$StandardIfrDeparture;" (.ref sb)) :
    MetFree l (⟨"com/example/laermkontur/laermkontur/study/Dispersion$StandardIfrDeparture", "forTurn", "(D)Lcom/example/laermkontur/laermkontur/study/Dispersion$StandardIfrDeparture;"⟩ : MethodName) (head1 (Jvm.Cond.code (⟨"com/example/laermkontur/laermkontur/study/Dispersion$StandardIfrDeparture", "forTurn", "(D)Lcom/example/laermkontur/laermkontur/study/Dispersion$StandardIfrDeparture;"⟩ : MethodName) prog_44_method_4_code 2 (some (.object "com/example/laermkontur/laermkontur/study/Dispersion$StandardIfrDeparture")) :: ws) ({ frames := 0, cells := 0, slots := 0, locals := 0 } : Room)) (fun aW U => aW = #[(.double x0)] ∧ Z.Warmed39 U.vm ∧ U.heap = h0) (fun _ _ _ _ _ => True) (fun _ U o U' => ∃ v L, o = .returned v ∧ Q1 Z x0 sa sb h0 n0 v U'.heap L ∧ FrameEnd U o U' L ({ frames := 0, cells := 0, slots := 0, locals := 0 } : Room).cells ({ frames := 0, cells := 0, slots := 0, locals := 0 } : Room).slots) := by
  refine MetFree.of_bodySF (plainFor_of_name own_pn1) hisR ?_
  intro p e s m args below meth c s₁ Bd hml0 hP hK
  obtain ⟨rfl, hZ, hh⟩ := hP
  have hx := Bd.exec
  have hby := Bd.bytes
  have hml : c.maxLocals = 2 := hml0
  have hown : s.vm.findClass "com/example/laermkontur/laermkontur/study/Dispersion$StandardIfrDeparture" = some m.cls := findClass_of_methodNamed Bd.named
  have hnm := (name_of_methodNamed Bd.named Bd.method).1
  have X0 : Stand p l e ({ frames := 0, cells := 0, slots := 0, locals := 0 } : Room) s m #[(.double x0)] below meth c s₁ [] 0 0 := Stand.of_body Bd
  have e0 : s₁.heap = h0 := by rw [← hh, Bd.state]; rfl
  have N0 := Fr.nil n0
  obtain ⟨Pq, hPq⟩ : ∃ P, P = own_P s below (fun v h L => Q1 Z x0 sa sb h0 n0 v h L) ({ frames := 0, cells := 0, slots := 0, locals := 0 } : Room).cells ({ frames := 0, cells := 0, slots := 0, locals := 0 } : Room).slots := ⟨_, rfl⟩
  suffices hgo : own_Go p.tables e below Pq s₁ (mkF m 0 #[.val (.double x0), .second] []) by
    subst hPq
    obtain ⟨t, k1, k2, o, k3, k4⟩ := hgo
    exact ⟨t, o, castTop (own_ef1 m x0) k1, k2, k3, k4⟩
  show own_Go _ _ _ _ s₁ (mkF m 0 #[.val (.double x0), .second] [])
  refine own_st (fun t k => XS.dloadN X0.here hx rfl (hb hby d1_0) rfl k) ?_
  show own_Go _ _ _ _ s₁ (mkF m 1 _ [(.double x0)])
  refine own_st (fun t k => X0.ldc2DoubleC hx hown (mvT hZ (hw _ (List.mem_of_getElem? (i := 5) rfl))) (g := (mkF m 1 #[.val (.double x0), .second] [(.double x0)])) rfl (hb hby d1_1) _ k) ?_
  show own_Go _ _ _ _ s₁ (mkF m 4 _ [(.double (4631530004285489152 : UInt64)), (.double x0)])
  refine own_st (fun t k => XS.dcmpS X0.here hx rfl (hb hby d1_4) rfl rfl k) ?_
  show own_Go _ _ _ _ s₁ (mkF m 5 _ [(.int (cmpValue (FP.dcmp x0 (4631530004285489152 : UInt64)) .g))])
  by_cases c1 : (0 : Int32) < (cmpValue (FP.dcmp x0 (4631530004285489152 : UInt64)) .g)
  · skip
    refine own_st (fun t k => XS.ifYes X0.here hx rfl (pc0 := 5) (pc' := 14) rfl (hb hby d1_5) rfl ((if0 _ _).trans (tlt c1).2.2.1) (by decide) (by decide) k) ?_
    show own_Go _ _ _ _ s₁ (mkF m 14 _ [])
    obtain ⟨T2, X2, e2, st2⟩ := getS2 X0 hx hZ hown (host := "") (Or.inl (hw _ (List.mem_of_getElem? (i := 9) rfl))) Via.refl e0 F1 (g := (mkF m 14 #[.val (.double x0), .second] [])) rfl (hb hby d1_14)
    refine own_st st2 ?_
    show own_Go _ _ _ _ T2 (mkF m 17 _ [(.ref sb)])
    subst hPq
    refine own_out X2 (v := some (.ref sb)) (fun h => by rw [Bd.returns] at h; cases h) Bd.notSynchronized (own_retR X2 hx (t := (.object "com/example/laermkontur/laermkontur/study/Dispersion$StandardIfrDeparture")) Bd.returns rfl rfl rfl (hb hby d1_17)) (by decide) (by decide) ?_
    show Q1 Z x0 sa sb h0 n0 _ T2.heap _
    rw [e2]
    exact ⟨sb, rfl, N0, rfl, (if_pos c1).symm⟩
  · skip
    refine own_st (fun t k => XS.ifNo X0.here hx rfl (hb hby d1_5) rfl ((if0 _ _).trans (flt c1).2.2.1) k) ?_
    show own_Go _ _ _ _ s₁ (mkF m 8 _ [])
    obtain ⟨T3, X3, e3, st3⟩ := getS2 X0 hx hZ hown (host := "") (Or.inl (hw _ (List.mem_of_getElem? (i := 6) rfl))) Via.refl e0 F0 (g := (mkF m 8 #[.val (.double x0), .second] [])) rfl (hb hby d1_8)
    refine own_st st3 ?_
    show own_Go _ _ _ _ T3 (mkF m 11 _ [(.ref sa)])
    refine own_st (fun t k => XS.goto X3.here hx rfl (pc0 := 11) (pc' := 17) rfl (hb hby d1_11) (by decide) (by decide) k) ?_
    show own_Go _ _ _ _ T3 (mkF m 17 _ [(.ref sa)])
    subst hPq
    refine own_out X3 (v := some (.ref sa)) (fun h => by rw [Bd.returns] at h; cases h) Bd.notSynchronized (own_retR X3 hx (t := (.object "com/example/laermkontur/laermkontur/study/Dispersion$StandardIfrDeparture")) Bd.returns rfl rfl rfl (hb hby d1_17)) (by decide) (by decide) ?_
    show Q1 Z x0 sa sb h0 n0 _ T3.heap _
    rw [e3]
    exact ⟨sa, rfl, N0, rfl, (if_neg c1).symm⟩
theorem own_pn0 : plainName "com/example/laermkontur/laermkontur/study/StandardIfrDepartureForTurnPinLaw" = true := by first | (simp [plainName, overriddenIn]; done) | decide +kernel
theorem own_ef0 (m : MethodId) (x0 : Int32) : entryFrame m #[(.int x0)] maxLocals = mkF m 0 #[.val (.int x0), .unset, .unset, .unset, .unset] [] := by first | (simp [entryFrame, mkF, argsToLocals, Value.category, maxLocals]; done) | rfl
def Q0 (Z : State) (x0 : Int32) (sa : Addr) (sb : Addr) (h0 : Heap) (n0 : Nat) (v : Option Value) (h : Heap) (L : List Loc) : Prop := v = some (.int 1) ∧ Fr n0 L
set_option maxRecDepth 65536 in
set_option maxHeartbeats 4000000 in
theorem rm0 (l : Launch) (Z : State) (a0 : Array Value) (hw : ∀ d ∈ tables_1, d.before a0 Z = true) (ws : List Jvm.Cond) (x0 : Int32) (sa : Addr) (sb : Addr) (h0 : Heap) (n0 : Nat) (Z0 : n0 ≤ h0.size) (F0 : Sta Z h0 "com/example/laermkontur/laermkontur/study/Dispersion$StandardIfrDeparture" "STRAIGHT" "Lcom/example/laermkontur/laermkontur/study/Dispersion$StandardIfrDeparture;" (.ref sa)) (F1 : Sta Z h0 "com/example/laermkontur/laermkontur/study/Dispersion$StandardIfrDeparture" "TURNING" "Lcom/example/laermkontur/laermkontur/study/Dispersion$StandardIfrDeparture;" (.ref sb)) :
    MetFree l x (head1 (Jvm.Cond.code x code maxLocals ret :: ws) room_1) (fun aW U => aW = #[(.int x0)] ∧ Z.Warmed39 U.vm ∧ U.heap = h0) (fun _ _ _ _ _ => True) (fun _ U o U' => ∃ v L, o = .returned v ∧ Q0 Z x0 sa sb h0 n0 v U'.heap L ∧ FrameEnd U o U' L 0 0) := by
  refine MetFree.of_bodySF (plainFor_of_name own_pn0) hisR ?_
  intro p e s m args below meth c s₁ Bd hml0 hP hK
  obtain ⟨rfl, hZ, hh⟩ := hP
  have hx := Bd.exec
  have hby := Bd.bytes
  have hml : c.maxLocals = 5 := hml0
  have hown : s.vm.findClass "com/example/laermkontur/laermkontur/study/StandardIfrDepartureForTurnPinLaw" = some m.cls := findClass_of_methodNamed Bd.named
  have hnm := (name_of_methodNamed Bd.named Bd.method).1
  have X0 : Stand p l e room_1 s m #[(.int x0)] below meth c s₁ [] 0 0 := Stand.of_body Bd
  have e0 : s₁.heap = h0 := by rw [← hh, Bd.state]; rfl
  have N0 := Fr.nil n0
  obtain ⟨Pq, hPq⟩ : ∃ P, P = own_P s below (fun v h L => Q0 Z x0 sa sb h0 n0 v h L) 0 0 := ⟨_, rfl⟩
  suffices hgo : own_Go p.tables e below Pq s₁ (mkF m 0 #[.val (.int x0), .unset, .unset, .unset, .unset] []) by
    subst hPq
    obtain ⟨t, k1, k2, o, k3, k4⟩ := hgo
    exact ⟨t, o, castTop (own_ef0 m x0) k1, k2, k3, k4⟩
  show own_Go _ _ _ _ s₁ (mkF m 0 #[.val (.int x0), .unset, .unset, .unset, .unset] [])
  refine own_st (fun t k => XS.iloadN X0.here hx rfl (hb hby at_0) rfl k) ?_
  show own_Go _ _ _ _ s₁ (mkF m 1 _ [(.int x0)])
  refine own_st (fun t k => XS.i2dS X0.here hx rfl (hb hby at_1) rfl rfl k) ?_
  show own_Go _ _ _ _ s₁ (mkF m 2 _ [(.double (FP.i2d x0))])
  refine own_st (fun t k => X0.ldc2DoubleC hx hown (mvT hZ (hw _ (List.mem_of_getElem? (i := 0) rfl))) (g := (mkF m 2 #[.val (.int x0), .unset, .unset, .unset, .unset] [(.double (FP.i2d x0))])) rfl (hb hby at_2) _ k) ?_
  show own_Go _ _ _ _ s₁ (mkF m 5 _ [(.double (4616189618054758400 : UInt64)), (.double (FP.i2d x0))])
  refine own_st (fun t k => XS.ddivS X0.here hx rfl (hb hby at_5) rfl (own_nn x0) rfl k) ?_
  show own_Go _ _ _ _ s₁ (mkF m 6 _ [(.double (FP.ddiv (FP.i2d x0) (4616189618054758400 : UInt64)))])
  generalize hv1 : (FP.ddiv (FP.i2d x0) (4616189618054758400 : UInt64)) = v1
  refine own_st (fun t k => XS.dstoreN X0.here hx rfl (hb hby at_6) rfl (l' := #[.val (.int x0), .val (.double v1), .second, .unset, .unset]) rfl k) ?_
  show own_Go _ _ _ _ s₁ (mkF m 7 #[.val (.int x0), .val (.double v1), .second, .unset, .unset] [])
  refine own_st (fun t k => XS.dloadN X0.here hx rfl (hb hby at_7) rfl k) ?_
  show own_Go _ _ _ _ s₁ (mkF m 8 _ [(.double v1)])
  obtain ⟨_, _, ⟨T2, L2, k2, n2⟩, -, X2, ⟨Lc2, hQ2, l2, y2, z2⟩, st2⟩ := Jvm.LawKit.callS X0 hx (y := (⟨"com/example/laermkontur/laermkontur/study/Dispersion$StandardIfrDeparture", "forTurn", "(D)Lcom/example/laermkontur/laermkontur/study/Dispersion$StandardIfrDeparture;"⟩ : MethodName)) hown (mvT hZ (hw _ (List.mem_of_getElem? (i := 1) rfl))) (mvT hZ (hw _ (List.mem_of_getElem? (i := 2) rfl))) (mvT hZ (hw _ (List.mem_of_getElem? (i := 3) rfl))) (mvT hZ (hw _ (List.mem_of_getElem? (i := 4) rfl))) (by decide) (backOf (W := 0) (rm1 l Z a0 hw [] v1 sa sb h0 n0 Z0 F0 F1) hZ (hw _ (List.mem_of_getElem? (i := 4) rfl)) (hw _ (List.mem_of_getElem? (i := 3) rfl)) (by decide) (by decide)) (g := (mkF m 8 #[.val (.int x0), .val (.double v1), .second, .unset, .unset] [(.double v1)])) rfl (by rw [hml]; rfl) (argsL := [(.double v1)]) (rest := []) (lenOf own_pd__D_Lcom_example_laermkontur_laermkontur_study_Dispersion_StandardIfrDeparture_ rfl) rfl (by show 2 * 0 + _ ≤ _; exact Nat.le_of_eq rfl) (hb hby at_8) (fun _ _ => ⟨rfl, e0, (by decide : 0 + 0 ≤ _), (by decide : 0 + 0 ≤ _)⟩)
  dsimp only [Pt.U, Pt.locs, Pt.cells, Pt.slots] at X2 l2 y2 z2 st2 hQ2
  subst l2 y2 z2
  obtain ⟨r2_r, rfl, NQ2, eq2, hq2_0⟩ := hQ2
  have N3 := Fr.app N0 NQ2
  refine own_st st2 ?_
  show own_Go _ _ _ _ T2 (mkF m 11 _ [(.ref r2_r)])
  refine own_st (fun t k => XS.astoreN X2.here hx rfl (hb hby at_11) rfl rfl (l' := #[.val (.int x0), .val (.double v1), .second, .val (.ref r2_r), .unset]) rfl k) ?_
  show own_Go _ _ _ _ T2 (mkF m 12 #[.val (.int x0), .val (.double v1), .second, .val (.ref r2_r), .unset] [])
  refine own_st (fun t k => XS.iloadN X2.here hx rfl (hb hby at_12) rfl k) ?_
  show own_Go _ _ _ _ T2 (mkF m 13 _ [(.int x0)])
  refine own_st (fun t k => XS.sipush X2.here hx rfl (hb hby at_13) k) ?_
  show own_Go _ _ _ _ T2 (mkF m 16 _ [(.int (180 : Int32)), (.int x0)])
  by_cases c4 : (180 : Int32) < x0
  · skip
    refine own_st (fun t k => XS.icmpYes X2.here hx rfl (pc0 := 16) (pc' := 27) rfl (hb hby at_16) rfl (tlt c4).2.2.1 (by decide) (by decide) k) ?_
    show own_Go _ _ _ _ T2 (mkF m 27 _ [])
    obtain ⟨T5, X5, e5, st5⟩ := getS2 X2 hx hZ hown (host := "") (Or.inl (hw _ (List.mem_of_getElem? (i := 11) rfl))) Via.refl eq2 F1 (g := (mkF m 27 #[.val (.int x0), .val (.double v1), .second, .val (.ref r2_r), .unset] [])) rfl (hb hby at_27)
    refine own_st st5 ?_
    show own_Go _ _ _ _ T5 (mkF m 30 _ [(.ref sb)])
    refine own_st (fun t k => XS.astore X5.here hx rfl (hb hby at_30) rfl rfl (l' := #[.val (.int x0), .val (.double v1), .second, .val (.ref r2_r), .val (.ref sb)]) rfl k) ?_
    show own_Go _ _ _ _ T5 (mkF m 32 #[.val (.int x0), .val (.double v1), .second, .val (.ref r2_r), .val (.ref sb)] [])
    refine own_st (fun t k => XS.aloadN X5.here hx rfl (hb hby at_32) rfl rfl k) ?_
    show own_Go _ _ _ _ T5 (mkF m 33 _ [(.ref r2_r)])
    refine own_st (fun t k => XS.aload X5.here hx rfl (hb hby at_33) rfl rfl k) ?_
    show own_Go _ _ _ _ T5 (mkF m 35 _ [(.ref sb), (.ref r2_r)])
    refine own_st (fun t k => Jvm.RoadKit.acmp (g := (mkF m 35 #[.val (.int x0), .val (.double v1), .second, .val (.ref r2_r), .val (.ref sb)] [(.ref sb), (.ref r2_r)])) X5 hx rfl rfl rfl (pc0 := 35) (pc' := 38) (same := true) rfl (hb hby at_35) rfl (decide_eq_true (congrArg Value.ref (by rw [hq2_0, ← hv1]; exact if_pos ((own_turn x0).mpr c4)))) (by decide) (by decide) k) ?_
    show own_Go _ _ _ _ T5 (mkF m 38 _ [])
    refine own_st (fun t k => XS.iconst X5.here hx rfl (hb hby at_38) k) ?_
    show own_Go _ _ _ _ T5 (mkF m 39 _ [(.int (1 : Int32))])
    refine own_st (fun t k => XS.goto X5.here hx rfl (pc0 := 39) (pc' := 43) rfl (hb hby at_39) (by decide) (by decide) k) ?_
    show own_Go _ _ _ _ T5 (mkF m 43 _ [(.int (1 : Int32))])
    subst hPq
    refine own_out X5 (v := some (.int (nar .boolean (1 : Int32)))) (fun h => by rw [Bd.returns] at h; cases h) Bd.notSynchronized (fun fs hr => retN X5 hx (t := .boolean) Bd.returns (by simp) (hb hby at_43) hr) (by decide) (by decide) ?_
    show Q0 Z x0 sa sb h0 n0 _ T5.heap _
    rw [e5]
    exact ⟨rfl, N3⟩
  · skip
    refine own_st (fun t k => XS.icmpNo X2.here hx rfl (hb hby at_16) rfl (flt c4).2.2.1 k) ?_
    show own_Go _ _ _ _ T2 (mkF m 19 _ [])
    obtain ⟨T6, X6, e6, st6⟩ := getS2 X2 hx hZ hown (host := "") (Or.inl (hw _ (List.mem_of_getElem? (i := 8) rfl))) Via.refl eq2 F0 (g := (mkF m 19 #[.val (.int x0), .val (.double v1), .second, .val (.ref r2_r), .unset] [])) rfl (hb hby at_19)
    refine own_st st6 ?_
    show own_Go _ _ _ _ T6 (mkF m 22 _ [(.ref sa)])
    refine own_st (fun t k => XS.astore X6.here hx rfl (hb hby at_22) rfl rfl (l' := #[.val (.int x0), .val (.double v1), .second, .val (.ref r2_r), .val (.ref sa)]) rfl k) ?_
    show own_Go _ _ _ _ T6 (mkF m 24 #[.val (.int x0), .val (.double v1), .second, .val (.ref r2_r), .val (.ref sa)] [])
    refine own_st (fun t k => XS.goto X6.here hx rfl (pc0 := 24) (pc' := 32) rfl (hb hby at_24) (by decide) (by decide) k) ?_
    show own_Go _ _ _ _ T6 (mkF m 32 _ [])
    refine own_st (fun t k => XS.aloadN X6.here hx rfl (hb hby at_32) rfl rfl k) ?_
    show own_Go _ _ _ _ T6 (mkF m 33 _ [(.ref r2_r)])
    refine own_st (fun t k => XS.aload X6.here hx rfl (hb hby at_33) rfl rfl k) ?_
    show own_Go _ _ _ _ T6 (mkF m 35 _ [(.ref sa), (.ref r2_r)])
    refine own_st (fun t k => Jvm.RoadKit.acmp (g := (mkF m 35 #[.val (.int x0), .val (.double v1), .second, .val (.ref r2_r), .val (.ref sa)] [(.ref sa), (.ref r2_r)])) X6 hx rfl rfl rfl (pc0 := 35) (pc' := 38) (same := true) rfl (hb hby at_35) rfl (decide_eq_true (congrArg Value.ref (by rw [hq2_0, ← hv1]; exact if_neg (fun q => c4 ((own_turn x0).mp q))))) (by decide) (by decide) k) ?_
    show own_Go _ _ _ _ T6 (mkF m 38 _ [])
    refine own_st (fun t k => XS.iconst X6.here hx rfl (hb hby at_38) k) ?_
    show own_Go _ _ _ _ T6 (mkF m 39 _ [(.int (1 : Int32))])
    refine own_st (fun t k => XS.goto X6.here hx rfl (pc0 := 39) (pc' := 43) rfl (hb hby at_39) (by decide) (by decide) k) ?_
    show own_Go _ _ _ _ T6 (mkF m 43 _ [(.int (1 : Int32))])
    subst hPq
    refine own_out X6 (v := some (.int (nar .boolean (1 : Int32)))) (fun h => by rw [Bd.returns] at h; cases h) Bd.notSynchronized (fun fs hr => retN X6 hx (t := .boolean) Bd.returns (by simp) (hb hby at_43) hr) (by decide) (by decide) ?_
    show Q0 Z x0 sa sb h0 n0 _ T6.heap _
    rw [e6]
    exact ⟨rfl, N3⟩
set_option maxRecDepth 65536 in
set_option maxHeartbeats 4000000 in
theorem own_comes {Post : Tables → Env → Array Value → State → Outcome → State → Prop} (hpost : ∀ tb e args s v u, (limb_1_1.after args s (.returned v) u = true ∧ limb_1_2.after args s (.returned v) u = true ∧ True) → FrameEnd s (.returned v) u (Jvm.fieldLocs frame_1_writes args s ++ Jvm.arrayLocs frame_1_arrays args s ++ Jvm.staticLocs frame_1_statics s) 0 0 → Post tb e args s (.returned v) u) :
    ArmFor flags0 classFile x code maxLocals ret World_1 tables_1 room_1 Calls_1 rest_1 Pre_1 Post := by
  intro l hfl _ _ p e ha hc hk s m args below hf hA hF happ hP
  obtain ⟨hcalls, hrest, hpre⟩ := hP
  obtain ⟨-, -, -, hnamed, -, -, -, hat⟩ := (Spec.applies_iff hf).mp happ
  obtain ⟨hg, hn⟩ := and_e (Cond.before_iff.mp (show (Jvm.Cond.and given_1 narrow_1).before args s = true from hpre))
  obtain ⟨g0, r0⟩ := and_e hg
  obtain ⟨w0, rfl⟩ : ∃ w0 : Value, args = #[w0] := by
    have hs : args.size = 1 := by simpa [Cond.value, given_1] using g0
    obtain ⟨L⟩ := args
    match L, hs with
    | [w0], _ => exact ⟨w0, rfl⟩
  have hw := fun d (hd : d ∈ tables_1) => atoms_spec (ws := Jvm.Cond.code x code maxLocals ret :: tables_1) hat d (List.mem_cons_of_mem _ hd)
  obtain ⟨m0, m1⟩ := and_e hn
  obtain ⟨sa, ev0⟩ := exa_v m0
  have S0 := Sta.start ev0 (Or.inr ⟨(hw _ (List.mem_of_getElem? (i := 3) rfl)), (hw _ (List.mem_of_getElem? (i := 7) rfl))⟩)
  obtain ⟨sb, ev1⟩ := exa_v m1
  have S1 := Sta.start ev1 (Or.inr ⟨(hw _ (List.mem_of_getElem? (i := 3) rfl)), (hw _ (List.mem_of_getElem? (i := 10) rfl))⟩)
  obtain ⟨i0, ei0⟩ := is_v r0
  obtain rfl : w0 = (.int i0) := Option.some.inj ei0
  obtain ⟨n, o, h1, h2, h3, _, L, rfl, ⟨rfl, N⟩, hq⟩ := rm0 l s _ hw tables_1 i0 sa sb s.heap s.heap.size (Nat.le_refl _) S0 S1 p e ha hc hk s m _ below hf ((Spec.applies_iff_loose hf).mp happ).1 ⟨rfl, State.Warmed39.refl s, rfl⟩ trivial
  refine ⟨n, _, h1, h2, h3, hpost _ _ _ _ _ _ ⟨Cond.after_iff.mpr rfl, Cond.after_iff.mpr (eq_i res_at (Term.int_eval (1)) rfl), trivial⟩ ⟨hq.1, hq.2.1, (hq.2.2.sift fun y hy => Or.inr (N y hy)).mono (by decide) (by decide)⟩⟩
theorem main_1_1 : Claimed_1_1 := own_comes fun _ _ _ _ _ _ h hF => ⟨h.1, hF⟩
theorem main_1_2 : Claimed_1_2 := own_comes fun _ _ _ _ _ _ h hF => ⟨h.2.1, hF⟩
end Jvm.Pilot.@@N@@
namespace Jvm.Pilot.@@N@@
open Jvm Jvm.ClassFile Sem Op Lib Jvm.Free Jvm.Stand Jvm.Pilot.@@N@@.Jvm.D
/-! MADE BY PROGRAM (witnessworld.py) out of the Statement's table words and the real class files: 13 classes; the members and pool entries that the words name. The judged class is class 1, her method 1. -/
namespace start1
open Jvm.ClassFile
def u (s : String) : CpInfo := .utf8 (stringToUtf16 s)
/-- a pool by its gaps: so many unusable entries, then the entry; so many at the end -/
def gap : Nat → List CpInfo → List CpInfo
  | 0, r => r
  | n + 1, r => .unusable :: gap n r
def poolList (es : List (Nat × CpInfo)) (last : Nat) : List CpInfo := es.foldr (fun e r => gap e.1 (e.2 :: r)) (gap last [])
def pool (es : List (Nat × CpInfo)) (last : Nat) : Array CpInfo := ⟨poolList es last⟩
def fileOf (pool : Array CpInfo) (this : Nat) (attrs : Array Attribute := #[]) (ms : Array MethodInfo := #[]) (fl : Nat := 33) (sup : Nat := 0) (ifs : Array Nat := #[]) (fds : Array FieldInfo := #[]) : ClassFile where
  minorVersion := 0
  majorVersion := 65
  constantPool := pool
  accessFlags := fl
  thisClass := this
  superClass := sup
  interfaces := ifs
  fields := fds
  methods := ms
  attributes := attrs
def plain (name : String) (sup : Option ClassId) : Class where
  name := name
  kind := .ordinary
  loader := none
  accessFlags := 33
  super := sup
  interfaces := #[]
  cf := none
  fields := #[]
  methods := #[]
  instanceTypes := #[]
  staticTypes := #[]
  resolved := #[]
  callSites := []
  init := .initialized
  statics := none
  mirror := none

def pool0 : Array CpInfo := pool [(5, u "<init>"), (0, u "()V"), (1, .class_ 10), (1, u "java/lang/Object")] 113

def k0m0 : Method := { name := "<init>", desc := "()V", sig := { parameters := [], returnType := none }, accessFlags := 1, code := none }
/-- java/lang/Object -/
def k0 : Class := { plain "java/lang/Object" none with
  accessFlags := 33
  interfaces := #[]
  cf := some (fileOf pool0 8 #[] #[{ accessFlags := 1, nameIndex := 5, descriptorIndex := 6, attributes := #[] }] 33 0 #[] #[])
  fields := #[]
  methods := #[k0m0]
  instanceTypes := #[]
  staticTypes := #[]
  resolved := Array.replicate 124 none
  statics := none }

def pool1 : Array CpInfo := pool [(2, .class_ 4), (1, u "java/lang/Object"), (0, u "<init>"), (0, u "()V"), (0, .double 4616189618054758400), (1, .methodref 10 11), (0, .class_ 12), (0, .nameAndType 13 14), (0, u "com/example/laermkontur/laermkontur/study/Dispersion$StandardIfrDeparture"), (0, u "forTurn"), (0, u "(D)Lcom/example/laermkontur/laermkontur/study/Dispersion$StandardIfrDeparture;"), (0, .fieldref 10 16), (0, .nameAndType 17 18), (0, u "STRAIGHT"), (0, u "Lcom/example/laermkontur/laermkontur/study/Dispersion$StandardIfrDeparture;"), (0, .fieldref 10 20), (0, .nameAndType 21 18), (0, u "TURNING"), (0, .class_ 23), (0, u "com/example/laermkontur/laermkontur/study/StandardIfrDepartureForTurnPinLaw"), (2, u "law"), (0, u "(I)Z")] 7

def k1m0 : Method := { name := "<init>", desc := "()V", sig := { parameters := [], returnType := none }, accessFlags := 1, code := none }
def k1c1 : Code := { maxStack := 4, maxLocals := 5, code := code, exceptionTable := #[], attributes := #[] }
def k1m1 : Method := { name := "law", desc := "(I)Z", sig := { parameters := [.int], returnType := some .boolean }, accessFlags := 9, code := some k1c1 }
/-- com/example/laermkontur/laermkontur/study/StandardIfrDepartureForTurnPinLaw -/
def k1 : Class := { plain "com/example/laermkontur/laermkontur/study/StandardIfrDepartureForTurnPinLaw" (some 0) with
  accessFlags := 49
  interfaces := #[]
  cf := some (fileOf pool1 22 #[] #[{ accessFlags := 1, nameIndex := 5, descriptorIndex := 6, attributes := #[] }, { accessFlags := 9, nameIndex := 26, descriptorIndex := 27, attributes := #[] }] 49 2 #[] #[])
  fields := #[]
  methods := #[k1m0, k1m1]
  instanceTypes := #[]
  staticTypes := #[]
  resolved := Array.replicate 35 none
  statics := none }

def pool2 : Array CpInfo := pool [(1, .class_ 2), (0, u "java/lang/constant/Constable"), (0, .class_ 4), (0, u "java/lang/Object")] 6

/-- java/lang/constant/Constable -/
def k2 : Class := { plain "java/lang/constant/Constable" (some 0) with
  accessFlags := 1537
  interfaces := #[]
  cf := some (fileOf pool2 1 #[] #[] 1537 3 #[] #[])
  fields := #[]
  methods := #[]
  instanceTypes := #[]
  staticTypes := #[]
  resolved := Array.replicate 11 none
  statics := none }

def pool3 : Array CpInfo := pool [(1, .class_ 2), (0, u "java/lang/Comparable"), (0, .class_ 4), (0, u "java/lang/Object")] 7

/-- java/lang/Comparable -/
def k3 : Class := { plain "java/lang/Comparable" (some 0) with
  accessFlags := 1537
  interfaces := #[]
  cf := some (fileOf pool3 1 #[] #[] 1537 3 #[] #[])
  fields := #[]
  methods := #[]
  instanceTypes := #[]
  staticTypes := #[]
  resolved := Array.replicate 12 none
  statics := none }

def pool4 : Array CpInfo := pool [(1, .class_ 2), (0, u "java/io/Serializable"), (0, .class_ 4), (0, u "java/lang/Object")] 2

/-- java/io/Serializable -/
def k4 : Class := { plain "java/io/Serializable" (some 0) with
  accessFlags := 1537
  interfaces := #[]
  cf := some (fileOf pool4 1 #[] #[] 1537 3 #[] #[])
  fields := #[]
  methods := #[]
  instanceTypes := #[]
  staticTypes := #[]
  resolved := Array.replicate 7 none
  statics := none }

def pool5 : Array CpInfo := pool [(2, .class_ 4), (1, u "java/lang/Enum"), (0, u "name"), (0, u "Ljava/lang/String;"), (2, u "ordinal"), (0, u "I"), (1, .class_ 14), (1, u "java/lang/Object"), (4, u "hash"), (86, .class_ 108), (1, u "java/lang/Enum$EnumDesc"), (2, .class_ 112), (0, u "java/lang/constant/Constable"), (0, .class_ 114), (0, u "java/lang/Comparable"), (0, .class_ 116), (0, u "java/io/Serializable")] 87

/-- java/lang/Enum -/
def k5 : Class := { plain "java/lang/Enum" (some 0) with
  accessFlags := 1057
  interfaces := #[2, 3, 4]
  cf := some (fileOf pool5 2 #[.nestMembers #[106]] #[] 1057 12 #[111, 113, 115] #[{ accessFlags := 18, nameIndex := 5, descriptorIndex := 6, attributes := #[] }, { accessFlags := 18, nameIndex := 9, descriptorIndex := 10, attributes := #[] }, { accessFlags := 2, nameIndex := 19, descriptorIndex := 10, attributes := #[] }])
  fields := #[{ name := "name", type := (.object "java/lang/String"), accessFlags := 18, slot := 0, constantValue := 0 }, { name := "ordinal", type := .int, accessFlags := 18, slot := 1, constantValue := 0 }, { name := "hash", type := .int, accessFlags := 2, slot := 2, constantValue := 0 }]
  methods := #[]
  instanceTypes := #[(.object "java/lang/String"), .int, .int]
  staticTypes := #[]
  resolved := Array.replicate 204 none
  statics := none }

def pool6 : Array CpInfo := pool [(1, .class_ 2), (0, u "com/example/laermkontur/laermkontur/study/Dispersion"), (0, .class_ 4), (0, u "java/lang/Object"), (11, .class_ 17), (0, u "com/example/laermkontur/laermkontur/study/Dispersion$StandardIfrDeparture"), (0, .class_ 19), (0, u "com/example/laermkontur/laermkontur/study/Dispersion$Constant")] 4

/-- com/example/laermkontur/laermkontur/study/Dispersion -/
def k6 : Class := { plain "com/example/laermkontur/laermkontur/study/Dispersion" (some 0) with
  accessFlags := 1537
  interfaces := #[]
  cf := some (fileOf pool6 1 #[.nestMembers #[16, 18]] #[] 1537 3 #[] #[])
  fields := #[]
  methods := #[]
  instanceTypes := #[]
  staticTypes := #[]
  resolved := Array.replicate 24 none
  statics := none }

def pool7 : Array CpInfo := pool [(1, .class_ 2), (0, u "com/example/laermkontur/laermkontur/study/Dispersion$StandardIfrDeparture"), (0, .fieldref 1 4), (0, .nameAndType 5 6), (0, u "STRAIGHT"), (0, u "Lcom/example/laermkontur/laermkontur/study/Dispersion$StandardIfrDeparture;"), (0, .fieldref 1 8), (0, .nameAndType 9 6), (0, u "TURNING"), (2, u "$VALUES"), (0, u "[Lcom/example/laermkontur/laermkontur/study/Dispersion$StandardIfrDeparture;"), (6, .class_ 22), (1, u "java/lang/Enum"), (8, u "slope"), (0, u "D"), (2, u "offsetMetres"), (0, .double 4631530004285489152), (40, .class_ 78), (0, u "com/example/laermkontur/laermkontur/study/Dispersion"), (0, u "FAR_METRES"), (1, u "STRAIGHT_UP_TO_DEGREES"), (7, u "forTurn"), (0, u "(D)Lcom/example/laermkontur/laermkontur/study/Dispersion$StandardIfrDeparture;")] 16

def k7c0 : Code := { maxStack := 4, maxLocals := 2, code := prog_44_method_4_code, exceptionTable := #[], attributes := #[] }
def k7m0 : Method := { name := "forTurn", desc := "(D)Lcom/example/laermkontur/laermkontur/study/Dispersion$StandardIfrDeparture;", sig := { parameters := [.double], returnType := some (.object "com/example/laermkontur/laermkontur/study/Dispersion$StandardIfrDeparture") }, accessFlags := 9, code := some k7c0 }
/-- com/example/laermkontur/laermkontur/study/Dispersion$StandardIfrDeparture -/
def k7 : Class := { plain "com/example/laermkontur/laermkontur/study/Dispersion$StandardIfrDeparture" (some 5) with
  accessFlags := 16433
  interfaces := #[6]
  cf := some (fileOf pool7 1 #[.nestHost 77] #[{ accessFlags := 9, nameIndex := 89, descriptorIndex := 90, attributes := #[] }] 16433 20 #[77] #[{ accessFlags := 16409, nameIndex := 5, descriptorIndex := 6, attributes := #[] }, { accessFlags := 16409, nameIndex := 9, descriptorIndex := 6, attributes := #[] }, { accessFlags := 26, nameIndex := 79, descriptorIndex := 32, attributes := #[] }, { accessFlags := 26, nameIndex := 81, descriptorIndex := 32, attributes := #[] }, { accessFlags := 18, nameIndex := 31, descriptorIndex := 32, attributes := #[] }, { accessFlags := 18, nameIndex := 35, descriptorIndex := 32, attributes := #[] }, { accessFlags := 4122, nameIndex := 12, descriptorIndex := 13, attributes := #[] }])
  fields := #[{ name := "STRAIGHT", type := (.object "com/example/laermkontur/laermkontur/study/Dispersion$StandardIfrDeparture"), accessFlags := 16409, slot := 0, constantValue := 0 }, { name := "TURNING", type := (.object "com/example/laermkontur/laermkontur/study/Dispersion$StandardIfrDeparture"), accessFlags := 16409, slot := 1, constantValue := 0 }, { name := "FAR_METRES", type := .double, accessFlags := 26, slot := 2, constantValue := 0 }, { name := "STRAIGHT_UP_TO_DEGREES", type := .double, accessFlags := 26, slot := 3, constantValue := 0 }, { name := "slope", type := .double, accessFlags := 18, slot := 3, constantValue := 0 }, { name := "offsetMetres", type := .double, accessFlags := 18, slot := 4, constantValue := 0 }, { name := "$VALUES", type := (.array (.object "com/example/laermkontur/laermkontur/study/Dispersion$StandardIfrDeparture")), accessFlags := 4122, slot := 4, constantValue := 0 }]
  methods := #[k7m0]
  instanceTypes := #[(.object "java/lang/String"), .int, .int, .double, .double]
  staticTypes := #[(.object "com/example/laermkontur/laermkontur/study/Dispersion$StandardIfrDeparture"), (.object "com/example/laermkontur/laermkontur/study/Dispersion$StandardIfrDeparture"), .double, .double, (.array (.object "com/example/laermkontur/laermkontur/study/Dispersion$StandardIfrDeparture"))]
  resolved := Array.replicate 107 none
  statics := some 0 }

def pool8 : Array CpInfo := pool [(1, u "java/lang/Cloneable"), (0, .class_ 1), (0, u "java/lang/Object"), (0, .class_ 3)] 3

/-- java/lang/Cloneable -/
def k8 : Class := { plain "java/lang/Cloneable" (some 0) with
  accessFlags := 1537
  interfaces := #[]
  cf := some (fileOf pool8 2 #[] #[] 1537 4 #[] #[])
  fields := #[]
  methods := #[]
  instanceTypes := #[]
  staticTypes := #[]
  resolved := Array.replicate 8 none
  statics := none }

/-- the primitive byte -/
def k9 : Class := { plain "byte" none with kind := .primitive 'B', accessFlags := 0x411 }
/-- [B -/
def k10 : Class := { plain "[B" (some 0) with kind := .array 9 .byte, interfaces := #[8, 4], accessFlags := 1041 }

/-- the primitive int -/
def k11 : Class := { plain "int" none with kind := .primitive 'I', accessFlags := 0x411 }
/-- [I -/
def k12 : Class := { plain "[I" (some 0) with kind := .array 11 .int, interfaces := #[8, 4], accessFlags := 1041 }

def heap : Heap := #[{ cls := 7, slots := #[.ref 1, .ref 2, .double 0, .double 0, .null], vm := .statics 7 },
  { cls := 7, slots := #[.null, .int 0, .int 0, .double 0, .double 0], vm := .none },
  { cls := 7, slots := #[.null, .int 1, .int 0, .double 0, .double 0], vm := .none }]
def classes : Array Class := #[k0, k1, k2, k3, k4, k5, k6, k7, k8, k9, k10, k11, k12]
def interned : List (Array UInt16 × Addr) := []
def slotsUsed : Nat := 15
def theMethod : MethodId := ⟨1, 1⟩
def args0 : Array Value := #[.int 5]
def aboutOver (below : List Frame) : State where
  vm := { classes := classes, interned := interned.toArray }
  heap := heap
  slotsUsed := slotsUsed
  threads := #[{ frames := .invoking theMethod args0 :: below }]
def below0 : List Frame := [.native { method := ⟨0, 0⟩, args := #[] }]
def about1 : State := aboutOver below0
def p0 : Program := .bare "" "" ""
def e0 : Env := launch0.env 0 0 0
theorem w_frames : about1.frames = Frame.invoking theMethod args0 :: below0 := rfl
set_option maxRecDepth 65536 in
theorem w_args : argsFit about1.vm theMethod args0 = true := by decide +kernel
set_option maxRecDepth 65536 in
theorem w_heap : heapFits about1 = true := by decide +kernel
set_option maxRecDepth 65536 in
theorem w_runnable : about1.curStatus? = some .runnable := by decide +kernel
set_option maxRecDepth 65536 in
theorem w_alone : about1.alone = true := by decide +kernel
set_option maxRecDepth 65536 in
theorem w_named : about1.methodNamed? x = some theMethod := by decide +kernel
set_option maxRecDepth 65536 in
theorem w_hears : about1.hears theMethod below0 = true := by decide +kernel
set_option maxRecDepth 65536 in
theorem w_ripe : about1.ripe theMethod args0 below0 = true := by decide +kernel
theorem w_running : about1.status = .running := rfl
set_option maxRecDepth 65536 in
theorem w_room : about1.hasRoom e0.platform room_1 = true :=
  launch0.hasRoom_least _ room_1 (by decide +kernel) (by decide +kernel) (by decide +kernel) (by decide +kernel) (by decide +kernel) (by decide +kernel)
theorem allAtoms_all (ts : List Jvm.Cond) (a : Array Jvm.Value) (st : Jvm.State) : (allAtoms ts).before a st = ts.all (fun c => c.before a st) := by
  induction ts with
  | nil => rfl
  | cons c t ih =>
    show (Jvm.Cond.and c (allAtoms t)).before a st = _
    rw [Jvm.Cond.before_and, ih, List.all_cons]
def words1 : List Jvm.Cond := Jvm.Cond.code x code maxLocals ret :: tables_1
/-- a 'code' word, met by the world's own term for the bytes: nothing is compared byte by byte -/
theorem code_word {y : MethodName} {bytes : ByteArray} {mx : Nat} {rt : Option FieldType} {a : Array Value} {s : State} {m : MethodId} {meth : Method} {c : Code} (h1 : s.methodNamed? y = some m) (h2 : s.vm.method? m = some meth) (h3 : meth.code = some c) (h4 : c.code = bytes)
    (h5 : (c.maxLocals == mx && c.exceptionTable.isEmpty && decide (c.maxStack ≤ mostOperands) && decide (meth.sig.returnType = rt) && !meth.locks && decide (parseMethodDescriptor y.desc = some meth.sig)) = true) : (Jvm.Cond.code y bytes mx rt).before a s = true := by
  simp only [Bool.and_eq_true, beq_iff_eq, Bool.not_eq_true', decide_eq_true_eq] at h5
  obtain ⟨⟨⟨⟨⟨g1, g2⟩, g3⟩, g4⟩, g5⟩, g6⟩ := h5
  simp [Cond.before, Cond.holds, Cond.value, h1, h2, h3, h4, g1, g2, g3, g4, g5, g6]
def isCode : Jvm.Cond → Bool
  | .code _ _ _ _ => true
  | _ => false
theorem all_split {L : List Jvm.Cond} {P : Jvm.Cond → Bool} (h1 : L.all (fun c => isCode c || P c) = true) (h2 : ∀ c ∈ L.filter isCode, P c = true) : L.all P = true := by
  refine List.all_eq_true.mpr fun c hc => ?_
  have h := List.all_eq_true.mp h1 c hc
  rcases Bool.eq_false_or_eq_true (isCode c) with hi | hi
  · exact h2 c (List.mem_filter.mpr ⟨hc, hi⟩)
  · simpa [hi] using h
set_option maxRecDepth 65536 in
theorem w_c0 : (Jvm.Cond.code x code maxLocals ret).before args0 about1 = true := code_word (m := ⟨1, 1⟩) (meth := k1m1) (c := k1c1) (by decide +kernel) rfl rfl rfl (by decide +kernel)
set_option maxRecDepth 65536 in
theorem w_c1 : (Jvm.Cond.code ({ cls := "com/example/laermkontur/laermkontur/study/Dispersion$StandardIfrDeparture", name := "forTurn", desc := "(D)Lcom/example/laermkontur/laermkontur/study/Dispersion$StandardIfrDeparture;" } : Jvm.MethodName) prog_44_method_4_code (2 : Nat) (Option.some (Jvm.ClassFile.FieldType.object "com/example/laermkontur/laermkontur/study/Dispersion$StandardIfrDeparture"))).before args0 about1 = true := code_word (m := ⟨7, 0⟩) (meth := k7m0) (c := k7c0) (by decide +kernel) rfl rfl rfl (by decide +kernel)
def codes1 : List Jvm.Cond := [Jvm.Cond.code x code maxLocals ret, Jvm.Cond.code ({ cls := "com/example/laermkontur/laermkontur/study/Dispersion$StandardIfrDeparture", name := "forTurn", desc := "(D)Lcom/example/laermkontur/laermkontur/study/Dispersion$StandardIfrDeparture;" } : Jvm.MethodName) prog_44_method_4_code (2 : Nat) (Option.some (Jvm.ClassFile.FieldType.object "com/example/laermkontur/laermkontur/study/Dispersion$StandardIfrDeparture"))]
set_option maxRecDepth 65536 in
theorem codes_eq : words1.filter isCode = codes1 := rfl
theorem w_codes : ∀ c ∈ words1.filter isCode, c.before args0 about1 = true := by
  rw [codes_eq]
  intro c hc
  simp only [codes1, List.mem_cons, List.not_mem_nil, or_false] at hc
  rcases hc with rfl | rfl
  · exact w_c0
  · exact w_c1
set_option maxRecDepth 65536 in
theorem w_t1 : words1.all (fun c => isCode c || c.before args0 about1) = true := by decide +kernel
theorem w_tables : (allAtoms (Jvm.Cond.code x code maxLocals ret :: tables_1)).before args0 about1 = true := by
  rw [allAtoms_all]
  show words1.all (fun c => c.before args0 about1) = true
  refine all_split ?_ w_codes
  rw [w_t1]
set_option maxRecDepth 65536 in
theorem w_case : (Jvm.Cond.and given_1 narrow_1).before args0 about1 = true := by decide +kernel
theorem w_applies : (headSpec (Jvm.Cond.code x code maxLocals ret :: tables_1) room_1).applies x e0.platform about1 = true :=
  (Spec.applies_iff w_frames).mpr ⟨w_running, w_runnable, w_alone, w_named, w_hears, w_ripe, w_room, w_tables⟩
theorem atStart : AtStart classFile x code maxLocals ret World_1 tables_1 room_1 Calls_1 rest_1 Pre_1 launch0 p0 e0 about1 theMethod args0 below0 :=
  ⟨lists_1, trivial, launch0.admits_env _ _ _, launch0.least_env, fairChoices_fair.cas, fairChoices_fair.clock, w_frames, w_args, w_heap, w_applies, trivial, trivial, w_case⟩
end start1
theorem witness_1 : WitnessClaimed_1 := ⟨start1.p0, start1.e0, start1.about1, start1.theMethod, start1.args0, start1.below0, start1.atStart⟩
end Jvm.Pilot.@@N@@
