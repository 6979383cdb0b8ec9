import JvmDerived
import JvmDerived.Pilot.@@N@@Statement
import JvmDerived.Pilot.@@N@@Code
set_option linter.unusedVariables false
set_option linter.unusedSimpArgs false
@@BLOCK:NumsL.lean.txt@@
namespace Jvm.Pilot.@@N@@
open Jvm Jvm.ClassFile Sem Op Lib Jvm.Free Jvm.Stand Jvm.LawKit Jvm.RoadKit Bundle Jvm.Pilot.@@N@@.Jvm.D
/-- from here the run comes to a state of which P holds -/
def own_Go (tb : Tables) (e : Env) (below : List Frame) (P : State → Prop) (T : State) (g : JFrame) : Prop := ∃ t, Steps tb e below (T.setTop g) t ∧ P t
theorem own_st {tb : Tables} {e : Env} {below : List Frame} {P : State → Prop} {T T' : State} {g g' : JFrame} (h : ∀ t, Steps tb e below (T'.setTop g') t → Steps tb e below (T.setTop g) t) (k : own_Go tb e below P T' g') : own_Go tb e below P T g := by
  obtain ⟨t, a, b⟩ := k; exact ⟨t, h t a, b⟩
/-- what the end of a body must be -/
def own_P (s : State) (below : List Frame) (Q : Option Value → Heap → List Loc → Prop) (C S : Nat) (t : State) : Prop := t.status = .running ∧ ∃ o, Ended t below o ∧ ∃ v L, o = .returned v ∧ Q v t.heap L ∧ FrameEnd s o t L C S
/-- .. of a body that may have interned -/
def own_PW (s : State) (below : List Frame) (Q : Option Value → Heap → List Loc → Prop) (C S : Nat) (t : State) : Prop := t.status = .running ∧ ∃ o, Ended t below o ∧ ∃ v L, o = .returned v ∧ Q v t.heap L ∧ ReturnedEndW s o t L C S
section own
variable {p : Program} {l : Launch} {e : Env} {R : Room} {s : State} {m : MethodId} {args : Array Value} {below : List Frame} {meth : Method} {c : Code} {T : State} {locs : List Loc} {cells slots : Nat} {Qo : Option Value → Heap → List Loc → Prop} {C' S' : Nat}
theorem own_out (X : Stand p l e R s m args below meth c T locs cells slots) {v : Option Value} {g : JFrame} (hv : meth.sig.returnType = none → v = none) (hlocks : meth.locks = false)
    (hst : ∀ fs, (∀ (f : JFrame) (acts : List Action), f.method = m → f.locked = none → f.entered = [] → (doReturn e (T.setTop f) acts v).1 = T.setFrames fs) → Steps p.tables e below (T.setTop g) (T.setFrames fs))
    (hc : cells ≤ C') (hs : slots ≤ S') (hq : Qo v T.heap locs) : own_Go p.tables e below (own_P s below Qo C' S') T g := by
  obtain ⟨fs, hr, hrun, hended, hW, hsame⟩ := X.leave (v := v) hv hlocks
  exact ⟨_, hst fs hr, hrun, _, hended, _, _, rfl, hq, ⟨_, rfl⟩, hW, hsame.mono hc hs⟩
theorem own_outW {vm0 : Vm} (X : Stand p l e R (s.setVm vm0) m args below meth c T locs cells slots) {k0 : Nat} (hS : s.Since vm0 k0) (hk : k0 ≤ T.heap.size) {v : Option Value} {g : JFrame} (hv : meth.sig.returnType = none → v = none) (hlocks : meth.locks = false)
    (hst : ∀ fs, (∀ (f : JFrame) (acts : List Action), f.method = m → f.locked = none → f.entered = [] → (doReturn e (T.setTop f) acts v).1 = T.setFrames fs) → Steps p.tables e below (T.setTop g) (T.setFrames fs))
    (hc : cells ≤ C') (hs : slots ≤ S') (hq : Qo v T.heap locs) : own_Go p.tables e below (own_PW s below Qo C' S') T g := by
  obtain ⟨fs, hr, hrun, hended, hW⟩ := X.leaveW hS hk (v := v) hv hlocks
  exact ⟨_, hst fs hr, hrun, _, hended, _, _, rfl, hq, hW.1, hW.2.1, hW.2.2.1, hW.2.2.2.mono hc hs⟩
theorem own_retI (X : Stand p l e R s m args below meth c T locs cells slots) (hx : p.tables.exec = Jvm.exec) {pc : Nat} {Ls : Array Slot} {z : Int32} {rest : List Value} (hret : meth.sig.returnType = some .int) (hd : decode c.code pc = .ok (.ireturn, 1)) (fs : List Frame)
    (hl : ∀ (f : JFrame) (acts : List Action), f.method = m → f.locked = none → f.entered = [] → (doReturn e (T.setTop f) acts (some (.int z))).1 = T.setFrames fs) : Steps p.tables e below (T.setTop (mkF m pc Ls (.int z :: rest))) (T.setFrames fs) :=
  retOut X hx hret rfl (Or.inl ⟨rfl, Or.inl rfl, _, rfl⟩) hd hl
theorem own_retZ (X : Stand p l e R s m args below meth c T locs cells slots) (hx : p.tables.exec = Jvm.exec) {pc : Nat} {Ls : Array Slot} {z : Int32} {rest : List Value} (hret : meth.sig.returnType = some .boolean) (hd : decode c.code pc = .ok (.ireturn, 1)) (hb : z = 0 ∨ z = 1) (fs : List Frame)
    (hl : ∀ (f : JFrame) (acts : List Action), f.method = m → f.locked = none → f.entered = [] → (doReturn e (T.setTop f) acts (some (.int z))).1 = T.setFrames fs) : Steps p.tables e below (T.setTop (mkF m pc Ls (.int z :: rest))) (T.setFrames fs) := by
  have e1 : nar .boolean z = z := by rcases hb with rfl | rfl <;> decide
  exact retN X hx hret (Or.inl rfl) hd (by rw [e1]; exact hl)
theorem own_retJ (X : Stand p l e R s m args below meth c T locs cells slots) (hx : p.tables.exec = Jvm.exec) {pc : Nat} {Ls : Array Slot} {z : Int64} {rest : List Value} (hret : meth.sig.returnType = some .long) (hd : decode c.code pc = .ok (.lreturn, 1)) (fs : List Frame)
    (hl : ∀ (f : JFrame) (acts : List Action), f.method = m → f.locked = none → f.entered = [] → (doReturn e (T.setTop f) acts (some (.long z))).1 = T.setFrames fs) : Steps p.tables e below (T.setTop (mkF m pc Ls (.long z :: rest))) (T.setFrames fs) :=
  retOut X hx hret rfl (Or.inr (Or.inl ⟨rfl, rfl, _, rfl⟩)) hd hl
theorem own_retD (X : Stand p l e R s m args below meth c T locs cells slots) (hx : p.tables.exec = Jvm.exec) {pc : Nat} {Ls : Array Slot} {z : UInt64} {rest : List Value} (hret : meth.sig.returnType = some .double) (hd : decode c.code pc = .ok (.dreturn, 1)) (fs : List Frame)
    (hl : ∀ (f : JFrame) (acts : List Action), f.method = m → f.locked = none → f.entered = [] → (doReturn e (T.setTop f) acts (some (.double z))).1 = T.setFrames fs) : Steps p.tables e below (T.setTop (mkF m pc Ls (.double z :: rest))) (T.setFrames fs) :=
  retOut X hx hret rfl (Or.inr (Or.inr (Or.inl ⟨rfl, rfl, _, rfl⟩))) hd hl
theorem own_retR (X : Stand p l e R s m args below meth c T locs cells slots) (hx : p.tables.exec = Jvm.exec) {pc : Nat} {Ls : Array Slot} {w : Value} {t : FieldType} {rest : List Value} (hret : meth.sig.returnType = some t) (ht : t.isReference = true) (hw : w.isRef = true) (hn : narrow t w = w) (hd : decode c.code pc = .ok (.areturn, 1)) (fs : List Frame)
    (hl : ∀ (f : JFrame) (acts : List Action), f.method = m → f.locked = none → f.entered = [] → (doReturn e (T.setTop f) acts (some w)).1 = T.setFrames fs) : Steps p.tables e below (T.setTop (mkF m pc Ls (w :: rest))) (T.setFrames fs) :=
  retOut X hx hret hn (Or.inr (Or.inr (Or.inr (Or.inr ⟨rfl, ht, hw⟩)))) hd hl
end own
/-- a private method is the one that is picked -/
theorem own_selp {s : State} {args : Array Value} {y : MethodName} {n : Nat} (hi : (Jvm.Cond.instantiable y.cls n).before args s = true) (hp : s.PrivateAt y) (hm : (Jvm.Cond.instanceMethod y).before args s = true) (hy : y.cls ≠ "java/lang/invoke/MethodHandle" ∧ y.cls ≠ "java/lang/invoke/VarHandle") : (Jvm.Cond.selects y.cls y y).before args s = true := by
  obtain ⟨c, k, h1, h2, -, h4, -⟩ := Cond.instantiable_spec hi
  exact selects_self_of_private h1 h2 (Bool.or_eq_false_iff.mp h4).1 hp hm hy
theorem own_staK {Z : State} {h h' : Heap} {C n d : String} {v : Value} {ws : List Addr} (F : Sta Z h C n d v) (K : Keep h h' ws) (q : ∀ x ∈ ws, ∃ D, Exa Z h x D) : Sta Z h' C n d v := by
  obtain ⟨cf, i, k, f, st, cell, h1, h2, h3, h4, h5, h6, h7⟩ := F
  refine ⟨cf, i, k, f, st, cell, h1, h2, h3, h4, K.2.1 st cell h5 (fun hm => ?_), h6, h7⟩
  obtain ⟨D, c', k', e1, -, -, e4, -⟩ := q st hm
  cases h5.symm.trans e1
  rw [h6] at e4; cases e4
/-- a reference or null -/
theorem own_refOf {w : Value} (h : w.isRef = true) (c : ¬ w = Value.null) : ∃ a, w = .ref a := (ref_cases h).resolve_left c
theorem own_nW {t : FieldType} {w : Value} (ht : t.isReference = true) (h : w.isRef = true) : narrow t w = w := by
  rcases ref_cases h with rfl | ⟨a, rfl⟩ <;> cases t <;> first | rfl | simp [FieldType.isReference] at ht
theorem own_fW {t : FieldType} {w : Value} (ht : t.isReference = true) (h : w.isRef = true) : fits t w = true := by
  rcases ref_cases h with rfl | ⟨a, rfl⟩ <;> cases t <;> first | rfl | simp [FieldType.isReference] at ht
theorem own_nb {z : Int32} (h : z = 0 ∨ z = 1) : narrow .boolean (.int z) = .int z := by rcases h with rfl | rfl <;> rfl
theorem own_fb {z : Int32} (h : z = 0 ∨ z = 1) : fits .boolean (.int z) = true := by rcases h with rfl | rfl <;> rfl
/-- lcmp and a branch, in one -/
def own_lcv : ClassFile.Cond → Int64 → Int64 → Prop
  | .lt, x, y => x < y | .ge, x, y => ¬ x < y | .gt, x, y => y < x | .le, x, y => ¬ y < x | .eq, x, y => x = y | .ne, x, y => ¬ x = y
theorem own_lcT {cd : ClassFile.Cond} {x y : Int64} (h : own_lcv cd x y) : ifCond.holds cd (lcmpW x y) = true := by
  rw [if0]
  cases cd
  · exact (teq ((lw_eq x y).mpr h)).1
  · exact (feq (fun q => h ((lw_eq x y).mp q))).2
  · exact (tlt ((lw_lt x y).mpr h)).1
  · exact (flt (fun q => h ((lw_lt x y).mp q))).2.1
  · exact (tlt ((lw_gt x y).mpr h)).2.2.1
  · exact (flt (fun q => h ((lw_gt x y).mp q))).2.2.2
theorem own_lcF {cd : ClassFile.Cond} {x y : Int64} (h : ¬ own_lcv cd x y) : ifCond.holds cd (lcmpW x y) = false := by
  rw [if0]
  cases cd
  · exact (feq (fun q => h ((lw_eq x y).mp q))).1
  · exact (teq (Classical.byContradiction fun q => h (fun r => q ((lw_eq x y).mpr r)))).2
  · exact (flt (fun q => h ((lw_lt x y).mp q))).1
  · exact (tlt (Classical.byContradiction fun q => h (fun r => q ((lw_lt x y).mpr r)))).2.1
  · exact (flt (fun q => h ((lw_gt x y).mp q))).2.2.1
  · exact (tlt (Classical.byContradiction fun q => h (fun r => q ((lw_gt x y).mpr r)))).2.2.2

theorem own_pd___I : parseMethodDescriptor "()I" = some ⟨[], some .int⟩ := by decide +kernel
theorem own_pd___Z : parseMethodDescriptor "()Z" = some ⟨[], some .boolean⟩ := by decide +kernel
theorem own_pd__I_Lcom_example_portcullis_portcullis_ListKind_ : parseMethodDescriptor "(I)Lcom/example/portcullis/portcullis/ListKind;" = some ⟨[.int], some (.object "com/example/portcullis/portcullis/ListKind")⟩ := by decide +kernel
theorem own_pd___Lcom_example_portcullis_portcullis_ListKind_Scope_ : parseMethodDescriptor "()Lcom/example/portcullis/portcullis/ListKind$Scope;" = some ⟨[], some (.object "com/example/portcullis/portcullis/ListKind$Scope")⟩ := by decide +kernel
/-- which scope the i-th kind has, as far as it is asked -/
def own_sc (x0 : Int32) (sc s0 s1 : Addr) : Prop := ((x0 = 0 ∨ x0 = 1) ∧ sc = s0) ∨ ((x0 = 2 ∨ x0 = 3) ∧ sc = s1) ∨ ((3 : Int32) < x0 ∧ sc ≠ s0 ∧ sc ≠ s1)
theorem own_big {x0 : Int32} (h : ¬ x0 < 0 ∧ x0 < 10) (c0 : ¬ x0 = 0) (c1 : ¬ x0 = 1) (c2 : ¬ x0 = 2) (c3 : ¬ x0 = 3) : (3 : Int32) < x0 := by
  obtain ⟨a, b⟩ := h
  rw [Int32.lt_iff_toInt_lt] at *
  rw [← Int32.toInt_inj] at c0 c1 c2 c3
  rw [show (0 : Int32).toInt = 0 from rfl] at *
  rw [show (1 : Int32).toInt = 1 from rfl] at c1
  rw [show (2 : Int32).toInt = 2 from rfl] at c2
  rw [show (3 : Int32).toInt = 3 from rfl] at *
  omega
theorem own_nine {x0 : Int32} (h : ¬ x0 < 0 ∧ x0 < 10) (c0 : ¬ x0 = 0) (c1 : ¬ x0 = 1) (c2 : ¬ x0 = 2) (c3 : ¬ x0 = 3) (c4 : ¬ x0 = 4) (c5 : ¬ x0 = 5) (c6 : ¬ x0 = 6) (c7 : ¬ x0 = 7) (c8 : ¬ x0 = 8) : x0 = 9 := by
  obtain ⟨a, b⟩ := h
  rw [Int32.lt_iff_toInt_lt] at a b
  rw [← Int32.toInt_inj] at c0 c1 c2 c3 c4 c5 c6 c7 c8 ⊢
  rw [show (0 : Int32).toInt = 0 from rfl] at a c0
  rw [show (10 : Int32).toInt = 10 from rfl] at b
  rw [show (1 : Int32).toInt = 1 from rfl] at c1
  rw [show (2 : Int32).toInt = 2 from rfl] at c2
  rw [show (3 : Int32).toInt = 3 from rfl] at c3
  rw [show (4 : Int32).toInt = 4 from rfl] at c4
  rw [show (5 : Int32).toInt = 5 from rfl] at c5
  rw [show (6 : Int32).toInt = 6 from rfl] at c6
  rw [show (7 : Int32).toInt = 7 from rfl] at c7
  rw [show (8 : Int32).toInt = 8 from rfl] at c8
  rw [show (9 : Int32).toInt = 9 from rfl]
  omega
theorem d1_0 : decode method_2_code 0 = .ok (.iload_n 0, 1) := by decide +kernel
theorem d1_1 : decode method_2_code 1 = .ok (.ifCond .ne 7, 3) := by decide +kernel
theorem d1_4 : decode method_2_code 4 = .ok (.getstatic 7, 3) := by decide +kernel
theorem d1_7 : decode method_2_code 7 = .ok (.areturn, 1) := by decide +kernel
theorem d1_8 : decode method_2_code 8 = .ok (.iload_n 0, 1) := by decide +kernel
theorem d1_9 : decode method_2_code 9 = .ok (.iconst 1, 1) := by decide +kernel
theorem d1_10 : decode method_2_code 10 = .ok (.if_icmp .ne 7, 3) := by decide +kernel
theorem d1_13 : decode method_2_code 13 = .ok (.getstatic 13, 3) := by decide +kernel
theorem d1_16 : decode method_2_code 16 = .ok (.areturn, 1) := by decide +kernel
theorem d1_17 : decode method_2_code 17 = .ok (.iload_n 0, 1) := by decide +kernel
theorem d1_18 : decode method_2_code 18 = .ok (.iconst 2, 1) := by decide +kernel
theorem d1_19 : decode method_2_code 19 = .ok (.if_icmp .ne 7, 3) := by decide +kernel
theorem d1_22 : decode method_2_code 22 = .ok (.getstatic 16, 3) := by decide +kernel
theorem d1_25 : decode method_2_code 25 = .ok (.areturn, 1) := by decide +kernel
theorem d1_26 : decode method_2_code 26 = .ok (.iload_n 0, 1) := by decide +kernel
theorem d1_27 : decode method_2_code 27 = .ok (.iconst 3, 1) := by decide +kernel
theorem d1_28 : decode method_2_code 28 = .ok (.if_icmp .ne 7, 3) := by decide +kernel
theorem d1_31 : decode method_2_code 31 = .ok (.getstatic 19, 3) := by decide +kernel
theorem d1_34 : decode method_2_code 34 = .ok (.areturn, 1) := by decide +kernel
theorem d1_35 : decode method_2_code 35 = .ok (.iload_n 0, 1) := by decide +kernel
theorem d1_36 : decode method_2_code 36 = .ok (.iconst 4, 1) := by decide +kernel
theorem d1_37 : decode method_2_code 37 = .ok (.if_icmp .ne 7, 3) := by decide +kernel
theorem d1_40 : decode method_2_code 40 = .ok (.getstatic 22, 3) := by decide +kernel
theorem d1_43 : decode method_2_code 43 = .ok (.areturn, 1) := by decide +kernel
theorem d1_44 : decode method_2_code 44 = .ok (.iload_n 0, 1) := by decide +kernel
theorem d1_45 : decode method_2_code 45 = .ok (.iconst 5, 1) := by decide +kernel
theorem d1_46 : decode method_2_code 46 = .ok (.if_icmp .ne 7, 3) := by decide +kernel
theorem d1_49 : decode method_2_code 49 = .ok (.getstatic 25, 3) := by decide +kernel
theorem d1_52 : decode method_2_code 52 = .ok (.areturn, 1) := by decide +kernel
theorem d1_53 : decode method_2_code 53 = .ok (.iload_n 0, 1) := by decide +kernel
theorem d1_54 : decode method_2_code 54 = .ok (.bipush 6, 2) := by decide +kernel
theorem d1_56 : decode method_2_code 56 = .ok (.if_icmp .ne 7, 3) := by decide +kernel
theorem d1_59 : decode method_2_code 59 = .ok (.getstatic 28, 3) := by decide +kernel
theorem d1_62 : decode method_2_code 62 = .ok (.areturn, 1) := by decide +kernel
theorem d1_63 : decode method_2_code 63 = .ok (.iload_n 0, 1) := by decide +kernel
theorem d1_64 : decode method_2_code 64 = .ok (.bipush 7, 2) := by decide +kernel
theorem d1_66 : decode method_2_code 66 = .ok (.if_icmp .ne 7, 3) := by decide +kernel
theorem d1_69 : decode method_2_code 69 = .ok (.getstatic 31, 3) := by decide +kernel
theorem d1_72 : decode method_2_code 72 = .ok (.areturn, 1) := by decide +kernel
theorem d1_73 : decode method_2_code 73 = .ok (.iload_n 0, 1) := by decide +kernel
theorem d1_74 : decode method_2_code 74 = .ok (.bipush 8, 2) := by decide +kernel
theorem d1_76 : decode method_2_code 76 = .ok (.if_icmp .ne 7, 3) := by decide +kernel
theorem d1_79 : decode method_2_code 79 = .ok (.getstatic 34, 3) := by decide +kernel
theorem d1_82 : decode method_2_code 82 = .ok (.areturn, 1) := by decide +kernel
theorem d1_83 : decode method_2_code 83 = .ok (.getstatic 37, 3) := by decide +kernel
theorem d1_86 : decode method_2_code 86 = .ok (.areturn, 1) := by decide +kernel
theorem own_pn1 : plainName "com/example/portcullis/portcullis/ScopeTrackedPinLaw" = true := by first | (simp [plainName, overriddenIn]; done) | decide +kernel
theorem own_ef1 (m : MethodId) (x0 : Int32) : entryFrame m #[(.int x0)] 1 = mkF m 0 #[.val (.int x0)] [] := by first | (simp [entryFrame, mkF, argsToLocals, Value.category]; done) | rfl
def Q1 (Z : State) (x0 : Int32) (ka0 : Addr) (ka1 : Addr) (ka2 : Addr) (ka3 : Addr) (ka4 : Addr) (ka5 : Addr) (ka6 : Addr) (ka7 : Addr) (ka8 : Addr) (ka9 : Addr) (sa0 : Addr) (sa1 : Addr) (sa2 : Addr) (sa3 : Addr) (h0 : Heap) (n0 : Nat) (v : Option Value) (h : Heap) (L : List Loc) : Prop := ∃ (b : Addr) (sc : Addr), v = some (.ref b) ∧ Fr n0 L ∧ h = h0 ∧ Exa Z h0 b "com/example/portcullis/portcullis/ListKind" ∧ Fld Z h0 b "com/example/portcullis/portcullis/ListKind" "scope" "Lcom/example/portcullis/portcullis/ListKind$Scope;" (.ref sc) ∧ Fld Z h0 b "java/lang/Enum" "ordinal" "I" (.int x0) ∧ Exa Z h0 sc "com/example/portcullis/portcullis/ListKind$Scope" ∧ own_sc x0 sc sa0 sa1
set_option maxRecDepth 65536 in
set_option maxHeartbeats 4000000 in
theorem rm1 (l : Launch) (Z : State) (a0 : Array Value) (hw : ∀ d ∈ tables_1, d.before a0 Z = true) (ws : List Jvm.Cond) (x0 : Int32) (ka0 : Addr) (ka1 : Addr) (ka2 : Addr) (ka3 : Addr) (ka4 : Addr) (ka5 : Addr) (ka6 : Addr) (ka7 : Addr) (ka8 : Addr) (ka9 : Addr) (sa0 : Addr) (sa1 : Addr) (sa2 : Addr) (sa3 : Addr) (h0 : Heap) (n0 : Nat) (Z0 : n0 ≤ h0.size) (F0 : Sta Z h0 "com/example/portcullis/portcullis/ListKind" "SYSTEM_SAFE" "Lcom/example/portcullis/portcullis/ListKind;" (.ref ka0)) (F1 : Exa Z h0 ka0 "com/example/portcullis/portcullis/ListKind") (F2 : Fld Z h0 ka0 "com/example/portcullis/portcullis/ListKind" "scope" "Lcom/example/portcullis/portcullis/ListKind$Scope;" (.ref sa0)) (F3 : Fld Z h0 ka0 "java/lang/Enum" "ordinal" "I" (.int (0 : Int32))) (F4 : Sta Z h0 "com/example/portcullis/portcullis/ListKind" "SYSTEM_BLOCK" "Lcom/example/portcullis/portcullis/ListKind;" (.ref ka1)) (F5 : Exa Z h0 ka1 "com/example/portcullis/portcullis/ListKind") (F6 : Fld Z h0 ka1 "com/example/portcullis/portcullis/ListKind" "scope" "Lcom/example/portcullis/portcullis/ListKind$Scope;" (.ref sa0)) (F7 : Fld Z h0 ka1 "java/lang/Enum" "ordinal" "I" (.int (1 : Int32))) (F8 : Sta Z h0 "com/example/portcullis/portcullis/ListKind" "DOMAIN_SAFE" "Lcom/example/portcullis/portcullis/ListKind;" (.ref ka2)) (F9 : Exa Z h0 ka2 "com/example/portcullis/portcullis/ListKind") (F10 : Fld Z h0 ka2 "com/example/portcullis/portcullis/ListKind" "scope" "Lcom/example/portcullis/portcullis/ListKind$Scope;" (.ref sa1)) (F11 : Fld Z h0 ka2 "java/lang/Enum" "ordinal" "I" (.int (2 : Int32))) (F12 : Sta Z h0 "com/example/portcullis/portcullis/ListKind" "DOMAIN_BLOCK" "Lcom/example/portcullis/portcullis/ListKind;" (.ref ka3)) (F13 : Exa Z h0 ka3 "com/example/portcullis/portcullis/ListKind") (F14 : Fld Z h0 ka3 "com/example/portcullis/portcullis/ListKind" "scope" "Lcom/example/portcullis/portcullis/ListKind$Scope;" (.ref sa1)) (F15 : Fld Z h0 ka3 "java/lang/Enum" "ordinal" "I" (.int (3 : Int32))) (F16 : Sta Z h0 "com/example/portcullis/portcullis/ListKind" "PROFILE_RECIPIENT_SAFE" "Lcom/example/portcullis/portcullis/ListKind;" (.ref ka4)) (F17 : Exa Z h0 ka4 "com/example/portcullis/portcullis/ListKind") (F18 : Fld Z h0 ka4 "com/example/portcullis/portcullis/ListKind" "scope" "Lcom/example/portcullis/portcullis/ListKind$Scope;" (.ref sa2)) (F19 : Fld Z h0 ka4 "java/lang/Enum" "ordinal" "I" (.int (4 : Int32))) (F20 : Sta Z h0 "com/example/portcullis/portcullis/ListKind" "PROFILE_RECIPIENT_BLOCK" "Lcom/example/portcullis/portcullis/ListKind;" (.ref ka5)) (F21 : Exa Z h0 ka5 "com/example/portcullis/portcullis/ListKind") (F22 : Fld Z h0 ka5 "com/example/portcullis/portcullis/ListKind" "scope" "Lcom/example/portcullis/portcullis/ListKind$Scope;" (.ref sa2)) (F23 : Fld Z h0 ka5 "java/lang/Enum" "ordinal" "I" (.int (5 : Int32))) (F24 : Sta Z h0 "com/example/portcullis/portcullis/ListKind" "PROFILE_SENDER_SAFE" "Lcom/example/portcullis/portcullis/ListKind;" (.ref ka6)) (F25 : Exa Z h0 ka6 "com/example/portcullis/portcullis/ListKind") (F26 : Fld Z h0 ka6 "com/example/portcullis/portcullis/ListKind" "scope" "Lcom/example/portcullis/portcullis/ListKind$Scope;" (.ref sa2)) (F27 : Fld Z h0 ka6 "java/lang/Enum" "ordinal" "I" (.int (6 : Int32))) (F28 : Sta Z h0 "com/example/portcullis/portcullis/ListKind" "PROFILE_SENDER_BLOCK" "Lcom/example/portcullis/portcullis/ListKind;" (.ref ka7)) (F29 : Exa Z h0 ka7 "com/example/portcullis/portcullis/ListKind") (F30 : Fld Z h0 ka7 "com/example/portcullis/portcullis/ListKind" "scope" "Lcom/example/portcullis/portcullis/ListKind$Scope;" (.ref sa2)) (F31 : Fld Z h0 ka7 "java/lang/Enum" "ordinal" "I" (.int (7 : Int32))) (F32 : Sta Z h0 "com/example/portcullis/portcullis/ListKind" "USER_SAFE" "Lcom/example/portcullis/portcullis/ListKind;" (.ref ka8)) (F33 : Exa Z h0 ka8 "com/example/portcullis/portcullis/ListKind") (F34 : Fld Z h0 ka8 "com/example/portcullis/portcullis/ListKind" "scope" "Lcom/example/portcullis/portcullis/ListKind$Scope;" (.ref sa3)) (F35 : Fld Z h0 ka8 "java/lang/Enum" "ordinal" "I" (.int (8 : Int32))) (F36 : Sta Z h0 "com/example/portcullis/portcullis/ListKind" "USER_BLOCK" "Lcom/example/portcullis/portcullis/ListKind;" (.ref ka9)) (F37 : Exa Z h0 ka9 "com/example/portcullis/portcullis/ListKind") (F38 : Fld Z h0 ka9 "com/example/portcullis/portcullis/ListKind" "scope" "Lcom/example/portcullis/portcullis/ListKind$Scope;" (.ref sa3)) (F39 : Fld Z h0 ka9 "java/lang/Enum" "ordinal" "I" (.int (9 : Int32))) (F40 : Exa Z h0 sa0 "com/example/portcullis/portcullis/ListKind$Scope") (F41 : Exa Z h0 sa1 "com/example/portcullis/portcullis/ListKind$Scope") (F42 : Exa Z h0 sa2 "com/example/portcullis/portcullis/ListKind$Scope") (F43 : Exa Z h0 sa3 "com/example/portcullis/portcullis/ListKind$Scope") (hx0 : ¬ x0 < 0 ∧ x0 < 10) (m0 : sa2 ≠ sa0) (m1 : sa2 ≠ sa1) (m2 : sa3 ≠ sa0) (m3 : sa3 ≠ sa1) :
    MetFree l (⟨"com/example/portcullis/portcullis/ScopeTrackedPinLaw", "kind", "(I)Lcom/example/portcullis/portcullis/ListKind;"⟩ : MethodName) (head1 (Jvm.Cond.code (⟨"com/example/portcullis/portcullis/ScopeTrackedPinLaw", "kind", "(I)Lcom/example/portcullis/portcullis/ListKind;"⟩ : MethodName) method_2_code 1 (some (.object "com/example/portcullis/portcullis/ListKind")) :: ws) ({ frames := 0, cells := 0, slots := 0, locals := 0 } : Room)) (fun aW U => aW = #[(.int x0)] ∧ Z.Warmed39 U.vm ∧ U.heap = h0) (fun _ _ _ _ _ => True) (fun _ U o U' => ∃ v L, o = .returned v ∧ Q1 Z x0 ka0 ka1 ka2 ka3 ka4 ka5 ka6 ka7 ka8 ka9 sa0 sa1 sa2 sa3 h0 n0 v U'.heap L ∧ FrameEnd U o U' L ({ frames := 0, cells := 0, slots := 0, locals := 0 } : Room).cells ({ frames := 0, cells := 0, slots := 0, locals := 0 } : Room).slots) := by
  refine MetFree.of_bodySF (plainFor_of_name own_pn1) hisR ?_
  intro p e s m args below meth c s₁ Bd hml0 hP hK
  obtain ⟨rfl, hZ, hh⟩ := hP
  have hx := Bd.exec
  have hby := Bd.bytes
  have hml : c.maxLocals = 1 := hml0
  have hown : s.vm.findClass "com/example/portcullis/portcullis/ScopeTrackedPinLaw" = some m.cls := findClass_of_methodNamed Bd.named
  have hnm := (name_of_methodNamed Bd.named Bd.method).1
  have X0 : Stand p l e ({ frames := 0, cells := 0, slots := 0, locals := 0 } : Room) s m #[(.int x0)] below meth c s₁ [] 0 0 := Stand.of_body Bd
  have e0 : s₁.heap = h0 := by rw [← hh, Bd.state]; rfl
  have N0 := Fr.nil n0
  obtain ⟨Pq, hPq⟩ : ∃ P, P = own_P s below (fun v h L => Q1 Z x0 ka0 ka1 ka2 ka3 ka4 ka5 ka6 ka7 ka8 ka9 sa0 sa1 sa2 sa3 h0 n0 v h L) ({ frames := 0, cells := 0, slots := 0, locals := 0 } : Room).cells ({ frames := 0, cells := 0, slots := 0, locals := 0 } : Room).slots := ⟨_, rfl⟩
  suffices hgo : own_Go p.tables e below Pq s₁ (mkF m 0 #[.val (.int x0)] []) by
    subst hPq
    obtain ⟨t, k1, k2, o, k3, k4⟩ := hgo
    exact ⟨t, o, castTop (own_ef1 m x0) k1, k2, k3, k4⟩
  show own_Go _ _ _ _ s₁ (mkF m 0 #[.val (.int x0)] [])
  refine own_st (fun t k => XS.iloadN X0.here hx rfl (hb hby d1_0) rfl k) ?_
  show own_Go _ _ _ _ s₁ (mkF m 1 _ [(.int x0)])
  by_cases c1 : x0 = (0 : Int32)
  · skip
    refine own_st (fun t k => XS.ifNo X0.here hx rfl (hb hby d1_1) rfl ((if0 _ _).trans (teq c1).2) k) ?_
    show own_Go _ _ _ _ s₁ (mkF m 4 _ [])
    obtain ⟨T2, X2, e2, st2⟩ := getS2 X0 hx hZ hown (host := "") (Or.inl (hw _ (List.mem_of_getElem? (i := 5) rfl))) Via.refl e0 F0 (g := (mkF m 4 #[.val (.int x0)] [])) rfl (hb hby d1_4)
    refine own_st st2 ?_
    show own_Go _ _ _ _ T2 (mkF m 7 _ [(.ref ka0)])
    subst hPq
    refine own_out X2 (v := some (.ref ka0)) (fun h => by rw [Bd.returns] at h; cases h) Bd.notSynchronized (own_retR X2 hx (t := (.object "com/example/portcullis/portcullis/ListKind")) Bd.returns rfl rfl rfl (hb hby d1_7)) (by decide) (by decide) ?_
    show Q1 Z x0 ka0 ka1 ka2 ka3 ka4 ka5 ka6 ka7 ka8 ka9 sa0 sa1 sa2 sa3 h0 n0 _ T2.heap _
    rw [e2]
    exact ⟨ka0, sa0, rfl, N0, rfl, F1, F2, (by rw [c1]; exact F3), F40, Or.inl ⟨Or.inl c1, rfl⟩⟩
  · skip
    refine own_st (fun t k => XS.ifYes X0.here hx rfl (pc0 := 1) (pc' := 8) rfl (hb hby d1_1) rfl ((if0 _ _).trans (feq c1).2) (by decide) (by decide) k) ?_
    show own_Go _ _ _ _ s₁ (mkF m 8 _ [])
    refine own_st (fun t k => XS.iloadN X0.here hx rfl (hb hby d1_8) rfl k) ?_
    show own_Go _ _ _ _ s₁ (mkF m 9 _ [(.int x0)])
    refine own_st (fun t k => XS.iconst X0.here hx rfl (hb hby d1_9) k) ?_
    show own_Go _ _ _ _ s₁ (mkF m 10 _ [(.int (1 : Int32)), (.int x0)])
    by_cases c3 : x0 = (1 : Int32)
    · skip
      refine own_st (fun t k => XS.icmpNo X0.here hx rfl (hb hby d1_10) rfl (teq c3).2 k) ?_
      show own_Go _ _ _ _ s₁ (mkF m 13 _ [])
      obtain ⟨T4, X4, e4, st4⟩ := getS2 X0 hx hZ hown (host := "") (Or.inl (hw _ (List.mem_of_getElem? (i := 47) rfl))) Via.refl e0 F4 (g := (mkF m 13 #[.val (.int x0)] [])) rfl (hb hby d1_13)
      refine own_st st4 ?_
      show own_Go _ _ _ _ T4 (mkF m 16 _ [(.ref ka1)])
      subst hPq
      refine own_out X4 (v := some (.ref ka1)) (fun h => by rw [Bd.returns] at h; cases h) Bd.notSynchronized (own_retR X4 hx (t := (.object "com/example/portcullis/portcullis/ListKind")) Bd.returns rfl rfl rfl (hb hby d1_16)) (by decide) (by decide) ?_
      show Q1 Z x0 ka0 ka1 ka2 ka3 ka4 ka5 ka6 ka7 ka8 ka9 sa0 sa1 sa2 sa3 h0 n0 _ T4.heap _
      rw [e4]
      exact ⟨ka1, sa0, rfl, N0, rfl, F5, F6, (by rw [c3]; exact F7), F40, Or.inl ⟨Or.inr c3, rfl⟩⟩
    · skip
      refine own_st (fun t k => XS.icmpYes X0.here hx rfl (pc0 := 10) (pc' := 17) rfl (hb hby d1_10) rfl (feq c3).2 (by decide) (by decide) k) ?_
      show own_Go _ _ _ _ s₁ (mkF m 17 _ [])
      refine own_st (fun t k => XS.iloadN X0.here hx rfl (hb hby d1_17) rfl k) ?_
      show own_Go _ _ _ _ s₁ (mkF m 18 _ [(.int x0)])
      refine own_st (fun t k => XS.iconst X0.here hx rfl (hb hby d1_18) k) ?_
      show own_Go _ _ _ _ s₁ (mkF m 19 _ [(.int (2 : Int32)), (.int x0)])
      by_cases c5 : x0 = (2 : Int32)
      · skip
        refine own_st (fun t k => XS.icmpNo X0.here hx rfl (hb hby d1_19) rfl (teq c5).2 k) ?_
        show own_Go _ _ _ _ s₁ (mkF m 22 _ [])
        obtain ⟨T6, X6, e6, st6⟩ := getS2 X0 hx hZ hown (host := "") (Or.inl (hw _ (List.mem_of_getElem? (i := 54) rfl))) Via.refl e0 F8 (g := (mkF m 22 #[.val (.int x0)] [])) rfl (hb hby d1_22)
        refine own_st st6 ?_
        show own_Go _ _ _ _ T6 (mkF m 25 _ [(.ref ka2)])
        subst hPq
        refine own_out X6 (v := some (.ref ka2)) (fun h => by rw [Bd.returns] at h; cases h) Bd.notSynchronized (own_retR X6 hx (t := (.object "com/example/portcullis/portcullis/ListKind")) Bd.returns rfl rfl rfl (hb hby d1_25)) (by decide) (by decide) ?_
        show Q1 Z x0 ka0 ka1 ka2 ka3 ka4 ka5 ka6 ka7 ka8 ka9 sa0 sa1 sa2 sa3 h0 n0 _ T6.heap _
        rw [e6]
        exact ⟨ka2, sa1, rfl, N0, rfl, F9, F10, (by rw [c5]; exact F11), F41, Or.inr (Or.inl ⟨Or.inl c5, rfl⟩)⟩
      · skip
        refine own_st (fun t k => XS.icmpYes X0.here hx rfl (pc0 := 19) (pc' := 26) rfl (hb hby d1_19) rfl (feq c5).2 (by decide) (by decide) k) ?_
        show own_Go _ _ _ _ s₁ (mkF m 26 _ [])
        refine own_st (fun t k => XS.iloadN X0.here hx rfl (hb hby d1_26) rfl k) ?_
        show own_Go _ _ _ _ s₁ (mkF m 27 _ [(.int x0)])
        refine own_st (fun t k => XS.iconst X0.here hx rfl (hb hby d1_27) k) ?_
        show own_Go _ _ _ _ s₁ (mkF m 28 _ [(.int (3 : Int32)), (.int x0)])
        by_cases c7 : x0 = (3 : Int32)
        · skip
          refine own_st (fun t k => XS.icmpNo X0.here hx rfl (hb hby d1_28) rfl (teq c7).2 k) ?_
          show own_Go _ _ _ _ s₁ (mkF m 31 _ [])
          obtain ⟨T8, X8, e8, st8⟩ := getS2 X0 hx hZ hown (host := "") (Or.inl (hw _ (List.mem_of_getElem? (i := 43) rfl))) Via.refl e0 F12 (g := (mkF m 31 #[.val (.int x0)] [])) rfl (hb hby d1_31)
          refine own_st st8 ?_
          show own_Go _ _ _ _ T8 (mkF m 34 _ [(.ref ka3)])
          subst hPq
          refine own_out X8 (v := some (.ref ka3)) (fun h => by rw [Bd.returns] at h; cases h) Bd.notSynchronized (own_retR X8 hx (t := (.object "com/example/portcullis/portcullis/ListKind")) Bd.returns rfl rfl rfl (hb hby d1_34)) (by decide) (by decide) ?_
          show Q1 Z x0 ka0 ka1 ka2 ka3 ka4 ka5 ka6 ka7 ka8 ka9 sa0 sa1 sa2 sa3 h0 n0 _ T8.heap _
          rw [e8]
          exact ⟨ka3, sa1, rfl, N0, rfl, F13, F14, (by rw [c7]; exact F15), F41, Or.inr (Or.inl ⟨Or.inr c7, rfl⟩)⟩
        · skip
          refine own_st (fun t k => XS.icmpYes X0.here hx rfl (pc0 := 28) (pc' := 35) rfl (hb hby d1_28) rfl (feq c7).2 (by decide) (by decide) k) ?_
          show own_Go _ _ _ _ s₁ (mkF m 35 _ [])
          refine own_st (fun t k => XS.iloadN X0.here hx rfl (hb hby d1_35) rfl k) ?_
          show own_Go _ _ _ _ s₁ (mkF m 36 _ [(.int x0)])
          refine own_st (fun t k => XS.iconst X0.here hx rfl (hb hby d1_36) k) ?_
          show own_Go _ _ _ _ s₁ (mkF m 37 _ [(.int (4 : Int32)), (.int x0)])
          by_cases c9 : x0 = (4 : Int32)
          · skip
            refine own_st (fun t k => XS.icmpNo X0.here hx rfl (hb hby d1_37) rfl (teq c9).2 k) ?_
            show own_Go _ _ _ _ s₁ (mkF m 40 _ [])
            obtain ⟨T10, X10, e10, st10⟩ := getS2 X0 hx hZ hown (host := "") (Or.inl (hw _ (List.mem_of_getElem? (i := 49) rfl))) Via.refl e0 F16 (g := (mkF m 40 #[.val (.int x0)] [])) rfl (hb hby d1_40)
            refine own_st st10 ?_
            show own_Go _ _ _ _ T10 (mkF m 43 _ [(.ref ka4)])
            subst hPq
            refine own_out X10 (v := some (.ref ka4)) (fun h => by rw [Bd.returns] at h; cases h) Bd.notSynchronized (own_retR X10 hx (t := (.object "com/example/portcullis/portcullis/ListKind")) Bd.returns rfl rfl rfl (hb hby d1_43)) (by decide) (by decide) ?_
            show Q1 Z x0 ka0 ka1 ka2 ka3 ka4 ka5 ka6 ka7 ka8 ka9 sa0 sa1 sa2 sa3 h0 n0 _ T10.heap _
            rw [e10]
            exact ⟨ka4, sa2, rfl, N0, rfl, F17, F18, (by rw [c9]; exact F19), F42, Or.inr (Or.inr ⟨own_big hx0 c1 c3 c5 c7, m0, m1⟩)⟩
          · skip
            refine own_st (fun t k => XS.icmpYes X0.here hx rfl (pc0 := 37) (pc' := 44) rfl (hb hby d1_37) rfl (feq c9).2 (by decide) (by decide) k) ?_
            show own_Go _ _ _ _ s₁ (mkF m 44 _ [])
            refine own_st (fun t k => XS.iloadN X0.here hx rfl (hb hby d1_44) rfl k) ?_
            show own_Go _ _ _ _ s₁ (mkF m 45 _ [(.int x0)])
            refine own_st (fun t k => XS.iconst X0.here hx rfl (hb hby d1_45) k) ?_
            show own_Go _ _ _ _ s₁ (mkF m 46 _ [(.int (5 : Int32)), (.int x0)])
            by_cases c11 : x0 = (5 : Int32)
            · skip
              refine own_st (fun t k => XS.icmpNo X0.here hx rfl (hb hby d1_46) rfl (teq c11).2 k) ?_
              show own_Go _ _ _ _ s₁ (mkF m 49 _ [])
              obtain ⟨T12, X12, e12, st12⟩ := getS2 X0 hx hZ hown (host := "") (Or.inl (hw _ (List.mem_of_getElem? (i := 61) rfl))) Via.refl e0 F20 (g := (mkF m 49 #[.val (.int x0)] [])) rfl (hb hby d1_49)
              refine own_st st12 ?_
              show own_Go _ _ _ _ T12 (mkF m 52 _ [(.ref ka5)])
              subst hPq
              refine own_out X12 (v := some (.ref ka5)) (fun h => by rw [Bd.returns] at h; cases h) Bd.notSynchronized (own_retR X12 hx (t := (.object "com/example/portcullis/portcullis/ListKind")) Bd.returns rfl rfl rfl (hb hby d1_52)) (by decide) (by decide) ?_
              show Q1 Z x0 ka0 ka1 ka2 ka3 ka4 ka5 ka6 ka7 ka8 ka9 sa0 sa1 sa2 sa3 h0 n0 _ T12.heap _
              rw [e12]
              exact ⟨ka5, sa2, rfl, N0, rfl, F21, F22, (by rw [c11]; exact F23), F42, Or.inr (Or.inr ⟨own_big hx0 c1 c3 c5 c7, m0, m1⟩)⟩
            · skip
              refine own_st (fun t k => XS.icmpYes X0.here hx rfl (pc0 := 46) (pc' := 53) rfl (hb hby d1_46) rfl (feq c11).2 (by decide) (by decide) k) ?_
              show own_Go _ _ _ _ s₁ (mkF m 53 _ [])
              refine own_st (fun t k => XS.iloadN X0.here hx rfl (hb hby d1_53) rfl k) ?_
              show own_Go _ _ _ _ s₁ (mkF m 54 _ [(.int x0)])
              refine own_st (fun t k => XS.bipush X0.here hx rfl (hb hby d1_54) k) ?_
              show own_Go _ _ _ _ s₁ (mkF m 56 _ [(.int (6 : Int32)), (.int x0)])
              by_cases c13 : x0 = (6 : Int32)
              · skip
                refine own_st (fun t k => XS.icmpNo X0.here hx rfl (hb hby d1_56) rfl (teq c13).2 k) ?_
                show own_Go _ _ _ _ s₁ (mkF m 59 _ [])
                obtain ⟨T14, X14, e14, st14⟩ := getS2 X0 hx hZ hown (host := "") (Or.inl (hw _ (List.mem_of_getElem? (i := 63) rfl))) Via.refl e0 F24 (g := (mkF m 59 #[.val (.int x0)] [])) rfl (hb hby d1_59)
                refine own_st st14 ?_
                show own_Go _ _ _ _ T14 (mkF m 62 _ [(.ref ka6)])
                subst hPq
                refine own_out X14 (v := some (.ref ka6)) (fun h => by rw [Bd.returns] at h; cases h) Bd.notSynchronized (own_retR X14 hx (t := (.object "com/example/portcullis/portcullis/ListKind")) Bd.returns rfl rfl rfl (hb hby d1_62)) (by decide) (by decide) ?_
                show Q1 Z x0 ka0 ka1 ka2 ka3 ka4 ka5 ka6 ka7 ka8 ka9 sa0 sa1 sa2 sa3 h0 n0 _ T14.heap _
                rw [e14]
                exact ⟨ka6, sa2, rfl, N0, rfl, F25, F26, (by rw [c13]; exact F27), F42, Or.inr (Or.inr ⟨own_big hx0 c1 c3 c5 c7, m0, m1⟩)⟩
              · skip
                refine own_st (fun t k => XS.icmpYes X0.here hx rfl (pc0 := 56) (pc' := 63) rfl (hb hby d1_56) rfl (feq c13).2 (by decide) (by decide) k) ?_
                show own_Go _ _ _ _ s₁ (mkF m 63 _ [])
                refine own_st (fun t k => XS.iloadN X0.here hx rfl (hb hby d1_63) rfl k) ?_
                show own_Go _ _ _ _ s₁ (mkF m 64 _ [(.int x0)])
                refine own_st (fun t k => XS.bipush X0.here hx rfl (hb hby d1_64) k) ?_
                show own_Go _ _ _ _ s₁ (mkF m 66 _ [(.int (7 : Int32)), (.int x0)])
                by_cases c15 : x0 = (7 : Int32)
                · skip
                  refine own_st (fun t k => XS.icmpNo X0.here hx rfl (hb hby d1_66) rfl (teq c15).2 k) ?_
                  show own_Go _ _ _ _ s₁ (mkF m 69 _ [])
                  obtain ⟨T16, X16, e16, st16⟩ := getS2 X0 hx hZ hown (host := "") (Or.inl (hw _ (List.mem_of_getElem? (i := 52) rfl))) Via.refl e0 F28 (g := (mkF m 69 #[.val (.int x0)] [])) rfl (hb hby d1_69)
                  refine own_st st16 ?_
                  show own_Go _ _ _ _ T16 (mkF m 72 _ [(.ref ka7)])
                  subst hPq
                  refine own_out X16 (v := some (.ref ka7)) (fun h => by rw [Bd.returns] at h; cases h) Bd.notSynchronized (own_retR X16 hx (t := (.object "com/example/portcullis/portcullis/ListKind")) Bd.returns rfl rfl rfl (hb hby d1_72)) (by decide) (by decide) ?_
                  show Q1 Z x0 ka0 ka1 ka2 ka3 ka4 ka5 ka6 ka7 ka8 ka9 sa0 sa1 sa2 sa3 h0 n0 _ T16.heap _
                  rw [e16]
                  exact ⟨ka7, sa2, rfl, N0, rfl, F29, F30, (by rw [c15]; exact F31), F42, Or.inr (Or.inr ⟨own_big hx0 c1 c3 c5 c7, m0, m1⟩)⟩
                · skip
                  refine own_st (fun t k => XS.icmpYes X0.here hx rfl (pc0 := 66) (pc' := 73) rfl (hb hby d1_66) rfl (feq c15).2 (by decide) (by decide) k) ?_
                  show own_Go _ _ _ _ s₁ (mkF m 73 _ [])
                  refine own_st (fun t k => XS.iloadN X0.here hx rfl (hb hby d1_73) rfl k) ?_
                  show own_Go _ _ _ _ s₁ (mkF m 74 _ [(.int x0)])
                  refine own_st (fun t k => XS.bipush X0.here hx rfl (hb hby d1_74) k) ?_
                  show own_Go _ _ _ _ s₁ (mkF m 76 _ [(.int (8 : Int32)), (.int x0)])
                  by_cases c17 : x0 = (8 : Int32)
                  · skip
                    refine own_st (fun t k => XS.icmpNo X0.here hx rfl (hb hby d1_76) rfl (teq c17).2 k) ?_
                    show own_Go _ _ _ _ s₁ (mkF m 79 _ [])
                    obtain ⟨T18, X18, e18, st18⟩ := getS2 X0 hx hZ hown (host := "") (Or.inl (hw _ (List.mem_of_getElem? (i := 56) rfl))) Via.refl e0 F32 (g := (mkF m 79 #[.val (.int x0)] [])) rfl (hb hby d1_79)
                    refine own_st st18 ?_
                    show own_Go _ _ _ _ T18 (mkF m 82 _ [(.ref ka8)])
                    subst hPq
                    refine own_out X18 (v := some (.ref ka8)) (fun h => by rw [Bd.returns] at h; cases h) Bd.notSynchronized (own_retR X18 hx (t := (.object "com/example/portcullis/portcullis/ListKind")) Bd.returns rfl rfl rfl (hb hby d1_82)) (by decide) (by decide) ?_
                    show Q1 Z x0 ka0 ka1 ka2 ka3 ka4 ka5 ka6 ka7 ka8 ka9 sa0 sa1 sa2 sa3 h0 n0 _ T18.heap _
                    rw [e18]
                    exact ⟨ka8, sa3, rfl, N0, rfl, F33, F34, (by rw [c17]; exact F35), F43, Or.inr (Or.inr ⟨own_big hx0 c1 c3 c5 c7, m2, m3⟩)⟩
                  · skip
                    refine own_st (fun t k => XS.icmpYes X0.here hx rfl (pc0 := 76) (pc' := 83) rfl (hb hby d1_76) rfl (feq c17).2 (by decide) (by decide) k) ?_
                    show own_Go _ _ _ _ s₁ (mkF m 83 _ [])
                    obtain ⟨T19, X19, e19, st19⟩ := getS2 X0 hx hZ hown (host := "") (Or.inl (hw _ (List.mem_of_getElem? (i := 59) rfl))) Via.refl e0 F36 (g := (mkF m 83 #[.val (.int x0)] [])) rfl (hb hby d1_83)
                    refine own_st st19 ?_
                    show own_Go _ _ _ _ T19 (mkF m 86 _ [(.ref ka9)])
                    subst hPq
                    refine own_out X19 (v := some (.ref ka9)) (fun h => by rw [Bd.returns] at h; cases h) Bd.notSynchronized (own_retR X19 hx (t := (.object "com/example/portcullis/portcullis/ListKind")) Bd.returns rfl rfl rfl (hb hby d1_86)) (by decide) (by decide) ?_
                    show Q1 Z x0 ka0 ka1 ka2 ka3 ka4 ka5 ka6 ka7 ka8 ka9 sa0 sa1 sa2 sa3 h0 n0 _ T19.heap _
                    rw [e19]
                    exact ⟨ka9, sa3, rfl, N0, rfl, F37, F38, (by rw [(own_nine hx0 c1 c3 c5 c7 c9 c11 c13 c15 c17)]; exact F39), F43, Or.inr (Or.inr ⟨own_big hx0 c1 c3 c5 c7, m2, m3⟩)⟩
theorem d2_0 : decode prog_40_method_5_code 0 = .ok (.aload_n 0, 1) := by decide +kernel
theorem d2_1 : decode prog_40_method_5_code 1 = .ok (.getfield 70, 3) := by decide +kernel
theorem d2_4 : decode prog_40_method_5_code 4 = .ok (.areturn, 1) := by decide +kernel
theorem own_pn2 : plainName "com/example/portcullis/portcullis/ListKind" = true := by first | (simp [plainName, overriddenIn]; done) | decide +kernel
theorem own_ef2 (m : MethodId) (a : Addr) : entryFrame m #[(.ref a)] 1 = mkF m 0 #[.val (.ref a)] [] := by first | (simp [entryFrame, mkF, argsToLocals, Value.category]; done) | rfl
def Q2 (Z : State) (a : Addr) (sc : Addr) (h0 : Heap) (n0 : Nat) (v : Option Value) (h : Heap) (L : List Loc) : Prop := v = some (.ref sc) ∧ Fr n0 L ∧ h = h0
set_option maxRecDepth 65536 in
set_option maxHeartbeats 4000000 in
theorem rm2 (l : Launch) (Z : State) (a0 : Array Value) (hw : ∀ d ∈ tables_1, d.before a0 Z = true) (ws : List Jvm.Cond) (a : Addr) (sc : Addr) (h0 : Heap) (n0 : Nat) (Z0 : n0 ≤ h0.size) (F0 : Exa Z h0 a "com/example/portcullis/portcullis/ListKind") (F1 : Fld Z h0 a "com/example/portcullis/portcullis/ListKind" "scope" "Lcom/example/portcullis/portcullis/ListKind$Scope;" (.ref sc)) :
    MetFree l (⟨"com/example/portcullis/portcullis/ListKind", "scope", "()Lcom/example/portcullis/portcullis/ListKind$Scope;"⟩ : MethodName) (head1 (Jvm.Cond.code (⟨"com/example/portcullis/portcullis/ListKind", "scope", "()Lcom/example/portcullis/portcullis/ListKind$Scope;"⟩ : MethodName) prog_40_method_5_code 1 (some (.object "com/example/portcullis/portcullis/ListKind$Scope")) :: ws) ({ frames := 0, cells := 0, slots := 0, locals := 0 } : Room)) (fun aW U => aW = #[(.ref a)] ∧ Z.Warmed39 U.vm ∧ U.heap = h0) (fun _ _ _ _ _ => True) (fun _ U o U' => ∃ v L, o = .returned v ∧ Q2 Z a sc h0 n0 v U'.heap L ∧ FrameEnd U o U' L ({ frames := 0, cells := 0, slots := 0, locals := 0 } : Room).cells ({ frames := 0, cells := 0, slots := 0, locals := 0 } : Room).slots) := by
  refine MetFree.of_bodySF (plainFor_of_name own_pn2) hisR ?_
  intro p e s m args below meth c s₁ Bd hml0 hP hK
  obtain ⟨rfl, hZ, hh⟩ := hP
  have hx := Bd.exec
  have hby := Bd.bytes
  have hml : c.maxLocals = 1 := hml0
  have hown : s.vm.findClass "com/example/portcullis/portcullis/ListKind" = some m.cls := findClass_of_methodNamed Bd.named
  have hnm := (name_of_methodNamed Bd.named Bd.method).1
  have X0 : Stand p l e ({ frames := 0, cells := 0, slots := 0, locals := 0 } : Room) s m #[(.ref a)] below meth c s₁ [] 0 0 := Stand.of_body Bd
  have e0 : s₁.heap = h0 := by rw [← hh, Bd.state]; rfl
  have N0 := Fr.nil n0
  obtain ⟨Pq, hPq⟩ : ∃ P, P = own_P s below (fun v h L => Q2 Z a sc h0 n0 v h L) ({ frames := 0, cells := 0, slots := 0, locals := 0 } : Room).cells ({ frames := 0, cells := 0, slots := 0, locals := 0 } : Room).slots := ⟨_, rfl⟩
  suffices hgo : own_Go p.tables e below Pq s₁ (mkF m 0 #[.val (.ref a)] []) by
    subst hPq
    obtain ⟨t, k1, k2, o, k3, k4⟩ := hgo
    exact ⟨t, o, castTop (own_ef2 m a) k1, k2, k3, k4⟩
  show own_Go _ _ _ _ s₁ (mkF m 0 #[.val (.ref a)] [])
  refine own_st (fun t k => XS.aloadN X0.here hx rfl (hb hby d2_0) rfl rfl k) ?_
  show own_Go _ _ _ _ s₁ (mkF m 1 _ [(.ref a)])
  obtain ⟨T1, X1, e1, st1⟩ := getF X0 hx hZ hown (host := "") (Or.inl (hw _ (List.mem_of_getElem? (i := 13) rfl))) Via.refl e0 F1 (g := (mkF m 1 #[.val (.ref a)] [(.ref a)])) rfl rfl (hb hby d2_1)
  refine own_st st1 ?_
  show own_Go _ _ _ _ T1 (mkF m 4 _ [(.ref sc)])
  subst hPq
  refine own_out X1 (v := some (.ref sc)) (fun h => by rw [Bd.returns] at h; cases h) Bd.notSynchronized (own_retR X1 hx (t := (.object "com/example/portcullis/portcullis/ListKind$Scope")) Bd.returns rfl rfl rfl (hb hby d2_4)) (by decide) (by decide) ?_
  show Q2 Z a sc h0 n0 _ T1.heap _
  rw [e1]
  exact ⟨rfl, N0, rfl⟩
def own_tracked (a : Addr) (s0 : Addr) (s1 : Addr) : Int32 := (if a = s0 then (1 : Int32) else (if a = s1 then (1 : Int32) else (0 : Int32)))
theorem own_tracked_b (a : Addr) (s0 : Addr) (s1 : Addr) : (own_tracked a s0 s1) = 0 ∨ (own_tracked a s0 s1) = 1 := by
  unfold own_tracked
  (repeat' split) <;> first | exact Or.inl rfl | exact Or.inr rfl
theorem d3_0 : decode prog_42_method_7_code 0 = .ok (.aload_n 0, 1) := by decide +kernel
theorem d3_1 : decode prog_42_method_7_code 1 = .ok (.getstatic 3, 3) := by decide +kernel
theorem d3_4 : decode prog_42_method_7_code 4 = .ok (.if_acmp .eq 10, 3) := by decide +kernel
theorem d3_7 : decode prog_42_method_7_code 7 = .ok (.aload_n 0, 1) := by decide +kernel
theorem d3_8 : decode prog_42_method_7_code 8 = .ok (.getstatic 7, 3) := by decide +kernel
theorem d3_11 : decode prog_42_method_7_code 11 = .ok (.if_acmp .ne 7, 3) := by decide +kernel
theorem d3_14 : decode prog_42_method_7_code 14 = .ok (.iconst 1, 1) := by decide +kernel
theorem d3_15 : decode prog_42_method_7_code 15 = .ok (.goto 4, 3) := by decide +kernel
theorem d3_18 : decode prog_42_method_7_code 18 = .ok (.iconst 0, 1) := by decide +kernel
theorem d3_19 : decode prog_42_method_7_code 19 = .ok (.ireturn, 1) := by decide +kernel
theorem own_pn3 : plainName "com/example/portcullis/portcullis/ListKind$Scope" = true := by first | (simp [plainName, overriddenIn]; done) | decide +kernel
theorem own_ef3 (m : MethodId) (a : Addr) : entryFrame m #[(.ref a)] 1 = mkF m 0 #[.val (.ref a)] [] := by first | (simp [entryFrame, mkF, argsToLocals, Value.category]; done) | rfl
def Q3 (Z : State) (a : Addr) (s0 : Addr) (s1 : Addr) (h0 : Heap) (n0 : Nat) (v : Option Value) (h : Heap) (L : List Loc) : Prop := v = some (.int (own_tracked a s0 s1)) ∧ Fr n0 L ∧ h = h0
set_option maxRecDepth 65536 in
set_option maxHeartbeats 4000000 in
theorem rm3 (l : Launch) (Z : State) (a0 : Array Value) (hw : ∀ d ∈ tables_1, d.before a0 Z = true) (ws : List Jvm.Cond) (a : Addr) (s0 : Addr) (s1 : Addr) (h0 : Heap) (n0 : Nat) (Z0 : n0 ≤ h0.size) (F0 : Exa Z h0 a "com/example/portcullis/portcullis/ListKind$Scope") (F1 : Sta Z h0 "com/example/portcullis/portcullis/ListKind$Scope" "SYSTEM" "Lcom/example/portcullis/portcullis/ListKind$Scope;" (.ref s0)) (F2 : Sta Z h0 "com/example/portcullis/portcullis/ListKind$Scope" "DOMAIN" "Lcom/example/portcullis/portcullis/ListKind$Scope;" (.ref s1)) :
    MetFree l (⟨"com/example/portcullis/portcullis/ListKind$Scope", "tracked", "()Z"⟩ : MethodName) (head1 (Jvm.Cond.code (⟨"com/example/portcullis/portcullis/ListKind$Scope", "tracked", "()Z"⟩ : MethodName) prog_42_method_7_code 1 (some .boolean) :: ws) ({ frames := 0, cells := 0, slots := 0, locals := 0 } : Room)) (fun aW U => aW = #[(.ref a)] ∧ Z.Warmed39 U.vm ∧ U.heap = h0) (fun _ _ _ _ _ => True) (fun _ U o U' => ∃ v L, o = .returned v ∧ Q3 Z a s0 s1 h0 n0 v U'.heap L ∧ FrameEnd U o U' L ({ frames := 0, cells := 0, slots := 0, locals := 0 } : Room).cells ({ frames := 0, cells := 0, slots := 0, locals := 0 } : Room).slots) := by
  refine MetFree.of_bodySF (plainFor_of_name own_pn3) hisR ?_
  intro p e s m args below meth c s₁ Bd hml0 hP hK
  obtain ⟨rfl, hZ, hh⟩ := hP
  have hx := Bd.exec
  have hby := Bd.bytes
  have hml : c.maxLocals = 1 := hml0
  have hown : s.vm.findClass "com/example/portcullis/portcullis/ListKind$Scope" = some m.cls := findClass_of_methodNamed Bd.named
  have hnm := (name_of_methodNamed Bd.named Bd.method).1
  have X0 : Stand p l e ({ frames := 0, cells := 0, slots := 0, locals := 0 } : Room) s m #[(.ref a)] below meth c s₁ [] 0 0 := Stand.of_body Bd
  have e0 : s₁.heap = h0 := by rw [← hh, Bd.state]; rfl
  have N0 := Fr.nil n0
  obtain ⟨Pq, hPq⟩ : ∃ P, P = own_P s below (fun v h L => Q3 Z a s0 s1 h0 n0 v h L) ({ frames := 0, cells := 0, slots := 0, locals := 0 } : Room).cells ({ frames := 0, cells := 0, slots := 0, locals := 0 } : Room).slots := ⟨_, rfl⟩
  suffices hgo : own_Go p.tables e below Pq s₁ (mkF m 0 #[.val (.ref a)] []) by
    subst hPq
    obtain ⟨t, k1, k2, o, k3, k4⟩ := hgo
    exact ⟨t, o, castTop (own_ef3 m a) k1, k2, k3, k4⟩
  show own_Go _ _ _ _ s₁ (mkF m 0 #[.val (.ref a)] [])
  refine own_st (fun t k => XS.aloadN X0.here hx rfl (hb hby d3_0) rfl rfl k) ?_
  show own_Go _ _ _ _ s₁ (mkF m 1 _ [(.ref a)])
  obtain ⟨T1, X1, e1, st1⟩ := getS2 X0 hx hZ hown (host := "") (Or.inl (hw _ (List.mem_of_getElem? (i := 22) rfl))) Via.refl e0 F1 (g := (mkF m 1 #[.val (.ref a)] [(.ref a)])) rfl (hb hby d3_1)
  refine own_st st1 ?_
  show own_Go _ _ _ _ T1 (mkF m 4 _ [(.ref s0), (.ref a)])
  have J8 : ∀ (Tj8 : State) (Lj8 : List Loc) (p9 : Int32), Stand p l e ({ frames := 0, cells := 0, slots := 0, locals := 0 } : Room) s m #[(.ref a)] below meth c Tj8 Lj8 0 0 → Tj8.heap = h0 → Fr n0 Lj8 → p9 = (if a = s0 then (1 : Int32) else (if a = s1 then (1 : Int32) else (0 : Int32))) → own_Go p.tables e below Pq Tj8 (mkF m 19 #[.val (.ref a)] [(.int p9)]) := by
    intro Tj8 Lj8 p9 Xj8 ej8 Nj8 qp9
    show own_Go _ _ _ _ Tj8 (mkF m 19 _ [(.int p9)])
    have hb_p9 : p9 = 0 ∨ p9 = 1 := by rw [qp9]; (repeat' split) <;> first | exact Or.inl rfl | exact Or.inr rfl | assumption
    subst hPq
    refine own_out Xj8 (v := some (.int p9)) (fun h => by rw [Bd.returns] at h; cases h) Bd.notSynchronized (own_retZ Xj8 hx Bd.returns (hb hby d3_19) hb_p9) (by decide) (by decide) ?_
    show Q3 Z a s0 s1 h0 n0 _ Tj8.heap _
    rw [ej8]
    exact ⟨by subst_vars; rfl, Nj8, rfl⟩
  by_cases c2 : a = s0
  · skip
    refine own_st (fun t k => Jvm.RoadKit.acmp (g := (mkF m 4 #[.val (.ref a)] [(.ref s0), (.ref a)])) X1 hx rfl rfl rfl (pc0 := 4) (pc' := 14) (same := true) rfl (hb hby d3_4) rfl (decide_eq_true (congrArg Value.ref c2)) (by decide) (by decide) k) ?_
    show own_Go _ _ _ _ T1 (mkF m 14 _ [])
    refine own_st (fun t k => XS.iconst X1.here hx rfl (hb hby d3_14) k) ?_
    show own_Go _ _ _ _ T1 (mkF m 15 _ [(.int (1 : Int32))])
    refine own_st (fun t k => XS.goto X1.here hx rfl (pc0 := 15) (pc' := 19) rfl (hb hby d3_15) (by decide) (by decide) k) ?_
    show own_Go _ _ _ _ T1 (mkF m 19 _ [(.int (1 : Int32))])
    exact J8 T1 _ _ X1 e1 N0 (by simp only [if_pos c2])
  · skip
    refine own_st (fun t k => Jvm.RoadKit.acmp (g := (mkF m 4 #[.val (.ref a)] [(.ref s0), (.ref a)])) X1 hx rfl rfl rfl (pc0 := 4) (pc' := 7) (same := false) rfl (hb hby d3_4) rfl (decide_eq_false fun q => c2 (Value.ref.inj q)) (by decide) (by decide) k) ?_
    show own_Go _ _ _ _ T1 (mkF m 7 _ [])
    refine own_st (fun t k => XS.aloadN X1.here hx rfl (hb hby d3_7) rfl rfl k) ?_
    show own_Go _ _ _ _ T1 (mkF m 8 _ [(.ref a)])
    obtain ⟨T4, X4, e4, st4⟩ := getS2 X1 hx hZ hown (host := "") (Or.inl (hw _ (List.mem_of_getElem? (i := 46) rfl))) Via.refl e1 F2 (g := (mkF m 8 #[.val (.ref a)] [(.ref a)])) rfl (hb hby d3_8)
    refine own_st st4 ?_
    show own_Go _ _ _ _ T4 (mkF m 11 _ [(.ref s1), (.ref a)])
    by_cases c5 : a = s1
    · skip
      refine own_st (fun t k => Jvm.RoadKit.acmp (g := (mkF m 11 #[.val (.ref a)] [(.ref s1), (.ref a)])) X4 hx rfl rfl rfl (pc0 := 11) (pc' := 14) (same := true) rfl (hb hby d3_11) rfl (decide_eq_true (congrArg Value.ref c5)) (by decide) (by decide) k) ?_
      show own_Go _ _ _ _ T4 (mkF m 14 _ [])
      refine own_st (fun t k => XS.iconst X4.here hx rfl (hb hby d3_14) k) ?_
      show own_Go _ _ _ _ T4 (mkF m 15 _ [(.int (1 : Int32))])
      refine own_st (fun t k => XS.goto X4.here hx rfl (pc0 := 15) (pc' := 19) rfl (hb hby d3_15) (by decide) (by decide) k) ?_
      show own_Go _ _ _ _ T4 (mkF m 19 _ [(.int (1 : Int32))])
      exact J8 T4 _ _ X4 e4 N0 (by simp only [if_neg c2, if_pos c5])
    · skip
      refine own_st (fun t k => Jvm.RoadKit.acmp (g := (mkF m 11 #[.val (.ref a)] [(.ref s1), (.ref a)])) X4 hx rfl rfl rfl (pc0 := 11) (pc' := 18) (same := false) rfl (hb hby d3_11) rfl (decide_eq_false fun q => c5 (Value.ref.inj q)) (by decide) (by decide) k) ?_
      show own_Go _ _ _ _ T4 (mkF m 18 _ [])
      refine own_st (fun t k => XS.iconst X4.here hx rfl (hb hby d3_18) k) ?_
      show own_Go _ _ _ _ T4 (mkF m 19 _ [(.int (0 : Int32))])
      exact J8 T4 _ _ X4 e4 N0 (by simp only [if_neg c2, if_neg c5])
def own_ord (od : Int32) : Int32 := od
theorem d4_0 : decode jdk_37_method_2_code 0 = .ok (.aload_n 0, 1) := by decide +kernel
theorem d4_1 : decode jdk_37_method_2_code 1 = .ok (.getfield 7, 3) := by decide +kernel
theorem d4_4 : decode jdk_37_method_2_code 4 = .ok (.ireturn, 1) := by decide +kernel
theorem own_pn4 : plainName "java/lang/Enum" = true := by first | (simp [plainName, overriddenIn]; done) | decide +kernel
theorem own_ef4 (m : MethodId) (a : Addr) : entryFrame m #[(.ref a)] 1 = mkF m 0 #[.val (.ref a)] [] := by first | (simp [entryFrame, mkF, argsToLocals, Value.category]; done) | rfl
def Q4 (Z : State) (a : Addr) (od : Int32) (h0 : Heap) (n0 : Nat) (v : Option Value) (h : Heap) (L : List Loc) : Prop := v = some (.int (own_ord od)) ∧ Fr n0 L ∧ h = h0
set_option maxRecDepth 65536 in
set_option maxHeartbeats 4000000 in
theorem rm4 (l : Launch) (Z : State) (a0 : Array Value) (hw : ∀ d ∈ tables_1, d.before a0 Z = true) (ws : List Jvm.Cond) (a : Addr) (od : Int32) (h0 : Heap) (n0 : Nat) (Z0 : n0 ≤ h0.size) (F0 : Fld Z h0 a "java/lang/Enum" "ordinal" "I" (.int od)) :
    MetFree l (⟨"java/lang/Enum", "ordinal", "()I"⟩ : MethodName) (head1 (Jvm.Cond.code (⟨"java/lang/Enum", "ordinal", "()I"⟩ : MethodName) jdk_37_method_2_code 1 (some .int) :: ws) ({ frames := 0, cells := 0, slots := 0, locals := 0 } : Room)) (fun aW U => aW = #[(.ref a)] ∧ Z.Warmed39 U.vm ∧ U.heap = h0) (fun _ _ _ _ _ => True) (fun _ U o U' => ∃ v L, o = .returned v ∧ Q4 Z a od h0 n0 v U'.heap L ∧ FrameEnd U o U' L ({ frames := 0, cells := 0, slots := 0, locals := 0 } : Room).cells ({ frames := 0, cells := 0, slots := 0, locals := 0 } : Room).slots) := by
  refine MetFree.of_bodySF (plainFor_of_name own_pn4) hisR ?_
  intro p e s m args below meth c s₁ Bd hml0 hP hK
  obtain ⟨rfl, hZ, hh⟩ := hP
  have hx := Bd.exec
  have hby := Bd.bytes
  have hml : c.maxLocals = 1 := hml0
  have hown : s.vm.findClass "java/lang/Enum" = some m.cls := findClass_of_methodNamed Bd.named
  have hnm := (name_of_methodNamed Bd.named Bd.method).1
  have X0 : Stand p l e ({ frames := 0, cells := 0, slots := 0, locals := 0 } : Room) s m #[(.ref a)] below meth c s₁ [] 0 0 := Stand.of_body Bd
  have e0 : s₁.heap = h0 := by rw [← hh, Bd.state]; rfl
  have N0 := Fr.nil n0
  obtain ⟨Pq, hPq⟩ : ∃ P, P = own_P s below (fun v h L => Q4 Z a od h0 n0 v h L) ({ frames := 0, cells := 0, slots := 0, locals := 0 } : Room).cells ({ frames := 0, cells := 0, slots := 0, locals := 0 } : Room).slots := ⟨_, rfl⟩
  suffices hgo : own_Go p.tables e below Pq s₁ (mkF m 0 #[.val (.ref a)] []) by
    subst hPq
    obtain ⟨t, k1, k2, o, k3, k4⟩ := hgo
    exact ⟨t, o, castTop (own_ef4 m a) k1, k2, k3, k4⟩
  show own_Go _ _ _ _ s₁ (mkF m 0 #[.val (.ref a)] [])
  refine own_st (fun t k => XS.aloadN X0.here hx rfl (hb hby d4_0) rfl rfl k) ?_
  show own_Go _ _ _ _ s₁ (mkF m 1 _ [(.ref a)])
  obtain ⟨T1, X1, e1, st1⟩ := getF X0 hx hZ hown (host := "") (Or.inl (hw _ (List.mem_of_getElem? (i := 35) rfl))) Via.refl e0 F0 (g := (mkF m 1 #[.val (.ref a)] [(.ref a)])) rfl rfl (hb hby d4_1)
  refine own_st st1 ?_
  show own_Go _ _ _ _ T1 (mkF m 4 _ [(.int od)])
  subst hPq
  refine own_out X1 (v := some (.int od)) (fun h => by rw [Bd.returns] at h; cases h) Bd.notSynchronized (own_retI X1 hx Bd.returns (hb hby d4_4)) (by decide) (by decide) ?_
  show Q4 Z a od h0 n0 _ T1.heap _
  rw [e1]
  exact ⟨by subst_vars; rfl, N0, rfl⟩
def own_step (od : Int32) : Int32 := ((own_ord od) + (1 : Int32))
theorem d5_0 : decode prog_40_method_6_code 0 = .ok (.aload_n 0, 1) := by decide +kernel
theorem d5_1 : decode prog_40_method_6_code 1 = .ok (.invokevirtual 86, 3) := by decide +kernel
theorem d5_4 : decode prog_40_method_6_code 4 = .ok (.iconst 1, 1) := by decide +kernel
theorem d5_5 : decode prog_40_method_6_code 5 = .ok (.iadd, 1) := by decide +kernel
theorem d5_6 : decode prog_40_method_6_code 6 = .ok (.ireturn, 1) := by decide +kernel
theorem own_pn5 : plainName "com/example/portcullis/portcullis/ListKind" = true := by first | (simp [plainName, overriddenIn]; done) | decide +kernel
theorem own_ef5 (m : MethodId) (a : Addr) : entryFrame m #[(.ref a)] 1 = mkF m 0 #[.val (.ref a)] [] := by first | (simp [entryFrame, mkF, argsToLocals, Value.category]; done) | rfl
def Q5 (Z : State) (a : Addr) (od : Int32) (h0 : Heap) (n0 : Nat) (v : Option Value) (h : Heap) (L : List Loc) : Prop := v = some (.int (own_step od)) ∧ Fr n0 L ∧ h = h0
set_option maxRecDepth 65536 in
set_option maxHeartbeats 4000000 in
theorem rm5 (l : Launch) (Z : State) (a0 : Array Value) (hw : ∀ d ∈ tables_1, d.before a0 Z = true) (ws : List Jvm.Cond) (a : Addr) (od : Int32) (h0 : Heap) (n0 : Nat) (Z0 : n0 ≤ h0.size) (F0 : Exa Z h0 a "com/example/portcullis/portcullis/ListKind") (F1 : Fld Z h0 a "java/lang/Enum" "ordinal" "I" (.int od)) :
    MetFree l (⟨"com/example/portcullis/portcullis/ListKind", "step", "()I"⟩ : MethodName) (head1 (Jvm.Cond.code (⟨"com/example/portcullis/portcullis/ListKind", "step", "()I"⟩ : MethodName) prog_40_method_6_code 1 (some .int) :: ws) ({ frames := 1, cells := 0, slots := 0, locals := 12 } : Room)) (fun aW U => aW = #[(.ref a)] ∧ Z.Warmed39 U.vm ∧ U.heap = h0) (fun _ _ _ _ _ => True) (fun _ U o U' => ∃ v L, o = .returned v ∧ Q5 Z a od h0 n0 v U'.heap L ∧ FrameEnd U o U' L ({ frames := 1, cells := 0, slots := 0, locals := 12 } : Room).cells ({ frames := 1, cells := 0, slots := 0, locals := 12 } : Room).slots) := by
  refine MetFree.of_bodySF (plainFor_of_name own_pn5) hisR ?_
  intro p e s m args below meth c s₁ Bd hml0 hP hK
  obtain ⟨rfl, hZ, hh⟩ := hP
  have hx := Bd.exec
  have hby := Bd.bytes
  have hml : c.maxLocals = 1 := hml0
  have hown : s.vm.findClass "com/example/portcullis/portcullis/ListKind" = some m.cls := findClass_of_methodNamed Bd.named
  have hnm := (name_of_methodNamed Bd.named Bd.method).1
  have X0 : Stand p l e ({ frames := 1, cells := 0, slots := 0, locals := 12 } : Room) s m #[(.ref a)] below meth c s₁ [] 0 0 := Stand.of_body Bd
  have e0 : s₁.heap = h0 := by rw [← hh, Bd.state]; rfl
  have N0 := Fr.nil n0
  obtain ⟨Pq, hPq⟩ : ∃ P, P = own_P s below (fun v h L => Q5 Z a od h0 n0 v h L) ({ frames := 1, cells := 0, slots := 0, locals := 12 } : Room).cells ({ frames := 1, cells := 0, slots := 0, locals := 12 } : Room).slots := ⟨_, rfl⟩
  suffices hgo : own_Go p.tables e below Pq s₁ (mkF m 0 #[.val (.ref a)] []) by
    subst hPq
    obtain ⟨t, k1, k2, o, k3, k4⟩ := hgo
    exact ⟨t, o, castTop (own_ef5 m a) k1, k2, k3, k4⟩
  show own_Go _ _ _ _ s₁ (mkF m 0 #[.val (.ref a)] [])
  refine own_st (fun t k => XS.aloadN X0.here hx rfl (hb hby d5_0) rfl rfl k) ?_
  show own_Go _ _ _ _ s₁ (mkF m 1 _ [(.ref a)])
  obtain ⟨cq1, kq1, q1a, q1b, q1c⟩ := isOf hZ e0 F0
  obtain ⟨_, _, ⟨T1, L1, k1, n1⟩, -, X1, ⟨Lc1, hQ1, l1, y1, z1⟩, st1⟩ := X0.virtualBackUp hx (x := (⟨"com/example/portcullis/portcullis/ListKind", "ordinal", "()I"⟩ : MethodName)) (y := (⟨"java/lang/Enum", "ordinal", "()I"⟩ : MethodName)) hown (mvT hZ (hw _ (List.mem_of_getElem? (i := 28) rfl))) (mvT hZ (hw _ (List.mem_of_getElem? (i := 29) rfl))) (mvT hZ (hw _ (List.mem_of_getElem? (i := 30) rfl))) (by decide) (mvT hZ (hw _ (List.mem_of_getElem? (i := 32) rfl))) (mvT hZ (hw _ (List.mem_of_getElem? (i := 31) rfl))) (backOf (W := 0) (rm4 l Z a0 hw [] a od h0 n0 Z0 F1) hZ (hw _ (List.mem_of_getElem? (i := 34) rfl)) (hw _ (List.mem_of_getElem? (i := 33) rfl)) (by decide) (by decide)) q1a q1c (g := (mkF m 1 #[.val (.ref a)] [(.ref a)])) rfl (by rw [hml]; rfl) (Steps.refl _) (argsL := []) (rest := []) (lenOf own_pd___I rfl) rfl (by show 2 * 0 + _ ≤ _; exact Nat.le_of_eq rfl) (hb hby d5_1) (fun _ _ => ⟨rfl, e0, (by decide : 0 + 0 ≤ _), (by decide : 0 + 0 ≤ _)⟩)
  dsimp only [Pt.U, Pt.locs, Pt.cells, Pt.slots] at X1 l1 y1 z1 st1 hQ1
  subst l1 y1 z1
  obtain ⟨rfl, NQ1, eq1⟩ := hQ1
  have N2 := Fr.app N0 NQ1
  refine own_st (fun t k => st1.trans k) ?_
  show own_Go _ _ _ _ T1 (mkF m 4 _ [(.int (own_ord od))])
  refine own_st (fun t k => XS.iconst X1.here hx rfl (hb hby d5_4) k) ?_
  show own_Go _ _ _ _ T1 (mkF m 5 _ [(.int (1 : Int32)), (.int (own_ord od))])
  refine own_st (fun t k => XS.iadd X1.here hx rfl (hb hby d5_5) rfl k) ?_
  show own_Go _ _ _ _ T1 (mkF m 6 _ [(.int ((own_ord od) + (1 : Int32)))])
  subst hPq
  refine own_out X1 (v := some (.int ((own_ord od) + (1 : Int32)))) (fun h => by rw [Bd.returns] at h; cases h) Bd.notSynchronized (own_retI X1 hx Bd.returns (hb hby d5_6)) (by decide) (by decide) ?_
  show Q5 Z a od h0 n0 _ T1.heap _
  rw [eq1]
  exact ⟨by subst_vars; rfl, N2, rfl⟩
def own_ktracked (sc : Addr) (s0 : Addr) (s1 : Addr) : Int32 := (own_tracked sc s0 s1)
theorem own_ktracked_b (sc : Addr) (s0 : Addr) (s1 : Addr) : (own_ktracked sc s0 s1) = 0 ∨ (own_ktracked sc s0 s1) = 1 := by
  unfold own_ktracked
  (repeat' split) <;> first | exact Or.inl rfl | exact Or.inr rfl | exact own_tracked_b _ _ _
theorem d6_0 : decode prog_40_method_10_code 0 = .ok (.aload_n 0, 1) := by decide +kernel
theorem d6_1 : decode prog_40_method_10_code 1 = .ok (.getfield 70, 3) := by decide +kernel
theorem d6_4 : decode prog_40_method_10_code 4 = .ok (.invokevirtual 100, 3) := by decide +kernel
theorem d6_7 : decode prog_40_method_10_code 7 = .ok (.ireturn, 1) := by decide +kernel
theorem own_pn6 : plainName "com/example/portcullis/portcullis/ListKind" = true := by first | (simp [plainName, overriddenIn]; done) | decide +kernel
theorem own_ef6 (m : MethodId) (a : Addr) : entryFrame m #[(.ref a)] 1 = mkF m 0 #[.val (.ref a)] [] := by first | (simp [entryFrame, mkF, argsToLocals, Value.category]; done) | rfl
def Q6 (Z : State) (a : Addr) (sc : Addr) (s0 : Addr) (s1 : Addr) (h0 : Heap) (n0 : Nat) (v : Option Value) (h : Heap) (L : List Loc) : Prop := v = some (.int (own_ktracked sc s0 s1)) ∧ Fr n0 L ∧ h = h0
set_option maxRecDepth 65536 in
set_option maxHeartbeats 4000000 in
theorem rm6 (l : Launch) (Z : State) (a0 : Array Value) (hw : ∀ d ∈ tables_1, d.before a0 Z = true) (ws : List Jvm.Cond) (a : Addr) (sc : Addr) (s0 : Addr) (s1 : Addr) (h0 : Heap) (n0 : Nat) (Z0 : n0 ≤ h0.size) (F0 : Exa Z h0 a "com/example/portcullis/portcullis/ListKind") (F1 : Fld Z h0 a "com/example/portcullis/portcullis/ListKind" "scope" "Lcom/example/portcullis/portcullis/ListKind$Scope;" (.ref sc)) (F2 : Exa Z h0 sc "com/example/portcullis/portcullis/ListKind$Scope") (F3 : Sta Z h0 "com/example/portcullis/portcullis/ListKind$Scope" "SYSTEM" "Lcom/example/portcullis/portcullis/ListKind$Scope;" (.ref s0)) (F4 : Sta Z h0 "com/example/portcullis/portcullis/ListKind$Scope" "DOMAIN" "Lcom/example/portcullis/portcullis/ListKind$Scope;" (.ref s1)) :
    MetFree l (⟨"com/example/portcullis/portcullis/ListKind", "tracked", "()Z"⟩ : MethodName) (head1 (Jvm.Cond.code (⟨"com/example/portcullis/portcullis/ListKind", "tracked", "()Z"⟩ : MethodName) prog_40_method_10_code 1 (some .boolean) :: ws) ({ frames := 1, cells := 0, slots := 0, locals := 12 } : Room)) (fun aW U => aW = #[(.ref a)] ∧ Z.Warmed39 U.vm ∧ U.heap = h0) (fun _ _ _ _ _ => True) (fun _ U o U' => ∃ v L, o = .returned v ∧ Q6 Z a sc s0 s1 h0 n0 v U'.heap L ∧ FrameEnd U o U' L ({ frames := 1, cells := 0, slots := 0, locals := 12 } : Room).cells ({ frames := 1, cells := 0, slots := 0, locals := 12 } : Room).slots) := by
  refine MetFree.of_bodySF (plainFor_of_name own_pn6) hisR ?_
  intro p e s m args below meth c s₁ Bd hml0 hP hK
  obtain ⟨rfl, hZ, hh⟩ := hP
  have hx := Bd.exec
  have hby := Bd.bytes
  have hml : c.maxLocals = 1 := hml0
  have hown : s.vm.findClass "com/example/portcullis/portcullis/ListKind" = some m.cls := findClass_of_methodNamed Bd.named
  have hnm := (name_of_methodNamed Bd.named Bd.method).1
  have X0 : Stand p l e ({ frames := 1, cells := 0, slots := 0, locals := 12 } : Room) s m #[(.ref a)] below meth c s₁ [] 0 0 := Stand.of_body Bd
  have e0 : s₁.heap = h0 := by rw [← hh, Bd.state]; rfl
  have N0 := Fr.nil n0
  obtain ⟨Pq, hPq⟩ : ∃ P, P = own_P s below (fun v h L => Q6 Z a sc s0 s1 h0 n0 v h L) ({ frames := 1, cells := 0, slots := 0, locals := 12 } : Room).cells ({ frames := 1, cells := 0, slots := 0, locals := 12 } : Room).slots := ⟨_, rfl⟩
  suffices hgo : own_Go p.tables e below Pq s₁ (mkF m 0 #[.val (.ref a)] []) by
    subst hPq
    obtain ⟨t, k1, k2, o, k3, k4⟩ := hgo
    exact ⟨t, o, castTop (own_ef6 m a) k1, k2, k3, k4⟩
  show own_Go _ _ _ _ s₁ (mkF m 0 #[.val (.ref a)] [])
  refine own_st (fun t k => XS.aloadN X0.here hx rfl (hb hby d6_0) rfl rfl k) ?_
  show own_Go _ _ _ _ s₁ (mkF m 1 _ [(.ref a)])
  obtain ⟨T1, X1, e1, st1⟩ := getF X0 hx hZ hown (host := "") (Or.inl (hw _ (List.mem_of_getElem? (i := 13) rfl))) Via.refl e0 F1 (g := (mkF m 1 #[.val (.ref a)] [(.ref a)])) rfl rfl (hb hby d6_1)
  refine own_st st1 ?_
  show own_Go _ _ _ _ T1 (mkF m 4 _ [(.ref sc)])
  obtain ⟨cq2, kq2, q2a, q2b, q2c⟩ := isOf hZ e1 F2
  obtain ⟨_, _, ⟨T2, L2, k2, n2⟩, -, X2, ⟨Lc2, hQ2, l2, y2, z2⟩, st2⟩ := X1.virtualBack hx (y := (⟨"com/example/portcullis/portcullis/ListKind$Scope", "tracked", "()Z"⟩ : MethodName)) (z := (⟨"com/example/portcullis/portcullis/ListKind$Scope", "tracked", "()Z"⟩ : MethodName)) hown (mvT hZ (hw _ (List.mem_of_getElem? (i := 42) rfl))) (mvT hZ (hw _ (List.mem_of_getElem? (i := 18) rfl))) (notFace_of_selects (args := #[]) (mvT hZ (hw _ (List.mem_of_getElem? (i := 20) rfl)))) (mvT hZ (hw _ (List.mem_of_getElem? (i := 20) rfl))) (mvT hZ (hw _ (List.mem_of_getElem? (i := 19) rfl))) (by decide) (backOf (W := 0) (rm3 l Z a0 hw [] sc s0 s1 h0 n0 Z0 F2 F3 F4) hZ (hw _ (List.mem_of_getElem? (i := 21) rfl)) (hw _ (List.mem_of_getElem? (i := 15) rfl)) (by decide) (by decide)) q2a q2c (g := (mkF m 4 #[.val (.ref a)] [(.ref sc)])) rfl (by rw [hml]; rfl) (Steps.refl _) (argsL := []) (rest := []) (lenOf own_pd___Z rfl) rfl (by show 2 * 0 + _ ≤ _; exact Nat.le_of_eq rfl) (hb hby d6_4) (fun _ _ => ⟨rfl, e1, (by decide : 0 + 0 ≤ _), (by decide : 0 + 0 ≤ _)⟩)
  dsimp only [Pt.U, Pt.locs, Pt.cells, Pt.slots] at X2 l2 y2 z2 st2 hQ2
  subst l2 y2 z2
  obtain ⟨rfl, NQ2, eq2⟩ := hQ2
  have N3 := Fr.app N0 NQ2
  refine own_st (fun t k => st2.trans k) ?_
  show own_Go _ _ _ _ T2 (mkF m 7 _ [(.int (own_tracked sc s0 s1))])
  subst hPq
  refine own_out X2 (v := some (.int (own_tracked sc s0 s1))) (fun h => by rw [Bd.returns] at h; cases h) Bd.notSynchronized (own_retZ X2 hx Bd.returns (hb hby d6_7) (own_tracked_b _ _ _)) (by decide) (by decide) ?_
  show Q6 Z a sc s0 s1 h0 n0 _ T2.heap _
  rw [eq2]
  exact ⟨by subst_vars; rfl, N3, rfl⟩
theorem own_ten {x v : Int32} (h : ((x &&& (2147483647 : Int32)) % (10 : Int32)) = v) : ¬ v < 0 ∧ v < 10 := by
  have e1 := c_mask x 2147483647 31 (by decide) (by decide)
  have e2 := c_irem (x &&& 2147483647) 10 10 rfl
  rw [h] at e2
  rw [Int32.lt_iff_toInt_lt, Int32.lt_iff_toInt_lt, show (0 : Int32).toInt = 0 from rfl, show (10 : Int32).toInt = 10 from rfl]
  omega
theorem own_pn0 : plainName "com/example/portcullis/portcullis/ScopeTrackedPinLaw" = true := by first | (simp [plainName, overriddenIn]; done) | decide +kernel
theorem own_ef0 (m : MethodId) (x0 : Int32) : entryFrame m #[(.int x0)] maxLocals = mkF m 0 #[.val (.int x0), .unset, .unset, .unset, .unset, .unset] [] := by first | (simp [entryFrame, mkF, argsToLocals, Value.category, maxLocals]; done) | rfl
def Q0 (Z : State) (x0 : Int32) (ka0 : Addr) (ka1 : Addr) (ka2 : Addr) (ka3 : Addr) (ka4 : Addr) (ka5 : Addr) (ka6 : Addr) (ka7 : Addr) (ka8 : Addr) (ka9 : Addr) (sa0 : Addr) (sa1 : Addr) (sa2 : Addr) (sa3 : Addr) (h0 : Heap) (n0 : Nat) (v : Option Value) (h : Heap) (L : List Loc) : Prop := v = some (.int 1) ∧ Fr n0 L
theorem own_law (x0 : Int32) (ka0 : Addr) (ka1 : Addr) (ka2 : Addr) (ka3 : Addr) (ka4 : Addr) (ka5 : Addr) (ka6 : Addr) (ka7 : Addr) (ka8 : Addr) (ka9 : Addr) (sa0 : Addr) (sa1 : Addr) (sa2 : Addr) (sa3 : Addr) (v1 : Int32) (r2_b : Addr) (r2_sc : Addr) (v8 : Int32) (p13 : Int32) (p26 : Int32) (m0 : sa2 ≠ sa0) (m1 : sa2 ≠ sa1) (m2 : sa3 ≠ sa0) (m3 : sa3 ≠ sa1) (hv1 : ((x0 &&& (2147483647 : Int32)) % (10 : Int32)) = v1) (hq2_4 : own_sc v1 r2_sc sa0 sa1) (hv8 : (own_tracked r2_sc sa0 sa1) = v8) (qp13 : p13 = (if (3 : Int32) < v1 then (0 : Int32) else (1 : Int32))) (qp26 : p26 = (if v8 = p13 then (if (own_step v1) = (v1 + (1 : Int32)) then (if (own_ktracked r2_sc sa0 sa1) = v8 then (1 : Int32) else (0 : Int32)) else (0 : Int32)) else (0 : Int32))) : p26 = 1 := by
  have a : v8 = p13 := by
    rw [← hv8, qp13]; unfold own_tracked
    rcases hq2_4 with ⟨h, e⟩ | ⟨h, e⟩ | ⟨h, e1, e2⟩
    · rw [if_pos e]
      rcases h with h | h
      · rw [h, if_neg (by decide)]
      · rw [h, if_neg (by decide)]
    · have q : ¬ (3 : Int32) < v1 := by
        rcases h with h | h
        · rw [h]; decide
        · rw [h]; decide
      rw [if_neg q]
      by_cases u : r2_sc = sa0
      · rw [if_pos u]
      · rw [if_neg u, if_pos e]
    · rw [if_neg e1, if_neg e2, if_pos h]
  have b : own_step v1 = v1 + 1 := rfl
  have c : own_ktracked r2_sc sa0 sa1 = v8 := hv8
  rw [qp26, if_pos a, if_pos b, if_pos c]
set_option maxRecDepth 65536 in
set_option maxHeartbeats 4000000 in
theorem rm0 (l : Launch) (Z : State) (a0 : Array Value) (hw : ∀ d ∈ tables_1, d.before a0 Z = true) (ws : List Jvm.Cond) (x0 : Int32) (ka0 : Addr) (ka1 : Addr) (ka2 : Addr) (ka3 : Addr) (ka4 : Addr) (ka5 : Addr) (ka6 : Addr) (ka7 : Addr) (ka8 : Addr) (ka9 : Addr) (sa0 : Addr) (sa1 : Addr) (sa2 : Addr) (sa3 : Addr) (h0 : Heap) (n0 : Nat) (Z0 : n0 ≤ h0.size) (F0 : Sta Z h0 "com/example/portcullis/portcullis/ListKind" "SYSTEM_SAFE" "Lcom/example/portcullis/portcullis/ListKind;" (.ref ka0)) (F1 : Exa Z h0 ka0 "com/example/portcullis/portcullis/ListKind") (F2 : Fld Z h0 ka0 "com/example/portcullis/portcullis/ListKind" "scope" "Lcom/example/portcullis/portcullis/ListKind$Scope;" (.ref sa0)) (F3 : Fld Z h0 ka0 "java/lang/Enum" "ordinal" "I" (.int (0 : Int32))) (F4 : Sta Z h0 "com/example/portcullis/portcullis/ListKind" "SYSTEM_BLOCK" "Lcom/example/portcullis/portcullis/ListKind;" (.ref ka1)) (F5 : Exa Z h0 ka1 "com/example/portcullis/portcullis/ListKind") (F6 : Fld Z h0 ka1 "com/example/portcullis/portcullis/ListKind" "scope" "Lcom/example/portcullis/portcullis/ListKind$Scope;" (.ref sa0)) (F7 : Fld Z h0 ka1 "java/lang/Enum" "ordinal" "I" (.int (1 : Int32))) (F8 : Sta Z h0 "com/example/portcullis/portcullis/ListKind" "DOMAIN_SAFE" "Lcom/example/portcullis/portcullis/ListKind;" (.ref ka2)) (F9 : Exa Z h0 ka2 "com/example/portcullis/portcullis/ListKind") (F10 : Fld Z h0 ka2 "com/example/portcullis/portcullis/ListKind" "scope" "Lcom/example/portcullis/portcullis/ListKind$Scope;" (.ref sa1)) (F11 : Fld Z h0 ka2 "java/lang/Enum" "ordinal" "I" (.int (2 : Int32))) (F12 : Sta Z h0 "com/example/portcullis/portcullis/ListKind" "DOMAIN_BLOCK" "Lcom/example/portcullis/portcullis/ListKind;" (.ref ka3)) (F13 : Exa Z h0 ka3 "com/example/portcullis/portcullis/ListKind") (F14 : Fld Z h0 ka3 "com/example/portcullis/portcullis/ListKind" "scope" "Lcom/example/portcullis/portcullis/ListKind$Scope;" (.ref sa1)) (F15 : Fld Z h0 ka3 "java/lang/Enum" "ordinal" "I" (.int (3 : Int32))) (F16 : Sta Z h0 "com/example/portcullis/portcullis/ListKind" "PROFILE_RECIPIENT_SAFE" "Lcom/example/portcullis/portcullis/ListKind;" (.ref ka4)) (F17 : Exa Z h0 ka4 "com/example/portcullis/portcullis/ListKind") (F18 : Fld Z h0 ka4 "com/example/portcullis/portcullis/ListKind" "scope" "Lcom/example/portcullis/portcullis/ListKind$Scope;" (.ref sa2)) (F19 : Fld Z h0 ka4 "java/lang/Enum" "ordinal" "I" (.int (4 : Int32))) (F20 : Sta Z h0 "com/example/portcullis/portcullis/ListKind" "PROFILE_RECIPIENT_BLOCK" "Lcom/example/portcullis/portcullis/ListKind;" (.ref ka5)) (F21 : Exa Z h0 ka5 "com/example/portcullis/portcullis/ListKind") (F22 : Fld Z h0 ka5 "com/example/portcullis/portcullis/ListKind" "scope" "Lcom/example/portcullis/portcullis/ListKind$Scope;" (.ref sa2)) (F23 : Fld Z h0 ka5 "java/lang/Enum" "ordinal" "I" (.int (5 : Int32))) (F24 : Sta Z h0 "com/example/portcullis/portcullis/ListKind" "PROFILE_SENDER_SAFE" "Lcom/example/portcullis/portcullis/ListKind;" (.ref ka6)) (F25 : Exa Z h0 ka6 "com/example/portcullis/portcullis/ListKind") (F26 : Fld Z h0 ka6 "com/example/portcullis/portcullis/ListKind" "scope" "Lcom/example/portcullis/portcullis/ListKind$Scope;" (.ref sa2)) (F27 : Fld Z h0 ka6 "java/lang/Enum" "ordinal" "I" (.int (6 : Int32))) (F28 : Sta Z h0 "com/example/portcullis/portcullis/ListKind" "PROFILE_SENDER_BLOCK" "Lcom/example/portcullis/portcullis/ListKind;" (.ref ka7)) (F29 : Exa Z h0 ka7 "com/example/portcullis/portcullis/ListKind") (F30 : Fld Z h0 ka7 "com/example/portcullis/portcullis/ListKind" "scope" "Lcom/example/portcullis/portcullis/ListKind$Scope;" (.ref sa2)) (F31 : Fld Z h0 ka7 "java/lang/Enum" "ordinal" "I" (.int (7 : Int32))) (F32 : Sta Z h0 "com/example/portcullis/portcullis/ListKind" "USER_SAFE" "Lcom/example/portcullis/portcullis/ListKind;" (.ref ka8)) (F33 : Exa Z h0 ka8 "com/example/portcullis/portcullis/ListKind") (F34 : Fld Z h0 ka8 "com/example/portcullis/portcullis/ListKind" "scope" "Lcom/example/portcullis/portcullis/ListKind$Scope;" (.ref sa3)) (F35 : Fld Z h0 ka8 "java/lang/Enum" "ordinal" "I" (.int (8 : Int32))) (F36 : Sta Z h0 "com/example/portcullis/portcullis/ListKind" "USER_BLOCK" "Lcom/example/portcullis/portcullis/ListKind;" (.ref ka9)) (F37 : Exa Z h0 ka9 "com/example/portcullis/portcullis/ListKind") (F38 : Fld Z h0 ka9 "com/example/portcullis/portcullis/ListKind" "scope" "Lcom/example/portcullis/portcullis/ListKind$Scope;" (.ref sa3)) (F39 : Fld Z h0 ka9 "java/lang/Enum" "ordinal" "I" (.int (9 : Int32))) (F40 : Exa Z h0 sa0 "com/example/portcullis/portcullis/ListKind$Scope") (F41 : Exa Z h0 sa1 "com/example/portcullis/portcullis/ListKind$Scope") (F42 : Exa Z h0 sa2 "com/example/portcullis/portcullis/ListKind$Scope") (F43 : Exa Z h0 sa3 "com/example/portcullis/portcullis/ListKind$Scope") (F44 : Sta Z h0 "com/example/portcullis/portcullis/ListKind$Scope" "SYSTEM" "Lcom/example/portcullis/portcullis/ListKind$Scope;" (.ref sa0)) (F45 : Sta Z h0 "com/example/portcullis/portcullis/ListKind$Scope" "DOMAIN" "Lcom/example/portcullis/portcullis/ListKind$Scope;" (.ref sa1)) (m0 : sa2 ≠ sa0) (m1 : sa2 ≠ sa1) (m2 : sa3 ≠ sa0) (m3 : sa3 ≠ sa1) :
    MetFree l x (head1 (Jvm.Cond.code x code maxLocals ret :: ws) room_1) (fun aW U => aW = #[(.int x0)] ∧ Z.Warmed39 U.vm ∧ U.heap = h0) (fun _ _ _ _ _ => True) (fun _ U o U' => ∃ v L, o = .returned v ∧ Q0 Z x0 ka0 ka1 ka2 ka3 ka4 ka5 ka6 ka7 ka8 ka9 sa0 sa1 sa2 sa3 h0 n0 v U'.heap L ∧ FrameEnd U o U' L 0 0) := by
  refine MetFree.of_bodySF (plainFor_of_name own_pn0) hisR ?_
  intro p e s m args below meth c s₁ Bd hml0 hP hK
  obtain ⟨rfl, hZ, hh⟩ := hP
  have hx := Bd.exec
  have hby := Bd.bytes
  have hml : c.maxLocals = 6 := hml0
  have hown : s.vm.findClass "com/example/portcullis/portcullis/ScopeTrackedPinLaw" = some m.cls := findClass_of_methodNamed Bd.named
  have hnm := (name_of_methodNamed Bd.named Bd.method).1
  have X0 : Stand p l e room_1 s m #[(.int x0)] below meth c s₁ [] 0 0 := Stand.of_body Bd
  have e0 : s₁.heap = h0 := by rw [← hh, Bd.state]; rfl
  have N0 := Fr.nil n0
  obtain ⟨Pq, hPq⟩ : ∃ P, P = own_P s below (fun v h L => Q0 Z x0 ka0 ka1 ka2 ka3 ka4 ka5 ka6 ka7 ka8 ka9 sa0 sa1 sa2 sa3 h0 n0 v h L) 0 0 := ⟨_, rfl⟩
  suffices hgo : own_Go p.tables e below Pq s₁ (mkF m 0 #[.val (.int x0), .unset, .unset, .unset, .unset, .unset] []) by
    subst hPq
    obtain ⟨t, k1, k2, o, k3, k4⟩ := hgo
    exact ⟨t, o, castTop (own_ef0 m x0) k1, k2, k3, k4⟩
  show own_Go _ _ _ _ s₁ (mkF m 0 #[.val (.int x0), .unset, .unset, .unset, .unset, .unset] [])
  refine own_st (fun t k => XS.iloadN X0.here hx rfl (hb hby at_0) rfl k) ?_
  show own_Go _ _ _ _ s₁ (mkF m 1 _ [(.int x0)])
  refine own_st (fun t k => X0.ldcInt hx hown (mvT hZ (hw _ (List.mem_of_getElem? (i := 0) rfl))) (g := (mkF m 1 #[.val (.int x0), .unset, .unset, .unset, .unset, .unset] [(.int x0)])) rfl (hb hby at_1) _ k) ?_
  show own_Go _ _ _ _ s₁ (mkF m 3 _ [(.int (2147483647 : Int32)), (.int x0)])
  refine own_st (fun t k => XS.iand X0.here hx rfl (hb hby at_3) rfl k) ?_
  show own_Go _ _ _ _ s₁ (mkF m 4 _ [(.int (x0 &&& (2147483647 : Int32)))])
  refine own_st (fun t k => XS.bipush X0.here hx rfl (hb hby at_4) k) ?_
  show own_Go _ _ _ _ s₁ (mkF m 6 _ [(.int (10 : Int32)), (.int (x0 &&& (2147483647 : Int32)))])
  refine own_st (fun t k => iremM X0 hx rfl (hb hby at_6) rfl (by decide) k) ?_
  show own_Go _ _ _ _ s₁ (mkF m 7 _ [(.int ((x0 &&& (2147483647 : Int32)) % (10 : Int32)))])
  generalize hv1 : ((x0 &&& (2147483647 : Int32)) % (10 : Int32)) = v1
  refine own_st (fun t k => XS.istoreN X0.here hx rfl (hb hby at_7) rfl (l' := #[.val (.int x0), .val (.int v1), .unset, .unset, .unset, .unset]) rfl k) ?_
  show own_Go _ _ _ _ s₁ (mkF m 8 #[.val (.int x0), .val (.int v1), .unset, .unset, .unset, .unset] [])
  refine own_st (fun t k => XS.iloadN X0.here hx rfl (hb hby at_8) rfl k) ?_
  show own_Go _ _ _ _ s₁ (mkF m 9 _ [(.int v1)])
  obtain ⟨_, _, ⟨T2, L2, k2, n2⟩, -, X2, ⟨Lc2, hQ2, l2, y2, z2⟩, st2⟩ := Jvm.LawKit.callS X0 hx (y := (⟨"com/example/portcullis/portcullis/ScopeTrackedPinLaw", "kind", "(I)Lcom/example/portcullis/portcullis/ListKind;"⟩ : MethodName)) hown (mvT hZ (hw _ (List.mem_of_getElem? (i := 1) rfl))) (mvT hZ (hw _ (List.mem_of_getElem? (i := 2) rfl))) (mvT hZ (hw _ (List.mem_of_getElem? (i := 3) rfl))) (mvT hZ (hw _ (List.mem_of_getElem? (i := 4) rfl))) (by decide) (backOf (W := 0) (rm1 l Z a0 hw [] v1 ka0 ka1 ka2 ka3 ka4 ka5 ka6 ka7 ka8 ka9 sa0 sa1 sa2 sa3 h0 n0 Z0 F0 F1 F2 F3 F4 F5 F6 F7 F8 F9 F10 F11 F12 F13 F14 F15 F16 F17 F18 F19 F20 F21 F22 F23 F24 F25 F26 F27 F28 F29 F30 F31 F32 F33 F34 F35 F36 F37 F38 F39 F40 F41 F42 F43 (own_ten hv1) m0 m1 m2 m3) hZ (hw _ (List.mem_of_getElem? (i := 4) rfl)) (hw _ (List.mem_of_getElem? (i := 3) rfl)) (by decide) (by decide)) (g := (mkF m 9 #[.val (.int x0), .val (.int v1), .unset, .unset, .unset, .unset] [(.int v1)])) rfl (by rw [hml]; rfl) (argsL := [(.int v1)]) (rest := []) (lenOf own_pd__I_Lcom_example_portcullis_portcullis_ListKind_ rfl) rfl (by show 2 * 0 + _ ≤ _; exact Nat.le_of_eq rfl) (hb hby at_9) (fun _ _ => ⟨rfl, e0, (by decide : 0 + 0 ≤ _), (by decide : 0 + 0 ≤ _)⟩)
  dsimp only [Pt.U, Pt.locs, Pt.cells, Pt.slots] at X2 l2 y2 z2 st2 hQ2
  subst l2 y2 z2
  obtain ⟨r2_b, r2_sc, rfl, NQ2, eq2, hq2_0, hq2_1, hq2_2, hq2_3, hq2_4⟩ := hQ2
  have N3 := Fr.app N0 NQ2
  refine own_st st2 ?_
  show own_Go _ _ _ _ T2 (mkF m 12 _ [(.ref r2_b)])
  refine own_st (fun t k => XS.astoreN X2.here hx rfl (hb hby at_12) rfl rfl (l' := #[.val (.int x0), .val (.int v1), .val (.ref r2_b), .unset, .unset, .unset]) rfl k) ?_
  show own_Go _ _ _ _ T2 (mkF m 13 #[.val (.int x0), .val (.int v1), .val (.ref r2_b), .unset, .unset, .unset] [])
  refine own_st (fun t k => XS.aloadN X2.here hx rfl (hb hby at_13) rfl rfl k) ?_
  show own_Go _ _ _ _ T2 (mkF m 14 _ [(.ref r2_b)])
  obtain ⟨cq4, kq4, q4a, q4b, q4c⟩ := isOf hZ eq2 hq2_0
  obtain ⟨_, _, ⟨T4, L4, k4, n4⟩, -, X4, ⟨Lc4, hQ4, l4, y4, z4⟩, st4⟩ := X2.virtualBack hx (y := (⟨"com/example/portcullis/portcullis/ListKind", "scope", "()Lcom/example/portcullis/portcullis/ListKind$Scope;"⟩ : MethodName)) (z := (⟨"com/example/portcullis/portcullis/ListKind", "scope", "()Lcom/example/portcullis/portcullis/ListKind$Scope;"⟩ : MethodName)) hown (mvT hZ (hw _ (List.mem_of_getElem? (i := 8) rfl))) (mvT hZ (hw _ (List.mem_of_getElem? (i := 9) rfl))) (notFace_of_selects (args := #[]) (mvT hZ (hw _ (List.mem_of_getElem? (i := 11) rfl)))) (mvT hZ (hw _ (List.mem_of_getElem? (i := 11) rfl))) (mvT hZ (hw _ (List.mem_of_getElem? (i := 10) rfl))) (by decide) (backOf (W := 0) (rm2 l Z a0 hw [] r2_b r2_sc h0 n0 Z0 hq2_0 hq2_1) hZ (hw _ (List.mem_of_getElem? (i := 12) rfl)) (hw _ (List.mem_of_getElem? (i := 6) rfl)) (by decide) (by decide)) q4a q4c (g := (mkF m 14 #[.val (.int x0), .val (.int v1), .val (.ref r2_b), .unset, .unset, .unset] [(.ref r2_b)])) rfl (by rw [hml]; rfl) (Steps.refl _) (argsL := []) (rest := []) (lenOf own_pd___Lcom_example_portcullis_portcullis_ListKind_Scope_ rfl) rfl (by show 2 * 0 + _ ≤ _; exact Nat.le_of_eq rfl) (hb hby at_14) (fun _ _ => ⟨rfl, eq2, (by decide : 0 + 0 ≤ _), (by decide : 0 + 0 ≤ _)⟩)
  dsimp only [Pt.U, Pt.locs, Pt.cells, Pt.slots] at X4 l4 y4 z4 st4 hQ4
  subst l4 y4 z4
  obtain ⟨rfl, NQ4, eq4⟩ := hQ4
  have N5 := Fr.app N3 NQ4
  refine own_st (fun t k => st4.trans k) ?_
  show own_Go _ _ _ _ T4 (mkF m 17 _ [(.ref r2_sc)])
  refine own_st (fun t k => XS.astoreN X4.here hx rfl (hb hby at_17) rfl rfl (l' := #[.val (.int x0), .val (.int v1), .val (.ref r2_b), .val (.ref r2_sc), .unset, .unset]) rfl k) ?_
  show own_Go _ _ _ _ T4 (mkF m 18 #[.val (.int x0), .val (.int v1), .val (.ref r2_b), .val (.ref r2_sc), .unset, .unset] [])
  refine own_st (fun t k => XS.aloadN X4.here hx rfl (hb hby at_18) rfl rfl k) ?_
  show own_Go _ _ _ _ T4 (mkF m 19 _ [(.ref r2_sc)])
  obtain ⟨cq6, kq6, q6a, q6b, q6c⟩ := isOf hZ eq4 hq2_3
  obtain ⟨_, _, ⟨T6, L6, k6, n6⟩, -, X6, ⟨Lc6, hQ6, l6, y6, z6⟩, st6⟩ := X4.virtualBack hx (y := (⟨"com/example/portcullis/portcullis/ListKind$Scope", "tracked", "()Z"⟩ : MethodName)) (z := (⟨"com/example/portcullis/portcullis/ListKind$Scope", "tracked", "()Z"⟩ : MethodName)) hown (mvT hZ (hw _ (List.mem_of_getElem? (i := 17) rfl))) (mvT hZ (hw _ (List.mem_of_getElem? (i := 18) rfl))) (notFace_of_selects (args := #[]) (mvT hZ (hw _ (List.mem_of_getElem? (i := 20) rfl)))) (mvT hZ (hw _ (List.mem_of_getElem? (i := 20) rfl))) (mvT hZ (hw _ (List.mem_of_getElem? (i := 19) rfl))) (by decide) (backOf (W := 0) (rm3 l Z a0 hw [] r2_sc sa0 sa1 h0 n0 Z0 hq2_3 F44 F45) hZ (hw _ (List.mem_of_getElem? (i := 21) rfl)) (hw _ (List.mem_of_getElem? (i := 15) rfl)) (by decide) (by decide)) q6a q6c (g := (mkF m 19 #[.val (.int x0), .val (.int v1), .val (.ref r2_b), .val (.ref r2_sc), .unset, .unset] [(.ref r2_sc)])) rfl (by rw [hml]; rfl) (Steps.refl _) (argsL := []) (rest := []) (lenOf own_pd___Z rfl) rfl (by show 2 * 0 + _ ≤ _; exact Nat.le_of_eq rfl) (hb hby at_19) (fun _ _ => ⟨rfl, eq4, (by decide : 0 + 0 ≤ _), (by decide : 0 + 0 ≤ _)⟩)
  dsimp only [Pt.U, Pt.locs, Pt.cells, Pt.slots] at X6 l6 y6 z6 st6 hQ6
  subst l6 y6 z6
  obtain ⟨rfl, NQ6, eq6⟩ := hQ6
  have N7 := Fr.app N5 NQ6
  refine own_st (fun t k => st6.trans k) ?_
  show own_Go _ _ _ _ T6 (mkF m 22 _ [(.int (own_tracked r2_sc sa0 sa1))])
  generalize hv8 : (own_tracked r2_sc sa0 sa1) = v8
  refine own_st (fun t k => XS.istore X6.here hx rfl (hb hby at_22) rfl (l' := #[.val (.int x0), .val (.int v1), .val (.ref r2_b), .val (.ref r2_sc), .val (.int v8), .unset]) rfl k) ?_
  show own_Go _ _ _ _ T6 (mkF m 24 #[.val (.int x0), .val (.int v1), .val (.ref r2_b), .val (.ref r2_sc), .val (.int v8), .unset] [])
  refine own_st (fun t k => XS.iloadN X6.here hx rfl (hb hby at_24) rfl k) ?_
  show own_Go _ _ _ _ T6 (mkF m 25 _ [(.int v1)])
  refine own_st (fun t k => XS.iconst X6.here hx rfl (hb hby at_25) k) ?_
  show own_Go _ _ _ _ T6 (mkF m 26 _ [(.int (3 : Int32)), (.int v1)])
  have J12 : ∀ (Tj12 : State) (Lj12 : List Loc) (p13 : Int32), Stand p l e room_1 s m #[(.int x0)] below meth c Tj12 Lj12 0 0 → Tj12.heap = h0 → Fr n0 Lj12 → p13 = (if (3 : Int32) < v1 then (0 : Int32) else (1 : Int32)) → own_Go p.tables e below Pq Tj12 (mkF m 34 #[.val (.int x0), .val (.int v1), .val (.ref r2_b), .val (.ref r2_sc), .val (.int v8), .unset] [(.int p13)]) := by
    intro Tj12 Lj12 p13 Xj12 ej12 Nj12 qp13
    show own_Go _ _ _ _ Tj12 (mkF m 34 _ [(.int p13)])
    refine own_st (fun t k => XS.istore Xj12.here hx rfl (hb hby at_34) rfl (l' := #[.val (.int x0), .val (.int v1), .val (.ref r2_b), .val (.ref r2_sc), .val (.int v8), .val (.int p13)]) rfl k) ?_
    show own_Go _ _ _ _ Tj12 (mkF m 36 #[.val (.int x0), .val (.int v1), .val (.ref r2_b), .val (.ref r2_sc), .val (.int v8), .val (.int p13)] [])
    refine own_st (fun t k => XS.iload Xj12.here hx rfl (hb hby at_36) rfl k) ?_
    show own_Go _ _ _ _ Tj12 (mkF m 38 _ [(.int v8)])
    refine own_st (fun t k => XS.iload Xj12.here hx rfl (hb hby at_38) rfl k) ?_
    show own_Go _ _ _ _ Tj12 (mkF m 40 _ [(.int p13), (.int v8)])
    have J25 : ∀ (Tj25 : State) (Lj25 : List Loc) (p26 : Int32), Stand p l e room_1 s m #[(.int x0)] below meth c Tj25 Lj25 0 0 → Tj25.heap = h0 → Fr n0 Lj25 → p26 = (if v8 = p13 then (if (own_step v1) = (v1 + (1 : Int32)) then (if (own_ktracked r2_sc sa0 sa1) = v8 then (1 : Int32) else (0 : Int32)) else (0 : Int32)) else (0 : Int32)) → own_Go p.tables e below Pq Tj25 (mkF m 67 #[.val (.int x0), .val (.int v1), .val (.ref r2_b), .val (.ref r2_sc), .val (.int v8), .val (.int p13)] [(.int p26)]) := by
      intro Tj25 Lj25 p26 Xj25 ej25 Nj25 qp26
      show own_Go _ _ _ _ Tj25 (mkF m 67 _ [(.int p26)])
      subst hPq
      refine own_out Xj25 (v := some (.int (nar .boolean p26))) (fun h => by rw [Bd.returns] at h; cases h) Bd.notSynchronized (fun fs hr => retN Xj25 hx (t := .boolean) Bd.returns (by simp) (hb hby at_67) hr) (by decide) (by decide) ?_
      show Q0 Z x0 ka0 ka1 ka2 ka3 ka4 ka5 ka6 ka7 ka8 ka9 sa0 sa1 sa2 sa3 h0 n0 _ Tj25.heap _
      rw [ej25]
      exact ⟨congrArg (fun z => some (Value.int (nar .boolean z))) (own_law x0 ka0 ka1 ka2 ka3 ka4 ka5 ka6 ka7 ka8 ka9 sa0 sa1 sa2 sa3 v1 r2_b r2_sc v8 p13 p26 m0 m1 m2 m3 hv1 hq2_4 hv8 qp13 qp26), Nj25⟩
    by_cases c14 : v8 = p13
    · skip
      refine own_st (fun t k => XS.icmpNo Xj12.here hx rfl (hb hby at_40) rfl (teq c14).2 k) ?_
      show own_Go _ _ _ _ Tj12 (mkF m 43 _ [])
      refine own_st (fun t k => XS.aloadN Xj12.here hx rfl (hb hby at_43) rfl rfl k) ?_
      show own_Go _ _ _ _ Tj12 (mkF m 44 _ [(.ref r2_b)])
      obtain ⟨cq15, kq15, q15a, q15b, q15c⟩ := isOf hZ ej12 hq2_0
      obtain ⟨_, _, ⟨T15, L15, k15, n15⟩, -, X15, ⟨Lc15, hQ15, l15, y15, z15⟩, st15⟩ := Xj12.virtualBack hx (y := (⟨"com/example/portcullis/portcullis/ListKind", "step", "()I"⟩ : MethodName)) (z := (⟨"com/example/portcullis/portcullis/ListKind", "step", "()I"⟩ : MethodName)) hown (mvT hZ (hw _ (List.mem_of_getElem? (i := 23) rfl))) (mvT hZ (hw _ (List.mem_of_getElem? (i := 24) rfl))) (notFace_of_selects (args := #[]) (mvT hZ (hw _ (List.mem_of_getElem? (i := 26) rfl)))) (mvT hZ (hw _ (List.mem_of_getElem? (i := 26) rfl))) (mvT hZ (hw _ (List.mem_of_getElem? (i := 25) rfl))) (by decide) (backOf (W := 0) (rm5 l Z a0 hw [] r2_b v1 h0 n0 Z0 hq2_0 hq2_2) hZ (hw _ (List.mem_of_getElem? (i := 27) rfl)) (hw _ (List.mem_of_getElem? (i := 6) rfl)) (by decide) (by decide)) q15a q15c (g := (mkF m 44 #[.val (.int x0), .val (.int v1), .val (.ref r2_b), .val (.ref r2_sc), .val (.int v8), .val (.int p13)] [(.ref r2_b)])) rfl (by rw [hml]; rfl) (Steps.refl _) (argsL := []) (rest := []) (lenOf own_pd___I rfl) rfl (by show 2 * 0 + _ ≤ _; exact Nat.le_of_eq rfl) (hb hby at_44) (fun _ _ => ⟨rfl, ej12, (by decide : 0 + 0 ≤ _), (by decide : 0 + 0 ≤ _)⟩)
      dsimp only [Pt.U, Pt.locs, Pt.cells, Pt.slots] at X15 l15 y15 z15 st15 hQ15
      subst l15 y15 z15
      obtain ⟨rfl, NQ15, eq15⟩ := hQ15
      have N16 := Fr.app Nj12 NQ15
      refine own_st (fun t k => st15.trans k) ?_
      show own_Go _ _ _ _ T15 (mkF m 47 _ [(.int (own_step v1))])
      refine own_st (fun t k => XS.iloadN X15.here hx rfl (hb hby at_47) rfl k) ?_
      show own_Go _ _ _ _ T15 (mkF m 48 _ [(.int v1), (.int (own_step v1))])
      refine own_st (fun t k => XS.iconst X15.here hx rfl (hb hby at_48) k) ?_
      show own_Go _ _ _ _ T15 (mkF m 49 _ [(.int (1 : Int32)), (.int v1), (.int (own_step v1))])
      refine own_st (fun t k => XS.iadd X15.here hx rfl (hb hby at_49) rfl k) ?_
      show own_Go _ _ _ _ T15 (mkF m 50 _ [(.int (v1 + (1 : Int32))), (.int (own_step v1))])
      by_cases c17 : (own_step v1) = (v1 + (1 : Int32))
      · skip
        refine own_st (fun t k => XS.icmpNo X15.here hx rfl (hb hby at_50) rfl (teq c17).2 k) ?_
        show own_Go _ _ _ _ T15 (mkF m 53 _ [])
        refine own_st (fun t k => XS.aloadN X15.here hx rfl (hb hby at_53) rfl rfl k) ?_
        show own_Go _ _ _ _ T15 (mkF m 54 _ [(.ref r2_b)])
        obtain ⟨cq18, kq18, q18a, q18b, q18c⟩ := isOf hZ eq15 hq2_0
        obtain ⟨_, _, ⟨T18, L18, k18, n18⟩, -, X18, ⟨Lc18, hQ18, l18, y18, z18⟩, st18⟩ := X15.virtualBack hx (y := (⟨"com/example/portcullis/portcullis/ListKind", "tracked", "()Z"⟩ : MethodName)) (z := (⟨"com/example/portcullis/portcullis/ListKind", "tracked", "()Z"⟩ : MethodName)) hown (mvT hZ (hw _ (List.mem_of_getElem? (i := 37) rfl))) (mvT hZ (hw _ (List.mem_of_getElem? (i := 38) rfl))) (notFace_of_selects (args := #[]) (mvT hZ (hw _ (List.mem_of_getElem? (i := 40) rfl)))) (mvT hZ (hw _ (List.mem_of_getElem? (i := 40) rfl))) (mvT hZ (hw _ (List.mem_of_getElem? (i := 39) rfl))) (by decide) (backOf (W := 0) (rm6 l Z a0 hw [] r2_b r2_sc sa0 sa1 h0 n0 Z0 hq2_0 hq2_1 hq2_3 F44 F45) hZ (hw _ (List.mem_of_getElem? (i := 41) rfl)) (hw _ (List.mem_of_getElem? (i := 6) rfl)) (by decide) (by decide)) q18a q18c (g := (mkF m 54 #[.val (.int x0), .val (.int v1), .val (.ref r2_b), .val (.ref r2_sc), .val (.int v8), .val (.int p13)] [(.ref r2_b)])) rfl (by rw [hml]; rfl) (Steps.refl _) (argsL := []) (rest := []) (lenOf own_pd___Z rfl) rfl (by show 2 * 0 + _ ≤ _; exact Nat.le_of_eq rfl) (hb hby at_54) (fun _ _ => ⟨rfl, eq15, (by decide : 0 + 0 ≤ _), (by decide : 0 + 0 ≤ _)⟩)
        dsimp only [Pt.U, Pt.locs, Pt.cells, Pt.slots] at X18 l18 y18 z18 st18 hQ18
        subst l18 y18 z18
        obtain ⟨rfl, NQ18, eq18⟩ := hQ18
        have N19 := Fr.app N16 NQ18
        refine own_st (fun t k => st18.trans k) ?_
        show own_Go _ _ _ _ T18 (mkF m 57 _ [(.int (own_ktracked r2_sc sa0 sa1))])
        refine own_st (fun t k => XS.iload X18.here hx rfl (hb hby at_57) rfl k) ?_
        show own_Go _ _ _ _ T18 (mkF m 59 _ [(.int v8), (.int (own_ktracked r2_sc sa0 sa1))])
        by_cases c20 : (own_ktracked r2_sc sa0 sa1) = v8
        · skip
          refine own_st (fun t k => XS.icmpNo X18.here hx rfl (hb hby at_59) rfl (teq c20).2 k) ?_
          show own_Go _ _ _ _ T18 (mkF m 62 _ [])
          refine own_st (fun t k => XS.iconst X18.here hx rfl (hb hby at_62) k) ?_
          show own_Go _ _ _ _ T18 (mkF m 63 _ [(.int (1 : Int32))])
          refine own_st (fun t k => XS.goto X18.here hx rfl (pc0 := 63) (pc' := 67) rfl (hb hby at_63) (by decide) (by decide) k) ?_
          show own_Go _ _ _ _ T18 (mkF m 67 _ [(.int (1 : Int32))])
          exact J25 T18 _ _ X18 eq18 N19 (by simp only [if_pos c14, if_pos c17, if_pos c20])
        · skip
          refine own_st (fun t k => XS.icmpYes X18.here hx rfl (pc0 := 59) (pc' := 66) rfl (hb hby at_59) rfl (feq c20).2 (by decide) (by decide) k) ?_
          show own_Go _ _ _ _ T18 (mkF m 66 _ [])
          refine own_st (fun t k => XS.iconst X18.here hx rfl (hb hby at_66) k) ?_
          show own_Go _ _ _ _ T18 (mkF m 67 _ [(.int (0 : Int32))])
          exact J25 T18 _ _ X18 eq18 N19 (by simp only [if_pos c14, if_pos c17, if_neg c20])
      · skip
        refine own_st (fun t k => XS.icmpYes X15.here hx rfl (pc0 := 50) (pc' := 66) rfl (hb hby at_50) rfl (feq c17).2 (by decide) (by decide) k) ?_
        show own_Go _ _ _ _ T15 (mkF m 66 _ [])
        refine own_st (fun t k => XS.iconst X15.here hx rfl (hb hby at_66) k) ?_
        show own_Go _ _ _ _ T15 (mkF m 67 _ [(.int (0 : Int32))])
        exact J25 T15 _ _ X15 eq15 N16 (by simp only [if_pos c14, if_neg c17])
    · skip
      refine own_st (fun t k => XS.icmpYes Xj12.here hx rfl (pc0 := 40) (pc' := 66) rfl (hb hby at_40) rfl (feq c14).2 (by decide) (by decide) k) ?_
      show own_Go _ _ _ _ Tj12 (mkF m 66 _ [])
      refine own_st (fun t k => XS.iconst Xj12.here hx rfl (hb hby at_66) k) ?_
      show own_Go _ _ _ _ Tj12 (mkF m 67 _ [(.int (0 : Int32))])
      exact J25 Tj12 _ _ Xj12 ej12 Nj12 (by simp only [if_neg c14])
  by_cases c9 : (3 : Int32) < v1
  · skip
    refine own_st (fun t k => XS.icmpYes X6.here hx rfl (pc0 := 26) (pc' := 33) rfl (hb hby at_26) rfl (tlt c9).2.2.1 (by decide) (by decide) k) ?_
    show own_Go _ _ _ _ T6 (mkF m 33 _ [])
    refine own_st (fun t k => XS.iconst X6.here hx rfl (hb hby at_33) k) ?_
    show own_Go _ _ _ _ T6 (mkF m 34 _ [(.int (0 : Int32))])
    exact J12 T6 _ _ X6 eq6 N7 (by simp only [if_pos c9])
  · skip
    refine own_st (fun t k => XS.icmpNo X6.here hx rfl (hb hby at_26) rfl (flt c9).2.2.1 k) ?_
    show own_Go _ _ _ _ T6 (mkF m 29 _ [])
    refine own_st (fun t k => XS.iconst X6.here hx rfl (hb hby at_29) k) ?_
    show own_Go _ _ _ _ T6 (mkF m 30 _ [(.int (1 : Int32))])
    refine own_st (fun t k => XS.goto X6.here hx rfl (pc0 := 30) (pc' := 34) rfl (hb hby at_30) (by decide) (by decide) k) ?_
    show own_Go _ _ _ _ T6 (mkF m 34 _ [(.int (1 : Int32))])
    exact J12 T6 _ _ X6 eq6 N7 (by simp only [if_neg c9])
theorem own_fI {s : State} {args : Array Value} {t : Term} {C n d : String} {k : Int32} {a : Addr} (ev : t.eval args s none [] s = some (.ref a)) (h : (Jvm.Cond.eq (.field t C n d) (.int k)).value args s none s [] = some true) : Fld s s.heap a C n d (.int k) := by
  obtain ⟨x, y, h1, h2, h3, h4⟩ := cmp_v (Or.inl h)
  have e2 : y = .int k := (Option.some.inj ((Term.int_eval k).symm.trans h2)).symm
  subst e2
  have e1 := h1
  rw [fld_at ev] at e1
  cases x <;> simp [Cond.value, h1, h2] at h
  subst h
  exact Fld.start e1
theorem own_fR {s : State} {args : Array Value} {t u : Term} {C n d : String} {a b : Addr} (ev : t.eval args s none [] s = some (.ref a)) (eu : u.eval args s none [] s = some (.ref b)) (h : (Jvm.Cond.eq (.field t C n d) u).value args s none s [] = some true) : Fld s s.heap a C n d (.ref b) := by
  obtain ⟨x, y, h1, h2, h3, h4⟩ := cmp_v (Or.inl h)
  have e2 : y = .ref b := Option.some.inj (h2.symm.trans eu)
  subst e2
  have e1 := h1
  rw [fld_at ev] at e1
  cases x <;> simp [Cond.value, h1, h2] at h
  subst h
  exact Fld.start e1
set_option maxRecDepth 65536 in
set_option maxHeartbeats 4000000 in
theorem own_comes {Post : Tables → Env → Array Value → State → Outcome → State → Prop} (hpost : ∀ tb e args s v u, (limb_1_1.after args s (.returned v) u = true ∧ limb_1_2.after args s (.returned v) u = true ∧ True) → FrameEnd s (.returned v) u (Jvm.fieldLocs frame_1_writes args s ++ Jvm.arrayLocs frame_1_arrays args s ++ Jvm.staticLocs frame_1_statics s) 0 0 → Post tb e args s (.returned v) u) :
    ArmFor flags0 classFile x code maxLocals ret World_1 tables_1 room_1 Calls_1 rest_1 Pre_1 Post := by
  intro l hfl _ _ p e ha hc hk s m args below hf hA hF happ hP
  obtain ⟨hcalls, hrest, hpre⟩ := hP
  obtain ⟨-, -, -, hnamed, -, -, -, hat⟩ := (Spec.applies_iff hf).mp happ
  obtain ⟨hg, hn⟩ := and_e (Cond.before_iff.mp (show (Jvm.Cond.and given_1 narrow_1).before args s = true from hpre))
  obtain ⟨g0, r0⟩ := and_e hg
  obtain ⟨w0, rfl⟩ : ∃ w0 : Value, args = #[w0] := by
    have hs : args.size = 1 := by simpa [Cond.value, given_1] using g0
    obtain ⟨L⟩ := args
    match L, hs with
    | [w0], _ => exact ⟨w0, rfl⟩
  have hw := fun d (hd : d ∈ tables_1) => atoms_spec (ws := Jvm.Cond.code x code maxLocals ret :: tables_1) hat d (List.mem_cons_of_mem _ hd)
  obtain ⟨a0, hn0⟩ := and_e hn
  obtain ⟨a1, hn1⟩ := and_e hn0
  obtain ⟨a2, hn2⟩ := and_e hn1
  obtain ⟨a3, hn3⟩ := and_e hn2
  obtain ⟨a4, hn4⟩ := and_e hn3
  obtain ⟨a5, hn5⟩ := and_e hn4
  obtain ⟨a6, hn6⟩ := and_e hn5
  obtain ⟨a7, hn7⟩ := and_e hn6
  obtain ⟨a8, hn8⟩ := and_e hn7
  obtain ⟨a9, hn9⟩ := and_e hn8
  obtain ⟨a10, hn10⟩ := and_e hn9
  obtain ⟨a11, hn11⟩ := and_e hn10
  obtain ⟨a12, hn12⟩ := and_e hn11
  obtain ⟨a13, hn13⟩ := and_e hn12
  obtain ⟨a14, hn14⟩ := and_e hn13
  obtain ⟨a15, hn15⟩ := and_e hn14
  obtain ⟨a16, hn16⟩ := and_e hn15
  obtain ⟨a17, hn17⟩ := and_e hn16
  obtain ⟨a18, hn18⟩ := and_e hn17
  obtain ⟨a19, hn19⟩ := and_e hn18
  obtain ⟨a20, hn20⟩ := and_e hn19
  obtain ⟨a21, hn21⟩ := and_e hn20
  obtain ⟨a22, hn22⟩ := and_e hn21
  obtain ⟨a23, hn23⟩ := and_e hn22
  obtain ⟨a24, hn24⟩ := and_e hn23
  obtain ⟨a25, hn25⟩ := and_e hn24
  obtain ⟨a26, hn26⟩ := and_e hn25
  obtain ⟨a27, hn27⟩ := and_e hn26
  obtain ⟨a28, hn28⟩ := and_e hn27
  obtain ⟨a29, hn29⟩ := and_e hn28
  obtain ⟨a30, hn30⟩ := and_e hn29
  obtain ⟨a31, hn31⟩ := and_e hn30
  obtain ⟨a32, hn32⟩ := and_e hn31
  obtain ⟨a33, hn33⟩ := and_e hn32
  obtain ⟨a34, hn34⟩ := and_e hn33
  obtain ⟨a35, hn35⟩ := and_e hn34
  obtain ⟨a36, a37⟩ := and_e hn35
  obtain ⟨sa0, ev_s0⟩ := exa_v a1
  have ES0 := Exa.start ev_s0 a1
  have SO0 := own_fI ev_s0 a8
  obtain ⟨sa1, ev_s1⟩ := exa_v a5
  have ES1 := Exa.start ev_s1 a5
  have SO1 := own_fI ev_s1 a7
  obtain ⟨sa2, ev_s2⟩ := exa_v a14
  have ES2 := Exa.start ev_s2 a14
  have SO2 := own_fI ev_s2 a16
  obtain ⟨sa3, ev_s3⟩ := exa_v a25
  have ES3 := Exa.start ev_s3 a25
  have SO3 := own_fI ev_s3 a27
  obtain ⟨ka0, ev_k0⟩ := exa_v a0
  have EK0 := Exa.start ev_k0 a0
  have SK0 := Sta.start ev_k0 (Or.inr ⟨(hw _ (List.mem_of_getElem? (i := 6) rfl)), (hw _ (List.mem_of_getElem? (i := 7) rfl))⟩)
  have FK0 := own_fR ev_k0 ev_s0 a2
  have OK0 := own_fI ev_k0 a3
  obtain ⟨ka1, ev_k1⟩ := exa_v a10
  have EK1 := Exa.start ev_k1 a10
  have SK1 := Sta.start ev_k1 (Or.inr ⟨(hw _ (List.mem_of_getElem? (i := 6) rfl)), (hw _ (List.mem_of_getElem? (i := 48) rfl))⟩)
  have FK1 := own_fR ev_k1 ev_s0 a11
  have OK1 := own_fI ev_k1 a12
  obtain ⟨ka2, ev_k2⟩ := exa_v a21
  have EK2 := Exa.start ev_k2 a21
  have SK2 := Sta.start ev_k2 (Or.inr ⟨(hw _ (List.mem_of_getElem? (i := 6) rfl)), (hw _ (List.mem_of_getElem? (i := 55) rfl))⟩)
  have FK2 := own_fR ev_k2 ev_s1 a22
  have OK2 := own_fI ev_k2 a23
  obtain ⟨ka3, ev_k3⟩ := exa_v a4
  have EK3 := Exa.start ev_k3 a4
  have SK3 := Sta.start ev_k3 (Or.inr ⟨(hw _ (List.mem_of_getElem? (i := 6) rfl)), (hw _ (List.mem_of_getElem? (i := 44) rfl))⟩)
  have FK3 := own_fR ev_k3 ev_s1 a6
  have OK3 := own_fI ev_k3 a9
  obtain ⟨ka4, ev_k4⟩ := exa_v a13
  have EK4 := Exa.start ev_k4 a13
  have SK4 := Sta.start ev_k4 (Or.inr ⟨(hw _ (List.mem_of_getElem? (i := 6) rfl)), (hw _ (List.mem_of_getElem? (i := 50) rfl))⟩)
  have FK4 := own_fR ev_k4 ev_s2 a15
  have OK4 := own_fI ev_k4 a17
  obtain ⟨ka5, ev_k5⟩ := exa_v a32
  have EK5 := Exa.start ev_k5 a32
  have SK5 := Sta.start ev_k5 (Or.inr ⟨(hw _ (List.mem_of_getElem? (i := 6) rfl)), (hw _ (List.mem_of_getElem? (i := 62) rfl))⟩)
  have FK5 := own_fR ev_k5 ev_s2 a33
  have OK5 := own_fI ev_k5 a34
  obtain ⟨ka6, ev_k6⟩ := exa_v a35
  have EK6 := Exa.start ev_k6 a35
  have SK6 := Sta.start ev_k6 (Or.inr ⟨(hw _ (List.mem_of_getElem? (i := 6) rfl)), (hw _ (List.mem_of_getElem? (i := 64) rfl))⟩)
  have FK6 := own_fR ev_k6 ev_s2 a36
  have OK6 := own_fI ev_k6 a37
  obtain ⟨ka7, ev_k7⟩ := exa_v a18
  have EK7 := Exa.start ev_k7 a18
  have SK7 := Sta.start ev_k7 (Or.inr ⟨(hw _ (List.mem_of_getElem? (i := 6) rfl)), (hw _ (List.mem_of_getElem? (i := 53) rfl))⟩)
  have FK7 := own_fR ev_k7 ev_s2 a19
  have OK7 := own_fI ev_k7 a20
  obtain ⟨ka8, ev_k8⟩ := exa_v a24
  have EK8 := Exa.start ev_k8 a24
  have SK8 := Sta.start ev_k8 (Or.inr ⟨(hw _ (List.mem_of_getElem? (i := 6) rfl)), (hw _ (List.mem_of_getElem? (i := 57) rfl))⟩)
  have FK8 := own_fR ev_k8 ev_s3 a26
  have OK8 := own_fI ev_k8 a28
  obtain ⟨ka9, ev_k9⟩ := exa_v a29
  have EK9 := Exa.start ev_k9 a29
  have SK9 := Sta.start ev_k9 (Or.inr ⟨(hw _ (List.mem_of_getElem? (i := 6) rfl)), (hw _ (List.mem_of_getElem? (i := 60) rfl))⟩)
  have FK9 := own_fR ev_k9 ev_s3 a30
  have OK9 := own_fI ev_k9 a31
  have SS0 := Sta.start ev_s0 (Or.inr ⟨(hw _ (List.mem_of_getElem? (i := 15) rfl)), (hw _ (List.mem_of_getElem? (i := 16) rfl))⟩)
  have SS1 := Sta.start ev_s1 (Or.inr ⟨(hw _ (List.mem_of_getElem? (i := 15) rfl)), (hw _ (List.mem_of_getElem? (i := 45) rfl))⟩)
  obtain ⟨i0, ei0⟩ := is_v r0
  obtain rfl : w0 = (.int i0) := Option.some.inj ei0
  obtain ⟨n, o, h1, h2, h3, _, L, rfl, ⟨rfl, N⟩, hq⟩ := rm0 l s _ hw tables_1 i0 ka0 ka1 ka2 ka3 ka4 ka5 ka6 ka7 ka8 ka9 sa0 sa1 sa2 sa3 s.heap s.heap.size (Nat.le_refl _) SK0 EK0 FK0 OK0 SK1 EK1 FK1 OK1 SK2 EK2 FK2 OK2 SK3 EK3 FK3 OK3 SK4 EK4 FK4 OK4 SK5 EK5 FK5 OK5 SK6 EK6 FK6 OK6 SK7 EK7 FK7 OK7 SK8 EK8 FK8 OK8 SK9 EK9 FK9 OK9 ES0 ES1 ES2 ES3 SS0 SS1 (Fld.ne SO2 SO0 (by decide)) (Fld.ne SO2 SO1 (by decide)) (Fld.ne SO3 SO0 (by decide)) (Fld.ne SO3 SO1 (by decide)) p e ha hc hk s m _ below hf ((Spec.applies_iff_loose hf).mp happ).1 ⟨rfl, State.Warmed39.refl s, rfl⟩ trivial
  refine ⟨n, _, h1, h2, h3, hpost _ _ _ _ _ _ ⟨Cond.after_iff.mpr rfl, Cond.after_iff.mpr (eq_i res_at (Term.int_eval (1)) rfl), trivial⟩ ⟨hq.1, hq.2.1, (hq.2.2.sift fun y hy => Or.inr (N y hy)).mono (by decide) (by decide)⟩⟩
theorem main_1_1 : Claimed_1_1 := own_comes fun _ _ _ _ _ _ h hF => ⟨h.1, hF⟩
theorem main_1_2 : Claimed_1_2 := own_comes fun _ _ _ _ _ _ h hF => ⟨h.2.1, hF⟩
end Jvm.Pilot.@@N@@
namespace Jvm.Pilot.@@N@@
open Jvm Jvm.ClassFile Sem Op Lib Jvm.Free Jvm.Stand Jvm.Pilot.@@N@@.Jvm.D
/-! MADE BY PROGRAM (witnessworld.py) out of the Statement's table words and the real class files: 13 classes; the members and pool entries that the words name. The judged class is class 1, her method 2. -/
namespace start1
open Jvm.ClassFile
def u (s : String) : CpInfo := .utf8 (stringToUtf16 s)
/-- a pool by its gaps: so many unusable entries, then the entry; so many at the end -/
def gap : Nat → List CpInfo → List CpInfo
  | 0, r => r
  | n + 1, r => .unusable :: gap n r
def poolList (es : List (Nat × CpInfo)) (last : Nat) : List CpInfo := es.foldr (fun e r => gap e.1 (e.2 :: r)) (gap last [])
def pool (es : List (Nat × CpInfo)) (last : Nat) : Array CpInfo := ⟨poolList es last⟩
def fileOf (pool : Array CpInfo) (this : Nat) (attrs : Array Attribute := #[]) (ms : Array MethodInfo := #[]) (fl : Nat := 33) (sup : Nat := 0) (ifs : Array Nat := #[]) (fds : Array FieldInfo := #[]) : ClassFile where
  minorVersion := 0
  majorVersion := 65
  constantPool := pool
  accessFlags := fl
  thisClass := this
  superClass := sup
  interfaces := ifs
  fields := fds
  methods := ms
  attributes := attrs
def plain (name : String) (sup : Option ClassId) : Class where
  name := name
  kind := .ordinary
  loader := none
  accessFlags := 33
  super := sup
  interfaces := #[]
  cf := none
  fields := #[]
  methods := #[]
  instanceTypes := #[]
  staticTypes := #[]
  resolved := #[]
  callSites := []
  init := .initialized
  statics := none
  mirror := none

def pool0 : Array CpInfo := pool [(5, u "<init>"), (0, u "()V"), (1, .class_ 10), (1, u "java/lang/Object")] 113

def k0m0 : Method := { name := "<init>", desc := "()V", sig := { parameters := [], returnType := none }, accessFlags := 1, code := none }
/-- java/lang/Object -/
def k0 : Class := { plain "java/lang/Object" none with
  accessFlags := 33
  interfaces := #[]
  cf := some (fileOf pool0 8 #[] #[{ accessFlags := 1, nameIndex := 5, descriptorIndex := 6, attributes := #[] }] 33 0 #[] #[])
  fields := #[]
  methods := #[k0m0]
  instanceTypes := #[]
  staticTypes := #[]
  resolved := Array.replicate 124 none
  statics := none }

def pool1 : Array CpInfo := pool [(2, .class_ 4), (1, u "java/lang/Object"), (0, u "<init>"), (0, u "()V"), (0, .fieldref 8 9), (0, .class_ 10), (0, .nameAndType 11 12), (0, u "com/example/portcullis/portcullis/ListKind"), (0, u "SYSTEM_SAFE"), (0, u "Lcom/example/portcullis/portcullis/ListKind;"), (0, .fieldref 8 14), (0, .nameAndType 15 12), (0, u "SYSTEM_BLOCK"), (0, .fieldref 8 17), (0, .nameAndType 18 12), (0, u "DOMAIN_SAFE"), (0, .fieldref 8 20), (0, .nameAndType 21 12), (0, u "DOMAIN_BLOCK"), (0, .fieldref 8 23), (0, .nameAndType 24 12), (0, u "PROFILE_RECIPIENT_SAFE"), (0, .fieldref 8 26), (0, .nameAndType 27 12), (0, u "PROFILE_RECIPIENT_BLOCK"), (0, .fieldref 8 29), (0, .nameAndType 30 12), (0, u "PROFILE_SENDER_SAFE"), (0, .fieldref 8 32), (0, .nameAndType 33 12), (0, u "PROFILE_SENDER_BLOCK"), (0, .fieldref 8 35), (0, .nameAndType 36 12), (0, u "USER_SAFE"), (0, .fieldref 8 38), (0, .nameAndType 39 12), (0, u "USER_BLOCK"), (0, .integer 2147483647), (0, .methodref 42 43), (0, .class_ 44), (0, .nameAndType 45 46), (0, u "com/example/portcullis/portcullis/ScopeTrackedPinLaw"), (0, u "kind"), (0, u "(I)Lcom/example/portcullis/portcullis/ListKind;"), (0, .methodref 8 48), (0, .nameAndType 49 50), (0, u "scope"), (0, u "()Lcom/example/portcullis/portcullis/ListKind$Scope;"), (0, .methodref 52 53), (0, .class_ 54), (0, .nameAndType 55 56), (0, u "com/example/portcullis/portcullis/ListKind$Scope"), (0, u "tracked"), (0, u "()Z"), (0, .methodref 8 58), (0, .nameAndType 59 60), (0, u "step"), (0, u "()I"), (0, .methodref 8 53), (3, u "law"), (0, u "(I)Z")] 4

def k1m0 : Method := { name := "<init>", desc := "()V", sig := { parameters := [], returnType := none }, accessFlags := 2, code := none }
def k1c1 : Code := { maxStack := 2, maxLocals := 1, code := method_2_code, exceptionTable := #[], attributes := #[] }
def k1m1 : Method := { name := "kind", desc := "(I)Lcom/example/portcullis/portcullis/ListKind;", sig := { parameters := [.int], returnType := some (.object "com/example/portcullis/portcullis/ListKind") }, accessFlags := 10, code := some k1c1 }
def k1c2 : Code := { maxStack := 3, maxLocals := 6, code := code, exceptionTable := #[], attributes := #[] }
def k1m2 : Method := { name := "law", desc := "(I)Z", sig := { parameters := [.int], returnType := some .boolean }, accessFlags := 9, code := some k1c2 }
/-- com/example/portcullis/portcullis/ScopeTrackedPinLaw -/
def k1 : Class := { plain "com/example/portcullis/portcullis/ScopeTrackedPinLaw" (some 0) with
  accessFlags := 49
  interfaces := #[]
  cf := some (fileOf pool1 42 #[] #[{ accessFlags := 2, nameIndex := 5, descriptorIndex := 6, attributes := #[] }, { accessFlags := 10, nameIndex := 45, descriptorIndex := 46, attributes := #[] }, { accessFlags := 9, nameIndex := 65, descriptorIndex := 66, attributes := #[] }] 49 2 #[] #[])
  fields := #[]
  methods := #[k1m0, k1m1, k1m2]
  instanceTypes := #[]
  staticTypes := #[]
  resolved := Array.replicate 71 none
  statics := none }

def pool2 : Array CpInfo := pool [(1, .class_ 2), (0, u "java/lang/constant/Constable"), (0, .class_ 4), (0, u "java/lang/Object")] 6

/-- java/lang/constant/Constable -/
def k2 : Class := { plain "java/lang/constant/Constable" (some 0) with
  accessFlags := 1537
  interfaces := #[]
  cf := some (fileOf pool2 1 #[] #[] 1537 3 #[] #[])
  fields := #[]
  methods := #[]
  instanceTypes := #[]
  staticTypes := #[]
  resolved := Array.replicate 11 none
  statics := none }

def pool3 : Array CpInfo := pool [(1, .class_ 2), (0, u "java/lang/Comparable"), (0, .class_ 4), (0, u "java/lang/Object")] 7

/-- java/lang/Comparable -/
def k3 : Class := { plain "java/lang/Comparable" (some 0) with
  accessFlags := 1537
  interfaces := #[]
  cf := some (fileOf pool3 1 #[] #[] 1537 3 #[] #[])
  fields := #[]
  methods := #[]
  instanceTypes := #[]
  staticTypes := #[]
  resolved := Array.replicate 12 none
  statics := none }

def pool4 : Array CpInfo := pool [(1, .class_ 2), (0, u "java/io/Serializable"), (0, .class_ 4), (0, u "java/lang/Object")] 2

/-- java/io/Serializable -/
def k4 : Class := { plain "java/io/Serializable" (some 0) with
  accessFlags := 1537
  interfaces := #[]
  cf := some (fileOf pool4 1 #[] #[] 1537 3 #[] #[])
  fields := #[]
  methods := #[]
  instanceTypes := #[]
  staticTypes := #[]
  resolved := Array.replicate 7 none
  statics := none }

def pool5 : Array CpInfo := pool [(2, .class_ 4), (1, u "java/lang/Enum"), (0, u "name"), (0, u "Ljava/lang/String;"), (0, .fieldref 2 8), (0, .nameAndType 9 10), (0, u "ordinal"), (0, u "I"), (1, .class_ 14), (1, u "java/lang/Object"), (4, u "hash"), (86, .class_ 108), (1, u "java/lang/Enum$EnumDesc"), (2, .class_ 112), (0, u "java/lang/constant/Constable"), (0, .class_ 114), (0, u "java/lang/Comparable"), (0, .class_ 116), (0, u "java/io/Serializable"), (9, u "()I")] 77

def k5c0 : Code := { maxStack := 1, maxLocals := 1, code := jdk_37_method_2_code, exceptionTable := #[], attributes := #[] }
def k5m0 : Method := { name := "ordinal", desc := "()I", sig := { parameters := [], returnType := some .int }, accessFlags := 17, code := some k5c0 }
/-- java/lang/Enum -/
def k5 : Class := { plain "java/lang/Enum" (some 0) with
  accessFlags := 1057
  interfaces := #[2, 3, 4]
  cf := some (fileOf pool5 2 #[.nestMembers #[106]] #[{ accessFlags := 17, nameIndex := 9, descriptorIndex := 126, attributes := #[] }] 1057 12 #[111, 113, 115] #[{ accessFlags := 18, nameIndex := 5, descriptorIndex := 6, attributes := #[] }, { accessFlags := 18, nameIndex := 9, descriptorIndex := 10, attributes := #[] }, { accessFlags := 2, nameIndex := 19, descriptorIndex := 10, attributes := #[] }])
  fields := #[{ name := "name", type := (.object "java/lang/String"), accessFlags := 18, slot := 0, constantValue := 0 }, { name := "ordinal", type := .int, accessFlags := 18, slot := 1, constantValue := 0 }, { name := "hash", type := .int, accessFlags := 2, slot := 2, constantValue := 0 }]
  methods := #[k5m0]
  instanceTypes := #[(.object "java/lang/String"), .int, .int]
  staticTypes := #[]
  resolved := Array.replicate 204 none
  statics := none }

def pool6 : Array CpInfo := pool [(1, .class_ 2), (0, u "com/example/portcullis/portcullis/ListKind"), (2, u "SYSTEM_SAFE"), (0, u "Lcom/example/portcullis/portcullis/ListKind;"), (2, u "SYSTEM_BLOCK"), (2, u "DOMAIN_SAFE"), (2, u "DOMAIN_BLOCK"), (2, u "PROFILE_RECIPIENT_SAFE"), (2, u "PROFILE_RECIPIENT_BLOCK"), (2, u "PROFILE_SENDER_SAFE"), (2, u "PROFILE_SENDER_BLOCK"), (2, u "USER_SAFE"), (2, u "USER_BLOCK"), (2, u "$VALUES"), (0, u "[Lcom/example/portcullis/portcullis/ListKind;"), (6, .class_ 46), (1, u "java/lang/Enum"), (23, .fieldref 1 71), (0, .nameAndType 72 73), (0, u "scope"), (0, u "Lcom/example/portcullis/portcullis/ListKind$Scope;"), (2, u "file"), (0, u "Ljava/lang/String;"), (2, u "compared"), (0, u "Lcom/example/portcullis/portcullis/ListKind$Compared;"), (2, u "action"), (0, u "Lcom/example/portcullis/portcullis/Action;"), (0, .methodref 1 87), (0, .nameAndType 88 89), (0, u "ordinal"), (0, u "()I"), (1, .class_ 93), (1, u "com/example/portcullis/portcullis/ListKind$Compared"), (6, .methodref 101 102), (0, .class_ 103), (0, .nameAndType 104 105), (0, u "com/example/portcullis/portcullis/ListKind$Scope"), (0, u "tracked"), (0, u "()Z"), (59, u "()Lcom/example/portcullis/portcullis/ListKind$Scope;"), (0, u "step")] 13

def k6c0 : Code := { maxStack := 1, maxLocals := 1, code := prog_40_method_5_code, exceptionTable := #[], attributes := #[] }
def k6m0 : Method := { name := "scope", desc := "()Lcom/example/portcullis/portcullis/ListKind$Scope;", sig := { parameters := [], returnType := some (.object "com/example/portcullis/portcullis/ListKind$Scope") }, accessFlags := 0, code := some k6c0 }
def k6c1 : Code := { maxStack := 2, maxLocals := 1, code := prog_40_method_6_code, exceptionTable := #[], attributes := #[] }
def k6m1 : Method := { name := "step", desc := "()I", sig := { parameters := [], returnType := some .int }, accessFlags := 0, code := some k6c1 }
def k6c2 : Code := { maxStack := 1, maxLocals := 1, code := prog_40_method_10_code, exceptionTable := #[], attributes := #[] }
def k6m2 : Method := { name := "tracked", desc := "()Z", sig := { parameters := [], returnType := some .boolean }, accessFlags := 0, code := some k6c2 }
/-- com/example/portcullis/portcullis/ListKind -/
def k6 : Class := { plain "com/example/portcullis/portcullis/ListKind" (some 5) with
  accessFlags := 16432
  interfaces := #[]
  cf := some (fileOf pool6 1 #[.nestMembers #[91, 101]] #[{ accessFlags := 0, nameIndex := 72, descriptorIndex := 165, attributes := #[] }, { accessFlags := 0, nameIndex := 166, descriptorIndex := 89, attributes := #[] }, { accessFlags := 0, nameIndex := 104, descriptorIndex := 105, attributes := #[] }] 16432 44 #[] #[{ accessFlags := 16409, nameIndex := 5, descriptorIndex := 6, attributes := #[] }, { accessFlags := 16409, nameIndex := 9, descriptorIndex := 6, attributes := #[] }, { accessFlags := 16409, nameIndex := 12, descriptorIndex := 6, attributes := #[] }, { accessFlags := 16409, nameIndex := 15, descriptorIndex := 6, attributes := #[] }, { accessFlags := 16409, nameIndex := 18, descriptorIndex := 6, attributes := #[] }, { accessFlags := 16409, nameIndex := 21, descriptorIndex := 6, attributes := #[] }, { accessFlags := 16409, nameIndex := 24, descriptorIndex := 6, attributes := #[] }, { accessFlags := 16409, nameIndex := 27, descriptorIndex := 6, attributes := #[] }, { accessFlags := 16409, nameIndex := 30, descriptorIndex := 6, attributes := #[] }, { accessFlags := 16409, nameIndex := 33, descriptorIndex := 6, attributes := #[] }, { accessFlags := 18, nameIndex := 72, descriptorIndex := 73, attributes := #[] }, { accessFlags := 18, nameIndex := 76, descriptorIndex := 77, attributes := #[] }, { accessFlags := 18, nameIndex := 80, descriptorIndex := 81, attributes := #[] }, { accessFlags := 18, nameIndex := 84, descriptorIndex := 85, attributes := #[] }, { accessFlags := 4122, nameIndex := 36, descriptorIndex := 37, attributes := #[] }])
  fields := #[{ name := "SYSTEM_SAFE", type := (.object "com/example/portcullis/portcullis/ListKind"), accessFlags := 16409, slot := 0, constantValue := 0 }, { name := "SYSTEM_BLOCK", type := (.object "com/example/portcullis/portcullis/ListKind"), accessFlags := 16409, slot := 1, constantValue := 0 }, { name := "DOMAIN_SAFE", type := (.object "com/example/portcullis/portcullis/ListKind"), accessFlags := 16409, slot := 2, constantValue := 0 }, { name := "DOMAIN_BLOCK", type := (.object "com/example/portcullis/portcullis/ListKind"), accessFlags := 16409, slot := 3, constantValue := 0 }, { name := "PROFILE_RECIPIENT_SAFE", type := (.object "com/example/portcullis/portcullis/ListKind"), accessFlags := 16409, slot := 4, constantValue := 0 }, { name := "PROFILE_RECIPIENT_BLOCK", type := (.object "com/example/portcullis/portcullis/ListKind"), accessFlags := 16409, slot := 5, constantValue := 0 }, { name := "PROFILE_SENDER_SAFE", type := (.object "com/example/portcullis/portcullis/ListKind"), accessFlags := 16409, slot := 6, constantValue := 0 }, { name := "PROFILE_SENDER_BLOCK", type := (.object "com/example/portcullis/portcullis/ListKind"), accessFlags := 16409, slot := 7, constantValue := 0 }, { name := "USER_SAFE", type := (.object "com/example/portcullis/portcullis/ListKind"), accessFlags := 16409, slot := 8, constantValue := 0 }, { name := "USER_BLOCK", type := (.object "com/example/portcullis/portcullis/ListKind"), accessFlags := 16409, slot := 9, constantValue := 0 }, { name := "scope", type := (.object "com/example/portcullis/portcullis/ListKind$Scope"), accessFlags := 18, slot := 3, constantValue := 0 }, { name := "file", type := (.object "java/lang/String"), accessFlags := 18, slot := 4, constantValue := 0 }, { name := "compared", type := (.object "com/example/portcullis/portcullis/ListKind$Compared"), accessFlags := 18, slot := 5, constantValue := 0 }, { name := "action", type := (.object "com/example/portcullis/portcullis/Action"), accessFlags := 18, slot := 6, constantValue := 0 }, { name := "$VALUES", type := (.array (.object "com/example/portcullis/portcullis/ListKind")), accessFlags := 4122, slot := 10, constantValue := 0 }]
  methods := #[k6m0, k6m1, k6m2]
  instanceTypes := #[(.object "java/lang/String"), .int, .int, (.object "com/example/portcullis/portcullis/ListKind$Scope"), (.object "java/lang/String"), (.object "com/example/portcullis/portcullis/ListKind$Compared"), (.object "com/example/portcullis/portcullis/Action")]
  staticTypes := #[(.object "com/example/portcullis/portcullis/ListKind"), (.object "com/example/portcullis/portcullis/ListKind"), (.object "com/example/portcullis/portcullis/ListKind"), (.object "com/example/portcullis/portcullis/ListKind"), (.object "com/example/portcullis/portcullis/ListKind"), (.object "com/example/portcullis/portcullis/ListKind"), (.object "com/example/portcullis/portcullis/ListKind"), (.object "com/example/portcullis/portcullis/ListKind"), (.object "com/example/portcullis/portcullis/ListKind"), (.object "com/example/portcullis/portcullis/ListKind"), (.array (.object "com/example/portcullis/portcullis/ListKind"))]
  resolved := Array.replicate 180 none
  statics := some 0 }

def pool7 : Array CpInfo := pool [(1, .class_ 2), (0, u "com/example/portcullis/portcullis/ListKind$Scope"), (0, .fieldref 1 4), (0, .nameAndType 5 6), (0, u "SYSTEM"), (0, u "Lcom/example/portcullis/portcullis/ListKind$Scope;"), (0, .fieldref 1 8), (0, .nameAndType 9 6), (0, u "DOMAIN"), (2, u "PROFILE"), (2, u "USER"), (2, u "$VALUES"), (0, u "[Lcom/example/portcullis/portcullis/ListKind$Scope;"), (6, .class_ 28), (1, u "java/lang/Enum"), (35, .class_ 66), (1, u "com/example/portcullis/portcullis/ListKind"), (30, u "()Z"), (57, u "NO_DIRECTORY"), (0, u "Ljava/lang/String;"), (12, u "tracked")] 27

def k7c0 : Code := { maxStack := 2, maxLocals := 1, code := prog_42_method_7_code, exceptionTable := #[], attributes := #[] }
def k7m0 : Method := { name := "tracked", desc := "()Z", sig := { parameters := [], returnType := some .boolean }, accessFlags := 0, code := some k7c0 }
/-- com/example/portcullis/portcullis/ListKind$Scope -/
def k7 : Class := { plain "com/example/portcullis/portcullis/ListKind$Scope" (some 5) with
  accessFlags := 16432
  interfaces := #[]
  cf := some (fileOf pool7 1 #[.nestHost 64] #[{ accessFlags := 0, nameIndex := 169, descriptorIndex := 97, attributes := #[] }] 16432 26 #[] #[{ accessFlags := 16409, nameIndex := 5, descriptorIndex := 6, attributes := #[] }, { accessFlags := 16409, nameIndex := 9, descriptorIndex := 6, attributes := #[] }, { accessFlags := 16409, nameIndex := 12, descriptorIndex := 6, attributes := #[] }, { accessFlags := 16409, nameIndex := 15, descriptorIndex := 6, attributes := #[] }, { accessFlags := 26, nameIndex := 155, descriptorIndex := 156, attributes := #[] }, { accessFlags := 4122, nameIndex := 18, descriptorIndex := 19, attributes := #[] }])
  fields := #[{ name := "SYSTEM", type := (.object "com/example/portcullis/portcullis/ListKind$Scope"), accessFlags := 16409, slot := 0, constantValue := 0 }, { name := "DOMAIN", type := (.object "com/example/portcullis/portcullis/ListKind$Scope"), accessFlags := 16409, slot := 1, constantValue := 0 }, { name := "PROFILE", type := (.object "com/example/portcullis/portcullis/ListKind$Scope"), accessFlags := 16409, slot := 2, constantValue := 0 }, { name := "USER", type := (.object "com/example/portcullis/portcullis/ListKind$Scope"), accessFlags := 16409, slot := 3, constantValue := 0 }, { name := "NO_DIRECTORY", type := (.object "java/lang/String"), accessFlags := 26, slot := 4, constantValue := 0 }, { name := "$VALUES", type := (.array (.object "com/example/portcullis/portcullis/ListKind$Scope")), accessFlags := 4122, slot := 5, constantValue := 0 }]
  methods := #[k7m0]
  instanceTypes := #[(.object "java/lang/String"), .int, .int]
  staticTypes := #[(.object "com/example/portcullis/portcullis/ListKind$Scope"), (.object "com/example/portcullis/portcullis/ListKind$Scope"), (.object "com/example/portcullis/portcullis/ListKind$Scope"), (.object "com/example/portcullis/portcullis/ListKind$Scope"), (.object "java/lang/String"), (.array (.object "com/example/portcullis/portcullis/ListKind$Scope"))]
  resolved := Array.replicate 197 none
  statics := some 1 }

def pool8 : Array CpInfo := pool [(1, u "java/lang/Cloneable"), (0, .class_ 1), (0, u "java/lang/Object"), (0, .class_ 3)] 3

/-- java/lang/Cloneable -/
def k8 : Class := { plain "java/lang/Cloneable" (some 0) with
  accessFlags := 1537
  interfaces := #[]
  cf := some (fileOf pool8 2 #[] #[] 1537 4 #[] #[])
  fields := #[]
  methods := #[]
  instanceTypes := #[]
  staticTypes := #[]
  resolved := Array.replicate 8 none
  statics := none }

/-- the primitive byte -/
def k9 : Class := { plain "byte" none with kind := .primitive 'B', accessFlags := 0x411 }
/-- [B -/
def k10 : Class := { plain "[B" (some 0) with kind := .array 9 .byte, interfaces := #[8, 4], accessFlags := 1041 }

/-- the primitive int -/
def k11 : Class := { plain "int" none with kind := .primitive 'I', accessFlags := 0x411 }
/-- [I -/
def k12 : Class := { plain "[I" (some 0) with kind := .array 11 .int, interfaces := #[8, 4], accessFlags := 1041 }

def heap : Heap := #[{ cls := 6, slots := #[.ref 6, .ref 7, .ref 8, .ref 9, .ref 10, .ref 11, .ref 12, .ref 13, .ref 14, .ref 15, .null], vm := .statics 6 },
  { cls := 7, slots := #[.ref 2, .ref 3, .ref 4, .ref 5, .null, .null], vm := .statics 7 },
  { cls := 7, slots := #[.null, .int 0, .int 0], vm := .none },
  { cls := 7, slots := #[.null, .int 1, .int 0], vm := .none },
  { cls := 7, slots := #[.null, .int 2, .int 0], vm := .none },
  { cls := 7, slots := #[.null, .int 3, .int 0], vm := .none },
  { cls := 6, slots := #[.null, .int 0, .int 0, .ref 2, .null, .null, .null], vm := .none },
  { cls := 6, slots := #[.null, .int 1, .int 0, .ref 2, .null, .null, .null], vm := .none },
  { cls := 6, slots := #[.null, .int 2, .int 0, .ref 3, .null, .null, .null], vm := .none },
  { cls := 6, slots := #[.null, .int 3, .int 0, .ref 3, .null, .null, .null], vm := .none },
  { cls := 6, slots := #[.null, .int 4, .int 0, .ref 4, .null, .null, .null], vm := .none },
  { cls := 6, slots := #[.null, .int 5, .int 0, .ref 4, .null, .null, .null], vm := .none },
  { cls := 6, slots := #[.null, .int 6, .int 0, .ref 4, .null, .null, .null], vm := .none },
  { cls := 6, slots := #[.null, .int 7, .int 0, .ref 4, .null, .null, .null], vm := .none },
  { cls := 6, slots := #[.null, .int 8, .int 0, .ref 5, .null, .null, .null], vm := .none },
  { cls := 6, slots := #[.null, .int 9, .int 0, .ref 5, .null, .null, .null], vm := .none }]
def classes : Array Class := #[k0, k1, k2, k3, k4, k5, k6, k7, k8, k9, k10, k11, k12]
def interned : List (Array UInt16 × Addr) := []
def slotsUsed : Nat := 99
def theMethod : MethodId := ⟨1, 2⟩
def args0 : Array Value := #[.int 5]
def aboutOver (below : List Frame) : State where
  vm := { classes := classes, interned := interned.toArray }
  heap := heap
  slotsUsed := slotsUsed
  threads := #[{ frames := .invoking theMethod args0 :: below }]
def below0 : List Frame := [.native { method := ⟨0, 0⟩, args := #[] }]
def about1 : State := aboutOver below0
def p0 : Program := .bare "" "" ""
def e0 : Env := launch0.env 0 0 0
theorem w_frames : about1.frames = Frame.invoking theMethod args0 :: below0 := rfl
set_option maxRecDepth 65536 in
theorem w_args : argsFit about1.vm theMethod args0 = true := by decide +kernel
set_option maxRecDepth 65536 in
theorem w_heap : heapFits about1 = true := by decide +kernel
set_option maxRecDepth 65536 in
theorem w_runnable : about1.curStatus? = some .runnable := by decide +kernel
set_option maxRecDepth 65536 in
theorem w_alone : about1.alone = true := by decide +kernel
set_option maxRecDepth 65536 in
theorem w_named : about1.methodNamed? x = some theMethod := by decide +kernel
set_option maxRecDepth 65536 in
theorem w_hears : about1.hears theMethod below0 = true := by decide +kernel
set_option maxRecDepth 65536 in
theorem w_ripe : about1.ripe theMethod args0 below0 = true := by decide +kernel
theorem w_running : about1.status = .running := rfl
set_option maxRecDepth 65536 in
theorem w_room : about1.hasRoom e0.platform room_1 = true :=
  launch0.hasRoom_least _ room_1 (by decide +kernel) (by decide +kernel) (by decide +kernel) (by decide +kernel) (by decide +kernel) (by decide +kernel)
theorem allAtoms_all (ts : List Jvm.Cond) (a : Array Jvm.Value) (st : Jvm.State) : (allAtoms ts).before a st = ts.all (fun c => c.before a st) := by
  induction ts with
  | nil => rfl
  | cons c t ih =>
    show (Jvm.Cond.and c (allAtoms t)).before a st = _
    rw [Jvm.Cond.before_and, ih, List.all_cons]
def words1 : List Jvm.Cond := Jvm.Cond.code x code maxLocals ret :: tables_1
/-- a 'code' word, met by the world's own term for the bytes: nothing is compared byte by byte -/
theorem code_word {y : MethodName} {bytes : ByteArray} {mx : Nat} {rt : Option FieldType} {a : Array Value} {s : State} {m : MethodId} {meth : Method} {c : Code} (h1 : s.methodNamed? y = some m) (h2 : s.vm.method? m = some meth) (h3 : meth.code = some c) (h4 : c.code = bytes)
    (h5 : (c.maxLocals == mx && c.exceptionTable.isEmpty && decide (c.maxStack ≤ mostOperands) && decide (meth.sig.returnType = rt) && !meth.locks && decide (parseMethodDescriptor y.desc = some meth.sig)) = true) : (Jvm.Cond.code y bytes mx rt).before a s = true := by
  simp only [Bool.and_eq_true, beq_iff_eq, Bool.not_eq_true', decide_eq_true_eq] at h5
  obtain ⟨⟨⟨⟨⟨g1, g2⟩, g3⟩, g4⟩, g5⟩, g6⟩ := h5
  simp [Cond.before, Cond.holds, Cond.value, h1, h2, h3, h4, g1, g2, g3, g4, g5, g6]
def isCode : Jvm.Cond → Bool
  | .code _ _ _ _ => true
  | _ => false
theorem all_split {L : List Jvm.Cond} {P : Jvm.Cond → Bool} (h1 : L.all (fun c => isCode c || P c) = true) (h2 : ∀ c ∈ L.filter isCode, P c = true) : L.all P = true := by
  refine List.all_eq_true.mpr fun c hc => ?_
  have h := List.all_eq_true.mp h1 c hc
  rcases Bool.eq_false_or_eq_true (isCode c) with hi | hi
  · exact h2 c (List.mem_filter.mpr ⟨hc, hi⟩)
  · simpa [hi] using h
set_option maxRecDepth 65536 in
theorem w_c0 : (Jvm.Cond.code x code maxLocals ret).before args0 about1 = true := code_word (m := ⟨1, 2⟩) (meth := k1m2) (c := k1c2) (by decide +kernel) rfl rfl rfl (by decide +kernel)
set_option maxRecDepth 65536 in
theorem w_c1 : (Jvm.Cond.code ({ cls := "com/example/portcullis/portcullis/ScopeTrackedPinLaw", name := "kind", desc := "(I)Lcom/example/portcullis/portcullis/ListKind;" } : Jvm.MethodName) method_2_code (1 : Nat) (Option.some (Jvm.ClassFile.FieldType.object "com/example/portcullis/portcullis/ListKind"))).before args0 about1 = true := code_word (m := ⟨1, 1⟩) (meth := k1m1) (c := k1c1) (by decide +kernel) rfl rfl rfl (by decide +kernel)
set_option maxRecDepth 65536 in
theorem w_c2 : (Jvm.Cond.code ({ cls := "com/example/portcullis/portcullis/ListKind", name := "scope", desc := "()Lcom/example/portcullis/portcullis/ListKind$Scope;" } : Jvm.MethodName) prog_40_method_5_code (1 : Nat) (Option.some (Jvm.ClassFile.FieldType.object "com/example/portcullis/portcullis/ListKind$Scope"))).before args0 about1 = true := code_word (m := ⟨6, 0⟩) (meth := k6m0) (c := k6c0) (by decide +kernel) rfl rfl rfl (by decide +kernel)
set_option maxRecDepth 65536 in
theorem w_c3 : (Jvm.Cond.code ({ cls := "com/example/portcullis/portcullis/ListKind$Scope", name := "tracked", desc := "()Z" } : Jvm.MethodName) prog_42_method_7_code (1 : Nat) (Option.some Jvm.ClassFile.FieldType.boolean)).before args0 about1 = true := code_word (m := ⟨7, 0⟩) (meth := k7m0) (c := k7c0) (by decide +kernel) rfl rfl rfl (by decide +kernel)
set_option maxRecDepth 65536 in
theorem w_c4 : (Jvm.Cond.code ({ cls := "com/example/portcullis/portcullis/ListKind", name := "step", desc := "()I" } : Jvm.MethodName) prog_40_method_6_code (1 : Nat) (Option.some Jvm.ClassFile.FieldType.int)).before args0 about1 = true := code_word (m := ⟨6, 1⟩) (meth := k6m1) (c := k6c1) (by decide +kernel) rfl rfl rfl (by decide +kernel)
set_option maxRecDepth 65536 in
theorem w_c5 : (Jvm.Cond.code ({ cls := "java/lang/Enum", name := "ordinal", desc := "()I" } : Jvm.MethodName) jdk_37_method_2_code (1 : Nat) (Option.some Jvm.ClassFile.FieldType.int)).before args0 about1 = true := code_word (m := ⟨5, 0⟩) (meth := k5m0) (c := k5c0) (by decide +kernel) rfl rfl rfl (by decide +kernel)
set_option maxRecDepth 65536 in
theorem w_c6 : (Jvm.Cond.code ({ cls := "com/example/portcullis/portcullis/ListKind", name := "tracked", desc := "()Z" } : Jvm.MethodName) prog_40_method_10_code (1 : Nat) (Option.some Jvm.ClassFile.FieldType.boolean)).before args0 about1 = true := code_word (m := ⟨6, 2⟩) (meth := k6m2) (c := k6c2) (by decide +kernel) rfl rfl rfl (by decide +kernel)
def codes1 : List Jvm.Cond := [Jvm.Cond.code x code maxLocals ret, Jvm.Cond.code ({ cls := "com/example/portcullis/portcullis/ScopeTrackedPinLaw", name := "kind", desc := "(I)Lcom/example/portcullis/portcullis/ListKind;" } : Jvm.MethodName) method_2_code (1 : Nat) (Option.some (Jvm.ClassFile.FieldType.object "com/example/portcullis/portcullis/ListKind")), Jvm.Cond.code ({ cls := "com/example/portcullis/portcullis/ListKind", name := "scope", desc := "()Lcom/example/portcullis/portcullis/ListKind$Scope;" } : Jvm.MethodName) prog_40_method_5_code (1 : Nat) (Option.some (Jvm.ClassFile.FieldType.object "com/example/portcullis/portcullis/ListKind$Scope")), Jvm.Cond.code ({ cls := "com/example/portcullis/portcullis/ListKind$Scope", name := "tracked", desc := "()Z" } : Jvm.MethodName) prog_42_method_7_code (1 : Nat) (Option.some Jvm.ClassFile.FieldType.boolean), Jvm.Cond.code ({ cls := "com/example/portcullis/portcullis/ListKind", name := "step", desc := "()I" } : Jvm.MethodName) prog_40_method_6_code (1 : Nat) (Option.some Jvm.ClassFile.FieldType.int), Jvm.Cond.code ({ cls := "java/lang/Enum", name := "ordinal", desc := "()I" } : Jvm.MethodName) jdk_37_method_2_code (1 : Nat) (Option.some Jvm.ClassFile.FieldType.int), Jvm.Cond.code ({ cls := "com/example/portcullis/portcullis/ListKind", name := "tracked", desc := "()Z" } : Jvm.MethodName) prog_40_method_10_code (1 : Nat) (Option.some Jvm.ClassFile.FieldType.boolean)]
set_option maxRecDepth 65536 in
theorem codes_eq : words1.filter isCode = codes1 := rfl
theorem w_codes : ∀ c ∈ words1.filter isCode, c.before args0 about1 = true := by
  rw [codes_eq]
  intro c hc
  simp only [codes1, List.mem_cons, List.not_mem_nil, or_false] at hc
  rcases hc with rfl | rfl | rfl | rfl | rfl | rfl | rfl
  · exact w_c0
  · exact w_c1
  · exact w_c2
  · exact w_c3
  · exact w_c4
  · exact w_c5
  · exact w_c6
set_option maxRecDepth 65536 in
theorem w_t1 : (words1.take 24).all (fun c => isCode c || c.before args0 about1) = true := by decide +kernel
set_option maxRecDepth 65536 in
theorem w_t2 : ((words1.drop 24).take 24).all (fun c => isCode c || c.before args0 about1) = true := by decide +kernel
set_option maxRecDepth 65536 in
theorem w_t3 : ((words1.drop 24).drop 24).all (fun c => isCode c || c.before args0 about1) = true := by decide +kernel
theorem w_tables : (allAtoms (Jvm.Cond.code x code maxLocals ret :: tables_1)).before args0 about1 = true := by
  rw [allAtoms_all]
  show words1.all (fun c => c.before args0 about1) = true
  refine all_split ?_ w_codes
  rw [← List.take_append_drop 24 words1, List.all_append, w_t1, ← List.take_append_drop 24 (words1.drop 24), List.all_append, w_t2, w_t3]
  rfl
set_option maxRecDepth 65536 in
theorem w_case : (Jvm.Cond.and given_1 narrow_1).before args0 about1 = true := by decide +kernel
theorem w_applies : (headSpec (Jvm.Cond.code x code maxLocals ret :: tables_1) room_1).applies x e0.platform about1 = true :=
  (Spec.applies_iff w_frames).mpr ⟨w_running, w_runnable, w_alone, w_named, w_hears, w_ripe, w_room, w_tables⟩
theorem atStart : AtStart classFile x code maxLocals ret World_1 tables_1 room_1 Calls_1 rest_1 Pre_1 launch0 p0 e0 about1 theMethod args0 below0 :=
  ⟨lists_1, trivial, launch0.admits_env _ _ _, launch0.least_env, fairChoices_fair.cas, fairChoices_fair.clock, w_frames, w_args, w_heap, w_applies, trivial, trivial, w_case⟩
end start1
theorem witness_1 : WitnessClaimed_1 := ⟨start1.p0, start1.e0, start1.about1, start1.theMethod, start1.args0, start1.below0, start1.atStart⟩
end Jvm.Pilot.@@N@@
