import JvmDerived
import JvmDerived.Pilot.@@N@@Statement
import JvmDerived.Pilot.@@N@@Code
set_option linter.unusedVariables false
set_option linter.unusedSimpArgs false
@@BLOCK:NumsL.lean.txt@@
namespace Jvm.Pilot.@@N@@
open Jvm Jvm.ClassFile Sem Op Lib Jvm.Free Jvm.Stand Jvm.LawKit Jvm.RoadKit Bundle Jvm.Pilot.@@N@@.Jvm.D
/-- from here the run comes to a state of which P holds -/
def own_Go (tb : Tables) (e : Env) (below : List Frame) (P : State → Prop) (T : State) (g : JFrame) : Prop := ∃ t, Steps tb e below (T.setTop g) t ∧ P t
theorem own_st {tb : Tables} {e : Env} {below : List Frame} {P : State → Prop} {T T' : State} {g g' : JFrame} (h : ∀ t, Steps tb e below (T'.setTop g') t → Steps tb e below (T.setTop g) t) (k : own_Go tb e below P T' g') : own_Go tb e below P T g := by
  obtain ⟨t, a, b⟩ := k; exact ⟨t, h t a, b⟩
/-- what the end of a body must be -/
def own_P (s : State) (below : List Frame) (Q : Option Value → Heap → List Loc → Prop) (C S : Nat) (t : State) : Prop := t.status = .running ∧ ∃ o, Ended t below o ∧ ∃ v L, o = .returned v ∧ Q v t.heap L ∧ FrameEnd s o t L C S
/-- .. of a body that may have interned -/
def own_PW (s : State) (below : List Frame) (Q : Option Value → Heap → List Loc → Prop) (C S : Nat) (t : State) : Prop := t.status = .running ∧ ∃ o, Ended t below o ∧ ∃ v L, o = .returned v ∧ Q v t.heap L ∧ ReturnedEndW s o t L C S
section own
variable {p : Program} {l : Launch} {e : Env} {R : Room} {s : State} {m : MethodId} {args : Array Value} {below : List Frame} {meth : Method} {c : Code} {T : State} {locs : List Loc} {cells slots : Nat} {Qo : Option Value → Heap → List Loc → Prop} {C' S' : Nat}
theorem own_out (X : Stand p l e R s m args below meth c T locs cells slots) {v : Option Value} {g : JFrame} (hv : meth.sig.returnType = none → v = none) (hlocks : meth.locks = false)
    (hst : ∀ fs, (∀ (f : JFrame) (acts : List Action), f.method = m → f.locked = none → f.entered = [] → (doReturn e (T.setTop f) acts v).1 = T.setFrames fs) → Steps p.tables e below (T.setTop g) (T.setFrames fs))
    (hc : cells ≤ C') (hs : slots ≤ S') (hq : Qo v T.heap locs) : own_Go p.tables e below (own_P s below Qo C' S') T g := by
  obtain ⟨fs, hr, hrun, hended, hW, hsame⟩ := X.leave (v := v) hv hlocks
  exact ⟨_, hst fs hr, hrun, _, hended, _, _, rfl, hq, ⟨_, rfl⟩, hW, hsame.mono hc hs⟩
theorem own_outW {vm0 : Vm} (X : Stand p l e R (s.setVm vm0) m args below meth c T locs cells slots) {k0 : Nat} (hS : s.Since vm0 k0) (hk : k0 ≤ T.heap.size) {v : Option Value} {g : JFrame} (hv : meth.sig.returnType = none → v = none) (hlocks : meth.locks = false)
    (hst : ∀ fs, (∀ (f : JFrame) (acts : List Action), f.method = m → f.locked = none → f.entered = [] → (doReturn e (T.setTop f) acts v).1 = T.setFrames fs) → Steps p.tables e below (T.setTop g) (T.setFrames fs))
    (hc : cells ≤ C') (hs : slots ≤ S') (hq : Qo v T.heap locs) : own_Go p.tables e below (own_PW s below Qo C' S') T g := by
  obtain ⟨fs, hr, hrun, hended, hW⟩ := X.leaveW hS hk (v := v) hv hlocks
  exact ⟨_, hst fs hr, hrun, _, hended, _, _, rfl, hq, hW.1, hW.2.1, hW.2.2.1, hW.2.2.2.mono hc hs⟩
theorem own_retI (X : Stand p l e R s m args below meth c T locs cells slots) (hx : p.tables.exec = Jvm.exec) {pc : Nat} {Ls : Array Slot} {z : Int32} {rest : List Value} (hret : meth.sig.returnType = some .int) (hd : decode c.code pc = .ok (.ireturn, 1)) (fs : List Frame)
    (hl : ∀ (f : JFrame) (acts : List Action), f.method = m → f.locked = none → f.entered = [] → (doReturn e (T.setTop f) acts (some (.int z))).1 = T.setFrames fs) : Steps p.tables e below (T.setTop (mkF m pc Ls (.int z :: rest))) (T.setFrames fs) :=
  retOut X hx hret rfl (Or.inl ⟨rfl, Or.inl rfl, _, rfl⟩) hd hl
theorem own_retZ (X : Stand p l e R s m args below meth c T locs cells slots) (hx : p.tables.exec = Jvm.exec) {pc : Nat} {Ls : Array Slot} {z : Int32} {rest : List Value} (hret : meth.sig.returnType = some .boolean) (hd : decode c.code pc = .ok (.ireturn, 1)) (hb : z = 0 ∨ z = 1) (fs : List Frame)
    (hl : ∀ (f : JFrame) (acts : List Action), f.method = m → f.locked = none → f.entered = [] → (doReturn e (T.setTop f) acts (some (.int z))).1 = T.setFrames fs) : Steps p.tables e below (T.setTop (mkF m pc Ls (.int z :: rest))) (T.setFrames fs) := by
  have e1 : nar .boolean z = z := by rcases hb with rfl | rfl <;> decide
  exact retN X hx hret (Or.inl rfl) hd (by rw [e1]; exact hl)
theorem own_retJ (X : Stand p l e R s m args below meth c T locs cells slots) (hx : p.tables.exec = Jvm.exec) {pc : Nat} {Ls : Array Slot} {z : Int64} {rest : List Value} (hret : meth.sig.returnType = some .long) (hd : decode c.code pc = .ok (.lreturn, 1)) (fs : List Frame)
    (hl : ∀ (f : JFrame) (acts : List Action), f.method = m → f.locked = none → f.entered = [] → (doReturn e (T.setTop f) acts (some (.long z))).1 = T.setFrames fs) : Steps p.tables e below (T.setTop (mkF m pc Ls (.long z :: rest))) (T.setFrames fs) :=
  retOut X hx hret rfl (Or.inr (Or.inl ⟨rfl, rfl, _, rfl⟩)) hd hl
theorem own_retR (X : Stand p l e R s m args below meth c T locs cells slots) (hx : p.tables.exec = Jvm.exec) {pc : Nat} {Ls : Array Slot} {w : Value} {t : FieldType} {rest : List Value} (hret : meth.sig.returnType = some t) (ht : t.isReference = true) (hw : w.isRef = true) (hn : narrow t w = w) (hd : decode c.code pc = .ok (.areturn, 1)) (fs : List Frame)
    (hl : ∀ (f : JFrame) (acts : List Action), f.method = m → f.locked = none → f.entered = [] → (doReturn e (T.setTop f) acts (some w)).1 = T.setFrames fs) : Steps p.tables e below (T.setTop (mkF m pc Ls (w :: rest))) (T.setFrames fs) :=
  retOut X hx hret hn (Or.inr (Or.inr (Or.inr (Or.inr ⟨rfl, ht, hw⟩)))) hd hl
end own
/-- a private method is the one that is picked -/
theorem own_selp {s : State} {args : Array Value} {y : MethodName} {n : Nat} (hi : (Jvm.Cond.instantiable y.cls n).before args s = true) (hp : s.PrivateAt y) (hm : (Jvm.Cond.instanceMethod y).before args s = true) (hy : y.cls ≠ "java/lang/invoke/MethodHandle" ∧ y.cls ≠ "java/lang/invoke/VarHandle") : (Jvm.Cond.selects y.cls y y).before args s = true := by
  obtain ⟨c, k, h1, h2, -, h4, -⟩ := Cond.instantiable_spec hi
  exact selects_self_of_private h1 h2 (Bool.or_eq_false_iff.mp h4).1 hp hm hy
theorem own_staK {Z : State} {h h' : Heap} {C n d : String} {v : Value} {ws : List Addr} (F : Sta Z h C n d v) (K : Keep h h' ws) (q : ∀ x ∈ ws, ∃ D, Exa Z h x D) : Sta Z h' C n d v := by
  obtain ⟨cf, i, k, f, st, cell, h1, h2, h3, h4, h5, h6, h7⟩ := F
  refine ⟨cf, i, k, f, st, cell, h1, h2, h3, h4, K.2.1 st cell h5 (fun hm => ?_), h6, h7⟩
  obtain ⟨D, c', k', e1, -, -, e4, -⟩ := q st hm
  cases h5.symm.trans e1
  rw [h6] at e4; cases e4
/-- a reference or null -/
theorem own_refOf {w : Value} (h : w.isRef = true) (c : ¬ w = Value.null) : ∃ a, w = .ref a := (ref_cases h).resolve_left c
theorem own_nW {t : FieldType} {w : Value} (ht : t.isReference = true) (h : w.isRef = true) : narrow t w = w := by
  rcases ref_cases h with rfl | ⟨a, rfl⟩ <;> cases t <;> first | rfl | simp [FieldType.isReference] at ht
theorem own_fW {t : FieldType} {w : Value} (ht : t.isReference = true) (h : w.isRef = true) : fits t w = true := by
  rcases ref_cases h with rfl | ⟨a, rfl⟩ <;> cases t <;> first | rfl | simp [FieldType.isReference] at ht
theorem own_nb {z : Int32} (h : z = 0 ∨ z = 1) : narrow .boolean (.int z) = .int z := by rcases h with rfl | rfl <;> rfl
theorem own_fb {z : Int32} (h : z = 0 ∨ z = 1) : fits .boolean (.int z) = true := by rcases h with rfl | rfl <;> rfl
/-- lcmp and a branch, in one -/
def own_lcv : ClassFile.Cond → Int64 → Int64 → Prop
  | .lt, x, y => x < y | .ge, x, y => ¬ x < y | .gt, x, y => y < x | .le, x, y => ¬ y < x | .eq, x, y => x = y | .ne, x, y => ¬ x = y
theorem own_lcT {cd : ClassFile.Cond} {x y : Int64} (h : own_lcv cd x y) : ifCond.holds cd (lcmpW x y) = true := by
  rw [if0]
  cases cd
  · exact (teq ((lw_eq x y).mpr h)).1
  · exact (feq (fun q => h ((lw_eq x y).mp q))).2
  · exact (tlt ((lw_lt x y).mpr h)).1
  · exact (flt (fun q => h ((lw_lt x y).mp q))).2.1
  · exact (tlt ((lw_gt x y).mpr h)).2.2.1
  · exact (flt (fun q => h ((lw_gt x y).mp q))).2.2.2
theorem own_lcF {cd : ClassFile.Cond} {x y : Int64} (h : ¬ own_lcv cd x y) : ifCond.holds cd (lcmpW x y) = false := by
  rw [if0]
  cases cd
  · exact (feq (fun q => h ((lw_eq x y).mp q))).1
  · exact (teq (Classical.byContradiction fun q => h (fun r => q ((lw_eq x y).mpr r)))).2
  · exact (flt (fun q => h ((lw_lt x y).mp q))).1
  · exact (tlt (Classical.byContradiction fun q => h (fun r => q ((lw_lt x y).mpr r)))).2.1
  · exact (flt (fun q => h ((lw_gt x y).mp q))).2.2.1
  · exact (tlt (Classical.byContradiction fun q => h (fun r => q ((lw_gt x y).mpr r)))).2.2.2

theorem own_sA {Z : State} {a0 : Array Value} (hw : ∀ d ∈ tables_1, d.before a0 Z = true) : ∀ a ∈ Bundle.stringAtoms, a.before a0 Z = true := by
  intro d hd
  simp only [Bundle.stringAtoms, List.mem_cons, List.not_mem_nil, or_false] at hd
  rcases hd with rfl | rfl | rfl | rfl | rfl | rfl | rfl
  · exact (hw _ (List.mem_of_getElem? (i := 5) rfl))
  · exact (hw _ (List.mem_of_getElem? (i := 6) rfl))
  · exact (hw _ (List.mem_of_getElem? (i := 0) rfl))
  · exact (hw _ (List.mem_of_getElem? (i := 7) rfl))
  · exact (hw _ (List.mem_of_getElem? (i := 8) rfl))
  · exact (hw _ (List.mem_of_getElem? (i := 9) rfl))
  · exact (hw _ (List.mem_of_getElem? (i := 10) rfl))
theorem own_pd__JLjava_lang_String_Ljava_lang_String__BJZ_V : parseMethodDescriptor "(JLjava/lang/String;Ljava/lang/String;[BJZ)V" = some ⟨[.long, (.object "java/lang/String"), (.object "java/lang/String"), (.array .byte), .long, .boolean], none⟩ := by decide +kernel
theorem own_pd___B_V : parseMethodDescriptor "([B)V" = some ⟨[(.array .byte)], none⟩ := by decide +kernel
theorem own_pd____B : parseMethodDescriptor "()[B" = some ⟨[], some (.array .byte)⟩ := by decide +kernel
theorem own_pd___J : parseMethodDescriptor "()J" = some ⟨[], some .long⟩ := by decide +kernel
theorem own_pd___Z : parseMethodDescriptor "()Z" = some ⟨[], some .boolean⟩ := by decide +kernel
theorem d1_0 : decode prog_16_method_1_code 0 = .ok (.aload_n 0, 1) := by decide +kernel
theorem d1_1 : decode prog_16_method_1_code 1 = .ok (.invokespecial 1, 3) := by decide +kernel
theorem d1_4 : decode prog_16_method_1_code 4 = .ok (.aload_n 0, 1) := by decide +kernel
theorem d1_5 : decode prog_16_method_1_code 5 = .ok (.ldc2_w 9, 3) := by decide +kernel
theorem d1_8 : decode prog_16_method_1_code 8 = .ok (.putfield 11, 3) := by decide +kernel
theorem d1_11 : decode prog_16_method_1_code 11 = .ok (.aload_n 0, 1) := by decide +kernel
theorem d1_12 : decode prog_16_method_1_code 12 = .ok (.ldc2_w 9, 3) := by decide +kernel
theorem d1_15 : decode prog_16_method_1_code 15 = .ok (.putfield 17, 3) := by decide +kernel
theorem d1_18 : decode prog_16_method_1_code 18 = .ok (.aload_n 0, 1) := by decide +kernel
theorem d1_19 : decode prog_16_method_1_code 19 = .ok (.lload_n 1, 1) := by decide +kernel
theorem d1_20 : decode prog_16_method_1_code 20 = .ok (.putfield 20, 3) := by decide +kernel
theorem d1_23 : decode prog_16_method_1_code 23 = .ok (.aload_n 0, 1) := by decide +kernel
theorem d1_24 : decode prog_16_method_1_code 24 = .ok (.aload_n 3, 1) := by decide +kernel
theorem d1_25 : decode prog_16_method_1_code 25 = .ok (.putfield 23, 3) := by decide +kernel
theorem d1_28 : decode prog_16_method_1_code 28 = .ok (.aload_n 0, 1) := by decide +kernel
theorem d1_29 : decode prog_16_method_1_code 29 = .ok (.aload 4, 2) := by decide +kernel
theorem d1_31 : decode prog_16_method_1_code 31 = .ok (.putfield 27, 3) := by decide +kernel
theorem d1_34 : decode prog_16_method_1_code 34 = .ok (.aload_n 0, 1) := by decide +kernel
theorem d1_35 : decode prog_16_method_1_code 35 = .ok (.aload 5, 2) := by decide +kernel
theorem d1_37 : decode prog_16_method_1_code 37 = .ok (.putfield 30, 3) := by decide +kernel
theorem d1_40 : decode prog_16_method_1_code 40 = .ok (.aload_n 0, 1) := by decide +kernel
theorem d1_41 : decode prog_16_method_1_code 41 = .ok (.lload 6, 2) := by decide +kernel
theorem d1_43 : decode prog_16_method_1_code 43 = .ok (.putfield 34, 3) := by decide +kernel
theorem d1_46 : decode prog_16_method_1_code 46 = .ok (.aload_n 0, 1) := by decide +kernel
theorem d1_47 : decode prog_16_method_1_code 47 = .ok (.iload 8, 2) := by decide +kernel
theorem d1_49 : decode prog_16_method_1_code 49 = .ok (.putfield 37, 3) := by decide +kernel
theorem d1_52 : decode prog_16_method_1_code 52 = .ok (.return_, 1) := by decide +kernel
theorem own_pn1 : plainName "com/example/antientropy/antientropy/sds/LogEntry" = true := by first | (simp [plainName, overriddenIn]; done) | decide +kernel
theorem own_ef1 (m : MethodId) (a : Addr) (ts : Int64) (m1 : Addr) (m2 : Addr) (hv : Value) (af : Int64) (nd : Int32) (h_hv : hv.isRef = true) : entryFrame m #[(.ref a), (.long ts), (.ref m1), (.ref m2), hv, (.long af), (.int nd)] 9 = mkF m 0 #[.val (.ref a), .val (.long ts), .second, .val (.ref m1), .val (.ref m2), .val hv, .val (.long af), .second, .val (.int nd)] [] := by
  rcases ref_cases h_hv with rfl | ⟨_, rfl⟩ <;> first | (simp [entryFrame, mkF, argsToLocals, Value.category]; done) | rfl
def Q1 (Z : State) (a : Addr) (ts : Int64) (m1 : Addr) (m2 : Addr) (hv : Value) (af : Int64) (nd : Int32) (u0 : Value) (u1 : Value) (u2 : Value) (u3 : Value) (u4 : Value) (u5 : Value) (u6 : Value) (u7 : Value) (h0 : Heap) (n0 : Nat) (v : Option Value) (h : Heap) (L : List Loc) : Prop := v = none ∧ Fr n0 L ∧ Keep h0 h [a] ∧ Exa Z h a "com/example/antientropy/antientropy/sds/LogEntry" ∧ Fld Z h a "com/example/antientropy/antientropy/sds/LogEntry" "lamportTimestamp" "J" (.long ts) ∧ Fld Z h a "com/example/antientropy/antientropy/sds/LogEntry" "retrievalHint" "[B" hv ∧ Fld Z h a "com/example/antientropy/antientropy/sds/LogEntry" "enteredAfter" "J" (.long af) ∧ Fld Z h a "com/example/antientropy/antientropy/sds/LogEntry" "namedBeforeItCame" "Z" (.int nd)
set_option maxRecDepth 65536 in
set_option maxHeartbeats 4000000 in
theorem rm1 (l : Launch) (Z : State) (a0 : Array Value) (hw : ∀ d ∈ tables_1, d.before a0 Z = true) (ws : List Jvm.Cond) (a : Addr) (ts : Int64) (m1 : Addr) (m2 : Addr) (hv : Value) (af : Int64) (nd : Int32) (u0 : Value) (u1 : Value) (u2 : Value) (u3 : Value) (u4 : Value) (u5 : Value) (u6 : Value) (u7 : Value) (h0 : Heap) (n0 : Nat) (Z0 : n0 ≤ h0.size) (F0 : Exa Z h0 a "com/example/antientropy/antientropy/sds/LogEntry") (F1 : Fld Z h0 a "com/example/antientropy/antientropy/sds/LogEntry" "copiedAt" "J" u0) (F2 : Fld Z h0 a "com/example/antientropy/antientropy/sds/LogEntry" "rebroadcastAt" "J" u1) (F3 : Fld Z h0 a "com/example/antientropy/antientropy/sds/LogEntry" "lamportTimestamp" "J" u2) (F4 : Fld Z h0 a "com/example/antientropy/antientropy/sds/LogEntry" "messageId" "Ljava/lang/String;" u3) (F5 : Fld Z h0 a "com/example/antientropy/antientropy/sds/LogEntry" "senderId" "Ljava/lang/String;" u4) (F6 : Fld Z h0 a "com/example/antientropy/antientropy/sds/LogEntry" "retrievalHint" "[B" u5) (F7 : Fld Z h0 a "com/example/antientropy/antientropy/sds/LogEntry" "enteredAfter" "J" u6) (F8 : Fld Z h0 a "com/example/antientropy/antientropy/sds/LogEntry" "namedBeforeItCame" "Z" u7) (h_hv : hv.isRef = true) (hnd : nd = 0 ∨ nd = 1) (g_a : n0 ≤ a) :
    MetFree l (⟨"com/example/antientropy/antientropy/sds/LogEntry", "<init>", "(JLjava/lang/String;Ljava/lang/String;[BJZ)V"⟩ : MethodName) (head1 (Jvm.Cond.code (⟨"com/example/antientropy/antientropy/sds/LogEntry", "<init>", "(JLjava/lang/String;Ljava/lang/String;[BJZ)V"⟩ : MethodName) prog_16_method_1_code 9 none :: ws) ({ frames := 1, cells := 0, slots := 0, locals := 12 } : Room)) (fun aW U => aW = #[(.ref a), (.long ts), (.ref m1), (.ref m2), hv, (.long af), (.int nd)] ∧ Z.Warmed39 U.vm ∧ U.heap = h0) (fun _ _ _ _ _ => True) (fun _ U o U' => ∃ v L, o = .returned v ∧ Q1 Z a ts m1 m2 hv af nd u0 u1 u2 u3 u4 u5 u6 u7 h0 n0 v U'.heap L ∧ FrameEnd U o U' L ({ frames := 1, cells := 0, slots := 0, locals := 12 } : Room).cells ({ frames := 1, cells := 0, slots := 0, locals := 12 } : Room).slots) := by
  refine MetFree.of_bodySF (plainFor_of_name own_pn1) hisR ?_
  intro p e s m args below meth c s₁ Bd hml0 hP hK
  obtain ⟨rfl, hZ, hh⟩ := hP
  have hx := Bd.exec
  have hby := Bd.bytes
  have hml : c.maxLocals = 9 := hml0
  have hown : s.vm.findClass "com/example/antientropy/antientropy/sds/LogEntry" = some m.cls := findClass_of_methodNamed Bd.named
  have hnm := (name_of_methodNamed Bd.named Bd.method).1
  have X0 : Stand p l e ({ frames := 1, cells := 0, slots := 0, locals := 12 } : Room) s m #[(.ref a), (.long ts), (.ref m1), (.ref m2), hv, (.long af), (.int nd)] below meth c s₁ [] 0 0 := Stand.of_body Bd
  have e0 : s₁.heap = h0 := by rw [← hh, Bd.state]; rfl
  have N0 := Fr.nil n0
  have K0 : Keep h0 h0 [a] := Keep.refl _ _
  obtain ⟨Pq, hPq⟩ : ∃ P, P = own_P s below (fun v h L => Q1 Z a ts m1 m2 hv af nd u0 u1 u2 u3 u4 u5 u6 u7 h0 n0 v h L) ({ frames := 1, cells := 0, slots := 0, locals := 12 } : Room).cells ({ frames := 1, cells := 0, slots := 0, locals := 12 } : Room).slots := ⟨_, rfl⟩
  suffices hgo : own_Go p.tables e below Pq s₁ (mkF m 0 #[.val (.ref a), .val (.long ts), .second, .val (.ref m1), .val (.ref m2), .val hv, .val (.long af), .second, .val (.int nd)] []) by
    subst hPq
    obtain ⟨t, k1, k2, o, k3, k4⟩ := hgo
    exact ⟨t, o, castTop (own_ef1 m a ts m1 m2 hv af nd h_hv) k1, k2, k3, k4⟩
  show own_Go _ _ _ _ s₁ (mkF m 0 #[.val (.ref a), .val (.long ts), .second, .val (.ref m1), .val (.ref m2), .val hv, .val (.long af), .second, .val (.int nd)] [])
  refine own_st (fun t k => XS.aloadN X0.here hx rfl (hb hby d1_0) rfl rfl k) ?_
  show own_Go _ _ _ _ s₁ (mkF m 1 _ [(.ref a)])
  obtain ⟨T1, X1, e1, st1⟩ := initO X0 hx hZ hown (hw _ (List.mem_of_getElem? (i := 15) rfl)) (hw _ (List.mem_of_getElem? (i := 16) rfl)) (hw _ (List.mem_of_getElem? (i := 17) rfl)) e0 (g := (mkF m 1 #[.val (.ref a), .val (.long ts), .second, .val (.ref m1), .val (.ref m2), .val hv, .val (.long af), .second, .val (.int nd)] [(.ref a)])) rfl (by rw [hml]; rfl) rfl (hb hby d1_1) (by decide) (W := 0) (by show 2 * 0 + _ ≤ _; exact Nat.le_of_eq rfl) (by decide)
  refine own_st st1 ?_
  show own_Go _ _ _ _ T1 (mkF m 4 _ [])
  refine own_st (fun t k => XS.aloadN X1.here hx rfl (hb hby d1_4) rfl rfl k) ?_
  show own_Go _ _ _ _ T1 (mkF m 5 _ [(.ref a)])
  refine own_st (fun t k => X1.ldc2Long hx hown (mvT hZ (hw _ (List.mem_of_getElem? (i := 18) rfl))) (g := (mkF m 5 #[.val (.ref a), .val (.long ts), .second, .val (.ref m1), .val (.ref m2), .val hv, .val (.long af), .second, .val (.int nd)] [(.ref a)])) rfl (hb hby d1_5) _ k) ?_
  show own_Go _ _ _ _ T1 (mkF m 8 _ [(.long (-9223372036854775808 : Int64)), (.ref a)])
  obtain ⟨T2, h2, X2, e2, W2, st2⟩ := putF X1 hx hZ hown (host := "") (Or.inl (hw _ (List.mem_of_getElem? (i := 19) rfl))) Via.refl e1 F1 F0 (Or.inl (hw _ (List.mem_of_getElem? (i := 20) rfl))) (hw _ (List.mem_of_getElem? (i := 2) rfl)) (ty := .long) (by decide) rfl rfl (g := (mkF m 8 #[.val (.ref a), .val (.long ts), .second, .val (.ref m1), .val (.ref m2), .val hv, .val (.long af), .second, .val (.int nd)] [(.long (-9223372036854775808 : Int64)), (.ref a)])) rfl rfl (hb hby d1_8)
  refine own_st st2 ?_
  have f3 := F0.wr W2
  have f4 := F2.other W2 (Or.inr (slot_ne (Or.inl (hw _ (List.mem_of_getElem? (i := 22) rfl))) (Or.inl (hw _ (List.mem_of_getElem? (i := 20) rfl))) (by decide) (t := .long) (t' := .long) (by decide) (by decide)))
  have f5 := F3.other W2 (Or.inr (slot_ne (Or.inr (hw _ (List.mem_of_getElem? (i := 24) rfl))) (Or.inl (hw _ (List.mem_of_getElem? (i := 20) rfl))) (by decide) (t := .long) (t' := .long) (by decide) (by decide)))
  have f6 := F4.other W2 (Or.inr (slot_ne (Or.inr (hw _ (List.mem_of_getElem? (i := 26) rfl))) (Or.inl (hw _ (List.mem_of_getElem? (i := 20) rfl))) (by decide) (t := (.object "java/lang/String")) (t' := .long) (by decide) (by decide)))
  have f7 := F5.other W2 (Or.inr (slot_ne (Or.inr (hw _ (List.mem_of_getElem? (i := 28) rfl))) (Or.inl (hw _ (List.mem_of_getElem? (i := 20) rfl))) (by decide) (t := (.object "java/lang/String")) (t' := .long) (by decide) (by decide)))
  have f8 := F6.other W2 (Or.inr (slot_ne (Or.inl (hw _ (List.mem_of_getElem? (i := 30) rfl))) (Or.inl (hw _ (List.mem_of_getElem? (i := 20) rfl))) (by decide) (t := (.array .byte)) (t' := .long) (by decide) (by decide)))
  have f9 := F7.other W2 (Or.inr (slot_ne (Or.inr (hw _ (List.mem_of_getElem? (i := 32) rfl))) (Or.inl (hw _ (List.mem_of_getElem? (i := 20) rfl))) (by decide) (t := .long) (t' := .long) (by decide) (by decide)))
  have f10 := F8.other W2 (Or.inr (slot_ne (Or.inr (hw _ (List.mem_of_getElem? (i := 34) rfl))) (Or.inl (hw _ (List.mem_of_getElem? (i := 20) rfl))) (by decide) (t := .boolean) (t' := .long) (by decide) (by decide)))
  have N11 := Fr.snoc X2 N0 g_a
  have Z12 : n0 ≤ h2.size := Nat.le_trans Z0 (Nat.le_of_eq W2.size.symm)
  have K13 : Keep h0 h2 [a] := K0.wr W2 (Or.inl (List.mem_of_getElem? (i := 0) rfl))
  have f14 := F1.same W2
  show own_Go _ _ _ _ T2 (mkF m 11 _ [])
  refine own_st (fun t k => XS.aloadN X2.here hx rfl (hb hby d1_11) rfl rfl k) ?_
  show own_Go _ _ _ _ T2 (mkF m 12 _ [(.ref a)])
  refine own_st (fun t k => X2.ldc2Long hx hown (mvT hZ (hw _ (List.mem_of_getElem? (i := 18) rfl))) (g := (mkF m 12 #[.val (.ref a), .val (.long ts), .second, .val (.ref m1), .val (.ref m2), .val hv, .val (.long af), .second, .val (.int nd)] [(.ref a)])) rfl (hb hby d1_12) _ k) ?_
  show own_Go _ _ _ _ T2 (mkF m 15 _ [(.long (-9223372036854775808 : Int64)), (.ref a)])
  obtain ⟨T15, h15, X15, e15, W15, st15⟩ := putF X2 hx hZ hown (host := "") (Or.inl (hw _ (List.mem_of_getElem? (i := 21) rfl))) Via.refl e2 f4 f3 (Or.inl (hw _ (List.mem_of_getElem? (i := 22) rfl))) (hw _ (List.mem_of_getElem? (i := 2) rfl)) (ty := .long) (by decide) rfl rfl (g := (mkF m 15 #[.val (.ref a), .val (.long ts), .second, .val (.ref m1), .val (.ref m2), .val hv, .val (.long af), .second, .val (.int nd)] [(.long (-9223372036854775808 : Int64)), (.ref a)])) rfl rfl (hb hby d1_15)
  refine own_st st15 ?_
  have f16 := f3.wr W15
  have f17 := f5.other W15 (Or.inr (slot_ne (Or.inr (hw _ (List.mem_of_getElem? (i := 24) rfl))) (Or.inl (hw _ (List.mem_of_getElem? (i := 22) rfl))) (by decide) (t := .long) (t' := .long) (by decide) (by decide)))
  have f18 := f6.other W15 (Or.inr (slot_ne (Or.inr (hw _ (List.mem_of_getElem? (i := 26) rfl))) (Or.inl (hw _ (List.mem_of_getElem? (i := 22) rfl))) (by decide) (t := (.object "java/lang/String")) (t' := .long) (by decide) (by decide)))
  have f19 := f7.other W15 (Or.inr (slot_ne (Or.inr (hw _ (List.mem_of_getElem? (i := 28) rfl))) (Or.inl (hw _ (List.mem_of_getElem? (i := 22) rfl))) (by decide) (t := (.object "java/lang/String")) (t' := .long) (by decide) (by decide)))
  have f20 := f8.other W15 (Or.inr (slot_ne (Or.inl (hw _ (List.mem_of_getElem? (i := 30) rfl))) (Or.inl (hw _ (List.mem_of_getElem? (i := 22) rfl))) (by decide) (t := (.array .byte)) (t' := .long) (by decide) (by decide)))
  have f21 := f9.other W15 (Or.inr (slot_ne (Or.inr (hw _ (List.mem_of_getElem? (i := 32) rfl))) (Or.inl (hw _ (List.mem_of_getElem? (i := 22) rfl))) (by decide) (t := .long) (t' := .long) (by decide) (by decide)))
  have f22 := f10.other W15 (Or.inr (slot_ne (Or.inr (hw _ (List.mem_of_getElem? (i := 34) rfl))) (Or.inl (hw _ (List.mem_of_getElem? (i := 22) rfl))) (by decide) (t := .boolean) (t' := .long) (by decide) (by decide)))
  have f23 := f14.other W15 (Or.inr (slot_ne (Or.inl (hw _ (List.mem_of_getElem? (i := 20) rfl))) (Or.inl (hw _ (List.mem_of_getElem? (i := 22) rfl))) (by decide) (t := .long) (t' := .long) (by decide) (by decide)))
  have N24 := Fr.snoc X15 N11 g_a
  have Z25 : n0 ≤ h15.size := Nat.le_trans Z12 (Nat.le_of_eq W15.size.symm)
  have K26 : Keep h0 h15 [a] := K13.wr W15 (Or.inl (List.mem_of_getElem? (i := 0) rfl))
  have f27 := f4.same W15
  show own_Go _ _ _ _ T15 (mkF m 18 _ [])
  refine own_st (fun t k => XS.aloadN X15.here hx rfl (hb hby d1_18) rfl rfl k) ?_
  show own_Go _ _ _ _ T15 (mkF m 19 _ [(.ref a)])
  refine own_st (fun t k => XS.lloadN X15.here hx rfl (hb hby d1_19) rfl k) ?_
  show own_Go _ _ _ _ T15 (mkF m 20 _ [(.long ts), (.ref a)])
  obtain ⟨T28, h28, X28, e28, W28, st28⟩ := putF X15 hx hZ hown (host := "") (Or.inl (hw _ (List.mem_of_getElem? (i := 23) rfl))) Via.refl e15 f17 f16 (Or.inr ⟨(hw _ (List.mem_of_getElem? (i := 24) rfl)), rfl, hnm⟩) (hw _ (List.mem_of_getElem? (i := 2) rfl)) (ty := .long) (by decide) rfl rfl (g := (mkF m 20 #[.val (.ref a), .val (.long ts), .second, .val (.ref m1), .val (.ref m2), .val hv, .val (.long af), .second, .val (.int nd)] [(.long ts), (.ref a)])) rfl rfl (hb hby d1_20)
  refine own_st st28 ?_
  have f29 := f16.wr W28
  have f30 := f18.other W28 (Or.inr (slot_ne (Or.inr (hw _ (List.mem_of_getElem? (i := 26) rfl))) (Or.inr (hw _ (List.mem_of_getElem? (i := 24) rfl))) (by decide) (t := (.object "java/lang/String")) (t' := .long) (by decide) (by decide)))
  have f31 := f19.other W28 (Or.inr (slot_ne (Or.inr (hw _ (List.mem_of_getElem? (i := 28) rfl))) (Or.inr (hw _ (List.mem_of_getElem? (i := 24) rfl))) (by decide) (t := (.object "java/lang/String")) (t' := .long) (by decide) (by decide)))
  have f32 := f20.other W28 (Or.inr (slot_ne (Or.inl (hw _ (List.mem_of_getElem? (i := 30) rfl))) (Or.inr (hw _ (List.mem_of_getElem? (i := 24) rfl))) (by decide) (t := (.array .byte)) (t' := .long) (by decide) (by decide)))
  have f33 := f21.other W28 (Or.inr (slot_ne (Or.inr (hw _ (List.mem_of_getElem? (i := 32) rfl))) (Or.inr (hw _ (List.mem_of_getElem? (i := 24) rfl))) (by decide) (t := .long) (t' := .long) (by decide) (by decide)))
  have f34 := f22.other W28 (Or.inr (slot_ne (Or.inr (hw _ (List.mem_of_getElem? (i := 34) rfl))) (Or.inr (hw _ (List.mem_of_getElem? (i := 24) rfl))) (by decide) (t := .boolean) (t' := .long) (by decide) (by decide)))
  have f35 := f23.other W28 (Or.inr (slot_ne (Or.inl (hw _ (List.mem_of_getElem? (i := 20) rfl))) (Or.inr (hw _ (List.mem_of_getElem? (i := 24) rfl))) (by decide) (t := .long) (t' := .long) (by decide) (by decide)))
  have f36 := f27.other W28 (Or.inr (slot_ne (Or.inl (hw _ (List.mem_of_getElem? (i := 22) rfl))) (Or.inr (hw _ (List.mem_of_getElem? (i := 24) rfl))) (by decide) (t := .long) (t' := .long) (by decide) (by decide)))
  have N37 := Fr.snoc X28 N24 g_a
  have Z38 : n0 ≤ h28.size := Nat.le_trans Z25 (Nat.le_of_eq W28.size.symm)
  have K39 : Keep h0 h28 [a] := K26.wr W28 (Or.inl (List.mem_of_getElem? (i := 0) rfl))
  have f40 := f17.same W28
  show own_Go _ _ _ _ T28 (mkF m 23 _ [])
  refine own_st (fun t k => XS.aloadN X28.here hx rfl (hb hby d1_23) rfl rfl k) ?_
  show own_Go _ _ _ _ T28 (mkF m 24 _ [(.ref a)])
  refine own_st (fun t k => XS.aloadN X28.here hx rfl (hb hby d1_24) rfl rfl k) ?_
  show own_Go _ _ _ _ T28 (mkF m 25 _ [(.ref m1), (.ref a)])
  obtain ⟨T41, h41, X41, e41, W41, st41⟩ := putF X28 hx hZ hown (host := "") (Or.inl (hw _ (List.mem_of_getElem? (i := 25) rfl))) Via.refl e28 f30 f29 (Or.inr ⟨(hw _ (List.mem_of_getElem? (i := 26) rfl)), rfl, hnm⟩) (hw _ (List.mem_of_getElem? (i := 2) rfl)) (ty := (.object "java/lang/String")) (by decide) rfl rfl (g := (mkF m 25 #[.val (.ref a), .val (.long ts), .second, .val (.ref m1), .val (.ref m2), .val hv, .val (.long af), .second, .val (.int nd)] [(.ref m1), (.ref a)])) rfl rfl (hb hby d1_25)
  refine own_st st41 ?_
  have f42 := f29.wr W41
  have f43 := f31.other W41 (Or.inr (slot_ne (Or.inr (hw _ (List.mem_of_getElem? (i := 28) rfl))) (Or.inr (hw _ (List.mem_of_getElem? (i := 26) rfl))) (by decide) (t := (.object "java/lang/String")) (t' := (.object "java/lang/String")) (by decide) (by decide)))
  have f44 := f32.other W41 (Or.inr (slot_ne (Or.inl (hw _ (List.mem_of_getElem? (i := 30) rfl))) (Or.inr (hw _ (List.mem_of_getElem? (i := 26) rfl))) (by decide) (t := (.array .byte)) (t' := (.object "java/lang/String")) (by decide) (by decide)))
  have f45 := f33.other W41 (Or.inr (slot_ne (Or.inr (hw _ (List.mem_of_getElem? (i := 32) rfl))) (Or.inr (hw _ (List.mem_of_getElem? (i := 26) rfl))) (by decide) (t := .long) (t' := (.object "java/lang/String")) (by decide) (by decide)))
  have f46 := f34.other W41 (Or.inr (slot_ne (Or.inr (hw _ (List.mem_of_getElem? (i := 34) rfl))) (Or.inr (hw _ (List.mem_of_getElem? (i := 26) rfl))) (by decide) (t := .boolean) (t' := (.object "java/lang/String")) (by decide) (by decide)))
  have f47 := f35.other W41 (Or.inr (slot_ne (Or.inl (hw _ (List.mem_of_getElem? (i := 20) rfl))) (Or.inr (hw _ (List.mem_of_getElem? (i := 26) rfl))) (by decide) (t := .long) (t' := (.object "java/lang/String")) (by decide) (by decide)))
  have f48 := f36.other W41 (Or.inr (slot_ne (Or.inl (hw _ (List.mem_of_getElem? (i := 22) rfl))) (Or.inr (hw _ (List.mem_of_getElem? (i := 26) rfl))) (by decide) (t := .long) (t' := (.object "java/lang/String")) (by decide) (by decide)))
  have f49 := f40.other W41 (Or.inr (slot_ne (Or.inr (hw _ (List.mem_of_getElem? (i := 24) rfl))) (Or.inr (hw _ (List.mem_of_getElem? (i := 26) rfl))) (by decide) (t := .long) (t' := (.object "java/lang/String")) (by decide) (by decide)))
  have N50 := Fr.snoc X41 N37 g_a
  have Z51 : n0 ≤ h41.size := Nat.le_trans Z38 (Nat.le_of_eq W41.size.symm)
  have K52 : Keep h0 h41 [a] := K39.wr W41 (Or.inl (List.mem_of_getElem? (i := 0) rfl))
  have f53 := f30.same W41
  show own_Go _ _ _ _ T41 (mkF m 28 _ [])
  refine own_st (fun t k => XS.aloadN X41.here hx rfl (hb hby d1_28) rfl rfl k) ?_
  show own_Go _ _ _ _ T41 (mkF m 29 _ [(.ref a)])
  refine own_st (fun t k => XS.aload X41.here hx rfl (hb hby d1_29) rfl rfl k) ?_
  show own_Go _ _ _ _ T41 (mkF m 31 _ [(.ref m2), (.ref a)])
  obtain ⟨T54, h54, X54, e54, W54, st54⟩ := putF X41 hx hZ hown (host := "") (Or.inl (hw _ (List.mem_of_getElem? (i := 27) rfl))) Via.refl e41 f43 f42 (Or.inr ⟨(hw _ (List.mem_of_getElem? (i := 28) rfl)), rfl, hnm⟩) (hw _ (List.mem_of_getElem? (i := 2) rfl)) (ty := (.object "java/lang/String")) (by decide) rfl rfl (g := (mkF m 31 #[.val (.ref a), .val (.long ts), .second, .val (.ref m1), .val (.ref m2), .val hv, .val (.long af), .second, .val (.int nd)] [(.ref m2), (.ref a)])) rfl rfl (hb hby d1_31)
  refine own_st st54 ?_
  have f55 := f42.wr W54
  have f56 := f44.other W54 (Or.inr (slot_ne (Or.inl (hw _ (List.mem_of_getElem? (i := 30) rfl))) (Or.inr (hw _ (List.mem_of_getElem? (i := 28) rfl))) (by decide) (t := (.array .byte)) (t' := (.object "java/lang/String")) (by decide) (by decide)))
  have f57 := f45.other W54 (Or.inr (slot_ne (Or.inr (hw _ (List.mem_of_getElem? (i := 32) rfl))) (Or.inr (hw _ (List.mem_of_getElem? (i := 28) rfl))) (by decide) (t := .long) (t' := (.object "java/lang/String")) (by decide) (by decide)))
  have f58 := f46.other W54 (Or.inr (slot_ne (Or.inr (hw _ (List.mem_of_getElem? (i := 34) rfl))) (Or.inr (hw _ (List.mem_of_getElem? (i := 28) rfl))) (by decide) (t := .boolean) (t' := (.object "java/lang/String")) (by decide) (by decide)))
  have f59 := f47.other W54 (Or.inr (slot_ne (Or.inl (hw _ (List.mem_of_getElem? (i := 20) rfl))) (Or.inr (hw _ (List.mem_of_getElem? (i := 28) rfl))) (by decide) (t := .long) (t' := (.object "java/lang/String")) (by decide) (by decide)))
  have f60 := f48.other W54 (Or.inr (slot_ne (Or.inl (hw _ (List.mem_of_getElem? (i := 22) rfl))) (Or.inr (hw _ (List.mem_of_getElem? (i := 28) rfl))) (by decide) (t := .long) (t' := (.object "java/lang/String")) (by decide) (by decide)))
  have f61 := f49.other W54 (Or.inr (slot_ne (Or.inr (hw _ (List.mem_of_getElem? (i := 24) rfl))) (Or.inr (hw _ (List.mem_of_getElem? (i := 28) rfl))) (by decide) (t := .long) (t' := (.object "java/lang/String")) (by decide) (by decide)))
  have f62 := f53.other W54 (Or.inr (slot_ne (Or.inr (hw _ (List.mem_of_getElem? (i := 26) rfl))) (Or.inr (hw _ (List.mem_of_getElem? (i := 28) rfl))) (by decide) (t := (.object "java/lang/String")) (t' := (.object "java/lang/String")) (by decide) (by decide)))
  have N63 := Fr.snoc X54 N50 g_a
  have Z64 : n0 ≤ h54.size := Nat.le_trans Z51 (Nat.le_of_eq W54.size.symm)
  have K65 : Keep h0 h54 [a] := K52.wr W54 (Or.inl (List.mem_of_getElem? (i := 0) rfl))
  have f66 := f43.same W54
  show own_Go _ _ _ _ T54 (mkF m 34 _ [])
  refine own_st (fun t k => XS.aloadN X54.here hx rfl (hb hby d1_34) rfl rfl k) ?_
  show own_Go _ _ _ _ T54 (mkF m 35 _ [(.ref a)])
  refine own_st (fun t k => XS.aload X54.here hx rfl (hb hby d1_35) rfl h_hv k) ?_
  show own_Go _ _ _ _ T54 (mkF m 37 _ [hv, (.ref a)])
  obtain ⟨T67, h67, X67, e67, W67, st67⟩ := putF X54 hx hZ hown (host := "") (Or.inl (hw _ (List.mem_of_getElem? (i := 29) rfl))) Via.refl e54 f56 f55 (Or.inl (hw _ (List.mem_of_getElem? (i := 30) rfl))) (hw _ (List.mem_of_getElem? (i := 2) rfl)) (ty := (.array .byte)) (by decide) (own_nW rfl h_hv) (own_fW rfl h_hv) (g := (mkF m 37 #[.val (.ref a), .val (.long ts), .second, .val (.ref m1), .val (.ref m2), .val hv, .val (.long af), .second, .val (.int nd)] [hv, (.ref a)])) rfl rfl (hb hby d1_37)
  refine own_st st67 ?_
  have f68 := f55.wr W67
  have f69 := f57.other W67 (Or.inr (slot_ne (Or.inr (hw _ (List.mem_of_getElem? (i := 32) rfl))) (Or.inl (hw _ (List.mem_of_getElem? (i := 30) rfl))) (by decide) (t := .long) (t' := (.array .byte)) (by decide) (by decide)))
  have f70 := f58.other W67 (Or.inr (slot_ne (Or.inr (hw _ (List.mem_of_getElem? (i := 34) rfl))) (Or.inl (hw _ (List.mem_of_getElem? (i := 30) rfl))) (by decide) (t := .boolean) (t' := (.array .byte)) (by decide) (by decide)))
  have f71 := f59.other W67 (Or.inr (slot_ne (Or.inl (hw _ (List.mem_of_getElem? (i := 20) rfl))) (Or.inl (hw _ (List.mem_of_getElem? (i := 30) rfl))) (by decide) (t := .long) (t' := (.array .byte)) (by decide) (by decide)))
  have f72 := f60.other W67 (Or.inr (slot_ne (Or.inl (hw _ (List.mem_of_getElem? (i := 22) rfl))) (Or.inl (hw _ (List.mem_of_getElem? (i := 30) rfl))) (by decide) (t := .long) (t' := (.array .byte)) (by decide) (by decide)))
  have f73 := f61.other W67 (Or.inr (slot_ne (Or.inr (hw _ (List.mem_of_getElem? (i := 24) rfl))) (Or.inl (hw _ (List.mem_of_getElem? (i := 30) rfl))) (by decide) (t := .long) (t' := (.array .byte)) (by decide) (by decide)))
  have f74 := f62.other W67 (Or.inr (slot_ne (Or.inr (hw _ (List.mem_of_getElem? (i := 26) rfl))) (Or.inl (hw _ (List.mem_of_getElem? (i := 30) rfl))) (by decide) (t := (.object "java/lang/String")) (t' := (.array .byte)) (by decide) (by decide)))
  have f75 := f66.other W67 (Or.inr (slot_ne (Or.inr (hw _ (List.mem_of_getElem? (i := 28) rfl))) (Or.inl (hw _ (List.mem_of_getElem? (i := 30) rfl))) (by decide) (t := (.object "java/lang/String")) (t' := (.array .byte)) (by decide) (by decide)))
  have N76 := Fr.snoc X67 N63 g_a
  have Z77 : n0 ≤ h67.size := Nat.le_trans Z64 (Nat.le_of_eq W67.size.symm)
  have K78 : Keep h0 h67 [a] := K65.wr W67 (Or.inl (List.mem_of_getElem? (i := 0) rfl))
  have f79 := f56.same W67
  show own_Go _ _ _ _ T67 (mkF m 40 _ [])
  refine own_st (fun t k => XS.aloadN X67.here hx rfl (hb hby d1_40) rfl rfl k) ?_
  show own_Go _ _ _ _ T67 (mkF m 41 _ [(.ref a)])
  refine own_st (fun t k => XS.lload X67.here hx rfl (hb hby d1_41) rfl k) ?_
  show own_Go _ _ _ _ T67 (mkF m 43 _ [(.long af), (.ref a)])
  obtain ⟨T80, h80, X80, e80, W80, st80⟩ := putF X67 hx hZ hown (host := "") (Or.inl (hw _ (List.mem_of_getElem? (i := 31) rfl))) Via.refl e67 f69 f68 (Or.inr ⟨(hw _ (List.mem_of_getElem? (i := 32) rfl)), rfl, hnm⟩) (hw _ (List.mem_of_getElem? (i := 2) rfl)) (ty := .long) (by decide) rfl rfl (g := (mkF m 43 #[.val (.ref a), .val (.long ts), .second, .val (.ref m1), .val (.ref m2), .val hv, .val (.long af), .second, .val (.int nd)] [(.long af), (.ref a)])) rfl rfl (hb hby d1_43)
  refine own_st st80 ?_
  have f81 := f68.wr W80
  have f82 := f70.other W80 (Or.inr (slot_ne (Or.inr (hw _ (List.mem_of_getElem? (i := 34) rfl))) (Or.inr (hw _ (List.mem_of_getElem? (i := 32) rfl))) (by decide) (t := .boolean) (t' := .long) (by decide) (by decide)))
  have f83 := f71.other W80 (Or.inr (slot_ne (Or.inl (hw _ (List.mem_of_getElem? (i := 20) rfl))) (Or.inr (hw _ (List.mem_of_getElem? (i := 32) rfl))) (by decide) (t := .long) (t' := .long) (by decide) (by decide)))
  have f84 := f72.other W80 (Or.inr (slot_ne (Or.inl (hw _ (List.mem_of_getElem? (i := 22) rfl))) (Or.inr (hw _ (List.mem_of_getElem? (i := 32) rfl))) (by decide) (t := .long) (t' := .long) (by decide) (by decide)))
  have f85 := f73.other W80 (Or.inr (slot_ne (Or.inr (hw _ (List.mem_of_getElem? (i := 24) rfl))) (Or.inr (hw _ (List.mem_of_getElem? (i := 32) rfl))) (by decide) (t := .long) (t' := .long) (by decide) (by decide)))
  have f86 := f74.other W80 (Or.inr (slot_ne (Or.inr (hw _ (List.mem_of_getElem? (i := 26) rfl))) (Or.inr (hw _ (List.mem_of_getElem? (i := 32) rfl))) (by decide) (t := (.object "java/lang/String")) (t' := .long) (by decide) (by decide)))
  have f87 := f75.other W80 (Or.inr (slot_ne (Or.inr (hw _ (List.mem_of_getElem? (i := 28) rfl))) (Or.inr (hw _ (List.mem_of_getElem? (i := 32) rfl))) (by decide) (t := (.object "java/lang/String")) (t' := .long) (by decide) (by decide)))
  have f88 := f79.other W80 (Or.inr (slot_ne (Or.inl (hw _ (List.mem_of_getElem? (i := 30) rfl))) (Or.inr (hw _ (List.mem_of_getElem? (i := 32) rfl))) (by decide) (t := (.array .byte)) (t' := .long) (by decide) (by decide)))
  have N89 := Fr.snoc X80 N76 g_a
  have Z90 : n0 ≤ h80.size := Nat.le_trans Z77 (Nat.le_of_eq W80.size.symm)
  have K91 : Keep h0 h80 [a] := K78.wr W80 (Or.inl (List.mem_of_getElem? (i := 0) rfl))
  have f92 := f69.same W80
  show own_Go _ _ _ _ T80 (mkF m 46 _ [])
  refine own_st (fun t k => XS.aloadN X80.here hx rfl (hb hby d1_46) rfl rfl k) ?_
  show own_Go _ _ _ _ T80 (mkF m 47 _ [(.ref a)])
  refine own_st (fun t k => XS.iload X80.here hx rfl (hb hby d1_47) rfl k) ?_
  show own_Go _ _ _ _ T80 (mkF m 49 _ [(.int nd), (.ref a)])
  obtain ⟨T93, h93, X93, e93, W93, st93⟩ := putF X80 hx hZ hown (host := "") (Or.inl (hw _ (List.mem_of_getElem? (i := 33) rfl))) Via.refl e80 f82 f81 (Or.inr ⟨(hw _ (List.mem_of_getElem? (i := 34) rfl)), rfl, hnm⟩) (hw _ (List.mem_of_getElem? (i := 2) rfl)) (ty := .boolean) (by decide) (own_nb hnd) (own_fb hnd) (g := (mkF m 49 #[.val (.ref a), .val (.long ts), .second, .val (.ref m1), .val (.ref m2), .val hv, .val (.long af), .second, .val (.int nd)] [(.int nd), (.ref a)])) rfl rfl (hb hby d1_49)
  refine own_st st93 ?_
  have f94 := f81.wr W93
  have f95 := f83.other W93 (Or.inr (slot_ne (Or.inl (hw _ (List.mem_of_getElem? (i := 20) rfl))) (Or.inr (hw _ (List.mem_of_getElem? (i := 34) rfl))) (by decide) (t := .long) (t' := .boolean) (by decide) (by decide)))
  have f96 := f84.other W93 (Or.inr (slot_ne (Or.inl (hw _ (List.mem_of_getElem? (i := 22) rfl))) (Or.inr (hw _ (List.mem_of_getElem? (i := 34) rfl))) (by decide) (t := .long) (t' := .boolean) (by decide) (by decide)))
  have f97 := f85.other W93 (Or.inr (slot_ne (Or.inr (hw _ (List.mem_of_getElem? (i := 24) rfl))) (Or.inr (hw _ (List.mem_of_getElem? (i := 34) rfl))) (by decide) (t := .long) (t' := .boolean) (by decide) (by decide)))
  have f98 := f86.other W93 (Or.inr (slot_ne (Or.inr (hw _ (List.mem_of_getElem? (i := 26) rfl))) (Or.inr (hw _ (List.mem_of_getElem? (i := 34) rfl))) (by decide) (t := (.object "java/lang/String")) (t' := .boolean) (by decide) (by decide)))
  have f99 := f87.other W93 (Or.inr (slot_ne (Or.inr (hw _ (List.mem_of_getElem? (i := 28) rfl))) (Or.inr (hw _ (List.mem_of_getElem? (i := 34) rfl))) (by decide) (t := (.object "java/lang/String")) (t' := .boolean) (by decide) (by decide)))
  have f100 := f88.other W93 (Or.inr (slot_ne (Or.inl (hw _ (List.mem_of_getElem? (i := 30) rfl))) (Or.inr (hw _ (List.mem_of_getElem? (i := 34) rfl))) (by decide) (t := (.array .byte)) (t' := .boolean) (by decide) (by decide)))
  have f101 := f92.other W93 (Or.inr (slot_ne (Or.inr (hw _ (List.mem_of_getElem? (i := 32) rfl))) (Or.inr (hw _ (List.mem_of_getElem? (i := 34) rfl))) (by decide) (t := .long) (t' := .boolean) (by decide) (by decide)))
  have N102 := Fr.snoc X93 N89 g_a
  have Z103 : n0 ≤ h93.size := Nat.le_trans Z90 (Nat.le_of_eq W93.size.symm)
  have K104 : Keep h0 h93 [a] := K91.wr W93 (Or.inl (List.mem_of_getElem? (i := 0) rfl))
  have f105 := f82.same W93
  show own_Go _ _ _ _ T93 (mkF m 52 _ [])
  subst hPq
  refine own_out X93 (v := none) (fun _ => rfl) Bd.notSynchronized (fun fs hr => X93.returnOut hx Bd.returns (hb hby d1_52) hr) (by decide) (by decide) ?_
  show Q1 Z a ts m1 m2 hv af nd u0 u1 u2 u3 u4 u5 u6 u7 h0 n0 _ T93.heap _
  rw [e93]
  exact ⟨rfl, N102, K104, f94, f97, f100, f101, f105⟩
theorem d2_0 : decode prog_16_method_7_code 0 = .ok (.aload_n 0, 1) := by decide +kernel
theorem d2_1 : decode prog_16_method_7_code 1 = .ok (.getfield 30, 3) := by decide +kernel
theorem d2_4 : decode prog_16_method_7_code 4 = .ok (.ifnonnull 8, 3) := by decide +kernel
theorem d2_7 : decode prog_16_method_7_code 7 = .ok (.aload_n 0, 1) := by decide +kernel
theorem d2_8 : decode prog_16_method_7_code 8 = .ok (.aload_n 1, 1) := by decide +kernel
theorem d2_9 : decode prog_16_method_7_code 9 = .ok (.putfield 30, 3) := by decide +kernel
theorem d2_12 : decode prog_16_method_7_code 12 = .ok (.return_, 1) := by decide +kernel
theorem own_pn2 : plainName "com/example/antientropy/antientropy/sds/LogEntry" = true := by first | (simp [plainName, overriddenIn]; done) | decide +kernel
theorem own_ef2 (m : MethodId) (a : Addr) (hv : Value) (h_hv : hv.isRef = true) : entryFrame m #[(.ref a), hv] 2 = mkF m 0 #[.val (.ref a), .val hv] [] := by
  rcases ref_cases h_hv with rfl | ⟨_, rfl⟩ <;> first | (simp [entryFrame, mkF, argsToLocals, Value.category]; done) | rfl
def Q2 (Z : State) (a : Addr) (hv : Value) (ts : Int64) (fv : Value) (af : Int64) (nd : Int32) (h0 : Heap) (n0 : Nat) (v : Option Value) (h : Heap) (L : List Loc) : Prop := ∃ (nv : Value), v = none ∧ Fr n0 L ∧ Keep h0 h [a] ∧ Exa Z h a "com/example/antientropy/antientropy/sds/LogEntry" ∧ Fld Z h a "com/example/antientropy/antientropy/sds/LogEntry" "lamportTimestamp" "J" (.long ts) ∧ Fld Z h a "com/example/antientropy/antientropy/sds/LogEntry" "retrievalHint" "[B" nv ∧ Fld Z h a "com/example/antientropy/antientropy/sds/LogEntry" "enteredAfter" "J" (.long af) ∧ Fld Z h a "com/example/antientropy/antientropy/sds/LogEntry" "namedBeforeItCame" "Z" (.int nd) ∧ nv = (if fv = Value.null then hv else fv) ∧ nv.isRef = true
set_option maxRecDepth 65536 in
set_option maxHeartbeats 4000000 in
theorem rm2 (l : Launch) (Z : State) (a0 : Array Value) (hw : ∀ d ∈ tables_1, d.before a0 Z = true) (ws : List Jvm.Cond) (a : Addr) (hv : Value) (ts : Int64) (fv : Value) (af : Int64) (nd : Int32) (h0 : Heap) (n0 : Nat) (Z0 : n0 ≤ h0.size) (F0 : Exa Z h0 a "com/example/antientropy/antientropy/sds/LogEntry") (F1 : Fld Z h0 a "com/example/antientropy/antientropy/sds/LogEntry" "lamportTimestamp" "J" (.long ts)) (F2 : Fld Z h0 a "com/example/antientropy/antientropy/sds/LogEntry" "retrievalHint" "[B" fv) (F3 : Fld Z h0 a "com/example/antientropy/antientropy/sds/LogEntry" "enteredAfter" "J" (.long af)) (F4 : Fld Z h0 a "com/example/antientropy/antientropy/sds/LogEntry" "namedBeforeItCame" "Z" (.int nd)) (h_hv : hv.isRef = true) (h_fv : fv.isRef = true) (g_a : n0 ≤ a) :
    MetFree l (⟨"com/example/antientropy/antientropy/sds/LogEntry", "noteRetrievalHint", "([B)V"⟩ : MethodName) (head1 (Jvm.Cond.code (⟨"com/example/antientropy/antientropy/sds/LogEntry", "noteRetrievalHint", "([B)V"⟩ : MethodName) prog_16_method_7_code 2 none :: ws) ({ frames := 0, cells := 0, slots := 0, locals := 0 } : Room)) (fun aW U => aW = #[(.ref a), hv] ∧ Z.Warmed39 U.vm ∧ U.heap = h0) (fun _ _ _ _ _ => True) (fun _ U o U' => ∃ v L, o = .returned v ∧ Q2 Z a hv ts fv af nd h0 n0 v U'.heap L ∧ FrameEnd U o U' L ({ frames := 0, cells := 0, slots := 0, locals := 0 } : Room).cells ({ frames := 0, cells := 0, slots := 0, locals := 0 } : Room).slots) := by
  refine MetFree.of_bodySF (plainFor_of_name own_pn2) hisR ?_
  intro p e s m args below meth c s₁ Bd hml0 hP hK
  obtain ⟨rfl, hZ, hh⟩ := hP
  have hx := Bd.exec
  have hby := Bd.bytes
  have hml : c.maxLocals = 2 := hml0
  have hown : s.vm.findClass "com/example/antientropy/antientropy/sds/LogEntry" = some m.cls := findClass_of_methodNamed Bd.named
  have hnm := (name_of_methodNamed Bd.named Bd.method).1
  have X0 : Stand p l e ({ frames := 0, cells := 0, slots := 0, locals := 0 } : Room) s m #[(.ref a), hv] below meth c s₁ [] 0 0 := Stand.of_body Bd
  have e0 : s₁.heap = h0 := by rw [← hh, Bd.state]; rfl
  have N0 := Fr.nil n0
  have K0 : Keep h0 h0 [a] := Keep.refl _ _
  obtain ⟨Pq, hPq⟩ : ∃ P, P = own_P s below (fun v h L => Q2 Z a hv ts fv af nd h0 n0 v h L) ({ frames := 0, cells := 0, slots := 0, locals := 0 } : Room).cells ({ frames := 0, cells := 0, slots := 0, locals := 0 } : Room).slots := ⟨_, rfl⟩
  suffices hgo : own_Go p.tables e below Pq s₁ (mkF m 0 #[.val (.ref a), .val hv] []) by
    subst hPq
    obtain ⟨t, k1, k2, o, k3, k4⟩ := hgo
    exact ⟨t, o, castTop (own_ef2 m a hv h_hv) k1, k2, k3, k4⟩
  show own_Go _ _ _ _ s₁ (mkF m 0 #[.val (.ref a), .val hv] [])
  refine own_st (fun t k => XS.aloadN X0.here hx rfl (hb hby d2_0) rfl rfl k) ?_
  show own_Go _ _ _ _ s₁ (mkF m 1 _ [(.ref a)])
  obtain ⟨T1, X1, e1, st1⟩ := getF X0 hx hZ hown (host := "") (Or.inl (hw _ (List.mem_of_getElem? (i := 29) rfl))) Via.refl e0 F2 (g := (mkF m 1 #[.val (.ref a), .val hv] [(.ref a)])) rfl rfl (hb hby d2_1)
  refine own_st st1 ?_
  show own_Go _ _ _ _ T1 (mkF m 4 _ [fv])
  by_cases c2 : fv = Value.null
  · skip
    refine own_st (fun t k => XS.ifnonnullNo X1.here hx rfl (rest := []) (hb hby d2_4) (by show ([fv] : List Value) = .null :: []; rw [c2]) k) ?_
    show own_Go _ _ _ _ T1 (mkF m 7 _ [])
    refine own_st (fun t k => XS.aloadN X1.here hx rfl (hb hby d2_7) rfl rfl k) ?_
    show own_Go _ _ _ _ T1 (mkF m 8 _ [(.ref a)])
    refine own_st (fun t k => XS.aloadN X1.here hx rfl (hb hby d2_8) rfl h_hv k) ?_
    show own_Go _ _ _ _ T1 (mkF m 9 _ [hv, (.ref a)])
    obtain ⟨T3, h3, X3, e3, W3, st3⟩ := putF X1 hx hZ hown (host := "") (Or.inl (hw _ (List.mem_of_getElem? (i := 29) rfl))) Via.refl e1 F2 F0 (Or.inl (hw _ (List.mem_of_getElem? (i := 30) rfl))) (hw _ (List.mem_of_getElem? (i := 2) rfl)) (ty := (.array .byte)) (by decide) (own_nW rfl h_hv) (own_fW rfl h_hv) (g := (mkF m 9 #[.val (.ref a), .val hv] [hv, (.ref a)])) rfl rfl (hb hby d2_9)
    refine own_st st3 ?_
    have f4 := F0.wr W3
    have f5 := F1.other W3 (Or.inr (slot_ne (Or.inr (hw _ (List.mem_of_getElem? (i := 24) rfl))) (Or.inl (hw _ (List.mem_of_getElem? (i := 30) rfl))) (by decide) (t := .long) (t' := (.array .byte)) (by decide) (by decide)))
    have f6 := F3.other W3 (Or.inr (slot_ne (Or.inr (hw _ (List.mem_of_getElem? (i := 32) rfl))) (Or.inl (hw _ (List.mem_of_getElem? (i := 30) rfl))) (by decide) (t := .long) (t' := (.array .byte)) (by decide) (by decide)))
    have f7 := F4.other W3 (Or.inr (slot_ne (Or.inr (hw _ (List.mem_of_getElem? (i := 34) rfl))) (Or.inl (hw _ (List.mem_of_getElem? (i := 30) rfl))) (by decide) (t := .boolean) (t' := (.array .byte)) (by decide) (by decide)))
    have N8 := Fr.snoc X3 N0 g_a
    have Z9 : n0 ≤ h3.size := Nat.le_trans Z0 (Nat.le_of_eq W3.size.symm)
    have K10 : Keep h0 h3 [a] := K0.wr W3 (Or.inl (List.mem_of_getElem? (i := 0) rfl))
    have f11 := F2.same W3
    show own_Go _ _ _ _ T3 (mkF m 12 _ [])
    subst hPq
    refine own_out X3 (v := none) (fun _ => rfl) Bd.notSynchronized (fun fs hr => X3.returnOut hx Bd.returns (hb hby d2_12) hr) (by decide) (by decide) ?_
    show Q2 Z a hv ts fv af nd h0 n0 _ T3.heap _
    rw [e3]
    exact ⟨hv, rfl, N8, K10, f4, f5, f11, f6, f7, (if_pos c2).symm, h_hv⟩
  · skip
    obtain ⟨an12, han12⟩ := own_refOf h_fv c2
    refine own_st (fun t k => XS.ifnonnullYes X1.here hx rfl (b := an12) (rest := []) (pc0 := 4) (pc' := 12) rfl (hb hby d2_4) (by show ([fv] : List Value) = .ref an12 :: []; rw [han12]) (by decide) (by decide) k) ?_
    show own_Go _ _ _ _ T1 (mkF m 12 _ [])
    subst hPq
    refine own_out X1 (v := none) (fun _ => rfl) Bd.notSynchronized (fun fs hr => X1.returnOut hx Bd.returns (hb hby d2_12) hr) (by decide) (by decide) ?_
    show Q2 Z a hv ts fv af nd h0 n0 _ T1.heap _
    rw [e1]
    exact ⟨fv, rfl, N0, K0, F0, F1, F2, F3, F4, (if_neg c2).symm, h_fv⟩
theorem d3_0 : decode prog_16_method_6_code 0 = .ok (.aload_n 0, 1) := by decide +kernel
theorem d3_1 : decode prog_16_method_6_code 1 = .ok (.getfield 30, 3) := by decide +kernel
theorem d3_4 : decode prog_16_method_6_code 4 = .ok (.areturn, 1) := by decide +kernel
theorem own_pn3 : plainName "com/example/antientropy/antientropy/sds/LogEntry" = true := by first | (simp [plainName, overriddenIn]; done) | decide +kernel
theorem own_ef3 (m : MethodId) (a : Addr) : entryFrame m #[(.ref a)] 1 = mkF m 0 #[.val (.ref a)] [] := by first | (simp [entryFrame, mkF, argsToLocals, Value.category]; done) | rfl
def Q3 (Z : State) (a : Addr) (fv : Value) (h0 : Heap) (n0 : Nat) (v : Option Value) (h : Heap) (L : List Loc) : Prop := v = some fv ∧ Fr n0 L ∧ h = h0
set_option maxRecDepth 65536 in
set_option maxHeartbeats 4000000 in
theorem rm3 (l : Launch) (Z : State) (a0 : Array Value) (hw : ∀ d ∈ tables_1, d.before a0 Z = true) (ws : List Jvm.Cond) (a : Addr) (fv : Value) (h0 : Heap) (n0 : Nat) (Z0 : n0 ≤ h0.size) (F0 : Exa Z h0 a "com/example/antientropy/antientropy/sds/LogEntry") (F1 : Fld Z h0 a "com/example/antientropy/antientropy/sds/LogEntry" "retrievalHint" "[B" fv) (h_fv : fv.isRef = true) :
    MetFree l (⟨"com/example/antientropy/antientropy/sds/LogEntry", "retrievalHint", "()[B"⟩ : MethodName) (head1 (Jvm.Cond.code (⟨"com/example/antientropy/antientropy/sds/LogEntry", "retrievalHint", "()[B"⟩ : MethodName) prog_16_method_6_code 1 (some (.array .byte)) :: ws) ({ frames := 0, cells := 0, slots := 0, locals := 0 } : Room)) (fun aW U => aW = #[(.ref a)] ∧ Z.Warmed39 U.vm ∧ U.heap = h0) (fun _ _ _ _ _ => True) (fun _ U o U' => ∃ v L, o = .returned v ∧ Q3 Z a fv h0 n0 v U'.heap L ∧ FrameEnd U o U' L ({ frames := 0, cells := 0, slots := 0, locals := 0 } : Room).cells ({ frames := 0, cells := 0, slots := 0, locals := 0 } : Room).slots) := by
  refine MetFree.of_bodySF (plainFor_of_name own_pn3) hisR ?_
  intro p e s m args below meth c s₁ Bd hml0 hP hK
  obtain ⟨rfl, hZ, hh⟩ := hP
  have hx := Bd.exec
  have hby := Bd.bytes
  have hml : c.maxLocals = 1 := hml0
  have hown : s.vm.findClass "com/example/antientropy/antientropy/sds/LogEntry" = some m.cls := findClass_of_methodNamed Bd.named
  have hnm := (name_of_methodNamed Bd.named Bd.method).1
  have X0 : Stand p l e ({ frames := 0, cells := 0, slots := 0, locals := 0 } : Room) s m #[(.ref a)] below meth c s₁ [] 0 0 := Stand.of_body Bd
  have e0 : s₁.heap = h0 := by rw [← hh, Bd.state]; rfl
  have N0 := Fr.nil n0
  obtain ⟨Pq, hPq⟩ : ∃ P, P = own_P s below (fun v h L => Q3 Z a fv h0 n0 v h L) ({ frames := 0, cells := 0, slots := 0, locals := 0 } : Room).cells ({ frames := 0, cells := 0, slots := 0, locals := 0 } : Room).slots := ⟨_, rfl⟩
  suffices hgo : own_Go p.tables e below Pq s₁ (mkF m 0 #[.val (.ref a)] []) by
    subst hPq
    obtain ⟨t, k1, k2, o, k3, k4⟩ := hgo
    exact ⟨t, o, castTop (own_ef3 m a) k1, k2, k3, k4⟩
  show own_Go _ _ _ _ s₁ (mkF m 0 #[.val (.ref a)] [])
  refine own_st (fun t k => XS.aloadN X0.here hx rfl (hb hby d3_0) rfl rfl k) ?_
  show own_Go _ _ _ _ s₁ (mkF m 1 _ [(.ref a)])
  obtain ⟨T1, X1, e1, st1⟩ := getF X0 hx hZ hown (host := "") (Or.inl (hw _ (List.mem_of_getElem? (i := 29) rfl))) Via.refl e0 F1 (g := (mkF m 1 #[.val (.ref a)] [(.ref a)])) rfl rfl (hb hby d3_1)
  refine own_st st1 ?_
  show own_Go _ _ _ _ T1 (mkF m 4 _ [fv])
  subst hPq
  refine own_out X1 (v := some fv) (fun h => by rw [Bd.returns] at h; cases h) Bd.notSynchronized (own_retR X1 hx (t := (.array .byte)) Bd.returns rfl h_fv rfl (hb hby d3_4)) (by decide) (by decide) ?_
  show Q3 Z a fv h0 n0 _ T1.heap _
  rw [e1]
  exact ⟨rfl, N0, rfl⟩
def own_ts (ts : Int64) : Int64 := ts
theorem d4_0 : decode prog_16_method_3_code 0 = .ok (.aload_n 0, 1) := by decide +kernel
theorem d4_1 : decode prog_16_method_3_code 1 = .ok (.getfield 20, 3) := by decide +kernel
theorem d4_4 : decode prog_16_method_3_code 4 = .ok (.lreturn, 1) := by decide +kernel
theorem own_pn4 : plainName "com/example/antientropy/antientropy/sds/LogEntry" = true := by first | (simp [plainName, overriddenIn]; done) | decide +kernel
theorem own_ef4 (m : MethodId) (a : Addr) : entryFrame m #[(.ref a)] 1 = mkF m 0 #[.val (.ref a)] [] := by first | (simp [entryFrame, mkF, argsToLocals, Value.category]; done) | rfl
def Q4 (Z : State) (a : Addr) (ts : Int64) (h0 : Heap) (n0 : Nat) (v : Option Value) (h : Heap) (L : List Loc) : Prop := v = some (.long (own_ts ts)) ∧ Fr n0 L ∧ h = h0
set_option maxRecDepth 65536 in
set_option maxHeartbeats 4000000 in
theorem rm4 (l : Launch) (Z : State) (a0 : Array Value) (hw : ∀ d ∈ tables_1, d.before a0 Z = true) (ws : List Jvm.Cond) (a : Addr) (ts : Int64) (h0 : Heap) (n0 : Nat) (Z0 : n0 ≤ h0.size) (F0 : Exa Z h0 a "com/example/antientropy/antientropy/sds/LogEntry") (F1 : Fld Z h0 a "com/example/antientropy/antientropy/sds/LogEntry" "lamportTimestamp" "J" (.long ts)) :
    MetFree l (⟨"com/example/antientropy/antientropy/sds/LogEntry", "lamportTimestamp", "()J"⟩ : MethodName) (head1 (Jvm.Cond.code (⟨"com/example/antientropy/antientropy/sds/LogEntry", "lamportTimestamp", "()J"⟩ : MethodName) prog_16_method_3_code 1 (some .long) :: ws) ({ frames := 0, cells := 0, slots := 0, locals := 0 } : Room)) (fun aW U => aW = #[(.ref a)] ∧ Z.Warmed39 U.vm ∧ U.heap = h0) (fun _ _ _ _ _ => True) (fun _ U o U' => ∃ v L, o = .returned v ∧ Q4 Z a ts h0 n0 v U'.heap L ∧ FrameEnd U o U' L ({ frames := 0, cells := 0, slots := 0, locals := 0 } : Room).cells ({ frames := 0, cells := 0, slots := 0, locals := 0 } : Room).slots) := by
  refine MetFree.of_bodySF (plainFor_of_name own_pn4) hisR ?_
  intro p e s m args below meth c s₁ Bd hml0 hP hK
  obtain ⟨rfl, hZ, hh⟩ := hP
  have hx := Bd.exec
  have hby := Bd.bytes
  have hml : c.maxLocals = 1 := hml0
  have hown : s.vm.findClass "com/example/antientropy/antientropy/sds/LogEntry" = some m.cls := findClass_of_methodNamed Bd.named
  have hnm := (name_of_methodNamed Bd.named Bd.method).1
  have X0 : Stand p l e ({ frames := 0, cells := 0, slots := 0, locals := 0 } : Room) s m #[(.ref a)] below meth c s₁ [] 0 0 := Stand.of_body Bd
  have e0 : s₁.heap = h0 := by rw [← hh, Bd.state]; rfl
  have N0 := Fr.nil n0
  obtain ⟨Pq, hPq⟩ : ∃ P, P = own_P s below (fun v h L => Q4 Z a ts h0 n0 v h L) ({ frames := 0, cells := 0, slots := 0, locals := 0 } : Room).cells ({ frames := 0, cells := 0, slots := 0, locals := 0 } : Room).slots := ⟨_, rfl⟩
  suffices hgo : own_Go p.tables e below Pq s₁ (mkF m 0 #[.val (.ref a)] []) by
    subst hPq
    obtain ⟨t, k1, k2, o, k3, k4⟩ := hgo
    exact ⟨t, o, castTop (own_ef4 m a) k1, k2, k3, k4⟩
  show own_Go _ _ _ _ s₁ (mkF m 0 #[.val (.ref a)] [])
  refine own_st (fun t k => XS.aloadN X0.here hx rfl (hb hby d4_0) rfl rfl k) ?_
  show own_Go _ _ _ _ s₁ (mkF m 1 _ [(.ref a)])
  obtain ⟨T1, X1, e1, st1⟩ := getF X0 hx hZ hown (host := "") (Or.inl (hw _ (List.mem_of_getElem? (i := 23) rfl))) Via.refl e0 F1 (g := (mkF m 1 #[.val (.ref a)] [(.ref a)])) rfl rfl (hb hby d4_1)
  refine own_st st1 ?_
  show own_Go _ _ _ _ T1 (mkF m 4 _ [(.long ts)])
  subst hPq
  refine own_out X1 (v := some (.long ts)) (fun h => by rw [Bd.returns] at h; cases h) Bd.notSynchronized (own_retJ X1 hx Bd.returns (hb hby d4_4)) (by decide) (by decide) ?_
  show Q4 Z a ts h0 n0 _ T1.heap _
  rw [e1]
  exact ⟨by subst_vars; rfl, N0, rfl⟩
def own_af (af : Int64) : Int64 := af
theorem d5_0 : decode prog_16_method_8_code 0 = .ok (.aload_n 0, 1) := by decide +kernel
theorem d5_1 : decode prog_16_method_8_code 1 = .ok (.getfield 34, 3) := by decide +kernel
theorem d5_4 : decode prog_16_method_8_code 4 = .ok (.lreturn, 1) := by decide +kernel
theorem own_pn5 : plainName "com/example/antientropy/antientropy/sds/LogEntry" = true := by first | (simp [plainName, overriddenIn]; done) | decide +kernel
theorem own_ef5 (m : MethodId) (a : Addr) : entryFrame m #[(.ref a)] 1 = mkF m 0 #[.val (.ref a)] [] := by first | (simp [entryFrame, mkF, argsToLocals, Value.category]; done) | rfl
def Q5 (Z : State) (a : Addr) (af : Int64) (h0 : Heap) (n0 : Nat) (v : Option Value) (h : Heap) (L : List Loc) : Prop := v = some (.long (own_af af)) ∧ Fr n0 L ∧ h = h0
set_option maxRecDepth 65536 in
set_option maxHeartbeats 4000000 in
theorem rm5 (l : Launch) (Z : State) (a0 : Array Value) (hw : ∀ d ∈ tables_1, d.before a0 Z = true) (ws : List Jvm.Cond) (a : Addr) (af : Int64) (h0 : Heap) (n0 : Nat) (Z0 : n0 ≤ h0.size) (F0 : Exa Z h0 a "com/example/antientropy/antientropy/sds/LogEntry") (F1 : Fld Z h0 a "com/example/antientropy/antientropy/sds/LogEntry" "enteredAfter" "J" (.long af)) :
    MetFree l (⟨"com/example/antientropy/antientropy/sds/LogEntry", "enteredAfter", "()J"⟩ : MethodName) (head1 (Jvm.Cond.code (⟨"com/example/antientropy/antientropy/sds/LogEntry", "enteredAfter", "()J"⟩ : MethodName) prog_16_method_8_code 1 (some .long) :: ws) ({ frames := 0, cells := 0, slots := 0, locals := 0 } : Room)) (fun aW U => aW = #[(.ref a)] ∧ Z.Warmed39 U.vm ∧ U.heap = h0) (fun _ _ _ _ _ => True) (fun _ U o U' => ∃ v L, o = .returned v ∧ Q5 Z a af h0 n0 v U'.heap L ∧ FrameEnd U o U' L ({ frames := 0, cells := 0, slots := 0, locals := 0 } : Room).cells ({ frames := 0, cells := 0, slots := 0, locals := 0 } : Room).slots) := by
  refine MetFree.of_bodySF (plainFor_of_name own_pn5) hisR ?_
  intro p e s m args below meth c s₁ Bd hml0 hP hK
  obtain ⟨rfl, hZ, hh⟩ := hP
  have hx := Bd.exec
  have hby := Bd.bytes
  have hml : c.maxLocals = 1 := hml0
  have hown : s.vm.findClass "com/example/antientropy/antientropy/sds/LogEntry" = some m.cls := findClass_of_methodNamed Bd.named
  have hnm := (name_of_methodNamed Bd.named Bd.method).1
  have X0 : Stand p l e ({ frames := 0, cells := 0, slots := 0, locals := 0 } : Room) s m #[(.ref a)] below meth c s₁ [] 0 0 := Stand.of_body Bd
  have e0 : s₁.heap = h0 := by rw [← hh, Bd.state]; rfl
  have N0 := Fr.nil n0
  obtain ⟨Pq, hPq⟩ : ∃ P, P = own_P s below (fun v h L => Q5 Z a af h0 n0 v h L) ({ frames := 0, cells := 0, slots := 0, locals := 0 } : Room).cells ({ frames := 0, cells := 0, slots := 0, locals := 0 } : Room).slots := ⟨_, rfl⟩
  suffices hgo : own_Go p.tables e below Pq s₁ (mkF m 0 #[.val (.ref a)] []) by
    subst hPq
    obtain ⟨t, k1, k2, o, k3, k4⟩ := hgo
    exact ⟨t, o, castTop (own_ef5 m a) k1, k2, k3, k4⟩
  show own_Go _ _ _ _ s₁ (mkF m 0 #[.val (.ref a)] [])
  refine own_st (fun t k => XS.aloadN X0.here hx rfl (hb hby d5_0) rfl rfl k) ?_
  show own_Go _ _ _ _ s₁ (mkF m 1 _ [(.ref a)])
  obtain ⟨T1, X1, e1, st1⟩ := getF X0 hx hZ hown (host := "") (Or.inl (hw _ (List.mem_of_getElem? (i := 31) rfl))) Via.refl e0 F1 (g := (mkF m 1 #[.val (.ref a)] [(.ref a)])) rfl rfl (hb hby d5_1)
  refine own_st st1 ?_
  show own_Go _ _ _ _ T1 (mkF m 4 _ [(.long af)])
  subst hPq
  refine own_out X1 (v := some (.long af)) (fun h => by rw [Bd.returns] at h; cases h) Bd.notSynchronized (own_retJ X1 hx Bd.returns (hb hby d5_4)) (by decide) (by decide) ?_
  show Q5 Z a af h0 n0 _ T1.heap _
  rw [e1]
  exact ⟨by subst_vars; rfl, N0, rfl⟩
theorem d6_0 : decode prog_16_method_9_code 0 = .ok (.aload_n 0, 1) := by decide +kernel
theorem d6_1 : decode prog_16_method_9_code 1 = .ok (.getfield 37, 3) := by decide +kernel
theorem d6_4 : decode prog_16_method_9_code 4 = .ok (.ireturn, 1) := by decide +kernel
theorem own_pn6 : plainName "com/example/antientropy/antientropy/sds/LogEntry" = true := by first | (simp [plainName, overriddenIn]; done) | decide +kernel
theorem own_ef6 (m : MethodId) (a : Addr) : entryFrame m #[(.ref a)] 1 = mkF m 0 #[.val (.ref a)] [] := by first | (simp [entryFrame, mkF, argsToLocals, Value.category]; done) | rfl
def Q6 (Z : State) (a : Addr) (nd : Int32) (h0 : Heap) (n0 : Nat) (v : Option Value) (h : Heap) (L : List Loc) : Prop := v = some (.int nd) ∧ Fr n0 L ∧ h = h0
set_option maxRecDepth 65536 in
set_option maxHeartbeats 4000000 in
theorem rm6 (l : Launch) (Z : State) (a0 : Array Value) (hw : ∀ d ∈ tables_1, d.before a0 Z = true) (ws : List Jvm.Cond) (a : Addr) (nd : Int32) (h0 : Heap) (n0 : Nat) (Z0 : n0 ≤ h0.size) (F0 : Exa Z h0 a "com/example/antientropy/antientropy/sds/LogEntry") (F1 : Fld Z h0 a "com/example/antientropy/antientropy/sds/LogEntry" "namedBeforeItCame" "Z" (.int nd)) (hnd : nd = 0 ∨ nd = 1) :
    MetFree l (⟨"com/example/antientropy/antientropy/sds/LogEntry", "namedBeforeItCame", "()Z"⟩ : MethodName) (head1 (Jvm.Cond.code (⟨"com/example/antientropy/antientropy/sds/LogEntry", "namedBeforeItCame", "()Z"⟩ : MethodName) prog_16_method_9_code 1 (some .boolean) :: ws) ({ frames := 0, cells := 0, slots := 0, locals := 0 } : Room)) (fun aW U => aW = #[(.ref a)] ∧ Z.Warmed39 U.vm ∧ U.heap = h0) (fun _ _ _ _ _ => True) (fun _ U o U' => ∃ v L, o = .returned v ∧ Q6 Z a nd h0 n0 v U'.heap L ∧ FrameEnd U o U' L ({ frames := 0, cells := 0, slots := 0, locals := 0 } : Room).cells ({ frames := 0, cells := 0, slots := 0, locals := 0 } : Room).slots) := by
  refine MetFree.of_bodySF (plainFor_of_name own_pn6) hisR ?_
  intro p e s m args below meth c s₁ Bd hml0 hP hK
  obtain ⟨rfl, hZ, hh⟩ := hP
  have hx := Bd.exec
  have hby := Bd.bytes
  have hml : c.maxLocals = 1 := hml0
  have hown : s.vm.findClass "com/example/antientropy/antientropy/sds/LogEntry" = some m.cls := findClass_of_methodNamed Bd.named
  have hnm := (name_of_methodNamed Bd.named Bd.method).1
  have X0 : Stand p l e ({ frames := 0, cells := 0, slots := 0, locals := 0 } : Room) s m #[(.ref a)] below meth c s₁ [] 0 0 := Stand.of_body Bd
  have e0 : s₁.heap = h0 := by rw [← hh, Bd.state]; rfl
  have N0 := Fr.nil n0
  obtain ⟨Pq, hPq⟩ : ∃ P, P = own_P s below (fun v h L => Q6 Z a nd h0 n0 v h L) ({ frames := 0, cells := 0, slots := 0, locals := 0 } : Room).cells ({ frames := 0, cells := 0, slots := 0, locals := 0 } : Room).slots := ⟨_, rfl⟩
  suffices hgo : own_Go p.tables e below Pq s₁ (mkF m 0 #[.val (.ref a)] []) by
    subst hPq
    obtain ⟨t, k1, k2, o, k3, k4⟩ := hgo
    exact ⟨t, o, castTop (own_ef6 m a) k1, k2, k3, k4⟩
  show own_Go _ _ _ _ s₁ (mkF m 0 #[.val (.ref a)] [])
  refine own_st (fun t k => XS.aloadN X0.here hx rfl (hb hby d6_0) rfl rfl k) ?_
  show own_Go _ _ _ _ s₁ (mkF m 1 _ [(.ref a)])
  obtain ⟨T1, X1, e1, st1⟩ := getF X0 hx hZ hown (host := "") (Or.inl (hw _ (List.mem_of_getElem? (i := 33) rfl))) Via.refl e0 F1 (g := (mkF m 1 #[.val (.ref a)] [(.ref a)])) rfl rfl (hb hby d6_1)
  refine own_st st1 ?_
  show own_Go _ _ _ _ T1 (mkF m 4 _ [(.int nd)])
  subst hPq
  refine own_out X1 (v := some (.int nd)) (fun h => by rw [Bd.returns] at h; cases h) Bd.notSynchronized (own_retZ X1 hx Bd.returns (hb hby d6_4) hnd) (by decide) (by decide) ?_
  show Q6 Z a nd h0 n0 _ T1.heap _
  rw [e1]
  exact ⟨rfl, N0, rfl⟩
theorem own_pn0 : plainName "com/example/antientropy/antientropy/sds/LogEntryNoteRetrievalHintPinLaw" = true := by first | (simp [plainName, overriddenIn]; done) | decide +kernel
theorem own_ef0 (m : MethodId) (x0 : Int64) (x1 : Int64) (x2 : Int32) (x3 : Int32) (x4 : Int32) (x5 : Int32) : entryFrame m #[(.long x0), (.long x1), (.int x2), (.int x3), (.int x4), (.int x5)] maxLocals = mkF m 0 #[.val (.long x0), .second, .val (.long x1), .second, .val (.int x2), .val (.int x3), .val (.int x4), .val (.int x5), .unset, .unset, .unset, .unset, .unset, .unset, .unset, .unset, .unset, .unset, .unset, .unset, .unset] [] := by first | (simp [entryFrame, mkF, argsToLocals, Value.category, maxLocals]; done) | rfl
def Q0 (Z : State) (x0 : Int64) (x1 : Int64) (x2 : Int32) (x3 : Int32) (x4 : Int32) (x5 : Int32) (h0 : Heap) (n0 : Nat) (v : Option Value) (h : Heap) (L : List Loc) : Prop := v = some (.int 1) ∧ Fr n0 L
theorem own_law (x0 : Int64) (x1 : Int64) (x2 : Int32) (x3 : Int32) (x4 : Int32) (x5 : Int32) (p5 : Int32) (p10 : Int32) (p15 : Int32) (p20 : Int32) (w32 : Value) (w44 : Value) (w56 : Value) (r94_nv : Value) (w103 : Value) (p110 : Int32) (r111_nv : Value) (w120 : Value) (p127 : Int32) (p142 : Int32) (p151 : Int32) (qp5 : p5 = (if (x2 &&& (1 : Int32)) = (0 : Int32) then (0 : Int32) else (1 : Int32))) (qp10 : p10 = (if (x2 &&& (2 : Int32)) = (0 : Int32) then (0 : Int32) else (1 : Int32))) (qp15 : p15 = (if (x2 &&& (4 : Int32)) = (0 : Int32) then (0 : Int32) else (1 : Int32))) (qp20 : p20 = (if (x2 &&& (8 : Int32)) = (0 : Int32) then (0 : Int32) else (1 : Int32))) (hq94_0 : r94_nv = (if w32 = Value.null then w44 else w32)) (hq94_1 : r94_nv.isRef = true) (qw103 : w103 = (if w32 = Value.null then w44 else w32)) (qp110 : p110 = (if r94_nv = w103 then (1 : Int32) else (0 : Int32))) (hq111_0 : r111_nv = (if r94_nv = Value.null then w56 else r94_nv)) (hq111_1 : r111_nv.isRef = true) (qw120 : w120 = (if w103 = Value.null then w56 else w103)) (qp127 : p127 = (if r111_nv = w120 then (1 : Int32) else (0 : Int32))) (qp142 : p142 = (if (own_ts x0) = x0 then (if (own_af x1) = x1 then (if p20 = p20 then (1 : Int32) else (0 : Int32)) else (0 : Int32)) else (0 : Int32))) (qp151 : p151 = (if p110 = (0 : Int32) then (0 : Int32) else (if p127 = (0 : Int32) then (0 : Int32) else (if p142 = (0 : Int32) then (0 : Int32) else (1 : Int32))))) : p151 = 1 := by
  have e1 : r94_nv = w103 := hq94_0.trans qw103.symm
  rw [if_pos e1] at qp110
  have e2 : r111_nv = w120 := by rw [hq111_0, qw120, e1]
  rw [if_pos e2] at qp127
  rw [if_pos (show own_ts x0 = x0 from rfl), if_pos (show own_af x1 = x1 from rfl), if_pos rfl] at qp142
  subst qp110 qp127 qp142
  rw [qp151]; decide
set_option maxRecDepth 65536 in
set_option maxHeartbeats 4000000 in
theorem rm0 (l : Launch) (Z : State) (a0 : Array Value) (hw : ∀ d ∈ tables_1, d.before a0 Z = true) (ws : List Jvm.Cond) (x0 : Int64) (x1 : Int64) (x2 : Int32) (x3 : Int32) (x4 : Int32) (x5 : Int32) (h0 : Heap) (n0 : Nat) (Z0 : n0 ≤ h0.size) :
    MetFree l x (head1 (Jvm.Cond.code x code maxLocals ret :: ws) room_1) (fun aW U => aW = #[(.long x0), (.long x1), (.int x2), (.int x3), (.int x4), (.int x5)] ∧ Z.Warmed39 U.vm ∧ U.heap = h0) (fun _ _ _ _ _ => True) (fun _ U o U' => ∃ v L, o = .returned v ∧ Q0 Z x0 x1 x2 x3 x4 x5 h0 n0 v U'.heap L ∧ ReturnedEndW U o U' L 24 2176) := by
  refine MetFree.of_bodySF (plainFor_of_name own_pn0) hisR ?_
  intro p e s m args below meth c s₁ Bd hml0 hP hK
  obtain ⟨rfl, hZ, hh⟩ := hP
  have hx := Bd.exec
  have hby := Bd.bytes
  have hml : c.maxLocals = 21 := hml0
  have hown : s.vm.findClass "com/example/antientropy/antientropy/sds/LogEntryNoteRetrievalHintPinLaw" = some m.cls := findClass_of_methodNamed Bd.named
  have hnm := (name_of_methodNamed Bd.named Bd.method).1
  have X0 : Stand p l e room_1 s m #[(.long x0), (.long x1), (.int x2), (.int x3), (.int x4), (.int x5)] below meth c s₁ [] 0 0 := Stand.of_body Bd
  have e0 : s₁.heap = h0 := by rw [← hh, Bd.state]; rfl
  have N0 := Fr.nil n0
  have X0 : Stand p l e room_1 (s.setVm s.vm) m #[(.long x0), (.long x1), (.int x2), (.int x3), (.int x4), (.int x5)] below meth c s₁ [] 0 0 := X0
  have hS : s.Since s.vm 0 := (State.WarmedH.refl s).since 0
  have hk : 0 ≤ h0.size := Nat.zero_le _
  have hZ : Z.Warmed39 (s.setVm s.vm).vm := hZ
  have hown : (s.setVm s.vm).vm.findClass "com/example/antientropy/antientropy/sds/LogEntryNoteRetrievalHintPinLaw" = some m.cls := hown
  obtain ⟨Pq, hPq⟩ : ∃ P, P = own_PW s below (fun v h L => Q0 Z x0 x1 x2 x3 x4 x5 h0 n0 v h L) 24 2176 := ⟨_, rfl⟩
  suffices hgo : own_Go p.tables e below Pq s₁ (mkF m 0 #[.val (.long x0), .second, .val (.long x1), .second, .val (.int x2), .val (.int x3), .val (.int x4), .val (.int x5), .unset, .unset, .unset, .unset, .unset, .unset, .unset, .unset, .unset, .unset, .unset, .unset, .unset] []) by
    subst hPq
    obtain ⟨t, k1, k2, o, k3, k4⟩ := hgo
    exact ⟨t, o, castTop (own_ef0 m x0 x1 x2 x3 x4 x5) k1, k2, k3, k4⟩
  show own_Go _ _ _ _ s₁ (mkF m 0 #[.val (.long x0), .second, .val (.long x1), .second, .val (.int x2), .val (.int x3), .val (.int x4), .val (.int x5), .unset, .unset, .unset, .unset, .unset, .unset, .unset, .unset, .unset, .unset, .unset, .unset, .unset] [])
  refine own_st (fun t k => XS.iload X0.here hx rfl (hb hby at_0) rfl k) ?_
  show own_Go _ _ _ _ s₁ (mkF m 2 _ [(.int x2)])
  refine own_st (fun t k => XS.iconst X0.here hx rfl (hb hby at_2) k) ?_
  show own_Go _ _ _ _ s₁ (mkF m 3 _ [(.int (1 : Int32)), (.int x2)])
  refine own_st (fun t k => XS.iand X0.here hx rfl (hb hby at_3) rfl k) ?_
  show own_Go _ _ _ _ s₁ (mkF m 4 _ [(.int (x2 &&& (1 : Int32)))])
  have J4 : ∀ (Tj4 : State) (Lj4 : List Loc) (p5 : Int32) (vmj4 : Vm) (kj4 : Nat), Stand p l e room_1 (s.setVm vmj4) m #[(.long x0), (.long x1), (.int x2), (.int x3), (.int x4), (.int x5)] below meth c Tj4 Lj4 0 0 → Tj4.heap = h0 → Fr n0 Lj4 → s.Since vmj4 kj4 → kj4 ≤ h0.size → Z.Warmed39 (s.setVm vmj4).vm → (s.setVm vmj4).vm.findClass "com/example/antientropy/antientropy/sds/LogEntryNoteRetrievalHintPinLaw" = some m.cls → p5 = (if (x2 &&& (1 : Int32)) = (0 : Int32) then (0 : Int32) else (1 : Int32)) → own_Go p.tables e below Pq Tj4 (mkF m 12 #[.val (.long x0), .second, .val (.long x1), .second, .val (.int x2), .val (.int x3), .val (.int x4), .val (.int x5), .unset, .unset, .unset, .unset, .unset, .unset, .unset, .unset, .unset, .unset, .unset, .unset, .unset] [(.int p5)]) := by
    intro Tj4 Lj4 p5 vmj4 kj4 Xj4 ej4 Nj4 hS hk hZ hown qp5
    show own_Go _ _ _ _ Tj4 (mkF m 12 _ [(.int p5)])
    refine own_st (fun t k => XS.istore Xj4.here hx rfl (hb hby at_12) rfl (l' := #[.val (.long x0), .second, .val (.long x1), .second, .val (.int x2), .val (.int x3), .val (.int x4), .val (.int x5), .val (.int p5), .unset, .unset, .unset, .unset, .unset, .unset, .unset, .unset, .unset, .unset, .unset, .unset]) rfl k) ?_
    show own_Go _ _ _ _ Tj4 (mkF m 14 #[.val (.long x0), .second, .val (.long x1), .second, .val (.int x2), .val (.int x3), .val (.int x4), .val (.int x5), .val (.int p5), .unset, .unset, .unset, .unset, .unset, .unset, .unset, .unset, .unset, .unset, .unset, .unset] [])
    refine own_st (fun t k => XS.iload Xj4.here hx rfl (hb hby at_14) rfl k) ?_
    show own_Go _ _ _ _ Tj4 (mkF m 16 _ [(.int x2)])
    refine own_st (fun t k => XS.iconst Xj4.here hx rfl (hb hby at_16) k) ?_
    show own_Go _ _ _ _ Tj4 (mkF m 17 _ [(.int (2 : Int32)), (.int x2)])
    refine own_st (fun t k => XS.iand Xj4.here hx rfl (hb hby at_17) rfl k) ?_
    show own_Go _ _ _ _ Tj4 (mkF m 18 _ [(.int (x2 &&& (2 : Int32)))])
    have J9 : ∀ (Tj9 : State) (Lj9 : List Loc) (p10 : Int32) (vmj9 : Vm) (kj9 : Nat), Stand p l e room_1 (s.setVm vmj9) m #[(.long x0), (.long x1), (.int x2), (.int x3), (.int x4), (.int x5)] below meth c Tj9 Lj9 0 0 → Tj9.heap = h0 → Fr n0 Lj9 → s.Since vmj9 kj9 → kj9 ≤ h0.size → Z.Warmed39 (s.setVm vmj9).vm → (s.setVm vmj9).vm.findClass "com/example/antientropy/antientropy/sds/LogEntryNoteRetrievalHintPinLaw" = some m.cls → p10 = (if (x2 &&& (2 : Int32)) = (0 : Int32) then (0 : Int32) else (1 : Int32)) → own_Go p.tables e below Pq Tj9 (mkF m 26 #[.val (.long x0), .second, .val (.long x1), .second, .val (.int x2), .val (.int x3), .val (.int x4), .val (.int x5), .val (.int p5), .unset, .unset, .unset, .unset, .unset, .unset, .unset, .unset, .unset, .unset, .unset, .unset] [(.int p10)]) := by
      intro Tj9 Lj9 p10 vmj9 kj9 Xj9 ej9 Nj9 hS hk hZ hown qp10
      show own_Go _ _ _ _ Tj9 (mkF m 26 _ [(.int p10)])
      refine own_st (fun t k => XS.istore Xj9.here hx rfl (hb hby at_26) rfl (l' := #[.val (.long x0), .second, .val (.long x1), .second, .val (.int x2), .val (.int x3), .val (.int x4), .val (.int x5), .val (.int p5), .val (.int p10), .unset, .unset, .unset, .unset, .unset, .unset, .unset, .unset, .unset, .unset, .unset]) rfl k) ?_
      show own_Go _ _ _ _ Tj9 (mkF m 28 #[.val (.long x0), .second, .val (.long x1), .second, .val (.int x2), .val (.int x3), .val (.int x4), .val (.int x5), .val (.int p5), .val (.int p10), .unset, .unset, .unset, .unset, .unset, .unset, .unset, .unset, .unset, .unset, .unset] [])
      refine own_st (fun t k => XS.iload Xj9.here hx rfl (hb hby at_28) rfl k) ?_
      show own_Go _ _ _ _ Tj9 (mkF m 30 _ [(.int x2)])
      refine own_st (fun t k => XS.iconst Xj9.here hx rfl (hb hby at_30) k) ?_
      show own_Go _ _ _ _ Tj9 (mkF m 31 _ [(.int (4 : Int32)), (.int x2)])
      refine own_st (fun t k => XS.iand Xj9.here hx rfl (hb hby at_31) rfl k) ?_
      show own_Go _ _ _ _ Tj9 (mkF m 32 _ [(.int (x2 &&& (4 : Int32)))])
      have J14 : ∀ (Tj14 : State) (Lj14 : List Loc) (p15 : Int32) (vmj14 : Vm) (kj14 : Nat), Stand p l e room_1 (s.setVm vmj14) m #[(.long x0), (.long x1), (.int x2), (.int x3), (.int x4), (.int x5)] below meth c Tj14 Lj14 0 0 → Tj14.heap = h0 → Fr n0 Lj14 → s.Since vmj14 kj14 → kj14 ≤ h0.size → Z.Warmed39 (s.setVm vmj14).vm → (s.setVm vmj14).vm.findClass "com/example/antientropy/antientropy/sds/LogEntryNoteRetrievalHintPinLaw" = some m.cls → p15 = (if (x2 &&& (4 : Int32)) = (0 : Int32) then (0 : Int32) else (1 : Int32)) → own_Go p.tables e below Pq Tj14 (mkF m 40 #[.val (.long x0), .second, .val (.long x1), .second, .val (.int x2), .val (.int x3), .val (.int x4), .val (.int x5), .val (.int p5), .val (.int p10), .unset, .unset, .unset, .unset, .unset, .unset, .unset, .unset, .unset, .unset, .unset] [(.int p15)]) := by
        intro Tj14 Lj14 p15 vmj14 kj14 Xj14 ej14 Nj14 hS hk hZ hown qp15
        show own_Go _ _ _ _ Tj14 (mkF m 40 _ [(.int p15)])
        refine own_st (fun t k => XS.istore Xj14.here hx rfl (hb hby at_40) rfl (l' := #[.val (.long x0), .second, .val (.long x1), .second, .val (.int x2), .val (.int x3), .val (.int x4), .val (.int x5), .val (.int p5), .val (.int p10), .val (.int p15), .unset, .unset, .unset, .unset, .unset, .unset, .unset, .unset, .unset, .unset]) rfl k) ?_
        show own_Go _ _ _ _ Tj14 (mkF m 42 #[.val (.long x0), .second, .val (.long x1), .second, .val (.int x2), .val (.int x3), .val (.int x4), .val (.int x5), .val (.int p5), .val (.int p10), .val (.int p15), .unset, .unset, .unset, .unset, .unset, .unset, .unset, .unset, .unset, .unset] [])
        refine own_st (fun t k => XS.iload Xj14.here hx rfl (hb hby at_42) rfl k) ?_
        show own_Go _ _ _ _ Tj14 (mkF m 44 _ [(.int x2)])
        refine own_st (fun t k => XS.bipush Xj14.here hx rfl (hb hby at_44) k) ?_
        show own_Go _ _ _ _ Tj14 (mkF m 46 _ [(.int (8 : Int32)), (.int x2)])
        refine own_st (fun t k => XS.iand Xj14.here hx rfl (hb hby at_46) rfl k) ?_
        show own_Go _ _ _ _ Tj14 (mkF m 47 _ [(.int (x2 &&& (8 : Int32)))])
        have J19 : ∀ (Tj19 : State) (Lj19 : List Loc) (p20 : Int32) (vmj19 : Vm) (kj19 : Nat), Stand p l e room_1 (s.setVm vmj19) m #[(.long x0), (.long x1), (.int x2), (.int x3), (.int x4), (.int x5)] below meth c Tj19 Lj19 0 0 → Tj19.heap = h0 → Fr n0 Lj19 → s.Since vmj19 kj19 → kj19 ≤ h0.size → Z.Warmed39 (s.setVm vmj19).vm → (s.setVm vmj19).vm.findClass "com/example/antientropy/antientropy/sds/LogEntryNoteRetrievalHintPinLaw" = some m.cls → p20 = (if (x2 &&& (8 : Int32)) = (0 : Int32) then (0 : Int32) else (1 : Int32)) → own_Go p.tables e below Pq Tj19 (mkF m 55 #[.val (.long x0), .second, .val (.long x1), .second, .val (.int x2), .val (.int x3), .val (.int x4), .val (.int x5), .val (.int p5), .val (.int p10), .val (.int p15), .unset, .unset, .unset, .unset, .unset, .unset, .unset, .unset, .unset, .unset] [(.int p20)]) := by
          intro Tj19 Lj19 p20 vmj19 kj19 Xj19 ej19 Nj19 hS hk hZ hown qp20
          show own_Go _ _ _ _ Tj19 (mkF m 55 _ [(.int p20)])
          refine own_st (fun t k => XS.istore Xj19.here hx rfl (hb hby at_55) rfl (l' := #[.val (.long x0), .second, .val (.long x1), .second, .val (.int x2), .val (.int x3), .val (.int x4), .val (.int x5), .val (.int p5), .val (.int p10), .val (.int p15), .val (.int p20), .unset, .unset, .unset, .unset, .unset, .unset, .unset, .unset, .unset]) rfl k) ?_
          show own_Go _ _ _ _ Tj19 (mkF m 57 #[.val (.long x0), .second, .val (.long x1), .second, .val (.int x2), .val (.int x3), .val (.int x4), .val (.int x5), .val (.int p5), .val (.int p10), .val (.int p15), .val (.int p20), .unset, .unset, .unset, .unset, .unset, .unset, .unset, .unset, .unset] [])
          refine own_st (fun t k => XS.iload Xj19.here hx rfl (hb hby at_57) rfl k) ?_
          show own_Go _ _ _ _ Tj19 (mkF m 59 _ [(.int p5)])
          have J31 : ∀ (Tj31 : State) (Lj31 : List Loc) (hj31 : Heap) (w32 : Value) (vmj31 : Vm) (kj31 : Nat), Stand p l e room_1 (s.setVm vmj31) m #[(.long x0), (.long x1), (.int x2), (.int x3), (.int x4), (.int x5)] below meth c Tj31 Lj31 1 1 → Tj31.heap = hj31 → Fr n0 Lj31 → s.Since vmj31 kj31 → kj31 ≤ hj31.size → Z.Warmed39 (s.setVm vmj31).vm → (s.setVm vmj31).vm.findClass "com/example/antientropy/antientropy/sds/LogEntryNoteRetrievalHintPinLaw" = some m.cls → n0 ≤ hj31.size → w32.isRef = true → own_Go p.tables e below Pq Tj31 (mkF m 75 #[.val (.long x0), .second, .val (.long x1), .second, .val (.int x2), .val (.int x3), .val (.int x4), .val (.int x5), .val (.int p5), .val (.int p10), .val (.int p15), .val (.int p20), .unset, .unset, .unset, .unset, .unset, .unset, .unset, .unset, .unset] [w32]) := by
            intro Tj31 Lj31 hj31 w32 vmj31 kj31 Xj31 ej31 Nj31 hS hk hZ hown Zj31 h_w32
            show own_Go _ _ _ _ Tj31 (mkF m 75 _ [w32])
            refine own_st (fun t k => XS.astore Xj31.here hx rfl (hb hby at_75) rfl h_w32 (l' := #[.val (.long x0), .second, .val (.long x1), .second, .val (.int x2), .val (.int x3), .val (.int x4), .val (.int x5), .val (.int p5), .val (.int p10), .val (.int p15), .val (.int p20), .val w32, .unset, .unset, .unset, .unset, .unset, .unset, .unset, .unset]) (by rcases ref_cases h_w32 with e | ⟨a, e⟩ <;> rw [e] <;> rfl) k) ?_
            show own_Go _ _ _ _ Tj31 (mkF m 77 #[.val (.long x0), .second, .val (.long x1), .second, .val (.int x2), .val (.int x3), .val (.int x4), .val (.int x5), .val (.int p5), .val (.int p10), .val (.int p15), .val (.int p20), .val w32, .unset, .unset, .unset, .unset, .unset, .unset, .unset, .unset] [])
            refine own_st (fun t k => XS.iload Xj31.here hx rfl (hb hby at_77) rfl k) ?_
            show own_Go _ _ _ _ Tj31 (mkF m 79 _ [(.int p10)])
            have J43 : ∀ (Tj43 : State) (Lj43 : List Loc) (hj43 : Heap) (w44 : Value) (vmj43 : Vm) (kj43 : Nat), Stand p l e room_1 (s.setVm vmj43) m #[(.long x0), (.long x1), (.int x2), (.int x3), (.int x4), (.int x5)] below meth c Tj43 Lj43 2 2 → Tj43.heap = hj43 → Fr n0 Lj43 → s.Since vmj43 kj43 → kj43 ≤ hj43.size → Z.Warmed39 (s.setVm vmj43).vm → (s.setVm vmj43).vm.findClass "com/example/antientropy/antientropy/sds/LogEntryNoteRetrievalHintPinLaw" = some m.cls → n0 ≤ hj43.size → w44.isRef = true → own_Go p.tables e below Pq Tj43 (mkF m 95 #[.val (.long x0), .second, .val (.long x1), .second, .val (.int x2), .val (.int x3), .val (.int x4), .val (.int x5), .val (.int p5), .val (.int p10), .val (.int p15), .val (.int p20), .val w32, .unset, .unset, .unset, .unset, .unset, .unset, .unset, .unset] [w44]) := by
              intro Tj43 Lj43 hj43 w44 vmj43 kj43 Xj43 ej43 Nj43 hS hk hZ hown Zj43 h_w44
              show own_Go _ _ _ _ Tj43 (mkF m 95 _ [w44])
              refine own_st (fun t k => XS.astore Xj43.here hx rfl (hb hby at_95) rfl h_w44 (l' := #[.val (.long x0), .second, .val (.long x1), .second, .val (.int x2), .val (.int x3), .val (.int x4), .val (.int x5), .val (.int p5), .val (.int p10), .val (.int p15), .val (.int p20), .val w32, .val w44, .unset, .unset, .unset, .unset, .unset, .unset, .unset]) (by rcases ref_cases h_w44 with e | ⟨a, e⟩ <;> rw [e] <;> rfl) k) ?_
              show own_Go _ _ _ _ Tj43 (mkF m 97 #[.val (.long x0), .second, .val (.long x1), .second, .val (.int x2), .val (.int x3), .val (.int x4), .val (.int x5), .val (.int p5), .val (.int p10), .val (.int p15), .val (.int p20), .val w32, .val w44, .unset, .unset, .unset, .unset, .unset, .unset, .unset] [])
              refine own_st (fun t k => XS.iload Xj43.here hx rfl (hb hby at_97) rfl k) ?_
              show own_Go _ _ _ _ Tj43 (mkF m 99 _ [(.int p15)])
              have J55 : ∀ (Tj55 : State) (Lj55 : List Loc) (hj55 : Heap) (w56 : Value) (vmj55 : Vm) (kj55 : Nat), Stand p l e room_1 (s.setVm vmj55) m #[(.long x0), (.long x1), (.int x2), (.int x3), (.int x4), (.int x5)] below meth c Tj55 Lj55 3 3 → Tj55.heap = hj55 → Fr n0 Lj55 → s.Since vmj55 kj55 → kj55 ≤ hj55.size → Z.Warmed39 (s.setVm vmj55).vm → (s.setVm vmj55).vm.findClass "com/example/antientropy/antientropy/sds/LogEntryNoteRetrievalHintPinLaw" = some m.cls → n0 ≤ hj55.size → w56.isRef = true → own_Go p.tables e below Pq Tj55 (mkF m 115 #[.val (.long x0), .second, .val (.long x1), .second, .val (.int x2), .val (.int x3), .val (.int x4), .val (.int x5), .val (.int p5), .val (.int p10), .val (.int p15), .val (.int p20), .val w32, .val w44, .unset, .unset, .unset, .unset, .unset, .unset, .unset] [w56]) := by
                intro Tj55 Lj55 hj55 w56 vmj55 kj55 Xj55 ej55 Nj55 hS hk hZ hown Zj55 h_w56
                show own_Go _ _ _ _ Tj55 (mkF m 115 _ [w56])
                refine own_st (fun t k => XS.astore Xj55.here hx rfl (hb hby at_115) rfl h_w56 (l' := #[.val (.long x0), .second, .val (.long x1), .second, .val (.int x2), .val (.int x3), .val (.int x4), .val (.int x5), .val (.int p5), .val (.int p10), .val (.int p15), .val (.int p20), .val w32, .val w44, .val w56, .unset, .unset, .unset, .unset, .unset, .unset]) (by rcases ref_cases h_w56 with e | ⟨a, e⟩ <;> rw [e] <;> rfl) k) ?_
                show own_Go _ _ _ _ Tj55 (mkF m 117 #[.val (.long x0), .second, .val (.long x1), .second, .val (.int x2), .val (.int x3), .val (.int x4), .val (.int x5), .val (.int p5), .val (.int p10), .val (.int p15), .val (.int p20), .val w32, .val w44, .val w56, .unset, .unset, .unset, .unset, .unset, .unset] [])
                obtain ⟨T57, h57, X57, e57, E57, A57, D57, -, st57⟩ := newO Xj55 hx hZ hown (hw _ (List.mem_of_getElem? (i := 1) rfl)) (hw _ (List.mem_of_getElem? (i := 2) rfl)) (hw _ (List.mem_of_getElem? (i := 3) rfl)) ej55 (g := (mkF m 117 #[.val (.long x0), .second, .val (.long x1), .second, .val (.int x2), .val (.int x3), .val (.int x4), .val (.int x5), .val (.int p5), .val (.int p10), .val (.int p15), .val (.int p20), .val w32, .val w44, .val w56, .unset, .unset, .unset, .unset, .unset, .unset] [])) rfl (hb hby at_117) (by decide) (by decide)
                obtain ⟨b57, g57⟩ : ∃ z, z = hj55.size := ⟨_, rfl⟩
                rw [← g57] at A57 D57 st57
                refine own_st st57 ?_
                have gx58 : n0 ≤ b57 := Nat.le_trans Zj55 (Nat.le_of_eq g57.symm)
                have Z59 : n0 ≤ h57.size := Nat.le_trans Zj55 E57.1
                have hk := Nat.le_trans hk E57.1
                have f60 : Fld Z h57 b57 "com/example/antientropy/antientropy/sds/LogEntry" "copiedAt" "J" (.long (0 : Int64)) := D57 (Or.inl (hw _ (List.mem_of_getElem? (i := 20) rfl))) (ty := .long) (by decide)
                have f61 : Fld Z h57 b57 "com/example/antientropy/antientropy/sds/LogEntry" "rebroadcastAt" "J" (.long (0 : Int64)) := D57 (Or.inl (hw _ (List.mem_of_getElem? (i := 22) rfl))) (ty := .long) (by decide)
                have f62 : Fld Z h57 b57 "com/example/antientropy/antientropy/sds/LogEntry" "lamportTimestamp" "J" (.long (0 : Int64)) := D57 (Or.inr (hw _ (List.mem_of_getElem? (i := 24) rfl))) (ty := .long) (by decide)
                have f63 : Fld Z h57 b57 "com/example/antientropy/antientropy/sds/LogEntry" "messageId" "Ljava/lang/String;" .null := D57 (Or.inr (hw _ (List.mem_of_getElem? (i := 26) rfl))) (ty := (.object "java/lang/String")) (by decide)
                have f64 : Fld Z h57 b57 "com/example/antientropy/antientropy/sds/LogEntry" "senderId" "Ljava/lang/String;" .null := D57 (Or.inr (hw _ (List.mem_of_getElem? (i := 28) rfl))) (ty := (.object "java/lang/String")) (by decide)
                have f65 : Fld Z h57 b57 "com/example/antientropy/antientropy/sds/LogEntry" "retrievalHint" "[B" .null := D57 (Or.inl (hw _ (List.mem_of_getElem? (i := 30) rfl))) (ty := (.array .byte)) (by decide)
                have f66 : Fld Z h57 b57 "com/example/antientropy/antientropy/sds/LogEntry" "enteredAfter" "J" (.long (0 : Int64)) := D57 (Or.inr (hw _ (List.mem_of_getElem? (i := 32) rfl))) (ty := .long) (by decide)
                have f67 : Fld Z h57 b57 "com/example/antientropy/antientropy/sds/LogEntry" "namedBeforeItCame" "Z" (.int (0 : Int32)) := D57 (Or.inr (hw _ (List.mem_of_getElem? (i := 34) rfl))) (ty := .boolean) (by decide)
                show own_Go _ _ _ _ T57 (mkF m 120 _ [(.ref b57)])
                refine own_st (fun t k => XS.dup X57.here hx rfl (hb hby at_120) rfl rfl k) ?_
                show own_Go _ _ _ _ T57 (mkF m 121 _ [(.ref b57), (.ref b57)])
                refine own_st (fun t k => XS.lloadN X57.here hx rfl (hb hby at_121) rfl k) ?_
                show own_Go _ _ _ _ T57 (mkF m 122 _ [(.long x0), (.ref b57), (.ref b57)])
                obtain ⟨b68, T68, h68, k68, X68, e68, E68, hS, hk, hZ, hown, st68⟩ := ldcS X57 hx hZ hown (hw _ (List.mem_of_getElem? (i := 4) rfl)) (own_sA hw) e57 hS hk (g := (mkF m 122 #[.val (.long x0), .second, .val (.long x1), .second, .val (.int x2), .val (.int x3), .val (.int x4), .val (.int x5), .val (.int p5), .val (.int p10), .val (.int p15), .val (.int p20), .val w32, .val w44, .val w56, .unset, .unset, .unset, .unset, .unset, .unset] [(.long x0), (.ref b57), (.ref b57)])) rfl (hb hby at_122) (n := 4) (by decide) (by decide) (by decide) (by decide)
                refine own_st st68 ?_
                have f69 := A57.ext E68
                have f70 := f60.ext E68
                have f71 := f61.ext E68
                have f72 := f62.ext E68
                have f73 := f63.ext E68
                have f74 := f64.ext E68
                have f75 := f65.ext E68
                have f76 := f66.ext E68
                have f77 := f67.ext E68
                have Z78 : n0 ≤ h68.size := Nat.le_trans Z59 E68.1
                show own_Go _ _ _ _ T68 (mkF m 124 _ [(.ref b68), (.long x0), (.ref b57), (.ref b57)])
                obtain ⟨b79, T79, h79, k79, X79, e79, E79, hS, hk, hZ, hown, st79⟩ := ldcS X68 hx hZ hown (hw _ (List.mem_of_getElem? (i := 11) rfl)) (own_sA hw) e68 hS hk (g := (mkF m 124 #[.val (.long x0), .second, .val (.long x1), .second, .val (.int x2), .val (.int x3), .val (.int x4), .val (.int x5), .val (.int p5), .val (.int p10), .val (.int p15), .val (.int p20), .val w32, .val w44, .val w56, .unset, .unset, .unset, .unset, .unset, .unset] [(.ref b68), (.long x0), (.ref b57), (.ref b57)])) rfl (hb hby at_124) (n := 4) (by decide) (by decide) (by decide) (by decide)
                refine own_st st79 ?_
                have f80 := f69.ext E79
                have f81 := f70.ext E79
                have f82 := f71.ext E79
                have f83 := f72.ext E79
                have f84 := f73.ext E79
                have f85 := f74.ext E79
                have f86 := f75.ext E79
                have f87 := f76.ext E79
                have f88 := f77.ext E79
                have Z89 : n0 ≤ h79.size := Nat.le_trans Z78 E79.1
                show own_Go _ _ _ _ T79 (mkF m 126 _ [(.ref b79), (.ref b68), (.long x0), (.ref b57), (.ref b57)])
                refine own_st (fun t k => XS.aload X79.here hx rfl (hb hby at_126) rfl h_w32 k) ?_
                show own_Go _ _ _ _ T79 (mkF m 128 _ [w32, (.ref b79), (.ref b68), (.long x0), (.ref b57), (.ref b57)])
                refine own_st (fun t k => XS.lloadN X79.here hx rfl (hb hby at_128) rfl k) ?_
                show own_Go _ _ _ _ T79 (mkF m 129 _ [(.long x1), w32, (.ref b79), (.ref b68), (.long x0), (.ref b57), (.ref b57)])
                refine own_st (fun t k => XS.iload X79.here hx rfl (hb hby at_129) rfl k) ?_
                show own_Go _ _ _ _ T79 (mkF m 131 _ [(.int p20), (.long x1), w32, (.ref b79), (.ref b68), (.long x0), (.ref b57), (.ref b57)])
                have hb_p20 : p20 = 0 ∨ p20 = 1 := by rw [qp20]; (repeat' split) <;> first | exact Or.inl rfl | exact Or.inr rfl | assumption
                obtain ⟨_, _, ⟨T90, L90, k90, n90⟩, -, X90, ⟨Lc90, hQ90, l90, y90, z90⟩, st90⟩ := X79.specialBack hx (y := (⟨"com/example/antientropy/antientropy/sds/LogEntry", "<init>", "(JLjava/lang/String;Ljava/lang/String;[BJZ)V"⟩ : MethodName)) rfl hown (mvT hZ (hw _ (List.mem_of_getElem? (i := 12) rfl))) (mvT hZ (hw _ (List.mem_of_getElem? (i := 13) rfl))) (mvT hZ (hw _ (List.mem_of_getElem? (i := 14) rfl))) (by decide) (backOf (W := 1) (rm1 l Z a0 hw [] b57 x0 b68 b79 w32 x1 p20 (.long (0 : Int64)) (.long (0 : Int64)) (.long (0 : Int64)) (.null) (.null) (.null) (.long (0 : Int64)) (.int (0 : Int32)) h79 n0 Z89 f80 f81 f82 f83 f84 f85 f86 f87 f88 h_w32 hb_p20 gx58) hZ (hw _ (List.mem_of_getElem? (i := 14) rfl)) (hw _ (List.mem_of_getElem? (i := 3) rfl)) (by decide) (by decide)) (g := (mkF m 131 #[.val (.long x0), .second, .val (.long x1), .second, .val (.int x2), .val (.int x3), .val (.int x4), .val (.int x5), .val (.int p5), .val (.int p10), .val (.int p15), .val (.int p20), .val w32, .val w44, .val w56, .unset, .unset, .unset, .unset, .unset, .unset] [(.int p20), (.long x1), w32, (.ref b79), (.ref b68), (.long x0), (.ref b57), (.ref b57)])) rfl (by rw [hml]; rfl) (Steps.refl _) (a := b57) (argsL := [(.long x0), (.ref b68), (.ref b79), w32, (.long x1), (.int p20)]) (rest := [(.ref b57)]) (lenOf own_pd__JLjava_lang_String_Ljava_lang_String__BJZ_V rfl) rfl (by show 2 * 0 + _ ≤ _; exact Nat.le_of_eq rfl) (hb hby at_131) (fun _ _ => ⟨rfl, e79, (by decide : 8 + 0 ≤ _), (by decide : 27 + 0 ≤ _)⟩)
                dsimp only [Pt.U, Pt.locs, Pt.cells, Pt.slots] at X90 l90 y90 z90 st90 hQ90
                subst l90 y90 z90
                obtain ⟨rfl, NQ90, K90, fq90_0, fq90_1, fq90_2, fq90_3, fq90_4⟩ := hQ90
                have N91 := Fr.app Nj55 NQ90
                refine own_st (fun t k => st90.trans k) ?_
                have f92 := f80.keep K90
                have Z93 : n0 ≤ T90.heap.size := Nat.le_trans Z89 K90.1
                have hk := Nat.le_trans hk K90.1
                show own_Go _ _ _ _ T90 (mkF m 134 _ [(.ref b57)])
                refine own_st (fun t k => XS.astore X90.here hx rfl (hb hby at_134) rfl rfl (l' := #[.val (.long x0), .second, .val (.long x1), .second, .val (.int x2), .val (.int x3), .val (.int x4), .val (.int x5), .val (.int p5), .val (.int p10), .val (.int p15), .val (.int p20), .val w32, .val w44, .val w56, .val (.ref b57), .unset, .unset, .unset, .unset, .unset]) rfl k) ?_
                show own_Go _ _ _ _ T90 (mkF m 136 #[.val (.long x0), .second, .val (.long x1), .second, .val (.int x2), .val (.int x3), .val (.int x4), .val (.int x5), .val (.int p5), .val (.int p10), .val (.int p15), .val (.int p20), .val w32, .val w44, .val w56, .val (.ref b57), .unset, .unset, .unset, .unset, .unset] [])
                refine own_st (fun t k => XS.aload X90.here hx rfl (hb hby at_136) rfl rfl k) ?_
                show own_Go _ _ _ _ T90 (mkF m 138 _ [(.ref b57)])
                refine own_st (fun t k => XS.aload X90.here hx rfl (hb hby at_138) rfl h_w44 k) ?_
                show own_Go _ _ _ _ T90 (mkF m 140 _ [w44, (.ref b57)])
                obtain ⟨cq94, kq94, q94a, q94b, q94c⟩ := isOf hZ rfl fq90_0
                obtain ⟨_, _, ⟨T94, L94, k94, n94⟩, -, X94, ⟨Lc94, hQ94, l94, y94, z94⟩, st94⟩ := X90.virtualBack hx (y := (⟨"com/example/antientropy/antientropy/sds/LogEntry", "noteRetrievalHint", "([B)V"⟩ : MethodName)) (z := (⟨"com/example/antientropy/antientropy/sds/LogEntry", "noteRetrievalHint", "([B)V"⟩ : MethodName)) hown (mvT hZ (hw _ (List.mem_of_getElem? (i := 35) rfl))) (mvT hZ (hw _ (List.mem_of_getElem? (i := 36) rfl))) (notFace_of_selects (args := #[]) (mvT hZ (hw _ (List.mem_of_getElem? (i := 38) rfl)))) (mvT hZ (hw _ (List.mem_of_getElem? (i := 38) rfl))) (mvT hZ (hw _ (List.mem_of_getElem? (i := 37) rfl))) (by decide) (backOf (W := 0) (rm2 l Z a0 hw [] b57 w44 x0 w32 x1 p20 T90.heap n0 Z93 fq90_0 fq90_1 fq90_2 fq90_3 fq90_4 h_w44 h_w32 gx58) hZ (hw _ (List.mem_of_getElem? (i := 39) rfl)) (hw _ (List.mem_of_getElem? (i := 3) rfl)) (by decide) (by decide)) q94a q94c (g := (mkF m 140 #[.val (.long x0), .second, .val (.long x1), .second, .val (.int x2), .val (.int x3), .val (.int x4), .val (.int x5), .val (.int p5), .val (.int p10), .val (.int p15), .val (.int p20), .val w32, .val w44, .val w56, .val (.ref b57), .unset, .unset, .unset, .unset, .unset] [w44, (.ref b57)])) rfl (by rw [hml]; rfl) (Steps.refl _) (argsL := [w44]) (rest := []) (lenOf own_pd___B_V rfl) rfl (by show 2 * 0 + _ ≤ _; exact Nat.le_of_eq rfl) (hb hby at_140) (fun _ _ => ⟨rfl, rfl, (by decide : 8 + 0 ≤ _), (by decide : 27 + 0 ≤ _)⟩)
                dsimp only [Pt.U, Pt.locs, Pt.cells, Pt.slots] at X94 l94 y94 z94 st94 hQ94
                subst l94 y94 z94
                obtain ⟨r94_nv, rfl, NQ94, K94, fq94_0, fq94_1, fq94_2, fq94_3, fq94_4, hq94_0, hq94_1⟩ := hQ94
                have N95 := Fr.app N91 NQ94
                refine own_st (fun t k => st94.trans k) ?_
                have f96 := fq90_0.keep K94
                have Z97 : n0 ≤ T94.heap.size := Nat.le_trans Z93 K94.1
                have hk := Nat.le_trans hk K94.1
                have h_r94_nv := hq94_1
                show own_Go _ _ _ _ T94 (mkF m 143 _ [])
                refine own_st (fun t k => XS.aload X94.here hx rfl (hb hby at_143) rfl h_w32 k) ?_
                show own_Go _ _ _ _ T94 (mkF m 145 _ [w32])
                have J102 : ∀ (Tj102 : State) (Lj102 : List Loc) (w103 : Value) (vmj102 : Vm) (kj102 : Nat), Stand p l e room_1 (s.setVm vmj102) m #[(.long x0), (.long x1), (.int x2), (.int x3), (.int x4), (.int x5)] below meth c Tj102 Lj102 8 27 → Tj102.heap = T94.heap → Fr n0 Lj102 → s.Since vmj102 kj102 → kj102 ≤ T94.heap.size → Z.Warmed39 (s.setVm vmj102).vm → (s.setVm vmj102).vm.findClass "com/example/antientropy/antientropy/sds/LogEntryNoteRetrievalHintPinLaw" = some m.cls → w103 = (if w32 = Value.null then w44 else w32) → w103.isRef = true → own_Go p.tables e below Pq Tj102 (mkF m 155 #[.val (.long x0), .second, .val (.long x1), .second, .val (.int x2), .val (.int x3), .val (.int x4), .val (.int x5), .val (.int p5), .val (.int p10), .val (.int p15), .val (.int p20), .val w32, .val w44, .val w56, .val (.ref b57), .unset, .unset, .unset, .unset, .unset] [w103]) := by
                  intro Tj102 Lj102 w103 vmj102 kj102 Xj102 ej102 Nj102 hS hk hZ hown qw103 h_w103
                  show own_Go _ _ _ _ Tj102 (mkF m 155 _ [w103])
                  refine own_st (fun t k => XS.astore Xj102.here hx rfl (hb hby at_155) rfl h_w103 (l' := #[.val (.long x0), .second, .val (.long x1), .second, .val (.int x2), .val (.int x3), .val (.int x4), .val (.int x5), .val (.int p5), .val (.int p10), .val (.int p15), .val (.int p20), .val w32, .val w44, .val w56, .val (.ref b57), .val w103, .unset, .unset, .unset, .unset]) (by rcases ref_cases h_w103 with e | ⟨a, e⟩ <;> rw [e] <;> rfl) k) ?_
                  show own_Go _ _ _ _ Tj102 (mkF m 157 #[.val (.long x0), .second, .val (.long x1), .second, .val (.int x2), .val (.int x3), .val (.int x4), .val (.int x5), .val (.int p5), .val (.int p10), .val (.int p15), .val (.int p20), .val w32, .val w44, .val w56, .val (.ref b57), .val w103, .unset, .unset, .unset, .unset] [])
                  refine own_st (fun t k => XS.aload Xj102.here hx rfl (hb hby at_157) rfl rfl k) ?_
                  show own_Go _ _ _ _ Tj102 (mkF m 159 _ [(.ref b57)])
                  obtain ⟨cq104, kq104, q104a, q104b, q104c⟩ := isOf hZ ej102 fq94_0
                  obtain ⟨_, _, ⟨T104, L104, k104, n104⟩, -, X104, ⟨Lc104, hQ104, l104, y104, z104⟩, st104⟩ := Xj102.virtualBack hx (y := (⟨"com/example/antientropy/antientropy/sds/LogEntry", "retrievalHint", "()[B"⟩ : MethodName)) (z := (⟨"com/example/antientropy/antientropy/sds/LogEntry", "retrievalHint", "()[B"⟩ : MethodName)) hown (mvT hZ (hw _ (List.mem_of_getElem? (i := 40) rfl))) (mvT hZ (hw _ (List.mem_of_getElem? (i := 41) rfl))) (notFace_of_selects (args := #[]) (mvT hZ (hw _ (List.mem_of_getElem? (i := 43) rfl)))) (mvT hZ (hw _ (List.mem_of_getElem? (i := 43) rfl))) (mvT hZ (hw _ (List.mem_of_getElem? (i := 42) rfl))) (by decide) (backOf (W := 0) (rm3 l Z a0 hw [] b57 r94_nv T94.heap n0 Z97 fq94_0 fq94_2 h_r94_nv) hZ (hw _ (List.mem_of_getElem? (i := 44) rfl)) (hw _ (List.mem_of_getElem? (i := 3) rfl)) (by decide) (by decide)) q104a q104c (g := (mkF m 159 #[.val (.long x0), .second, .val (.long x1), .second, .val (.int x2), .val (.int x3), .val (.int x4), .val (.int x5), .val (.int p5), .val (.int p10), .val (.int p15), .val (.int p20), .val w32, .val w44, .val w56, .val (.ref b57), .val w103, .unset, .unset, .unset, .unset] [(.ref b57)])) rfl (by rw [hml]; rfl) (Steps.refl _) (argsL := []) (rest := []) (lenOf own_pd____B rfl) rfl (by show 2 * 0 + _ ≤ _; exact Nat.le_of_eq rfl) (hb hby at_159) (fun _ _ => ⟨rfl, ej102, (by decide : 8 + 0 ≤ _), (by decide : 27 + 0 ≤ _)⟩)
                  dsimp only [Pt.U, Pt.locs, Pt.cells, Pt.slots] at X104 l104 y104 z104 st104 hQ104
                  subst l104 y104 z104
                  obtain ⟨rfl, NQ104, eq104⟩ := hQ104
                  have N105 := Fr.app Nj102 NQ104
                  refine own_st (fun t k => st104.trans k) ?_
                  show own_Go _ _ _ _ T104 (mkF m 162 _ [r94_nv])
                  refine own_st (fun t k => XS.aload X104.here hx rfl (hb hby at_162) rfl h_w103 k) ?_
                  show own_Go _ _ _ _ T104 (mkF m 164 _ [w103, r94_nv])
                  have J109 : ∀ (Tj109 : State) (Lj109 : List Loc) (p110 : Int32) (vmj109 : Vm) (kj109 : Nat), Stand p l e room_1 (s.setVm vmj109) m #[(.long x0), (.long x1), (.int x2), (.int x3), (.int x4), (.int x5)] below meth c Tj109 Lj109 8 27 → Tj109.heap = T94.heap → Fr n0 Lj109 → s.Since vmj109 kj109 → kj109 ≤ T94.heap.size → Z.Warmed39 (s.setVm vmj109).vm → (s.setVm vmj109).vm.findClass "com/example/antientropy/antientropy/sds/LogEntryNoteRetrievalHintPinLaw" = some m.cls → p110 = (if r94_nv = w103 then (1 : Int32) else (0 : Int32)) → own_Go p.tables e below Pq Tj109 (mkF m 172 #[.val (.long x0), .second, .val (.long x1), .second, .val (.int x2), .val (.int x3), .val (.int x4), .val (.int x5), .val (.int p5), .val (.int p10), .val (.int p15), .val (.int p20), .val w32, .val w44, .val w56, .val (.ref b57), .val w103, .unset, .unset, .unset, .unset] [(.int p110)]) := by
                    intro Tj109 Lj109 p110 vmj109 kj109 Xj109 ej109 Nj109 hS hk hZ hown qp110
                    show own_Go _ _ _ _ Tj109 (mkF m 172 _ [(.int p110)])
                    refine own_st (fun t k => XS.istore Xj109.here hx rfl (hb hby at_172) rfl (l' := #[.val (.long x0), .second, .val (.long x1), .second, .val (.int x2), .val (.int x3), .val (.int x4), .val (.int x5), .val (.int p5), .val (.int p10), .val (.int p15), .val (.int p20), .val w32, .val w44, .val w56, .val (.ref b57), .val w103, .val (.int p110), .unset, .unset, .unset]) rfl k) ?_
                    show own_Go _ _ _ _ Tj109 (mkF m 174 #[.val (.long x0), .second, .val (.long x1), .second, .val (.int x2), .val (.int x3), .val (.int x4), .val (.int x5), .val (.int p5), .val (.int p10), .val (.int p15), .val (.int p20), .val w32, .val w44, .val w56, .val (.ref b57), .val w103, .val (.int p110), .unset, .unset, .unset] [])
                    refine own_st (fun t k => XS.aload Xj109.here hx rfl (hb hby at_174) rfl rfl k) ?_
                    show own_Go _ _ _ _ Tj109 (mkF m 176 _ [(.ref b57)])
                    refine own_st (fun t k => XS.aload Xj109.here hx rfl (hb hby at_176) rfl h_w56 k) ?_
                    show own_Go _ _ _ _ Tj109 (mkF m 178 _ [w56, (.ref b57)])
                    obtain ⟨cq111, kq111, q111a, q111b, q111c⟩ := isOf hZ ej109 fq94_0
                    obtain ⟨_, _, ⟨T111, L111, k111, n111⟩, -, X111, ⟨Lc111, hQ111, l111, y111, z111⟩, st111⟩ := Xj109.virtualBack hx (y := (⟨"com/example/antientropy/antientropy/sds/LogEntry", "noteRetrievalHint", "([B)V"⟩ : MethodName)) (z := (⟨"com/example/antientropy/antientropy/sds/LogEntry", "noteRetrievalHint", "([B)V"⟩ : MethodName)) hown (mvT hZ (hw _ (List.mem_of_getElem? (i := 35) rfl))) (mvT hZ (hw _ (List.mem_of_getElem? (i := 36) rfl))) (notFace_of_selects (args := #[]) (mvT hZ (hw _ (List.mem_of_getElem? (i := 38) rfl)))) (mvT hZ (hw _ (List.mem_of_getElem? (i := 38) rfl))) (mvT hZ (hw _ (List.mem_of_getElem? (i := 37) rfl))) (by decide) (backOf (W := 0) (rm2 l Z a0 hw [] b57 w56 x0 r94_nv x1 p20 T94.heap n0 Z97 fq94_0 fq94_1 fq94_2 fq94_3 fq94_4 h_w56 h_r94_nv gx58) hZ (hw _ (List.mem_of_getElem? (i := 39) rfl)) (hw _ (List.mem_of_getElem? (i := 3) rfl)) (by decide) (by decide)) q111a q111c (g := (mkF m 178 #[.val (.long x0), .second, .val (.long x1), .second, .val (.int x2), .val (.int x3), .val (.int x4), .val (.int x5), .val (.int p5), .val (.int p10), .val (.int p15), .val (.int p20), .val w32, .val w44, .val w56, .val (.ref b57), .val w103, .val (.int p110), .unset, .unset, .unset] [w56, (.ref b57)])) rfl (by rw [hml]; rfl) (Steps.refl _) (argsL := [w56]) (rest := []) (lenOf own_pd___B_V rfl) rfl (by show 2 * 0 + _ ≤ _; exact Nat.le_of_eq rfl) (hb hby at_178) (fun _ _ => ⟨rfl, ej109, (by decide : 8 + 0 ≤ _), (by decide : 27 + 0 ≤ _)⟩)
                    dsimp only [Pt.U, Pt.locs, Pt.cells, Pt.slots] at X111 l111 y111 z111 st111 hQ111
                    subst l111 y111 z111
                    obtain ⟨r111_nv, rfl, NQ111, K111, fq111_0, fq111_1, fq111_2, fq111_3, fq111_4, hq111_0, hq111_1⟩ := hQ111
                    have N112 := Fr.app Nj109 NQ111
                    refine own_st (fun t k => st111.trans k) ?_
                    have f113 := fq94_0.keep K111
                    have Z114 : n0 ≤ T111.heap.size := Nat.le_trans Z97 K111.1
                    have hk := Nat.le_trans hk K111.1
                    have h_r111_nv := hq111_1
                    show own_Go _ _ _ _ T111 (mkF m 181 _ [])
                    refine own_st (fun t k => XS.aload X111.here hx rfl (hb hby at_181) rfl h_w103 k) ?_
                    show own_Go _ _ _ _ T111 (mkF m 183 _ [w103])
                    have J119 : ∀ (Tj119 : State) (Lj119 : List Loc) (w120 : Value) (vmj119 : Vm) (kj119 : Nat), Stand p l e room_1 (s.setVm vmj119) m #[(.long x0), (.long x1), (.int x2), (.int x3), (.int x4), (.int x5)] below meth c Tj119 Lj119 8 27 → Tj119.heap = T111.heap → Fr n0 Lj119 → s.Since vmj119 kj119 → kj119 ≤ T111.heap.size → Z.Warmed39 (s.setVm vmj119).vm → (s.setVm vmj119).vm.findClass "com/example/antientropy/antientropy/sds/LogEntryNoteRetrievalHintPinLaw" = some m.cls → w120 = (if w103 = Value.null then w56 else w103) → w120.isRef = true → own_Go p.tables e below Pq Tj119 (mkF m 193 #[.val (.long x0), .second, .val (.long x1), .second, .val (.int x2), .val (.int x3), .val (.int x4), .val (.int x5), .val (.int p5), .val (.int p10), .val (.int p15), .val (.int p20), .val w32, .val w44, .val w56, .val (.ref b57), .val w103, .val (.int p110), .unset, .unset, .unset] [w120]) := by
                      intro Tj119 Lj119 w120 vmj119 kj119 Xj119 ej119 Nj119 hS hk hZ hown qw120 h_w120
                      show own_Go _ _ _ _ Tj119 (mkF m 193 _ [w120])
                      refine own_st (fun t k => XS.astore Xj119.here hx rfl (hb hby at_193) rfl h_w120 (l' := #[.val (.long x0), .second, .val (.long x1), .second, .val (.int x2), .val (.int x3), .val (.int x4), .val (.int x5), .val (.int p5), .val (.int p10), .val (.int p15), .val (.int p20), .val w32, .val w44, .val w56, .val (.ref b57), .val w103, .val (.int p110), .val w120, .unset, .unset]) (by rcases ref_cases h_w120 with e | ⟨a, e⟩ <;> rw [e] <;> rfl) k) ?_
                      show own_Go _ _ _ _ Tj119 (mkF m 195 #[.val (.long x0), .second, .val (.long x1), .second, .val (.int x2), .val (.int x3), .val (.int x4), .val (.int x5), .val (.int p5), .val (.int p10), .val (.int p15), .val (.int p20), .val w32, .val w44, .val w56, .val (.ref b57), .val w103, .val (.int p110), .val w120, .unset, .unset] [])
                      refine own_st (fun t k => XS.aload Xj119.here hx rfl (hb hby at_195) rfl rfl k) ?_
                      show own_Go _ _ _ _ Tj119 (mkF m 197 _ [(.ref b57)])
                      obtain ⟨cq121, kq121, q121a, q121b, q121c⟩ := isOf hZ ej119 fq111_0
                      obtain ⟨_, _, ⟨T121, L121, k121, n121⟩, -, X121, ⟨Lc121, hQ121, l121, y121, z121⟩, st121⟩ := Xj119.virtualBack hx (y := (⟨"com/example/antientropy/antientropy/sds/LogEntry", "retrievalHint", "()[B"⟩ : MethodName)) (z := (⟨"com/example/antientropy/antientropy/sds/LogEntry", "retrievalHint", "()[B"⟩ : MethodName)) hown (mvT hZ (hw _ (List.mem_of_getElem? (i := 40) rfl))) (mvT hZ (hw _ (List.mem_of_getElem? (i := 41) rfl))) (notFace_of_selects (args := #[]) (mvT hZ (hw _ (List.mem_of_getElem? (i := 43) rfl)))) (mvT hZ (hw _ (List.mem_of_getElem? (i := 43) rfl))) (mvT hZ (hw _ (List.mem_of_getElem? (i := 42) rfl))) (by decide) (backOf (W := 0) (rm3 l Z a0 hw [] b57 r111_nv T111.heap n0 Z114 fq111_0 fq111_2 h_r111_nv) hZ (hw _ (List.mem_of_getElem? (i := 44) rfl)) (hw _ (List.mem_of_getElem? (i := 3) rfl)) (by decide) (by decide)) q121a q121c (g := (mkF m 197 #[.val (.long x0), .second, .val (.long x1), .second, .val (.int x2), .val (.int x3), .val (.int x4), .val (.int x5), .val (.int p5), .val (.int p10), .val (.int p15), .val (.int p20), .val w32, .val w44, .val w56, .val (.ref b57), .val w103, .val (.int p110), .val w120, .unset, .unset] [(.ref b57)])) rfl (by rw [hml]; rfl) (Steps.refl _) (argsL := []) (rest := []) (lenOf own_pd____B rfl) rfl (by show 2 * 0 + _ ≤ _; exact Nat.le_of_eq rfl) (hb hby at_197) (fun _ _ => ⟨rfl, ej119, (by decide : 8 + 0 ≤ _), (by decide : 27 + 0 ≤ _)⟩)
                      dsimp only [Pt.U, Pt.locs, Pt.cells, Pt.slots] at X121 l121 y121 z121 st121 hQ121
                      subst l121 y121 z121
                      obtain ⟨rfl, NQ121, eq121⟩ := hQ121
                      have N122 := Fr.app Nj119 NQ121
                      refine own_st (fun t k => st121.trans k) ?_
                      show own_Go _ _ _ _ T121 (mkF m 200 _ [r111_nv])
                      refine own_st (fun t k => XS.aload X121.here hx rfl (hb hby at_200) rfl h_w120 k) ?_
                      show own_Go _ _ _ _ T121 (mkF m 202 _ [w120, r111_nv])
                      have J126 : ∀ (Tj126 : State) (Lj126 : List Loc) (p127 : Int32) (vmj126 : Vm) (kj126 : Nat), Stand p l e room_1 (s.setVm vmj126) m #[(.long x0), (.long x1), (.int x2), (.int x3), (.int x4), (.int x5)] below meth c Tj126 Lj126 8 27 → Tj126.heap = T111.heap → Fr n0 Lj126 → s.Since vmj126 kj126 → kj126 ≤ T111.heap.size → Z.Warmed39 (s.setVm vmj126).vm → (s.setVm vmj126).vm.findClass "com/example/antientropy/antientropy/sds/LogEntryNoteRetrievalHintPinLaw" = some m.cls → p127 = (if r111_nv = w120 then (1 : Int32) else (0 : Int32)) → own_Go p.tables e below Pq Tj126 (mkF m 210 #[.val (.long x0), .second, .val (.long x1), .second, .val (.int x2), .val (.int x3), .val (.int x4), .val (.int x5), .val (.int p5), .val (.int p10), .val (.int p15), .val (.int p20), .val w32, .val w44, .val w56, .val (.ref b57), .val w103, .val (.int p110), .val w120, .unset, .unset] [(.int p127)]) := by
                        intro Tj126 Lj126 p127 vmj126 kj126 Xj126 ej126 Nj126 hS hk hZ hown qp127
                        show own_Go _ _ _ _ Tj126 (mkF m 210 _ [(.int p127)])
                        refine own_st (fun t k => XS.istore Xj126.here hx rfl (hb hby at_210) rfl (l' := #[.val (.long x0), .second, .val (.long x1), .second, .val (.int x2), .val (.int x3), .val (.int x4), .val (.int x5), .val (.int p5), .val (.int p10), .val (.int p15), .val (.int p20), .val w32, .val w44, .val w56, .val (.ref b57), .val w103, .val (.int p110), .val w120, .val (.int p127), .unset]) rfl k) ?_
                        show own_Go _ _ _ _ Tj126 (mkF m 212 #[.val (.long x0), .second, .val (.long x1), .second, .val (.int x2), .val (.int x3), .val (.int x4), .val (.int x5), .val (.int p5), .val (.int p10), .val (.int p15), .val (.int p20), .val w32, .val w44, .val w56, .val (.ref b57), .val w103, .val (.int p110), .val w120, .val (.int p127), .unset] [])
                        refine own_st (fun t k => XS.aload Xj126.here hx rfl (hb hby at_212) rfl rfl k) ?_
                        show own_Go _ _ _ _ Tj126 (mkF m 214 _ [(.ref b57)])
                        obtain ⟨cq128, kq128, q128a, q128b, q128c⟩ := isOf hZ ej126 fq111_0
                        obtain ⟨_, _, ⟨T128, L128, k128, n128⟩, -, X128, ⟨Lc128, hQ128, l128, y128, z128⟩, st128⟩ := Xj126.virtualBack hx (y := (⟨"com/example/antientropy/antientropy/sds/LogEntry", "lamportTimestamp", "()J"⟩ : MethodName)) (z := (⟨"com/example/antientropy/antientropy/sds/LogEntry", "lamportTimestamp", "()J"⟩ : MethodName)) hown (mvT hZ (hw _ (List.mem_of_getElem? (i := 45) rfl))) (mvT hZ (hw _ (List.mem_of_getElem? (i := 46) rfl))) (notFace_of_selects (args := #[]) (mvT hZ (hw _ (List.mem_of_getElem? (i := 48) rfl)))) (mvT hZ (hw _ (List.mem_of_getElem? (i := 48) rfl))) (mvT hZ (hw _ (List.mem_of_getElem? (i := 47) rfl))) (by decide) (backOf (W := 0) (rm4 l Z a0 hw [] b57 x0 T111.heap n0 Z114 fq111_0 fq111_1) hZ (hw _ (List.mem_of_getElem? (i := 49) rfl)) (hw _ (List.mem_of_getElem? (i := 3) rfl)) (by decide) (by decide)) q128a q128c (g := (mkF m 214 #[.val (.long x0), .second, .val (.long x1), .second, .val (.int x2), .val (.int x3), .val (.int x4), .val (.int x5), .val (.int p5), .val (.int p10), .val (.int p15), .val (.int p20), .val w32, .val w44, .val w56, .val (.ref b57), .val w103, .val (.int p110), .val w120, .val (.int p127), .unset] [(.ref b57)])) rfl (by rw [hml]; rfl) (Steps.refl _) (argsL := []) (rest := []) (lenOf own_pd___J rfl) rfl (by show 2 * 0 + _ ≤ _; exact Nat.le_of_eq rfl) (hb hby at_214) (fun _ _ => ⟨rfl, ej126, (by decide : 8 + 0 ≤ _), (by decide : 27 + 0 ≤ _)⟩)
                        dsimp only [Pt.U, Pt.locs, Pt.cells, Pt.slots] at X128 l128 y128 z128 st128 hQ128
                        subst l128 y128 z128
                        obtain ⟨rfl, NQ128, eq128⟩ := hQ128
                        have N129 := Fr.app Nj126 NQ128
                        refine own_st (fun t k => st128.trans k) ?_
                        show own_Go _ _ _ _ T128 (mkF m 217 _ [(.long (own_ts x0))])
                        refine own_st (fun t k => XS.lloadN X128.here hx rfl (hb hby at_217) rfl k) ?_
                        show own_Go _ _ _ _ T128 (mkF m 218 _ [(.long x0), (.long (own_ts x0))])
                        refine own_st (fun t k => XS.lcmp X128.here hx rfl (hb hby at_218) rfl k) ?_
                        show own_Go _ _ _ _ T128 (mkF m 219 _ [(.int (lcmpW (own_ts x0) x0))])
                        have J141 : ∀ (Tj141 : State) (Lj141 : List Loc) (p142 : Int32) (vmj141 : Vm) (kj141 : Nat), Stand p l e room_1 (s.setVm vmj141) m #[(.long x0), (.long x1), (.int x2), (.int x3), (.int x4), (.int x5)] below meth c Tj141 Lj141 8 27 → Tj141.heap = T111.heap → Fr n0 Lj141 → s.Since vmj141 kj141 → kj141 ≤ T111.heap.size → Z.Warmed39 (s.setVm vmj141).vm → (s.setVm vmj141).vm.findClass "com/example/antientropy/antientropy/sds/LogEntryNoteRetrievalHintPinLaw" = some m.cls → p142 = (if (own_ts x0) = x0 then (if (own_af x1) = x1 then (if p20 = p20 then (1 : Int32) else (0 : Int32)) else (0 : Int32)) else (0 : Int32)) → own_Go p.tables e below Pq Tj141 (mkF m 247 #[.val (.long x0), .second, .val (.long x1), .second, .val (.int x2), .val (.int x3), .val (.int x4), .val (.int x5), .val (.int p5), .val (.int p10), .val (.int p15), .val (.int p20), .val w32, .val w44, .val w56, .val (.ref b57), .val w103, .val (.int p110), .val w120, .val (.int p127), .unset] [(.int p142)]) := by
                          intro Tj141 Lj141 p142 vmj141 kj141 Xj141 ej141 Nj141 hS hk hZ hown qp142
                          show own_Go _ _ _ _ Tj141 (mkF m 247 _ [(.int p142)])
                          refine own_st (fun t k => XS.istore Xj141.here hx rfl (hb hby at_247) rfl (l' := #[.val (.long x0), .second, .val (.long x1), .second, .val (.int x2), .val (.int x3), .val (.int x4), .val (.int x5), .val (.int p5), .val (.int p10), .val (.int p15), .val (.int p20), .val w32, .val w44, .val w56, .val (.ref b57), .val w103, .val (.int p110), .val w120, .val (.int p127), .val (.int p142)]) rfl k) ?_
                          show own_Go _ _ _ _ Tj141 (mkF m 249 #[.val (.long x0), .second, .val (.long x1), .second, .val (.int x2), .val (.int x3), .val (.int x4), .val (.int x5), .val (.int p5), .val (.int p10), .val (.int p15), .val (.int p20), .val w32, .val w44, .val w56, .val (.ref b57), .val w103, .val (.int p110), .val w120, .val (.int p127), .val (.int p142)] [])
                          refine own_st (fun t k => XS.iload Xj141.here hx rfl (hb hby at_249) rfl k) ?_
                          show own_Go _ _ _ _ Tj141 (mkF m 251 _ [(.int p110)])
                          have J150 : ∀ (Tj150 : State) (Lj150 : List Loc) (p151 : Int32) (vmj150 : Vm) (kj150 : Nat), Stand p l e room_1 (s.setVm vmj150) m #[(.long x0), (.long x1), (.int x2), (.int x3), (.int x4), (.int x5)] below meth c Tj150 Lj150 8 27 → Tj150.heap = T111.heap → Fr n0 Lj150 → s.Since vmj150 kj150 → kj150 ≤ T111.heap.size → Z.Warmed39 (s.setVm vmj150).vm → (s.setVm vmj150).vm.findClass "com/example/antientropy/antientropy/sds/LogEntryNoteRetrievalHintPinLaw" = some m.cls → p151 = (if p110 = (0 : Int32) then (0 : Int32) else (if p127 = (0 : Int32) then (0 : Int32) else (if p142 = (0 : Int32) then (0 : Int32) else (1 : Int32)))) → own_Go p.tables e below Pq Tj150 (mkF m 269 #[.val (.long x0), .second, .val (.long x1), .second, .val (.int x2), .val (.int x3), .val (.int x4), .val (.int x5), .val (.int p5), .val (.int p10), .val (.int p15), .val (.int p20), .val w32, .val w44, .val w56, .val (.ref b57), .val w103, .val (.int p110), .val w120, .val (.int p127), .val (.int p142)] [(.int p151)]) := by
                            intro Tj150 Lj150 p151 vmj150 kj150 Xj150 ej150 Nj150 hS hk hZ hown qp151
                            show own_Go _ _ _ _ Tj150 (mkF m 269 _ [(.int p151)])
                            subst hPq
                            refine own_outW Xj150 hS (by rw [ej150]; exact hk) (v := some (.int (nar .boolean p151))) (fun h => by rw [Bd.returns] at h; cases h) Bd.notSynchronized (fun fs hr => retN Xj150 hx (t := .boolean) Bd.returns (by simp) (hb hby at_269) hr) (by decide) (by decide) ?_
                            show Q0 Z x0 x1 x2 x3 x4 x5 h0 n0 _ Tj150.heap _
                            rw [ej150]
                            exact ⟨congrArg (fun z => some (Value.int (nar .boolean z))) (own_law x0 x1 x2 x3 x4 x5 p5 p10 p15 p20 w32 w44 w56 r94_nv w103 p110 r111_nv w120 p127 p142 p151 qp5 qp10 qp15 qp20 hq94_0 hq94_1 qw103 qp110 hq111_0 hq111_1 qw120 qp127 qp142 qp151), Nj150⟩
                          by_cases c143 : p110 = (0 : Int32)
                          · skip
                            refine own_st (fun t k => XS.ifYes Xj141.here hx rfl (pc0 := 251) (pc' := 268) rfl (hb hby at_251) rfl ((if0 _ _).trans (teq c143).1) (by decide) (by decide) k) ?_
                            show own_Go _ _ _ _ Tj141 (mkF m 268 _ [])
                            refine own_st (fun t k => XS.iconst Xj141.here hx rfl (hb hby at_268) k) ?_
                            show own_Go _ _ _ _ Tj141 (mkF m 269 _ [(.int (0 : Int32))])
                            exact J150 Tj141 _ _ _ _ Xj141 ej141 Nj141 hS hk hZ hown (by simp only [if_pos c143])
                          · skip
                            refine own_st (fun t k => XS.ifNo Xj141.here hx rfl (hb hby at_251) rfl ((if0 _ _).trans (feq c143).1) k) ?_
                            show own_Go _ _ _ _ Tj141 (mkF m 254 _ [])
                            refine own_st (fun t k => XS.iload Xj141.here hx rfl (hb hby at_254) rfl k) ?_
                            show own_Go _ _ _ _ Tj141 (mkF m 256 _ [(.int p127)])
                            by_cases c145 : p127 = (0 : Int32)
                            · skip
                              refine own_st (fun t k => XS.ifYes Xj141.here hx rfl (pc0 := 256) (pc' := 268) rfl (hb hby at_256) rfl ((if0 _ _).trans (teq c145).1) (by decide) (by decide) k) ?_
                              show own_Go _ _ _ _ Tj141 (mkF m 268 _ [])
                              refine own_st (fun t k => XS.iconst Xj141.here hx rfl (hb hby at_268) k) ?_
                              show own_Go _ _ _ _ Tj141 (mkF m 269 _ [(.int (0 : Int32))])
                              exact J150 Tj141 _ _ _ _ Xj141 ej141 Nj141 hS hk hZ hown (by simp only [if_neg c143, if_pos c145])
                            · skip
                              refine own_st (fun t k => XS.ifNo Xj141.here hx rfl (hb hby at_256) rfl ((if0 _ _).trans (feq c145).1) k) ?_
                              show own_Go _ _ _ _ Tj141 (mkF m 259 _ [])
                              refine own_st (fun t k => XS.iload Xj141.here hx rfl (hb hby at_259) rfl k) ?_
                              show own_Go _ _ _ _ Tj141 (mkF m 261 _ [(.int p142)])
                              by_cases c147 : p142 = (0 : Int32)
                              · skip
                                refine own_st (fun t k => XS.ifYes Xj141.here hx rfl (pc0 := 261) (pc' := 268) rfl (hb hby at_261) rfl ((if0 _ _).trans (teq c147).1) (by decide) (by decide) k) ?_
                                show own_Go _ _ _ _ Tj141 (mkF m 268 _ [])
                                refine own_st (fun t k => XS.iconst Xj141.here hx rfl (hb hby at_268) k) ?_
                                show own_Go _ _ _ _ Tj141 (mkF m 269 _ [(.int (0 : Int32))])
                                exact J150 Tj141 _ _ _ _ Xj141 ej141 Nj141 hS hk hZ hown (by simp only [if_neg c143, if_neg c145, if_pos c147])
                              · skip
                                refine own_st (fun t k => XS.ifNo Xj141.here hx rfl (hb hby at_261) rfl ((if0 _ _).trans (feq c147).1) k) ?_
                                show own_Go _ _ _ _ Tj141 (mkF m 264 _ [])
                                refine own_st (fun t k => XS.iconst Xj141.here hx rfl (hb hby at_264) k) ?_
                                show own_Go _ _ _ _ Tj141 (mkF m 265 _ [(.int (1 : Int32))])
                                refine own_st (fun t k => XS.goto Xj141.here hx rfl (pc0 := 265) (pc' := 269) rfl (hb hby at_265) (by decide) (by decide) k) ?_
                                show own_Go _ _ _ _ Tj141 (mkF m 269 _ [(.int (1 : Int32))])
                                exact J150 Tj141 _ _ _ _ Xj141 ej141 Nj141 hS hk hZ hown (by simp only [if_neg c143, if_neg c145, if_neg c147])
                        by_cases c130 : (own_ts x0) = x0
                        · skip
                          refine own_st (fun t k => XS.ifNo X128.here hx rfl (hb hby at_219) rfl (own_lcF (cd := .ne) (not_not_intro c130)) k) ?_
                          show own_Go _ _ _ _ T128 (mkF m 222 _ [])
                          refine own_st (fun t k => XS.aload X128.here hx rfl (hb hby at_222) rfl rfl k) ?_
                          show own_Go _ _ _ _ T128 (mkF m 224 _ [(.ref b57)])
                          obtain ⟨cq131, kq131, q131a, q131b, q131c⟩ := isOf hZ eq128 fq111_0
                          obtain ⟨_, _, ⟨T131, L131, k131, n131⟩, -, X131, ⟨Lc131, hQ131, l131, y131, z131⟩, st131⟩ := X128.virtualBack hx (y := (⟨"com/example/antientropy/antientropy/sds/LogEntry", "enteredAfter", "()J"⟩ : MethodName)) (z := (⟨"com/example/antientropy/antientropy/sds/LogEntry", "enteredAfter", "()J"⟩ : MethodName)) hown (mvT hZ (hw _ (List.mem_of_getElem? (i := 50) rfl))) (mvT hZ (hw _ (List.mem_of_getElem? (i := 51) rfl))) (notFace_of_selects (args := #[]) (mvT hZ (hw _ (List.mem_of_getElem? (i := 53) rfl)))) (mvT hZ (hw _ (List.mem_of_getElem? (i := 53) rfl))) (mvT hZ (hw _ (List.mem_of_getElem? (i := 52) rfl))) (by decide) (backOf (W := 0) (rm5 l Z a0 hw [] b57 x1 T111.heap n0 Z114 fq111_0 fq111_3) hZ (hw _ (List.mem_of_getElem? (i := 54) rfl)) (hw _ (List.mem_of_getElem? (i := 3) rfl)) (by decide) (by decide)) q131a q131c (g := (mkF m 224 #[.val (.long x0), .second, .val (.long x1), .second, .val (.int x2), .val (.int x3), .val (.int x4), .val (.int x5), .val (.int p5), .val (.int p10), .val (.int p15), .val (.int p20), .val w32, .val w44, .val w56, .val (.ref b57), .val w103, .val (.int p110), .val w120, .val (.int p127), .unset] [(.ref b57)])) rfl (by rw [hml]; rfl) (Steps.refl _) (argsL := []) (rest := []) (lenOf own_pd___J rfl) rfl (by show 2 * 0 + _ ≤ _; exact Nat.le_of_eq rfl) (hb hby at_224) (fun _ _ => ⟨rfl, eq128, (by decide : 8 + 0 ≤ _), (by decide : 27 + 0 ≤ _)⟩)
                          dsimp only [Pt.U, Pt.locs, Pt.cells, Pt.slots] at X131 l131 y131 z131 st131 hQ131
                          subst l131 y131 z131
                          obtain ⟨rfl, NQ131, eq131⟩ := hQ131
                          have N132 := Fr.app N129 NQ131
                          refine own_st (fun t k => st131.trans k) ?_
                          show own_Go _ _ _ _ T131 (mkF m 227 _ [(.long (own_af x1))])
                          refine own_st (fun t k => XS.lloadN X131.here hx rfl (hb hby at_227) rfl k) ?_
                          show own_Go _ _ _ _ T131 (mkF m 228 _ [(.long x1), (.long (own_af x1))])
                          refine own_st (fun t k => XS.lcmp X131.here hx rfl (hb hby at_228) rfl k) ?_
                          show own_Go _ _ _ _ T131 (mkF m 229 _ [(.int (lcmpW (own_af x1) x1))])
                          by_cases c133 : (own_af x1) = x1
                          · skip
                            refine own_st (fun t k => XS.ifNo X131.here hx rfl (hb hby at_229) rfl (own_lcF (cd := .ne) (not_not_intro c133)) k) ?_
                            show own_Go _ _ _ _ T131 (mkF m 232 _ [])
                            refine own_st (fun t k => XS.aload X131.here hx rfl (hb hby at_232) rfl rfl k) ?_
                            show own_Go _ _ _ _ T131 (mkF m 234 _ [(.ref b57)])
                            obtain ⟨cq134, kq134, q134a, q134b, q134c⟩ := isOf hZ eq131 fq111_0
                            obtain ⟨_, _, ⟨T134, L134, k134, n134⟩, -, X134, ⟨Lc134, hQ134, l134, y134, z134⟩, st134⟩ := X131.virtualBack hx (y := (⟨"com/example/antientropy/antientropy/sds/LogEntry", "namedBeforeItCame", "()Z"⟩ : MethodName)) (z := (⟨"com/example/antientropy/antientropy/sds/LogEntry", "namedBeforeItCame", "()Z"⟩ : MethodName)) hown (mvT hZ (hw _ (List.mem_of_getElem? (i := 55) rfl))) (mvT hZ (hw _ (List.mem_of_getElem? (i := 56) rfl))) (notFace_of_selects (args := #[]) (mvT hZ (hw _ (List.mem_of_getElem? (i := 58) rfl)))) (mvT hZ (hw _ (List.mem_of_getElem? (i := 58) rfl))) (mvT hZ (hw _ (List.mem_of_getElem? (i := 57) rfl))) (by decide) (backOf (W := 0) (rm6 l Z a0 hw [] b57 p20 T111.heap n0 Z114 fq111_0 fq111_4 hb_p20) hZ (hw _ (List.mem_of_getElem? (i := 59) rfl)) (hw _ (List.mem_of_getElem? (i := 3) rfl)) (by decide) (by decide)) q134a q134c (g := (mkF m 234 #[.val (.long x0), .second, .val (.long x1), .second, .val (.int x2), .val (.int x3), .val (.int x4), .val (.int x5), .val (.int p5), .val (.int p10), .val (.int p15), .val (.int p20), .val w32, .val w44, .val w56, .val (.ref b57), .val w103, .val (.int p110), .val w120, .val (.int p127), .unset] [(.ref b57)])) rfl (by rw [hml]; rfl) (Steps.refl _) (argsL := []) (rest := []) (lenOf own_pd___Z rfl) rfl (by show 2 * 0 + _ ≤ _; exact Nat.le_of_eq rfl) (hb hby at_234) (fun _ _ => ⟨rfl, eq131, (by decide : 8 + 0 ≤ _), (by decide : 27 + 0 ≤ _)⟩)
                            dsimp only [Pt.U, Pt.locs, Pt.cells, Pt.slots] at X134 l134 y134 z134 st134 hQ134
                            subst l134 y134 z134
                            obtain ⟨rfl, NQ134, eq134⟩ := hQ134
                            have N135 := Fr.app N132 NQ134
                            refine own_st (fun t k => st134.trans k) ?_
                            show own_Go _ _ _ _ T134 (mkF m 237 _ [(.int p20)])
                            refine own_st (fun t k => XS.iload X134.here hx rfl (hb hby at_237) rfl k) ?_
                            show own_Go _ _ _ _ T134 (mkF m 239 _ [(.int p20), (.int p20)])
                            by_cases c136 : p20 = p20
                            · skip
                              refine own_st (fun t k => XS.icmpNo X134.here hx rfl (hb hby at_239) rfl (teq c136).2 k) ?_
                              show own_Go _ _ _ _ T134 (mkF m 242 _ [])
                              refine own_st (fun t k => XS.iconst X134.here hx rfl (hb hby at_242) k) ?_
                              show own_Go _ _ _ _ T134 (mkF m 243 _ [(.int (1 : Int32))])
                              refine own_st (fun t k => XS.goto X134.here hx rfl (pc0 := 243) (pc' := 247) rfl (hb hby at_243) (by decide) (by decide) k) ?_
                              show own_Go _ _ _ _ T134 (mkF m 247 _ [(.int (1 : Int32))])
                              exact J141 T134 _ _ _ _ X134 eq134 N135 hS hk hZ hown (by simp only [if_pos c130, if_pos c133, if_pos c136, if_true])
                            · skip
                              refine own_st (fun t k => XS.icmpYes X134.here hx rfl (pc0 := 239) (pc' := 246) rfl (hb hby at_239) rfl (feq c136).2 (by decide) (by decide) k) ?_
                              show own_Go _ _ _ _ T134 (mkF m 246 _ [])
                              refine own_st (fun t k => XS.iconst X134.here hx rfl (hb hby at_246) k) ?_
                              show own_Go _ _ _ _ T134 (mkF m 247 _ [(.int (0 : Int32))])
                              exact J141 T134 _ _ _ _ X134 eq134 N135 hS hk hZ hown (absurd rfl c136)
                          · skip
                            refine own_st (fun t k => XS.ifYes X131.here hx rfl (pc0 := 229) (pc' := 246) rfl (hb hby at_229) rfl (own_lcT (cd := .ne) c133) (by decide) (by decide) k) ?_
                            show own_Go _ _ _ _ T131 (mkF m 246 _ [])
                            refine own_st (fun t k => XS.iconst X131.here hx rfl (hb hby at_246) k) ?_
                            show own_Go _ _ _ _ T131 (mkF m 247 _ [(.int (0 : Int32))])
                            exact J141 T131 _ _ _ _ X131 eq131 N132 hS hk hZ hown (by simp only [if_pos c130, if_neg c133])
                        · skip
                          refine own_st (fun t k => XS.ifYes X128.here hx rfl (pc0 := 219) (pc' := 246) rfl (hb hby at_219) rfl (own_lcT (cd := .ne) c130) (by decide) (by decide) k) ?_
                          show own_Go _ _ _ _ T128 (mkF m 246 _ [])
                          refine own_st (fun t k => XS.iconst X128.here hx rfl (hb hby at_246) k) ?_
                          show own_Go _ _ _ _ T128 (mkF m 247 _ [(.int (0 : Int32))])
                          exact J141 T128 _ _ _ _ X128 eq128 N129 hS hk hZ hown (by simp only [if_neg c130])
                      by_cases c123 : r111_nv = w120
                      · skip
                        refine own_st (fun t k => Jvm.RoadKit.acmp (g := (mkF m 202 #[.val (.long x0), .second, .val (.long x1), .second, .val (.int x2), .val (.int x3), .val (.int x4), .val (.int x5), .val (.int p5), .val (.int p10), .val (.int p15), .val (.int p20), .val w32, .val w44, .val w56, .val (.ref b57), .val w103, .val (.int p110), .val w120, .unset, .unset] [w120, r111_nv])) X121 hx rfl h_r111_nv h_w120 (pc0 := 202) (pc' := 205) (same := true) rfl (hb hby at_202) rfl (decide_eq_true c123) (by decide) (by decide) k) ?_
                        show own_Go _ _ _ _ T121 (mkF m 205 _ [])
                        refine own_st (fun t k => XS.iconst X121.here hx rfl (hb hby at_205) k) ?_
                        show own_Go _ _ _ _ T121 (mkF m 206 _ [(.int (1 : Int32))])
                        refine own_st (fun t k => XS.goto X121.here hx rfl (pc0 := 206) (pc' := 210) rfl (hb hby at_206) (by decide) (by decide) k) ?_
                        show own_Go _ _ _ _ T121 (mkF m 210 _ [(.int (1 : Int32))])
                        exact J126 T121 _ _ _ _ X121 eq121 N122 hS hk hZ hown (by simp only [if_pos c123])
                      · skip
                        refine own_st (fun t k => Jvm.RoadKit.acmp (g := (mkF m 202 #[.val (.long x0), .second, .val (.long x1), .second, .val (.int x2), .val (.int x3), .val (.int x4), .val (.int x5), .val (.int p5), .val (.int p10), .val (.int p15), .val (.int p20), .val w32, .val w44, .val w56, .val (.ref b57), .val w103, .val (.int p110), .val w120, .unset, .unset] [w120, r111_nv])) X121 hx rfl h_r111_nv h_w120 (pc0 := 202) (pc' := 209) (same := false) rfl (hb hby at_202) rfl (decide_eq_false c123) (by decide) (by decide) k) ?_
                        show own_Go _ _ _ _ T121 (mkF m 209 _ [])
                        refine own_st (fun t k => XS.iconst X121.here hx rfl (hb hby at_209) k) ?_
                        show own_Go _ _ _ _ T121 (mkF m 210 _ [(.int (0 : Int32))])
                        exact J126 T121 _ _ _ _ X121 eq121 N122 hS hk hZ hown (by simp only [if_neg c123])
                    by_cases c115 : w103 = Value.null
                    · skip
                      refine own_st (fun t k => XS.ifnullYes X111.here hx rfl (rest := []) (pc0 := 183) (pc' := 191) rfl (hb hby at_183) (by show ([w103] : List Value) = .null :: []; rw [c115]) (by decide) (by decide) k) ?_
                      show own_Go _ _ _ _ T111 (mkF m 191 _ [])
                      refine own_st (fun t k => XS.aload X111.here hx rfl (hb hby at_191) rfl h_w56 k) ?_
                      show own_Go _ _ _ _ T111 (mkF m 193 _ [w56])
                      exact J119 T111 _ _ _ _ X111 rfl N112 hS hk hZ hown (by simp only [if_pos c115]) h_w56
                    · skip
                      obtain ⟨an117, han117⟩ := own_refOf h_w103 c115
                      refine own_st (fun t k => XS.ifnullNo X111.here hx rfl (b := an117) (rest := []) (hb hby at_183) (by show ([w103] : List Value) = .ref an117 :: []; rw [han117]) k) ?_
                      show own_Go _ _ _ _ T111 (mkF m 186 _ [])
                      refine own_st (fun t k => XS.aload X111.here hx rfl (hb hby at_186) rfl h_w103 k) ?_
                      show own_Go _ _ _ _ T111 (mkF m 188 _ [w103])
                      refine own_st (fun t k => XS.goto X111.here hx rfl (pc0 := 188) (pc' := 193) rfl (hb hby at_188) (by decide) (by decide) k) ?_
                      show own_Go _ _ _ _ T111 (mkF m 193 _ [w103])
                      exact J119 T111 _ _ _ _ X111 rfl N112 hS hk hZ hown (by simp only [if_neg c115]) h_w103
                  by_cases c106 : r94_nv = w103
                  · skip
                    refine own_st (fun t k => Jvm.RoadKit.acmp (g := (mkF m 164 #[.val (.long x0), .second, .val (.long x1), .second, .val (.int x2), .val (.int x3), .val (.int x4), .val (.int x5), .val (.int p5), .val (.int p10), .val (.int p15), .val (.int p20), .val w32, .val w44, .val w56, .val (.ref b57), .val w103, .unset, .unset, .unset, .unset] [w103, r94_nv])) X104 hx rfl h_r94_nv h_w103 (pc0 := 164) (pc' := 167) (same := true) rfl (hb hby at_164) rfl (decide_eq_true c106) (by decide) (by decide) k) ?_
                    show own_Go _ _ _ _ T104 (mkF m 167 _ [])
                    refine own_st (fun t k => XS.iconst X104.here hx rfl (hb hby at_167) k) ?_
                    show own_Go _ _ _ _ T104 (mkF m 168 _ [(.int (1 : Int32))])
                    refine own_st (fun t k => XS.goto X104.here hx rfl (pc0 := 168) (pc' := 172) rfl (hb hby at_168) (by decide) (by decide) k) ?_
                    show own_Go _ _ _ _ T104 (mkF m 172 _ [(.int (1 : Int32))])
                    exact J109 T104 _ _ _ _ X104 eq104 N105 hS hk hZ hown (by simp only [if_pos c106])
                  · skip
                    refine own_st (fun t k => Jvm.RoadKit.acmp (g := (mkF m 164 #[.val (.long x0), .second, .val (.long x1), .second, .val (.int x2), .val (.int x3), .val (.int x4), .val (.int x5), .val (.int p5), .val (.int p10), .val (.int p15), .val (.int p20), .val w32, .val w44, .val w56, .val (.ref b57), .val w103, .unset, .unset, .unset, .unset] [w103, r94_nv])) X104 hx rfl h_r94_nv h_w103 (pc0 := 164) (pc' := 171) (same := false) rfl (hb hby at_164) rfl (decide_eq_false c106) (by decide) (by decide) k) ?_
                    show own_Go _ _ _ _ T104 (mkF m 171 _ [])
                    refine own_st (fun t k => XS.iconst X104.here hx rfl (hb hby at_171) k) ?_
                    show own_Go _ _ _ _ T104 (mkF m 172 _ [(.int (0 : Int32))])
                    exact J109 T104 _ _ _ _ X104 eq104 N105 hS hk hZ hown (by simp only [if_neg c106])
                by_cases c98 : w32 = Value.null
                · skip
                  refine own_st (fun t k => XS.ifnullYes X94.here hx rfl (rest := []) (pc0 := 145) (pc' := 153) rfl (hb hby at_145) (by show ([w32] : List Value) = .null :: []; rw [c98]) (by decide) (by decide) k) ?_
                  show own_Go _ _ _ _ T94 (mkF m 153 _ [])
                  refine own_st (fun t k => XS.aload X94.here hx rfl (hb hby at_153) rfl h_w44 k) ?_
                  show own_Go _ _ _ _ T94 (mkF m 155 _ [w44])
                  exact J102 T94 _ _ _ _ X94 rfl N95 hS hk hZ hown (by simp only [if_pos c98]) h_w44
                · skip
                  obtain ⟨an100, han100⟩ := own_refOf h_w32 c98
                  refine own_st (fun t k => XS.ifnullNo X94.here hx rfl (b := an100) (rest := []) (hb hby at_145) (by show ([w32] : List Value) = .ref an100 :: []; rw [han100]) k) ?_
                  show own_Go _ _ _ _ T94 (mkF m 148 _ [])
                  refine own_st (fun t k => XS.aload X94.here hx rfl (hb hby at_148) rfl h_w32 k) ?_
                  show own_Go _ _ _ _ T94 (mkF m 150 _ [w32])
                  refine own_st (fun t k => XS.goto X94.here hx rfl (pc0 := 150) (pc' := 155) rfl (hb hby at_150) (by decide) (by decide) k) ?_
                  show own_Go _ _ _ _ T94 (mkF m 155 _ [w32])
                  exact J102 T94 _ _ _ _ X94 rfl N95 hS hk hZ hown (by simp only [if_neg c98]) h_w32
              by_cases c45 : p15 = (0 : Int32)
              · skip
                refine own_st (fun t k => XS.ifYes Xj43.here hx rfl (pc0 := 99) (pc' := 106) rfl (hb hby at_99) rfl ((if0 _ _).trans (teq c45).1) (by decide) (by decide) k) ?_
                show own_Go _ _ _ _ Tj43 (mkF m 106 _ [])
                refine own_st (fun t k => XS.iconst Xj43.here hx rfl (hb hby at_106) k) ?_
                show own_Go _ _ _ _ Tj43 (mkF m 107 _ [(.int (1 : Int32))])
                obtain ⟨T46, h46, k46, X46, e46, E46, A46, st46⟩ := newP Xj43 hx hZ (hw _ (List.mem_of_getElem? (i := 0) rfl)) ej43 (g := (mkF m 107 #[.val (.long x0), .second, .val (.long x1), .second, .val (.int x2), .val (.int x3), .val (.int x4), .val (.int x5), .val (.int p5), .val (.int p10), .val (.int p15), .val (.int p20), .val w32, .val w44, .unset, .unset, .unset, .unset, .unset, .unset, .unset] [(.int (1 : Int32))])) rfl (hb hby at_107) rfl (by decide) (cap := 1) (by decide) (by decide) (by decide) (by decide)
                obtain ⟨b46, g46⟩ : ∃ z, z = hj43.size := ⟨_, rfl⟩
                rw [← g46] at A46 st46
                refine own_st st46 ?_
                have gx47 : n0 ≤ b46 := Nat.le_trans Zj43 (Nat.le_of_eq g46.symm)
                have Z48 : n0 ≤ h46.size := Nat.le_trans Zj43 E46.1
                have hk := Nat.le_trans hk E46.1
                have V46 : Arv Z h46 b46 k46 .byte (1 : Int32) [(.int (0 : Int32))] (.int (0 : Int32)) := (Arv.new A46 (by decide)).pad (pad_rep [] (.int (0 : Int32)) 1)
                show own_Go _ _ _ _ T46 (mkF m 109 _ [(.ref b46)])
                refine own_st (fun t k => XS.dup X46.here hx rfl (hb hby at_109) rfl rfl k) ?_
                show own_Go _ _ _ _ T46 (mkF m 110 _ [(.ref b46), (.ref b46)])
                refine own_st (fun t k => XS.iconst X46.here hx rfl (hb hby at_110) k) ?_
                show own_Go _ _ _ _ T46 (mkF m 111 _ [(.int (0 : Int32)), (.ref b46), (.ref b46)])
                refine own_st (fun t k => XS.iload X46.here hx rfl (hb hby at_111) rfl k) ?_
                show own_Go _ _ _ _ T46 (mkF m 113 _ [(.int x5), (.int (0 : Int32)), (.ref b46), (.ref b46)])
                refine own_st (fun t k => XS.i2b X46.here hx rfl (hb hby at_113) rfl k) ?_
                show own_Go _ _ _ _ T46 (mkF m 114 _ [(.int x5.toInt8.toInt32), (.int (0 : Int32)), (.ref b46), (.ref b46)])
                obtain ⟨c49, Ar49, q49, S49, N49, H49, G49⟩ := id V46
                obtain ⟨T49, h49, X49, e49, W49, st49⟩ := stB X46 hx hZ e46 Ar49 (j := (0 : Int32)) (inb_of S49 ⟨by decide, by decide⟩) (g := (mkF m 114 #[.val (.long x0), .second, .val (.long x1), .second, .val (.int x2), .val (.int x3), .val (.int x4), .val (.int x5), .val (.int p5), .val (.int p10), .val (.int p15), .val (.int p20), .val w32, .val w44, .unset, .unset, .unset, .unset, .unset, .unset, .unset] [(.int x5.toInt8.toInt32), (.int (0 : Int32)), (.ref b46), (.ref b46)])) rfl rfl (hb hby at_114)
                refine own_st st49 ?_
                have f50 := Arv.set Ar49 q49 S49 N49 H49 G49 (fits_nar_byte _) W49 0 rfl (Nat.le_of_ble_eq_true rfl)
                have N51 := Fr.snoc X49 Nj43 gx47
                have Z52 : n0 ≤ h49.size := Nat.le_trans Z48 (Nat.le_of_eq W49.size.symm)
                have hk := Nat.le_trans hk (Nat.le_of_eq W49.size.symm)
                show own_Go _ _ _ _ T49 (mkF m 115 _ [(.ref b46)])
                exact J55 T49 _ h49 _ _ _ (X49.mono (by decide) (by decide)) e49 N51 hS hk hZ hown Z52 rfl
              · skip
                refine own_st (fun t k => XS.ifNo Xj43.here hx rfl (hb hby at_99) rfl ((if0 _ _).trans (feq c45).1) k) ?_
                show own_Go _ _ _ _ Tj43 (mkF m 102 _ [])
                refine own_st (fun t k => XS.aconstNull Xj43.here hx rfl (hb hby at_102) k) ?_
                show own_Go _ _ _ _ Tj43 (mkF m 103 _ [.null])
                refine own_st (fun t k => XS.goto Xj43.here hx rfl (pc0 := 103) (pc' := 115) rfl (hb hby at_103) (by decide) (by decide) k) ?_
                show own_Go _ _ _ _ Tj43 (mkF m 115 _ [.null])
                exact J55 Tj43 _ hj43 _ _ _ (Xj43.mono (by decide) (by decide)) ej43 Nj43 hS hk hZ hown Zj43 rfl
            by_cases c33 : p10 = (0 : Int32)
            · skip
              refine own_st (fun t k => XS.ifYes Xj31.here hx rfl (pc0 := 79) (pc' := 86) rfl (hb hby at_79) rfl ((if0 _ _).trans (teq c33).1) (by decide) (by decide) k) ?_
              show own_Go _ _ _ _ Tj31 (mkF m 86 _ [])
              refine own_st (fun t k => XS.iconst Xj31.here hx rfl (hb hby at_86) k) ?_
              show own_Go _ _ _ _ Tj31 (mkF m 87 _ [(.int (1 : Int32))])
              obtain ⟨T34, h34, k34, X34, e34, E34, A34, st34⟩ := newP Xj31 hx hZ (hw _ (List.mem_of_getElem? (i := 0) rfl)) ej31 (g := (mkF m 87 #[.val (.long x0), .second, .val (.long x1), .second, .val (.int x2), .val (.int x3), .val (.int x4), .val (.int x5), .val (.int p5), .val (.int p10), .val (.int p15), .val (.int p20), .val w32, .unset, .unset, .unset, .unset, .unset, .unset, .unset, .unset] [(.int (1 : Int32))])) rfl (hb hby at_87) rfl (by decide) (cap := 1) (by decide) (by decide) (by decide) (by decide)
              obtain ⟨b34, g34⟩ : ∃ z, z = hj31.size := ⟨_, rfl⟩
              rw [← g34] at A34 st34
              refine own_st st34 ?_
              have gx35 : n0 ≤ b34 := Nat.le_trans Zj31 (Nat.le_of_eq g34.symm)
              have Z36 : n0 ≤ h34.size := Nat.le_trans Zj31 E34.1
              have hk := Nat.le_trans hk E34.1
              have V34 : Arv Z h34 b34 k34 .byte (1 : Int32) [(.int (0 : Int32))] (.int (0 : Int32)) := (Arv.new A34 (by decide)).pad (pad_rep [] (.int (0 : Int32)) 1)
              show own_Go _ _ _ _ T34 (mkF m 89 _ [(.ref b34)])
              refine own_st (fun t k => XS.dup X34.here hx rfl (hb hby at_89) rfl rfl k) ?_
              show own_Go _ _ _ _ T34 (mkF m 90 _ [(.ref b34), (.ref b34)])
              refine own_st (fun t k => XS.iconst X34.here hx rfl (hb hby at_90) k) ?_
              show own_Go _ _ _ _ T34 (mkF m 91 _ [(.int (0 : Int32)), (.ref b34), (.ref b34)])
              refine own_st (fun t k => XS.iload X34.here hx rfl (hb hby at_91) rfl k) ?_
              show own_Go _ _ _ _ T34 (mkF m 93 _ [(.int x4), (.int (0 : Int32)), (.ref b34), (.ref b34)])
              refine own_st (fun t k => XS.i2b X34.here hx rfl (hb hby at_93) rfl k) ?_
              show own_Go _ _ _ _ T34 (mkF m 94 _ [(.int x4.toInt8.toInt32), (.int (0 : Int32)), (.ref b34), (.ref b34)])
              obtain ⟨c37, Ar37, q37, S37, N37, H37, G37⟩ := id V34
              obtain ⟨T37, h37, X37, e37, W37, st37⟩ := stB X34 hx hZ e34 Ar37 (j := (0 : Int32)) (inb_of S37 ⟨by decide, by decide⟩) (g := (mkF m 94 #[.val (.long x0), .second, .val (.long x1), .second, .val (.int x2), .val (.int x3), .val (.int x4), .val (.int x5), .val (.int p5), .val (.int p10), .val (.int p15), .val (.int p20), .val w32, .unset, .unset, .unset, .unset, .unset, .unset, .unset, .unset] [(.int x4.toInt8.toInt32), (.int (0 : Int32)), (.ref b34), (.ref b34)])) rfl rfl (hb hby at_94)
              refine own_st st37 ?_
              have f38 := Arv.set Ar37 q37 S37 N37 H37 G37 (fits_nar_byte _) W37 0 rfl (Nat.le_of_ble_eq_true rfl)
              have N39 := Fr.snoc X37 Nj31 gx35
              have Z40 : n0 ≤ h37.size := Nat.le_trans Z36 (Nat.le_of_eq W37.size.symm)
              have hk := Nat.le_trans hk (Nat.le_of_eq W37.size.symm)
              show own_Go _ _ _ _ T37 (mkF m 95 _ [(.ref b34)])
              exact J43 T37 _ h37 _ _ _ X37 e37 N39 hS hk hZ hown Z40 rfl
            · skip
              refine own_st (fun t k => XS.ifNo Xj31.here hx rfl (hb hby at_79) rfl ((if0 _ _).trans (feq c33).1) k) ?_
              show own_Go _ _ _ _ Tj31 (mkF m 82 _ [])
              refine own_st (fun t k => XS.aconstNull Xj31.here hx rfl (hb hby at_82) k) ?_
              show own_Go _ _ _ _ Tj31 (mkF m 83 _ [.null])
              refine own_st (fun t k => XS.goto Xj31.here hx rfl (pc0 := 83) (pc' := 95) rfl (hb hby at_83) (by decide) (by decide) k) ?_
              show own_Go _ _ _ _ Tj31 (mkF m 95 _ [.null])
              exact J43 Tj31 _ hj31 _ _ _ (Xj31.mono (by decide) (by decide)) ej31 Nj31 hS hk hZ hown Zj31 rfl
          by_cases c21 : p5 = (0 : Int32)
          · skip
            refine own_st (fun t k => XS.ifYes Xj19.here hx rfl (pc0 := 59) (pc' := 66) rfl (hb hby at_59) rfl ((if0 _ _).trans (teq c21).1) (by decide) (by decide) k) ?_
            show own_Go _ _ _ _ Tj19 (mkF m 66 _ [])
            refine own_st (fun t k => XS.iconst Xj19.here hx rfl (hb hby at_66) k) ?_
            show own_Go _ _ _ _ Tj19 (mkF m 67 _ [(.int (1 : Int32))])
            obtain ⟨T22, h22, k22, X22, e22, E22, A22, st22⟩ := newP Xj19 hx hZ (hw _ (List.mem_of_getElem? (i := 0) rfl)) ej19 (g := (mkF m 67 #[.val (.long x0), .second, .val (.long x1), .second, .val (.int x2), .val (.int x3), .val (.int x4), .val (.int x5), .val (.int p5), .val (.int p10), .val (.int p15), .val (.int p20), .unset, .unset, .unset, .unset, .unset, .unset, .unset, .unset, .unset] [(.int (1 : Int32))])) rfl (hb hby at_67) rfl (by decide) (cap := 1) (by decide) (by decide) (by decide) (by decide)
            obtain ⟨b22, g22⟩ : ∃ z, z = h0.size := ⟨_, rfl⟩
            rw [← g22] at A22 st22
            refine own_st st22 ?_
            have gx23 : n0 ≤ b22 := Nat.le_trans Z0 (Nat.le_of_eq g22.symm)
            have Z24 : n0 ≤ h22.size := Nat.le_trans Z0 E22.1
            have hk := Nat.le_trans hk E22.1
            have V22 : Arv Z h22 b22 k22 .byte (1 : Int32) [(.int (0 : Int32))] (.int (0 : Int32)) := (Arv.new A22 (by decide)).pad (pad_rep [] (.int (0 : Int32)) 1)
            show own_Go _ _ _ _ T22 (mkF m 69 _ [(.ref b22)])
            refine own_st (fun t k => XS.dup X22.here hx rfl (hb hby at_69) rfl rfl k) ?_
            show own_Go _ _ _ _ T22 (mkF m 70 _ [(.ref b22), (.ref b22)])
            refine own_st (fun t k => XS.iconst X22.here hx rfl (hb hby at_70) k) ?_
            show own_Go _ _ _ _ T22 (mkF m 71 _ [(.int (0 : Int32)), (.ref b22), (.ref b22)])
            refine own_st (fun t k => XS.iload X22.here hx rfl (hb hby at_71) rfl k) ?_
            show own_Go _ _ _ _ T22 (mkF m 73 _ [(.int x3), (.int (0 : Int32)), (.ref b22), (.ref b22)])
            refine own_st (fun t k => XS.i2b X22.here hx rfl (hb hby at_73) rfl k) ?_
            show own_Go _ _ _ _ T22 (mkF m 74 _ [(.int x3.toInt8.toInt32), (.int (0 : Int32)), (.ref b22), (.ref b22)])
            obtain ⟨c25, Ar25, q25, S25, N25, H25, G25⟩ := id V22
            obtain ⟨T25, h25, X25, e25, W25, st25⟩ := stB X22 hx hZ e22 Ar25 (j := (0 : Int32)) (inb_of S25 ⟨by decide, by decide⟩) (g := (mkF m 74 #[.val (.long x0), .second, .val (.long x1), .second, .val (.int x2), .val (.int x3), .val (.int x4), .val (.int x5), .val (.int p5), .val (.int p10), .val (.int p15), .val (.int p20), .unset, .unset, .unset, .unset, .unset, .unset, .unset, .unset, .unset] [(.int x3.toInt8.toInt32), (.int (0 : Int32)), (.ref b22), (.ref b22)])) rfl rfl (hb hby at_74)
            refine own_st st25 ?_
            have f26 := Arv.set Ar25 q25 S25 N25 H25 G25 (fits_nar_byte _) W25 0 rfl (Nat.le_of_ble_eq_true rfl)
            have N27 := Fr.snoc X25 Nj19 gx23
            have Z28 : n0 ≤ h25.size := Nat.le_trans Z24 (Nat.le_of_eq W25.size.symm)
            have hk := Nat.le_trans hk (Nat.le_of_eq W25.size.symm)
            show own_Go _ _ _ _ T25 (mkF m 75 _ [(.ref b22)])
            exact J31 T25 _ h25 _ _ _ X25 e25 N27 hS hk hZ hown Z28 rfl
          · skip
            refine own_st (fun t k => XS.ifNo Xj19.here hx rfl (hb hby at_59) rfl ((if0 _ _).trans (feq c21).1) k) ?_
            show own_Go _ _ _ _ Tj19 (mkF m 62 _ [])
            refine own_st (fun t k => XS.aconstNull Xj19.here hx rfl (hb hby at_62) k) ?_
            show own_Go _ _ _ _ Tj19 (mkF m 63 _ [.null])
            refine own_st (fun t k => XS.goto Xj19.here hx rfl (pc0 := 63) (pc' := 75) rfl (hb hby at_63) (by decide) (by decide) k) ?_
            show own_Go _ _ _ _ Tj19 (mkF m 75 _ [.null])
            exact J31 Tj19 _ h0 _ _ _ (Xj19.mono (by decide) (by decide)) ej19 Nj19 hS hk hZ hown Z0 rfl
        by_cases c16 : (x2 &&& (8 : Int32)) = (0 : Int32)
        · skip
          refine own_st (fun t k => XS.ifYes Xj14.here hx rfl (pc0 := 47) (pc' := 54) rfl (hb hby at_47) rfl ((if0 _ _).trans (teq c16).1) (by decide) (by decide) k) ?_
          show own_Go _ _ _ _ Tj14 (mkF m 54 _ [])
          refine own_st (fun t k => XS.iconst Xj14.here hx rfl (hb hby at_54) k) ?_
          show own_Go _ _ _ _ Tj14 (mkF m 55 _ [(.int (0 : Int32))])
          exact J19 Tj14 _ _ _ _ Xj14 ej14 Nj14 hS hk hZ hown (by simp only [if_pos c16])
        · skip
          refine own_st (fun t k => XS.ifNo Xj14.here hx rfl (hb hby at_47) rfl ((if0 _ _).trans (feq c16).1) k) ?_
          show own_Go _ _ _ _ Tj14 (mkF m 50 _ [])
          refine own_st (fun t k => XS.iconst Xj14.here hx rfl (hb hby at_50) k) ?_
          show own_Go _ _ _ _ Tj14 (mkF m 51 _ [(.int (1 : Int32))])
          refine own_st (fun t k => XS.goto Xj14.here hx rfl (pc0 := 51) (pc' := 55) rfl (hb hby at_51) (by decide) (by decide) k) ?_
          show own_Go _ _ _ _ Tj14 (mkF m 55 _ [(.int (1 : Int32))])
          exact J19 Tj14 _ _ _ _ Xj14 ej14 Nj14 hS hk hZ hown (by simp only [if_neg c16])
      by_cases c11 : (x2 &&& (4 : Int32)) = (0 : Int32)
      · skip
        refine own_st (fun t k => XS.ifYes Xj9.here hx rfl (pc0 := 32) (pc' := 39) rfl (hb hby at_32) rfl ((if0 _ _).trans (teq c11).1) (by decide) (by decide) k) ?_
        show own_Go _ _ _ _ Tj9 (mkF m 39 _ [])
        refine own_st (fun t k => XS.iconst Xj9.here hx rfl (hb hby at_39) k) ?_
        show own_Go _ _ _ _ Tj9 (mkF m 40 _ [(.int (0 : Int32))])
        exact J14 Tj9 _ _ _ _ Xj9 ej9 Nj9 hS hk hZ hown (by simp only [if_pos c11])
      · skip
        refine own_st (fun t k => XS.ifNo Xj9.here hx rfl (hb hby at_32) rfl ((if0 _ _).trans (feq c11).1) k) ?_
        show own_Go _ _ _ _ Tj9 (mkF m 35 _ [])
        refine own_st (fun t k => XS.iconst Xj9.here hx rfl (hb hby at_35) k) ?_
        show own_Go _ _ _ _ Tj9 (mkF m 36 _ [(.int (1 : Int32))])
        refine own_st (fun t k => XS.goto Xj9.here hx rfl (pc0 := 36) (pc' := 40) rfl (hb hby at_36) (by decide) (by decide) k) ?_
        show own_Go _ _ _ _ Tj9 (mkF m 40 _ [(.int (1 : Int32))])
        exact J14 Tj9 _ _ _ _ Xj9 ej9 Nj9 hS hk hZ hown (by simp only [if_neg c11])
    by_cases c6 : (x2 &&& (2 : Int32)) = (0 : Int32)
    · skip
      refine own_st (fun t k => XS.ifYes Xj4.here hx rfl (pc0 := 18) (pc' := 25) rfl (hb hby at_18) rfl ((if0 _ _).trans (teq c6).1) (by decide) (by decide) k) ?_
      show own_Go _ _ _ _ Tj4 (mkF m 25 _ [])
      refine own_st (fun t k => XS.iconst Xj4.here hx rfl (hb hby at_25) k) ?_
      show own_Go _ _ _ _ Tj4 (mkF m 26 _ [(.int (0 : Int32))])
      exact J9 Tj4 _ _ _ _ Xj4 ej4 Nj4 hS hk hZ hown (by simp only [if_pos c6])
    · skip
      refine own_st (fun t k => XS.ifNo Xj4.here hx rfl (hb hby at_18) rfl ((if0 _ _).trans (feq c6).1) k) ?_
      show own_Go _ _ _ _ Tj4 (mkF m 21 _ [])
      refine own_st (fun t k => XS.iconst Xj4.here hx rfl (hb hby at_21) k) ?_
      show own_Go _ _ _ _ Tj4 (mkF m 22 _ [(.int (1 : Int32))])
      refine own_st (fun t k => XS.goto Xj4.here hx rfl (pc0 := 22) (pc' := 26) rfl (hb hby at_22) (by decide) (by decide) k) ?_
      show own_Go _ _ _ _ Tj4 (mkF m 26 _ [(.int (1 : Int32))])
      exact J9 Tj4 _ _ _ _ Xj4 ej4 Nj4 hS hk hZ hown (by simp only [if_neg c6])
  by_cases c1 : (x2 &&& (1 : Int32)) = (0 : Int32)
  · skip
    refine own_st (fun t k => XS.ifYes X0.here hx rfl (pc0 := 4) (pc' := 11) rfl (hb hby at_4) rfl ((if0 _ _).trans (teq c1).1) (by decide) (by decide) k) ?_
    show own_Go _ _ _ _ s₁ (mkF m 11 _ [])
    refine own_st (fun t k => XS.iconst X0.here hx rfl (hb hby at_11) k) ?_
    show own_Go _ _ _ _ s₁ (mkF m 12 _ [(.int (0 : Int32))])
    exact J4 s₁ _ _ _ _ X0 e0 N0 hS hk hZ hown (by simp only [if_pos c1])
  · skip
    refine own_st (fun t k => XS.ifNo X0.here hx rfl (hb hby at_4) rfl ((if0 _ _).trans (feq c1).1) k) ?_
    show own_Go _ _ _ _ s₁ (mkF m 7 _ [])
    refine own_st (fun t k => XS.iconst X0.here hx rfl (hb hby at_7) k) ?_
    show own_Go _ _ _ _ s₁ (mkF m 8 _ [(.int (1 : Int32))])
    refine own_st (fun t k => XS.goto X0.here hx rfl (pc0 := 8) (pc' := 12) rfl (hb hby at_8) (by decide) (by decide) k) ?_
    show own_Go _ _ _ _ s₁ (mkF m 12 _ [(.int (1 : Int32))])
    exact J4 s₁ _ _ _ _ X0 e0 N0 hS hk hZ hown (by simp only [if_neg c1])
set_option maxRecDepth 65536 in
set_option maxHeartbeats 4000000 in
theorem own_comes {Post : Tables → Env → Array Value → State → Outcome → State → Prop} (hpost : ∀ tb e args s v u, (limb_1_1.after args s (.returned v) u = true ∧ limb_1_2.after args s (.returned v) u = true ∧ True) → ReturnedEndW s (.returned v) u (Jvm.fieldLocs frame_1_writes args s ++ Jvm.arrayLocs frame_1_arrays args s ++ Jvm.staticLocs frame_1_statics s) 24 2176 → Post tb e args s (.returned v) u) :
    ArmFor flags0 classFile x code maxLocals ret World_1 tables_1 room_1 Calls_1 rest_1 Pre_1 Post := by
  intro l hfl _ _ p e ha hc hk s m args below hf hA hF happ hP
  obtain ⟨hcalls, hrest, hpre⟩ := hP
  obtain ⟨-, -, -, hnamed, -, -, -, hat⟩ := (Spec.applies_iff hf).mp happ
  obtain ⟨hg, hn⟩ := and_e (Cond.before_iff.mp (show (Jvm.Cond.and given_1 narrow_1).before args s = true from hpre))
  obtain ⟨g0, r0⟩ := and_e hg
  obtain ⟨g1, r1⟩ := and_e r0
  obtain ⟨g2, r2⟩ := and_e r1
  obtain ⟨g3, r3⟩ := and_e r2
  obtain ⟨g4, r4⟩ := and_e r3
  obtain ⟨g5, r5⟩ := and_e r4
  obtain ⟨w0, w1, w2, w3, w4, w5, rfl⟩ : ∃ w0 w1 w2 w3 w4 w5 : Value, args = #[w0, w1, w2, w3, w4, w5] := by
    have hs : args.size = 6 := by simpa [Cond.value, given_1] using g0
    obtain ⟨L⟩ := args
    match L, hs with
    | [w0, w1, w2, w3, w4, w5], _ => exact ⟨w0, w1, w2, w3, w4, w5, rfl⟩
  have hw := fun d (hd : d ∈ tables_1) => atoms_spec (ws := Jvm.Cond.code x code maxLocals ret :: tables_1) hat d (List.mem_cons_of_mem _ hd)
  obtain ⟨i0, ei0⟩ := isL_v g1
  obtain rfl : w0 = (.long i0) := Option.some.inj ei0
  obtain ⟨i1, ei1⟩ := isL_v g2
  obtain rfl : w1 = (.long i1) := Option.some.inj ei1
  obtain ⟨i2, ei2⟩ := is_v g3
  obtain rfl : w2 = (.int i2) := Option.some.inj ei2
  obtain ⟨i3, ei3⟩ := is_v g4
  obtain rfl : w3 = (.int i3) := Option.some.inj ei3
  obtain ⟨i4, ei4⟩ := is_v g5
  obtain rfl : w4 = (.int i4) := Option.some.inj ei4
  obtain ⟨i5, ei5⟩ := is_v r5
  obtain rfl : w5 = (.int i5) := Option.some.inj ei5
  obtain ⟨n, o, h1, h2, h3, _, L, rfl, ⟨rfl, N⟩, hq⟩ := rm0 l s _ hw tables_1 i0 i1 i2 i3 i4 i5 s.heap s.heap.size (Nat.le_refl _) p e ha hc hk s m _ below hf ((Spec.applies_iff_loose hf).mp happ).1 ⟨rfl, State.Warmed39.refl s, rfl⟩ trivial
  refine ⟨n, _, h1, h2, h3, hpost _ _ _ _ _ _ ⟨Cond.after_iff.mpr rfl, Cond.after_iff.mpr (eq_i res_at (Term.int_eval (1)) rfl), trivial⟩ ⟨hq.1, hq.2.1, hq.2.2.1, (hq.2.2.2.sift fun y hy => Or.inr (N y hy)).mono (by decide) (by decide)⟩⟩
theorem main_1_1 : Claimed_1_1 := own_comes fun _ _ _ _ _ _ h hF => ⟨h.1, hF⟩
theorem main_1_2 : Claimed_1_2 := own_comes fun _ _ _ _ _ _ h hF => ⟨h.2.1, hF⟩
end Jvm.Pilot.@@N@@
namespace Jvm.Pilot.@@N@@
open Jvm Jvm.ClassFile Sem Op Lib Jvm.Free Jvm.Stand Jvm.Pilot.@@N@@.Jvm.D
/-! MADE BY PROGRAM (witnessworld.py) out of the Statement's table words and the real class files: 14 classes; the members and pool entries that the words name. The judged class is class 1, her method 1. -/
namespace start1
open Jvm.ClassFile
def u (s : String) : CpInfo := .utf8 (stringToUtf16 s)
/-- a pool by its gaps: so many unusable entries, then the entry; so many at the end -/
def gap : Nat → List CpInfo → List CpInfo
  | 0, r => r
  | n + 1, r => .unusable :: gap n r
def poolList (es : List (Nat × CpInfo)) (last : Nat) : List CpInfo := es.foldr (fun e r => gap e.1 (e.2 :: r)) (gap last [])
def pool (es : List (Nat × CpInfo)) (last : Nat) : Array CpInfo := ⟨poolList es last⟩
def fileOf (pool : Array CpInfo) (this : Nat) (attrs : Array Attribute := #[]) (ms : Array MethodInfo := #[]) (fl : Nat := 33) (sup : Nat := 0) (ifs : Array Nat := #[]) (fds : Array FieldInfo := #[]) : ClassFile where
  minorVersion := 0
  majorVersion := 65
  constantPool := pool
  accessFlags := fl
  thisClass := this
  superClass := sup
  interfaces := ifs
  fields := fds
  methods := ms
  attributes := attrs
def plain (name : String) (sup : Option ClassId) : Class where
  name := name
  kind := .ordinary
  loader := none
  accessFlags := 33
  super := sup
  interfaces := #[]
  cf := none
  fields := #[]
  methods := #[]
  instanceTypes := #[]
  staticTypes := #[]
  resolved := #[]
  callSites := []
  init := .initialized
  statics := none
  mirror := none

def pool0 : Array CpInfo := pool [(5, u "<init>"), (0, u "()V"), (1, .class_ 10), (1, u "java/lang/Object")] 113

def k0c0 : Code := { maxStack := 0, maxLocals := 1, code := object_method_1_code, exceptionTable := #[], attributes := #[] }
def k0m0 : Method := { name := "<init>", desc := "()V", sig := { parameters := [], returnType := none }, accessFlags := 1, code := some k0c0 }
/-- java/lang/Object -/
def k0 : Class := { plain "java/lang/Object" none with
  accessFlags := 33
  interfaces := #[]
  cf := some (fileOf pool0 8 #[] #[{ accessFlags := 1, nameIndex := 5, descriptorIndex := 6, attributes := #[] }] 33 0 #[] #[])
  fields := #[]
  methods := #[k0m0]
  instanceTypes := #[]
  staticTypes := #[]
  resolved := Array.replicate 124 none
  statics := none }

def pool1 : Array CpInfo := pool [(2, .class_ 4), (1, u "java/lang/Object"), (0, u "<init>"), (0, u "()V"), (0, .class_ 8), (0, u "com/example/antientropy/antientropy/sds/LogEntry"), (0, .string 10), (0, u "m"), (0, .string 12), (0, u "s"), (0, .methodref 7 14), (0, .nameAndType 5 15), (0, u "(JLjava/lang/String;Ljava/lang/String;[BJZ)V"), (0, .methodref 7 17), (0, .nameAndType 18 19), (0, u "noteRetrievalHint"), (0, u "([B)V"), (0, .methodref 7 21), (0, .nameAndType 22 23), (0, u "retrievalHint"), (0, u "()[B"), (0, .methodref 7 25), (0, .nameAndType 26 27), (0, u "lamportTimestamp"), (0, u "()J"), (0, .methodref 7 29), (0, .nameAndType 30 27), (0, u "enteredAfter"), (0, .methodref 7 32), (0, .nameAndType 33 34), (0, u "namedBeforeItCame"), (0, u "()Z"), (0, .class_ 36), (0, u "com/example/antientropy/antientropy/sds/LogEntryNoteRetrievalHintPinLaw"), (2, u "law"), (0, u "(JJIIII)Z")] 5

def k1m0 : Method := { name := "<init>", desc := "()V", sig := { parameters := [], returnType := none }, accessFlags := 1, code := none }
def k1c1 : Code := { maxStack := 10, maxLocals := 21, code := code, exceptionTable := #[], attributes := #[] }
def k1m1 : Method := { name := "law", desc := "(JJIIII)Z", sig := { parameters := [.long, .long, .int, .int, .int, .int], returnType := some .boolean }, accessFlags := 9, code := some k1c1 }
/-- com/example/antientropy/antientropy/sds/LogEntryNoteRetrievalHintPinLaw -/
def k1 : Class := { plain "com/example/antientropy/antientropy/sds/LogEntryNoteRetrievalHintPinLaw" (some 0) with
  accessFlags := 49
  interfaces := #[]
  cf := some (fileOf pool1 35 #[] #[{ accessFlags := 1, nameIndex := 5, descriptorIndex := 6, attributes := #[] }, { accessFlags := 9, nameIndex := 39, descriptorIndex := 40, attributes := #[] }] 49 2 #[] #[])
  fields := #[]
  methods := #[k1m0, k1m1]
  instanceTypes := #[]
  staticTypes := #[]
  resolved := Array.replicate 46 none
  statics := none }

def pool2 : Array CpInfo := pool [(1, .methodref 2 3), (0, .class_ 4), (0, .nameAndType 5 6), (0, u "java/lang/Object"), (0, u "<init>"), (0, u "()V"), (2, .long 9223372036854775808), (1, .fieldref 12 13), (0, .class_ 14), (0, .nameAndType 15 16), (0, u "com/example/antientropy/antientropy/sds/LogEntry"), (0, u "copiedAt"), (0, u "J"), (0, .fieldref 12 18), (0, .nameAndType 19 16), (0, u "rebroadcastAt"), (0, .fieldref 12 21), (0, .nameAndType 22 16), (0, u "lamportTimestamp"), (0, .fieldref 12 24), (0, .nameAndType 25 26), (0, u "messageId"), (0, u "Ljava/lang/String;"), (0, .fieldref 12 28), (0, .nameAndType 29 26), (0, u "senderId"), (0, .fieldref 12 31), (0, .nameAndType 32 33), (0, u "retrievalHint"), (0, u "[B"), (0, .fieldref 12 35), (0, .nameAndType 36 16), (0, u "enteredAfter"), (0, .fieldref 12 38), (0, .nameAndType 39 40), (0, u "namedBeforeItCame"), (0, u "Z"), (31, u "(JLjava/lang/String;Ljava/lang/String;[BJZ)V"), (5, u "()J"), (1, u "()[B"), (0, u "noteRetrievalHint"), (0, u "([B)V"), (0, u "()Z")] 4

def k2c0 : Code := { maxStack := 3, maxLocals := 9, code := prog_16_method_1_code, exceptionTable := #[], attributes := #[] }
def k2m0 : Method := { name := "<init>", desc := "(JLjava/lang/String;Ljava/lang/String;[BJZ)V", sig := { parameters := [.long, (.object "java/lang/String"), (.object "java/lang/String"), (.array .byte), .long, .boolean], returnType := none }, accessFlags := 0, code := some k2c0 }
def k2c1 : Code := { maxStack := 2, maxLocals := 1, code := prog_16_method_3_code, exceptionTable := #[], attributes := #[] }
def k2m1 : Method := { name := "lamportTimestamp", desc := "()J", sig := { parameters := [], returnType := some .long }, accessFlags := 0, code := some k2c1 }
def k2c2 : Code := { maxStack := 1, maxLocals := 1, code := prog_16_method_6_code, exceptionTable := #[], attributes := #[] }
def k2m2 : Method := { name := "retrievalHint", desc := "()[B", sig := { parameters := [], returnType := some (.array .byte) }, accessFlags := 0, code := some k2c2 }
def k2c3 : Code := { maxStack := 2, maxLocals := 2, code := prog_16_method_7_code, exceptionTable := #[], attributes := #[] }
def k2m3 : Method := { name := "noteRetrievalHint", desc := "([B)V", sig := { parameters := [(.array .byte)], returnType := none }, accessFlags := 0, code := some k2c3 }
def k2c4 : Code := { maxStack := 2, maxLocals := 1, code := prog_16_method_8_code, exceptionTable := #[], attributes := #[] }
def k2m4 : Method := { name := "enteredAfter", desc := "()J", sig := { parameters := [], returnType := some .long }, accessFlags := 0, code := some k2c4 }
def k2c5 : Code := { maxStack := 1, maxLocals := 1, code := prog_16_method_9_code, exceptionTable := #[], attributes := #[] }
def k2m5 : Method := { name := "namedBeforeItCame", desc := "()Z", sig := { parameters := [], returnType := some .boolean }, accessFlags := 0, code := some k2c5 }
/-- com/example/antientropy/antientropy/sds/LogEntry -/
def k2 : Class := { plain "com/example/antientropy/antientropy/sds/LogEntry" (some 0) with
  accessFlags := 48
  interfaces := #[]
  cf := some (fileOf pool2 12 #[] #[{ accessFlags := 0, nameIndex := 5, descriptorIndex := 72, attributes := #[] }, { accessFlags := 0, nameIndex := 22, descriptorIndex := 78, attributes := #[] }, { accessFlags := 0, nameIndex := 32, descriptorIndex := 80, attributes := #[] }, { accessFlags := 0, nameIndex := 81, descriptorIndex := 82, attributes := #[] }, { accessFlags := 0, nameIndex := 36, descriptorIndex := 78, attributes := #[] }, { accessFlags := 0, nameIndex := 39, descriptorIndex := 83, attributes := #[] }] 48 2 #[] #[{ accessFlags := 18, nameIndex := 22, descriptorIndex := 16, attributes := #[] }, { accessFlags := 18, nameIndex := 25, descriptorIndex := 26, attributes := #[] }, { accessFlags := 18, nameIndex := 29, descriptorIndex := 26, attributes := #[] }, { accessFlags := 2, nameIndex := 32, descriptorIndex := 33, attributes := #[] }, { accessFlags := 18, nameIndex := 36, descriptorIndex := 16, attributes := #[] }, { accessFlags := 18, nameIndex := 39, descriptorIndex := 40, attributes := #[] }, { accessFlags := 2, nameIndex := 15, descriptorIndex := 16, attributes := #[] }, { accessFlags := 2, nameIndex := 19, descriptorIndex := 16, attributes := #[] }])
  fields := #[{ name := "lamportTimestamp", type := .long, accessFlags := 18, slot := 0, constantValue := 0 }, { name := "messageId", type := (.object "java/lang/String"), accessFlags := 18, slot := 1, constantValue := 0 }, { name := "senderId", type := (.object "java/lang/String"), accessFlags := 18, slot := 2, constantValue := 0 }, { name := "retrievalHint", type := (.array .byte), accessFlags := 2, slot := 3, constantValue := 0 }, { name := "enteredAfter", type := .long, accessFlags := 18, slot := 4, constantValue := 0 }, { name := "namedBeforeItCame", type := .boolean, accessFlags := 18, slot := 5, constantValue := 0 }, { name := "copiedAt", type := .long, accessFlags := 2, slot := 6, constantValue := 0 }, { name := "rebroadcastAt", type := .long, accessFlags := 2, slot := 7, constantValue := 0 }]
  methods := #[k2m0, k2m1, k2m2, k2m3, k2m4, k2m5]
  instanceTypes := #[.long, (.object "java/lang/String"), (.object "java/lang/String"), (.array .byte), .long, .boolean, .long, .long]
  staticTypes := #[]
  resolved := Array.replicate 88 none
  statics := none }

def pool3 : Array CpInfo := pool [(1, .class_ 2), (0, u "java/io/Serializable"), (0, .class_ 4), (0, u "java/lang/Object")] 2

/-- java/io/Serializable -/
def k3 : Class := { plain "java/io/Serializable" (some 0) with
  accessFlags := 1537
  interfaces := #[]
  cf := some (fileOf pool3 1 #[] #[] 1537 3 #[] #[])
  fields := #[]
  methods := #[]
  instanceTypes := #[]
  staticTypes := #[]
  resolved := Array.replicate 7 none
  statics := none }

def pool4 : Array CpInfo := pool [(1, .class_ 2), (0, u "java/lang/Comparable"), (0, .class_ 4), (0, u "java/lang/Object")] 7

/-- java/lang/Comparable -/
def k4 : Class := { plain "java/lang/Comparable" (some 0) with
  accessFlags := 1537
  interfaces := #[]
  cf := some (fileOf pool4 1 #[] #[] 1537 3 #[] #[])
  fields := #[]
  methods := #[]
  instanceTypes := #[]
  staticTypes := #[]
  resolved := Array.replicate 12 none
  statics := none }

def pool5 : Array CpInfo := pool [(2, .class_ 4), (1, u "java/lang/CharSequence"), (42, .class_ 48), (0, u "java/lang/CharSequence$1CodePointIterator"), (10, .class_ 60), (0, u "java/lang/CharSequence$1CharIterator"), (5, .class_ 67), (0, u "java/lang/Object")] 63

/-- java/lang/CharSequence -/
def k5 : Class := { plain "java/lang/CharSequence" (some 0) with
  accessFlags := 1537
  interfaces := #[]
  cf := some (fileOf pool5 2 #[.nestMembers #[47, 59]] #[] 1537 66 #[] #[])
  fields := #[]
  methods := #[]
  instanceTypes := #[]
  staticTypes := #[]
  resolved := Array.replicate 131 none
  statics := none }

def pool6 : Array CpInfo := pool [(1, .class_ 2), (0, u "java/lang/constant/Constable"), (0, .class_ 4), (0, u "java/lang/Object")] 6

/-- java/lang/constant/Constable -/
def k6 : Class := { plain "java/lang/constant/Constable" (some 0) with
  accessFlags := 1537
  interfaces := #[]
  cf := some (fileOf pool6 1 #[] #[] 1537 3 #[] #[])
  fields := #[]
  methods := #[]
  instanceTypes := #[]
  staticTypes := #[]
  resolved := Array.replicate 11 none
  statics := none }

def pool7 : Array CpInfo := pool [(1, .class_ 2), (0, u "java/lang/constant/ConstantDesc"), (0, .class_ 4), (0, u "java/lang/Object")] 32

/-- java/lang/constant/ConstantDesc -/
def k7 : Class := { plain "java/lang/constant/ConstantDesc" (some 0) with
  accessFlags := 1537
  interfaces := #[]
  cf := some (fileOf pool7 1 #[] #[] 1537 3 #[] #[])
  fields := #[]
  methods := #[]
  instanceTypes := #[]
  staticTypes := #[]
  resolved := Array.replicate 37 none
  statics := none }

def pool8 : Array CpInfo := pool [(2, .class_ 4), (1, u "java/lang/Object"), (0, u "<init>"), (0, u "()V"), (3, .class_ 12), (1, u "java/lang/String"), (0, u "value"), (0, u "[B"), (2, u "coder"), (0, u "B"), (2, u "hash"), (0, u "I"), (2, u "hashIsZero"), (0, u "Z"), (13, u "COMPACT_STRINGS"), (534, .class_ 576), (0, u "java/lang/CharSequence"), (22, u "CASE_INSENSITIVE_ORDER"), (0, u "Ljava/util/Comparator;"), (500, u "serialPersistentFields"), (0, u "[Ljava/io/ObjectStreamField;"), (0, .class_ 1104), (0, u "java/lang/String$CaseInsensitiveComparator"), (1, .class_ 1107), (0, u "java/io/Serializable"), (0, .class_ 1109), (0, u "java/lang/Comparable"), (0, .class_ 1111), (0, u "java/lang/constant/Constable"), (0, .class_ 1113), (0, u "java/lang/constant/ConstantDesc"), (2, u "serialVersionUID"), (0, u "J"), (3, u "REPL"), (0, u "C"), (2, u "LATIN1"), (1, u "UTF16")] 323

def k8m0 : Method := { name := "<init>", desc := "()V", sig := { parameters := [], returnType := none }, accessFlags := 1, code := none }
/-- java/lang/String -/
def k8 : Class := { plain "java/lang/String" (some 0) with
  accessFlags := 49
  interfaces := #[3, 4, 5, 6, 7]
  cf := some (fileOf pool8 10 #[.nestMembers #[1103]] #[{ accessFlags := 1, nameIndex := 5, descriptorIndex := 6, attributes := #[] }] 49 2 #[1106, 1108, 575, 1110, 1112] #[{ accessFlags := 18, nameIndex := 13, descriptorIndex := 14, attributes := #[] }, { accessFlags := 18, nameIndex := 17, descriptorIndex := 18, attributes := #[] }, { accessFlags := 2, nameIndex := 21, descriptorIndex := 22, attributes := #[] }, { accessFlags := 2, nameIndex := 25, descriptorIndex := 26, attributes := #[] }, { accessFlags := 26, nameIndex := 1116, descriptorIndex := 1117, attributes := #[] }, { accessFlags := 24, nameIndex := 40, descriptorIndex := 26, attributes := #[] }, { accessFlags := 26, nameIndex := 1101, descriptorIndex := 1102, attributes := #[] }, { accessFlags := 26, nameIndex := 1121, descriptorIndex := 1122, attributes := #[] }, { accessFlags := 25, nameIndex := 599, descriptorIndex := 600, attributes := #[] }, { accessFlags := 24, nameIndex := 1125, descriptorIndex := 18, attributes := #[] }, { accessFlags := 24, nameIndex := 1127, descriptorIndex := 18, attributes := #[] }])
  fields := #[{ name := "value", type := (.array .byte), accessFlags := 18, slot := 0, constantValue := 0 }, { name := "coder", type := .byte, accessFlags := 18, slot := 1, constantValue := 0 }, { name := "hash", type := .int, accessFlags := 2, slot := 2, constantValue := 0 }, { name := "hashIsZero", type := .boolean, accessFlags := 2, slot := 3, constantValue := 0 }, { name := "serialVersionUID", type := .long, accessFlags := 26, slot := 0, constantValue := 0 }, { name := "COMPACT_STRINGS", type := .boolean, accessFlags := 24, slot := 1, constantValue := 0 }, { name := "serialPersistentFields", type := (.array (.object "java/io/ObjectStreamField")), accessFlags := 26, slot := 2, constantValue := 0 }, { name := "REPL", type := .char, accessFlags := 26, slot := 3, constantValue := 0 }, { name := "CASE_INSENSITIVE_ORDER", type := (.object "java/util/Comparator"), accessFlags := 25, slot := 4, constantValue := 0 }, { name := "LATIN1", type := .byte, accessFlags := 24, slot := 5, constantValue := 0 }, { name := "UTF16", type := .byte, accessFlags := 24, slot := 6, constantValue := 0 }]
  methods := #[k8m0]
  instanceTypes := #[(.array .byte), .byte, .int, .boolean]
  staticTypes := #[.long, .boolean, (.array (.object "java/io/ObjectStreamField")), .char, (.object "java/util/Comparator"), .byte, .byte]
  resolved := Array.replicate 1451 none
  statics := none }

def pool9 : Array CpInfo := pool [(1, u "java/lang/Cloneable"), (0, .class_ 1), (0, u "java/lang/Object"), (0, .class_ 3)] 3

/-- java/lang/Cloneable -/
def k9 : Class := { plain "java/lang/Cloneable" (some 0) with
  accessFlags := 1537
  interfaces := #[]
  cf := some (fileOf pool9 2 #[] #[] 1537 4 #[] #[])
  fields := #[]
  methods := #[]
  instanceTypes := #[]
  staticTypes := #[]
  resolved := Array.replicate 8 none
  statics := none }

/-- the primitive byte -/
def k10 : Class := { plain "byte" none with kind := .primitive 'B', accessFlags := 0x411 }
/-- [B -/
def k11 : Class := { plain "[B" (some 0) with kind := .array 10 .byte, interfaces := #[9, 3], accessFlags := 1041 }

/-- the primitive int -/
def k12 : Class := { plain "int" none with kind := .primitive 'I', accessFlags := 0x411 }
/-- [I -/
def k13 : Class := { plain "[I" (some 0) with kind := .array 12 .int, interfaces := #[9, 3], accessFlags := 1041 }

def heap : Heap := #[]
def classes : Array Class := #[k0, k1, k2, k3, k4, k5, k6, k7, k8, k9, k10, k11, k12, k13]
def interned : List (Array UInt16 × Addr) := []
def slotsUsed : Nat := 0
def theMethod : MethodId := ⟨1, 1⟩
def args0 : Array Value := #[.long 5, .long 5, .int 5, .int 5, .int 5, .int 5]
def aboutOver (below : List Frame) : State where
  vm := { classes := classes, interned := interned.toArray }
  heap := heap
  slotsUsed := slotsUsed
  threads := #[{ frames := .invoking theMethod args0 :: below }]
def below0 : List Frame := [.native { method := ⟨0, 0⟩, args := #[] }]
def about1 : State := aboutOver below0
def p0 : Program := .bare "" "" ""
def e0 : Env := launch0.env 0 0 0
theorem w_frames : about1.frames = Frame.invoking theMethod args0 :: below0 := rfl
set_option maxRecDepth 65536 in
theorem w_args : argsFit about1.vm theMethod args0 = true := by decide +kernel
set_option maxRecDepth 65536 in
theorem w_heap : heapFits about1 = true := by decide +kernel
set_option maxRecDepth 65536 in
theorem w_runnable : about1.curStatus? = some .runnable := by decide +kernel
set_option maxRecDepth 65536 in
theorem w_alone : about1.alone = true := by decide +kernel
set_option maxRecDepth 65536 in
theorem w_named : about1.methodNamed? x = some theMethod := by decide +kernel
set_option maxRecDepth 65536 in
theorem w_hears : about1.hears theMethod below0 = true := by decide +kernel
set_option maxRecDepth 65536 in
theorem w_ripe : about1.ripe theMethod args0 below0 = true := by decide +kernel
theorem w_running : about1.status = .running := rfl
set_option maxRecDepth 65536 in
theorem w_room : about1.hasRoom e0.platform room_1 = true :=
  launch0.hasRoom_least _ room_1 (by decide +kernel) (by decide +kernel) (by decide +kernel) (by decide +kernel) (by decide +kernel) (by decide +kernel)
theorem allAtoms_all (ts : List Jvm.Cond) (a : Array Jvm.Value) (st : Jvm.State) : (allAtoms ts).before a st = ts.all (fun c => c.before a st) := by
  induction ts with
  | nil => rfl
  | cons c t ih =>
    show (Jvm.Cond.and c (allAtoms t)).before a st = _
    rw [Jvm.Cond.before_and, ih, List.all_cons]
def words1 : List Jvm.Cond := Jvm.Cond.code x code maxLocals ret :: tables_1
/-- a 'code' word, met by the world's own term for the bytes: nothing is compared byte by byte -/
theorem code_word {y : MethodName} {bytes : ByteArray} {mx : Nat} {rt : Option FieldType} {a : Array Value} {s : State} {m : MethodId} {meth : Method} {c : Code} (h1 : s.methodNamed? y = some m) (h2 : s.vm.method? m = some meth) (h3 : meth.code = some c) (h4 : c.code = bytes)
    (h5 : (c.maxLocals == mx && c.exceptionTable.isEmpty && decide (c.maxStack ≤ mostOperands) && decide (meth.sig.returnType = rt) && !meth.locks && decide (parseMethodDescriptor y.desc = some meth.sig)) = true) : (Jvm.Cond.code y bytes mx rt).before a s = true := by
  simp only [Bool.and_eq_true, beq_iff_eq, Bool.not_eq_true', decide_eq_true_eq] at h5
  obtain ⟨⟨⟨⟨⟨g1, g2⟩, g3⟩, g4⟩, g5⟩, g6⟩ := h5
  simp [Cond.before, Cond.holds, Cond.value, h1, h2, h3, h4, g1, g2, g3, g4, g5, g6]
def isCode : Jvm.Cond → Bool
  | .code _ _ _ _ => true
  | _ => false
theorem all_split {L : List Jvm.Cond} {P : Jvm.Cond → Bool} (h1 : L.all (fun c => isCode c || P c) = true) (h2 : ∀ c ∈ L.filter isCode, P c = true) : L.all P = true := by
  refine List.all_eq_true.mpr fun c hc => ?_
  have h := List.all_eq_true.mp h1 c hc
  rcases Bool.eq_false_or_eq_true (isCode c) with hi | hi
  · exact h2 c (List.mem_filter.mpr ⟨hc, hi⟩)
  · simpa [hi] using h
set_option maxRecDepth 65536 in
theorem w_c0 : (Jvm.Cond.code x code maxLocals ret).before args0 about1 = true := code_word (m := ⟨1, 1⟩) (meth := k1m1) (c := k1c1) (by decide +kernel) rfl rfl rfl (by decide +kernel)
set_option maxRecDepth 65536 in
theorem w_c1 : (Jvm.Cond.code ({ cls := "com/example/antientropy/antientropy/sds/LogEntry", name := "<init>", desc := "(JLjava/lang/String;Ljava/lang/String;[BJZ)V" } : Jvm.MethodName) prog_16_method_1_code (9 : Nat) (Option.none : Option Jvm.ClassFile.FieldType)).before args0 about1 = true := code_word (m := ⟨2, 0⟩) (meth := k2m0) (c := k2c0) (by decide +kernel) rfl rfl rfl (by decide +kernel)
set_option maxRecDepth 65536 in
theorem w_c2 : (Jvm.Cond.code ({ cls := "java/lang/Object", name := "<init>", desc := "()V" } : Jvm.MethodName) object_method_1_code (1 : Nat) (Option.none : Option Jvm.ClassFile.FieldType)).before args0 about1 = true := code_word (m := ⟨0, 0⟩) (meth := k0m0) (c := k0c0) (by decide +kernel) rfl rfl rfl (by decide +kernel)
set_option maxRecDepth 65536 in
theorem w_c3 : (Jvm.Cond.code ({ cls := "com/example/antientropy/antientropy/sds/LogEntry", name := "noteRetrievalHint", desc := "([B)V" } : Jvm.MethodName) prog_16_method_7_code (2 : Nat) (Option.none : Option Jvm.ClassFile.FieldType)).before args0 about1 = true := code_word (m := ⟨2, 3⟩) (meth := k2m3) (c := k2c3) (by decide +kernel) rfl rfl rfl (by decide +kernel)
set_option maxRecDepth 65536 in
theorem w_c4 : (Jvm.Cond.code ({ cls := "com/example/antientropy/antientropy/sds/LogEntry", name := "retrievalHint", desc := "()[B" } : Jvm.MethodName) prog_16_method_6_code (1 : Nat) (Option.some (Jvm.ClassFile.FieldType.array Jvm.ClassFile.FieldType.byte))).before args0 about1 = true := code_word (m := ⟨2, 2⟩) (meth := k2m2) (c := k2c2) (by decide +kernel) rfl rfl rfl (by decide +kernel)
set_option maxRecDepth 65536 in
theorem w_c5 : (Jvm.Cond.code ({ cls := "com/example/antientropy/antientropy/sds/LogEntry", name := "lamportTimestamp", desc := "()J" } : Jvm.MethodName) prog_16_method_3_code (1 : Nat) (Option.some Jvm.ClassFile.FieldType.long)).before args0 about1 = true := code_word (m := ⟨2, 1⟩) (meth := k2m1) (c := k2c1) (by decide +kernel) rfl rfl rfl (by decide +kernel)
set_option maxRecDepth 65536 in
theorem w_c6 : (Jvm.Cond.code ({ cls := "com/example/antientropy/antientropy/sds/LogEntry", name := "enteredAfter", desc := "()J" } : Jvm.MethodName) prog_16_method_8_code (1 : Nat) (Option.some Jvm.ClassFile.FieldType.long)).before args0 about1 = true := code_word (m := ⟨2, 4⟩) (meth := k2m4) (c := k2c4) (by decide +kernel) rfl rfl rfl (by decide +kernel)
set_option maxRecDepth 65536 in
theorem w_c7 : (Jvm.Cond.code ({ cls := "com/example/antientropy/antientropy/sds/LogEntry", name := "namedBeforeItCame", desc := "()Z" } : Jvm.MethodName) prog_16_method_9_code (1 : Nat) (Option.some Jvm.ClassFile.FieldType.boolean)).before args0 about1 = true := code_word (m := ⟨2, 5⟩) (meth := k2m5) (c := k2c5) (by decide +kernel) rfl rfl rfl (by decide +kernel)
def codes1 : List Jvm.Cond := [Jvm.Cond.code x code maxLocals ret, Jvm.Cond.code ({ cls := "com/example/antientropy/antientropy/sds/LogEntry", name := "<init>", desc := "(JLjava/lang/String;Ljava/lang/String;[BJZ)V" } : Jvm.MethodName) prog_16_method_1_code (9 : Nat) (Option.none : Option Jvm.ClassFile.FieldType), Jvm.Cond.code ({ cls := "java/lang/Object", name := "<init>", desc := "()V" } : Jvm.MethodName) object_method_1_code (1 : Nat) (Option.none : Option Jvm.ClassFile.FieldType), Jvm.Cond.code ({ cls := "com/example/antientropy/antientropy/sds/LogEntry", name := "noteRetrievalHint", desc := "([B)V" } : Jvm.MethodName) prog_16_method_7_code (2 : Nat) (Option.none : Option Jvm.ClassFile.FieldType), Jvm.Cond.code ({ cls := "com/example/antientropy/antientropy/sds/LogEntry", name := "retrievalHint", desc := "()[B" } : Jvm.MethodName) prog_16_method_6_code (1 : Nat) (Option.some (Jvm.ClassFile.FieldType.array Jvm.ClassFile.FieldType.byte)), Jvm.Cond.code ({ cls := "com/example/antientropy/antientropy/sds/LogEntry", name := "lamportTimestamp", desc := "()J" } : Jvm.MethodName) prog_16_method_3_code (1 : Nat) (Option.some Jvm.ClassFile.FieldType.long), Jvm.Cond.code ({ cls := "com/example/antientropy/antientropy/sds/LogEntry", name := "enteredAfter", desc := "()J" } : Jvm.MethodName) prog_16_method_8_code (1 : Nat) (Option.some Jvm.ClassFile.FieldType.long), Jvm.Cond.code ({ cls := "com/example/antientropy/antientropy/sds/LogEntry", name := "namedBeforeItCame", desc := "()Z" } : Jvm.MethodName) prog_16_method_9_code (1 : Nat) (Option.some Jvm.ClassFile.FieldType.boolean)]
set_option maxRecDepth 65536 in
theorem codes_eq : words1.filter isCode = codes1 := rfl
theorem w_codes : ∀ c ∈ words1.filter isCode, c.before args0 about1 = true := by
  rw [codes_eq]
  intro c hc
  simp only [codes1, List.mem_cons, List.not_mem_nil, or_false] at hc
  rcases hc with rfl | rfl | rfl | rfl | rfl | rfl | rfl | rfl
  · exact w_c0
  · exact w_c1
  · exact w_c2
  · exact w_c3
  · exact w_c4
  · exact w_c5
  · exact w_c6
  · exact w_c7
set_option maxRecDepth 65536 in
theorem w_t1 : (words1.take 24).all (fun c => isCode c || c.before args0 about1) = true := by decide +kernel
set_option maxRecDepth 65536 in
theorem w_t2 : ((words1.drop 24).take 24).all (fun c => isCode c || c.before args0 about1) = true := by decide +kernel
set_option maxRecDepth 65536 in
theorem w_t3 : ((words1.drop 24).drop 24).all (fun c => isCode c || c.before args0 about1) = true := by decide +kernel
theorem w_tables : (allAtoms (Jvm.Cond.code x code maxLocals ret :: tables_1)).before args0 about1 = true := by
  rw [allAtoms_all]
  show words1.all (fun c => c.before args0 about1) = true
  refine all_split ?_ w_codes
  rw [← List.take_append_drop 24 words1, List.all_append, w_t1, ← List.take_append_drop 24 (words1.drop 24), List.all_append, w_t2, w_t3]
  rfl
set_option maxRecDepth 65536 in
theorem w_case : (Jvm.Cond.and given_1 narrow_1).before args0 about1 = true := by decide +kernel
theorem w_applies : (headSpec (Jvm.Cond.code x code maxLocals ret :: tables_1) room_1).applies x e0.platform about1 = true :=
  (Spec.applies_iff w_frames).mpr ⟨w_running, w_runnable, w_alone, w_named, w_hears, w_ripe, w_room, w_tables⟩
theorem atStart : AtStart classFile x code maxLocals ret World_1 tables_1 room_1 Calls_1 rest_1 Pre_1 launch0 p0 e0 about1 theMethod args0 below0 :=
  ⟨lists_1, trivial, launch0.admits_env _ _ _, launch0.least_env, fairChoices_fair.cas, fairChoices_fair.clock, w_frames, w_args, w_heap, w_applies, trivial, trivial, w_case⟩
end start1
theorem witness_1 : WitnessClaimed_1 := ⟨start1.p0, start1.e0, start1.about1, start1.theMethod, start1.args0, start1.below0, start1.atStart⟩
end Jvm.Pilot.@@N@@
