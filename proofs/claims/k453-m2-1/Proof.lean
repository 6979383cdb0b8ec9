import JvmDerived
import JvmDerived.Pilot.@@N@@Statement
import JvmDerived.Pilot.@@N@@Code
set_option linter.unusedVariables false
set_option linter.unusedSimpArgs false
@@BLOCK:NumsL.lean.txt@@
namespace Jvm.Pilot.@@N@@
open Jvm Jvm.ClassFile Sem Op Lib Jvm.Free Jvm.Stand Jvm.LawKit Jvm.RoadKit Bundle Jvm.Pilot.@@N@@.Jvm.D
/-- from here the run comes to a state of which P holds -/
def own_Go (tb : Tables) (e : Env) (below : List Frame) (P : State → Prop) (T : State) (g : JFrame) : Prop := ∃ t, Steps tb e below (T.setTop g) t ∧ P t
theorem own_st {tb : Tables} {e : Env} {below : List Frame} {P : State → Prop} {T T' : State} {g g' : JFrame} (h : ∀ t, Steps tb e below (T'.setTop g') t → Steps tb e below (T.setTop g) t) (k : own_Go tb e below P T' g') : own_Go tb e below P T g := by
  obtain ⟨t, a, b⟩ := k; exact ⟨t, h t a, b⟩
/-- what the end of a body must be -/
def own_P (s : State) (below : List Frame) (Q : Option Value → Heap → List Loc → Prop) (C S : Nat) (t : State) : Prop := t.status = .running ∧ ∃ o, Ended t below o ∧ ∃ v L, o = .returned v ∧ Q v t.heap L ∧ FrameEnd s o t L C S
/-- .. of a body that may have interned -/
def own_PW (s : State) (below : List Frame) (Q : Option Value → Heap → List Loc → Prop) (C S : Nat) (t : State) : Prop := t.status = .running ∧ ∃ o, Ended t below o ∧ ∃ v L, o = .returned v ∧ Q v t.heap L ∧ ReturnedEndW s o t L C S
section own
variable {p : Program} {l : Launch} {e : Env} {R : Room} {s : State} {m : MethodId} {args : Array Value} {below : List Frame} {meth : Method} {c : Code} {T : State} {locs : List Loc} {cells slots : Nat} {Qo : Option Value → Heap → List Loc → Prop} {C' S' : Nat}
theorem own_out (X : Stand p l e R s m args below meth c T locs cells slots) {v : Option Value} {g : JFrame} (hv : meth.sig.returnType = none → v = none) (hlocks : meth.locks = false)
    (hst : ∀ fs, (∀ (f : JFrame) (acts : List Action), f.method = m → f.locked = none → f.entered = [] → (doReturn e (T.setTop f) acts v).1 = T.setFrames fs) → Steps p.tables e below (T.setTop g) (T.setFrames fs))
    (hc : cells ≤ C') (hs : slots ≤ S') (hq : Qo v T.heap locs) : own_Go p.tables e below (own_P s below Qo C' S') T g := by
  obtain ⟨fs, hr, hrun, hended, hW, hsame⟩ := X.leave (v := v) hv hlocks
  exact ⟨_, hst fs hr, hrun, _, hended, _, _, rfl, hq, ⟨_, rfl⟩, hW, hsame.mono hc hs⟩
theorem own_outW {vm0 : Vm} (X : Stand p l e R (s.setVm vm0) m args below meth c T locs cells slots) {k0 : Nat} (hS : s.Since vm0 k0) (hk : k0 ≤ T.heap.size) {v : Option Value} {g : JFrame} (hv : meth.sig.returnType = none → v = none) (hlocks : meth.locks = false)
    (hst : ∀ fs, (∀ (f : JFrame) (acts : List Action), f.method = m → f.locked = none → f.entered = [] → (doReturn e (T.setTop f) acts v).1 = T.setFrames fs) → Steps p.tables e below (T.setTop g) (T.setFrames fs))
    (hc : cells ≤ C') (hs : slots ≤ S') (hq : Qo v T.heap locs) : own_Go p.tables e below (own_PW s below Qo C' S') T g := by
  obtain ⟨fs, hr, hrun, hended, hW⟩ := X.leaveW hS hk (v := v) hv hlocks
  exact ⟨_, hst fs hr, hrun, _, hended, _, _, rfl, hq, hW.1, hW.2.1, hW.2.2.1, hW.2.2.2.mono hc hs⟩
theorem own_retI (X : Stand p l e R s m args below meth c T locs cells slots) (hx : p.tables.exec = Jvm.exec) {pc : Nat} {Ls : Array Slot} {z : Int32} {rest : List Value} (hret : meth.sig.returnType = some .int) (hd : decode c.code pc = .ok (.ireturn, 1)) (fs : List Frame)
    (hl : ∀ (f : JFrame) (acts : List Action), f.method = m → f.locked = none → f.entered = [] → (doReturn e (T.setTop f) acts (some (.int z))).1 = T.setFrames fs) : Steps p.tables e below (T.setTop (mkF m pc Ls (.int z :: rest))) (T.setFrames fs) :=
  retOut X hx hret rfl (Or.inl ⟨rfl, Or.inl rfl, _, rfl⟩) hd hl
theorem own_retZ (X : Stand p l e R s m args below meth c T locs cells slots) (hx : p.tables.exec = Jvm.exec) {pc : Nat} {Ls : Array Slot} {z : Int32} {rest : List Value} (hret : meth.sig.returnType = some .boolean) (hd : decode c.code pc = .ok (.ireturn, 1)) (hb : z = 0 ∨ z = 1) (fs : List Frame)
    (hl : ∀ (f : JFrame) (acts : List Action), f.method = m → f.locked = none → f.entered = [] → (doReturn e (T.setTop f) acts (some (.int z))).1 = T.setFrames fs) : Steps p.tables e below (T.setTop (mkF m pc Ls (.int z :: rest))) (T.setFrames fs) := by
  have e1 : nar .boolean z = z := by rcases hb with rfl | rfl <;> decide
  exact retN X hx hret (Or.inl rfl) hd (by rw [e1]; exact hl)
theorem own_retJ (X : Stand p l e R s m args below meth c T locs cells slots) (hx : p.tables.exec = Jvm.exec) {pc : Nat} {Ls : Array Slot} {z : Int64} {rest : List Value} (hret : meth.sig.returnType = some .long) (hd : decode c.code pc = .ok (.lreturn, 1)) (fs : List Frame)
    (hl : ∀ (f : JFrame) (acts : List Action), f.method = m → f.locked = none → f.entered = [] → (doReturn e (T.setTop f) acts (some (.long z))).1 = T.setFrames fs) : Steps p.tables e below (T.setTop (mkF m pc Ls (.long z :: rest))) (T.setFrames fs) :=
  retOut X hx hret rfl (Or.inr (Or.inl ⟨rfl, rfl, _, rfl⟩)) hd hl
theorem own_retR (X : Stand p l e R s m args below meth c T locs cells slots) (hx : p.tables.exec = Jvm.exec) {pc : Nat} {Ls : Array Slot} {w : Value} {t : FieldType} {rest : List Value} (hret : meth.sig.returnType = some t) (ht : t.isReference = true) (hw : w.isRef = true) (hn : narrow t w = w) (hd : decode c.code pc = .ok (.areturn, 1)) (fs : List Frame)
    (hl : ∀ (f : JFrame) (acts : List Action), f.method = m → f.locked = none → f.entered = [] → (doReturn e (T.setTop f) acts (some w)).1 = T.setFrames fs) : Steps p.tables e below (T.setTop (mkF m pc Ls (w :: rest))) (T.setFrames fs) :=
  retOut X hx hret hn (Or.inr (Or.inr (Or.inr (Or.inr ⟨rfl, ht, hw⟩)))) hd hl
end own
/-- a private method is the one that is picked -/
theorem own_selp {s : State} {args : Array Value} {y : MethodName} {n : Nat} (hi : (Jvm.Cond.instantiable y.cls n).before args s = true) (hp : s.PrivateAt y) (hm : (Jvm.Cond.instanceMethod y).before args s = true) (hy : y.cls ≠ "java/lang/invoke/MethodHandle" ∧ y.cls ≠ "java/lang/invoke/VarHandle") : (Jvm.Cond.selects y.cls y y).before args s = true := by
  obtain ⟨c, k, h1, h2, -, h4, -⟩ := Cond.instantiable_spec hi
  exact selects_self_of_private h1 h2 (Bool.or_eq_false_iff.mp h4).1 hp hm hy
theorem own_staK {Z : State} {h h' : Heap} {C n d : String} {v : Value} {ws : List Addr} (F : Sta Z h C n d v) (K : Keep h h' ws) (q : ∀ x ∈ ws, ∃ D, Exa Z h x D) : Sta Z h' C n d v := by
  obtain ⟨cf, i, k, f, st, cell, h1, h2, h3, h4, h5, h6, h7⟩ := F
  refine ⟨cf, i, k, f, st, cell, h1, h2, h3, h4, K.2.1 st cell h5 (fun hm => ?_), h6, h7⟩
  obtain ⟨D, c', k', e1, -, -, e4, -⟩ := q st hm
  cases h5.symm.trans e1
  rw [h6] at e4; cases e4
/-- a reference or null -/
theorem own_refOf {w : Value} (h : w.isRef = true) (c : ¬ w = Value.null) : ∃ a, w = .ref a := (ref_cases h).resolve_left c
theorem own_nW {t : FieldType} {w : Value} (ht : t.isReference = true) (h : w.isRef = true) : narrow t w = w := by
  rcases ref_cases h with rfl | ⟨a, rfl⟩ <;> cases t <;> first | rfl | simp [FieldType.isReference] at ht
theorem own_fW {t : FieldType} {w : Value} (ht : t.isReference = true) (h : w.isRef = true) : fits t w = true := by
  rcases ref_cases h with rfl | ⟨a, rfl⟩ <;> cases t <;> first | rfl | simp [FieldType.isReference] at ht
theorem own_nb {z : Int32} (h : z = 0 ∨ z = 1) : narrow .boolean (.int z) = .int z := by rcases h with rfl | rfl <;> rfl
theorem own_fb {z : Int32} (h : z = 0 ∨ z = 1) : fits .boolean (.int z) = true := by rcases h with rfl | rfl <;> rfl
/-- lcmp and a branch, in one -/
def own_lcv : ClassFile.Cond → Int64 → Int64 → Prop
  | .lt, x, y => x < y | .ge, x, y => ¬ x < y | .gt, x, y => y < x | .le, x, y => ¬ y < x | .eq, x, y => x = y | .ne, x, y => ¬ x = y
theorem own_lcT {cd : ClassFile.Cond} {x y : Int64} (h : own_lcv cd x y) : ifCond.holds cd (lcmpW x y) = true := by
  rw [if0]
  cases cd
  · exact (teq ((lw_eq x y).mpr h)).1
  · exact (feq (fun q => h ((lw_eq x y).mp q))).2
  · exact (tlt ((lw_lt x y).mpr h)).1
  · exact (flt (fun q => h ((lw_lt x y).mp q))).2.1
  · exact (tlt ((lw_gt x y).mpr h)).2.2.1
  · exact (flt (fun q => h ((lw_gt x y).mp q))).2.2.2
theorem own_lcF {cd : ClassFile.Cond} {x y : Int64} (h : ¬ own_lcv cd x y) : ifCond.holds cd (lcmpW x y) = false := by
  rw [if0]
  cases cd
  · exact (feq (fun q => h ((lw_eq x y).mp q))).1
  · exact (teq (Classical.byContradiction fun q => h (fun r => q ((lw_eq x y).mpr r)))).2
  · exact (flt (fun q => h ((lw_lt x y).mp q))).1
  · exact (tlt (Classical.byContradiction fun q => h (fun r => q ((lw_lt x y).mpr r)))).2.1
  · exact (flt (fun q => h ((lw_gt x y).mp q))).2.2.1
  · exact (tlt (Classical.byContradiction fun q => h (fun r => q ((lw_gt x y).mpr r)))).2.2.2

theorem own_pd___CI_BII_I : parseMethodDescriptor "([CI[BII)I" = some ⟨[(.array .char), .int, (.array .byte), .int, .int], some .int⟩ := by decide +kernel
theorem own_pd___CII__B : parseMethodDescriptor "([CII)[B" = some ⟨[(.array .char), .int, .int], some (.array .byte)⟩ := by decide +kernel
theorem own_pd___BI_B : parseMethodDescriptor "([BI)B" = some ⟨[(.array .byte), .int], some .byte⟩ := by decide +kernel
theorem own_pd___CIILjava_lang_Void__V : parseMethodDescriptor "([CIILjava/lang/Void;)V" = some ⟨[(.array .char), .int, .int, (.object "java/lang/Void")], none⟩ := by decide +kernel
theorem own_pd___C_V : parseMethodDescriptor "([C)V" = some ⟨[(.array .char)], none⟩ := by decide +kernel
theorem own_pd___B_B_Z : parseMethodDescriptor "([B[B)Z" = some ⟨[(.array .byte), (.array .byte)], some .boolean⟩ := by decide +kernel
theorem own_pd__Ljava_lang_Object__Z : parseMethodDescriptor "(Ljava/lang/Object;)Z" = some ⟨[(.object "java/lang/Object")], some .boolean⟩ := by decide +kernel
theorem own_pd__JJ_J : parseMethodDescriptor "(JJ)J" = some ⟨[.long, .long], some .long⟩ := by decide +kernel
theorem own_pd__I_Ljava_lang_String_ : parseMethodDescriptor "(I)Ljava/lang/String;" = some ⟨[.int], some (.object "java/lang/String")⟩ := by decide +kernel
theorem own_pd___V : parseMethodDescriptor "()V" = some ⟨[], none⟩ := by decide +kernel
theorem own_pd__J_V : parseMethodDescriptor "(J)V" = some ⟨[.long], none⟩ := by decide +kernel
theorem own_pd__Ljava_lang_String_J_Z : parseMethodDescriptor "(Ljava/lang/String;J)Z" = some ⟨[(.object "java/lang/String"), .long], some .boolean⟩ := by decide +kernel
theorem own_pd__Ljava_lang_String_J_V : parseMethodDescriptor "(Ljava/lang/String;J)V" = some ⟨[(.object "java/lang/String"), .long], none⟩ := by decide +kernel
/-- the byte of a char of one byte, as it comes to lie -/
def own_by (ch : Int32) : Int32 := nar .byte ch.toInt8.toInt32
/-- the char that name lays -/
def own_chr (c : Int32) : Int32 := nar .char (((97 : Int32) + (c &&& (3 : Int32))).toUInt32.toUInt16.toUInt32.toInt32)
theorem own_chr_le (c : Int32) : ¬ (255 : Int32) < own_chr c := by
  have e := c_mask c 3 2 (by decide) (by decide)
  have e2 := c_iadd 97 (c &&& 3)
  rw [show (97 : Int32).toInt = 97 from rfl] at e2
  have r := rng32 (97 + (c &&& 3))
  have q := c_i2c (97 + (c &&& 3))
  unfold own_chr
  generalize (97 + (c &&& 3)).toUInt32.toUInt16.toUInt32.toInt32 = u at *
  show ¬ (255 : Int32) < u.toUInt32.toUInt16.toUInt32.toInt32
  have q2 := c_i2c u
  rw [Int32.lt_iff_toInt_lt, show (255 : Int32).toInt = 255 from rfl]
  omega
theorem d1_0 : decode jdk_52_method_21_code 0 = .ok (.iconst 0, 1) := by decide +kernel
theorem d1_1 : decode jdk_52_method_21_code 1 = .ok (.istore 5, 2) := by decide +kernel
theorem d1_3 : decode jdk_52_method_21_code 3 = .ok (.iload 5, 2) := by decide +kernel
theorem d1_5 : decode jdk_52_method_21_code 5 = .ok (.iload 4, 2) := by decide +kernel
theorem d1_7 : decode jdk_52_method_21_code 7 = .ok (.if_icmp .ge 37, 3) := by decide +kernel
theorem d1_10 : decode jdk_52_method_21_code 10 = .ok (.aload_n 0, 1) := by decide +kernel
theorem d1_11 : decode jdk_52_method_21_code 11 = .ok (.iload_n 1, 1) := by decide +kernel
theorem d1_12 : decode jdk_52_method_21_code 12 = .ok (.caload, 1) := by decide +kernel
theorem d1_13 : decode jdk_52_method_21_code 13 = .ok (.istore 6, 2) := by decide +kernel
theorem d1_15 : decode jdk_52_method_21_code 15 = .ok (.iload 6, 2) := by decide +kernel
theorem d1_17 : decode jdk_52_method_21_code 17 = .ok (.sipush 255, 3) := by decide +kernel
theorem d1_20 : decode jdk_52_method_21_code 20 = .ok (.if_icmp .le 6, 3) := by decide +kernel
theorem d1_26 : decode jdk_52_method_21_code 26 = .ok (.aload_n 2, 1) := by decide +kernel
theorem d1_27 : decode jdk_52_method_21_code 27 = .ok (.iload_n 3, 1) := by decide +kernel
theorem d1_28 : decode jdk_52_method_21_code 28 = .ok (.iload 6, 2) := by decide +kernel
theorem d1_30 : decode jdk_52_method_21_code 30 = .ok (.i2b, 1) := by decide +kernel
theorem d1_31 : decode jdk_52_method_21_code 31 = .ok (.bastore, 1) := by decide +kernel
theorem d1_32 : decode jdk_52_method_21_code 32 = .ok (.iinc 1 1, 3) := by decide +kernel
theorem d1_35 : decode jdk_52_method_21_code 35 = .ok (.iinc 3 1, 3) := by decide +kernel
theorem d1_38 : decode jdk_52_method_21_code 38 = .ok (.iinc 5 1, 3) := by decide +kernel
theorem d1_41 : decode jdk_52_method_21_code 41 = .ok (.goto (-38), 3) := by decide +kernel
theorem d1_44 : decode jdk_52_method_21_code 44 = .ok (.iload 4, 2) := by decide +kernel
theorem d1_46 : decode jdk_52_method_21_code 46 = .ok (.ireturn, 1) := by decide +kernel
theorem own_pn1 : plainName "java/lang/StringUTF16" = true := by first | (simp [plainName, overriddenIn]; done) | decide +kernel
theorem own_ef1 (m : MethodId) (ca : Addr) (ba : Addr) : entryFrame m #[(.ref ca), (.int (0 : Int32)), (.ref ba), (.int (0 : Int32)), (.int (1 : Int32))] 7 = mkF m 0 #[.val (.ref ca), .val (.int (0 : Int32)), .val (.ref ba), .val (.int (0 : Int32)), .val (.int (1 : Int32)), .unset, .unset] [] := by first | (simp [entryFrame, mkF, argsToLocals, Value.category]; done) | rfl
def Q1 (Z : State) (ca : Addr) (ba : Addr) (kc : ClassId) (kb : ClassId) (ch : Int32) (bv : Int32) (h0 : Heap) (n0 : Nat) (v : Option Value) (h : Heap) (L : List Loc) : Prop := v = some (.int (1 : Int32)) ∧ Fr n0 L ∧ Keep h0 h [ba] ∧ Arv Z h ba kb .byte (1 : Int32) [(.int (own_by ch))] (.int (0 : Int32))
set_option maxRecDepth 65536 in
set_option maxHeartbeats 4000000 in
theorem rm1 (l : Launch) (Z : State) (a0 : Array Value) (hw : ∀ d ∈ tables_1, d.before a0 Z = true) (ws : List Jvm.Cond) (ca : Addr) (ba : Addr) (kc : ClassId) (kb : ClassId) (ch : Int32) (bv : Int32) (h0 : Heap) (n0 : Nat) (Z0 : n0 ≤ h0.size) (F0 : Arv Z h0 ca kc .char (1 : Int32) [(.int ch)] (.int (0 : Int32))) (F1 : Arv Z h0 ba kb .byte (1 : Int32) [(.int bv)] (.int (0 : Int32))) (hch : ¬ (255 : Int32) < ch) (n1 : ca ≠ ba) (g_ba : n0 ≤ ba) :
    MetFree l (⟨"java/lang/StringUTF16", "compress", "([CI[BII)I"⟩ : MethodName) (head1 (Jvm.Cond.code (⟨"java/lang/StringUTF16", "compress", "([CI[BII)I"⟩ : MethodName) jdk_52_method_21_code 7 (some .int) :: ws) ({ frames := 0, cells := 0, slots := 0, locals := 0 } : Room)) (fun aW U => aW = #[(.ref ca), (.int (0 : Int32)), (.ref ba), (.int (0 : Int32)), (.int (1 : Int32))] ∧ Z.Warmed39 U.vm ∧ U.heap = h0) (fun _ _ _ _ _ => True) (fun _ U o U' => ∃ v L, o = .returned v ∧ Q1 Z ca ba kc kb ch bv h0 n0 v U'.heap L ∧ FrameEnd U o U' L ({ frames := 0, cells := 0, slots := 0, locals := 0 } : Room).cells ({ frames := 0, cells := 0, slots := 0, locals := 0 } : Room).slots) := by
  refine MetFree.of_bodySF (plainFor_of_name own_pn1) hisR ?_
  intro p e s m args below meth c s₁ Bd hml0 hP hK
  obtain ⟨rfl, hZ, hh⟩ := hP
  have hx := Bd.exec
  have hby := Bd.bytes
  have hml : c.maxLocals = 7 := hml0
  have hown : s.vm.findClass "java/lang/StringUTF16" = some m.cls := findClass_of_methodNamed Bd.named
  have hnm := (name_of_methodNamed Bd.named Bd.method).1
  have X0 : Stand p l e ({ frames := 0, cells := 0, slots := 0, locals := 0 } : Room) s m #[(.ref ca), (.int (0 : Int32)), (.ref ba), (.int (0 : Int32)), (.int (1 : Int32))] below meth c s₁ [] 0 0 := Stand.of_body Bd
  have e0 : s₁.heap = h0 := by rw [← hh, Bd.state]; rfl
  have N0 := Fr.nil n0
  have K0 : Keep h0 h0 [ba] := Keep.refl _ _
  obtain ⟨Pq, hPq⟩ : ∃ P, P = own_P s below (fun v h L => Q1 Z ca ba kc kb ch bv h0 n0 v h L) ({ frames := 0, cells := 0, slots := 0, locals := 0 } : Room).cells ({ frames := 0, cells := 0, slots := 0, locals := 0 } : Room).slots := ⟨_, rfl⟩
  suffices hgo : own_Go p.tables e below Pq s₁ (mkF m 0 #[.val (.ref ca), .val (.int (0 : Int32)), .val (.ref ba), .val (.int (0 : Int32)), .val (.int (1 : Int32)), .unset, .unset] []) by
    subst hPq
    obtain ⟨t, k1, k2, o, k3, k4⟩ := hgo
    exact ⟨t, o, castTop (own_ef1 m ca ba) k1, k2, k3, k4⟩
  show own_Go _ _ _ _ s₁ (mkF m 0 #[.val (.ref ca), .val (.int (0 : Int32)), .val (.ref ba), .val (.int (0 : Int32)), .val (.int (1 : Int32)), .unset, .unset] [])
  refine own_st (fun t k => XS.iconst X0.here hx rfl (hb hby d1_0) k) ?_
  show own_Go _ _ _ _ s₁ (mkF m 1 _ [(.int (0 : Int32))])
  refine own_st (fun t k => XS.istore X0.here hx rfl (hb hby d1_1) rfl (l' := #[.val (.ref ca), .val (.int (0 : Int32)), .val (.ref ba), .val (.int (0 : Int32)), .val (.int (1 : Int32)), .val (.int (0 : Int32)), .unset]) rfl k) ?_
  show own_Go _ _ _ _ s₁ (mkF m 3 #[.val (.ref ca), .val (.int (0 : Int32)), .val (.ref ba), .val (.int (0 : Int32)), .val (.int (1 : Int32)), .val (.int (0 : Int32)), .unset] [])
  refine own_st (fun t k => XS.iload X0.here hx rfl (hb hby d1_3) rfl k) ?_
  show own_Go _ _ _ _ s₁ (mkF m 5 _ [(.int (0 : Int32))])
  refine own_st (fun t k => XS.iload X0.here hx rfl (hb hby d1_5) rfl k) ?_
  show own_Go _ _ _ _ s₁ (mkF m 7 _ [(.int (1 : Int32)), (.int (0 : Int32))])
  refine own_st (fun t k => XS.icmpNo X0.here hx rfl (hb hby d1_7) rfl (tlt (by decide : ((0 : Int32) < (1 : Int32)))).2.1 k) ?_
  show own_Go _ _ _ _ s₁ (mkF m 10 _ [])
  refine own_st (fun t k => XS.aloadN X0.here hx rfl (hb hby d1_10) rfl rfl k) ?_
  show own_Go _ _ _ _ s₁ (mkF m 11 _ [(.ref ca)])
  refine own_st (fun t k => XS.iloadN X0.here hx rfl (hb hby d1_11) rfl k) ?_
  show own_Go _ _ _ _ s₁ (mkF m 12 _ [(.int (0 : Int32)), (.ref ca)])
  obtain ⟨c1, Ar1, q1, S1, N1, H1, G1⟩ := id F0
  have in1 := ((inb_of S1 ⟨by decide, by decide⟩) : ¬ ((0 : Int32) < 0 ∨ c1.slots.size ≤ ((0 : Int32)).toNatClampNeg))
  refine own_st (fun t k => X0.caload hx (j := (0 : Int32)) (v := (.int ch)) (by rw [e0]; exact Ar1.1) (State.isArrayOf_alike hZ.alike Ar1.2.1) Ar1.2.2 in1 (H1.at in1 rfl) (g := (mkF m 12 #[.val (.ref ca), .val (.int (0 : Int32)), .val (.ref ba), .val (.int (0 : Int32)), .val (.int (1 : Int32)), .val (.int (0 : Int32)), .unset] [(.int (0 : Int32)), (.ref ca)])) rfl rfl (hb hby d1_12) _ k) ?_
  show own_Go _ _ _ _ s₁ (mkF m 13 _ [(.int ch)])
  refine own_st (fun t k => XS.istore X0.here hx rfl (hb hby d1_13) rfl (l' := #[.val (.ref ca), .val (.int (0 : Int32)), .val (.ref ba), .val (.int (0 : Int32)), .val (.int (1 : Int32)), .val (.int (0 : Int32)), .val (.int ch)]) rfl k) ?_
  show own_Go _ _ _ _ s₁ (mkF m 15 #[.val (.ref ca), .val (.int (0 : Int32)), .val (.ref ba), .val (.int (0 : Int32)), .val (.int (1 : Int32)), .val (.int (0 : Int32)), .val (.int ch)] [])
  refine own_st (fun t k => XS.iload X0.here hx rfl (hb hby d1_15) rfl k) ?_
  show own_Go _ _ _ _ s₁ (mkF m 17 _ [(.int ch)])
  refine own_st (fun t k => XS.sipush X0.here hx rfl (hb hby d1_17) k) ?_
  show own_Go _ _ _ _ s₁ (mkF m 20 _ [(.int (255 : Int32)), (.int ch)])
  refine own_st (fun t k => XS.icmpYes X0.here hx rfl (pc0 := 20) (pc' := 26) rfl (hb hby d1_20) rfl (flt hch).2.2.2 (by decide) (by decide) k) ?_
  show own_Go _ _ _ _ s₁ (mkF m 26 _ [])
  refine own_st (fun t k => XS.aloadN X0.here hx rfl (hb hby d1_26) rfl rfl k) ?_
  show own_Go _ _ _ _ s₁ (mkF m 27 _ [(.ref ba)])
  refine own_st (fun t k => XS.iloadN X0.here hx rfl (hb hby d1_27) rfl k) ?_
  show own_Go _ _ _ _ s₁ (mkF m 28 _ [(.int (0 : Int32)), (.ref ba)])
  refine own_st (fun t k => XS.iload X0.here hx rfl (hb hby d1_28) rfl k) ?_
  show own_Go _ _ _ _ s₁ (mkF m 30 _ [(.int ch), (.int (0 : Int32)), (.ref ba)])
  refine own_st (fun t k => XS.i2b X0.here hx rfl (hb hby d1_30) rfl k) ?_
  show own_Go _ _ _ _ s₁ (mkF m 31 _ [(.int ch.toInt8.toInt32), (.int (0 : Int32)), (.ref ba)])
  obtain ⟨c2, Ar2, q2, S2, N2, H2, G2⟩ := id F1
  obtain ⟨T2, h2, X2, e2, W2, st2⟩ := stB X0 hx hZ e0 Ar2 (j := (0 : Int32)) (inb_of S2 ⟨by decide, by decide⟩) (g := (mkF m 31 #[.val (.ref ca), .val (.int (0 : Int32)), .val (.ref ba), .val (.int (0 : Int32)), .val (.int (1 : Int32)), .val (.int (0 : Int32)), .val (.int ch)] [(.int ch.toInt8.toInt32), (.int (0 : Int32)), (.ref ba)])) rfl rfl (hb hby d1_31)
  refine own_st st2 ?_
  have f3 := Arv.set Ar2 q2 S2 N2 H2 G2 (fits_nar_byte _) W2 0 rfl (Nat.le_of_ble_eq_true rfl)
  have f4 := F0.other W2 n1
  have N5 := Fr.snoc X2 N0 g_ba
  have Z6 : n0 ≤ h2.size := Nat.le_trans Z0 (Nat.le_of_eq W2.size.symm)
  have K7 : Keep h0 h2 [ba] := K0.wr W2 (Or.inl (List.mem_of_getElem? (i := 0) rfl))
  show own_Go _ _ _ _ T2 (mkF m 32 _ [])
  refine own_st (fun t k => XS.iinc X2.here hx rfl (hb hby d1_32) rfl (l' := #[.val (.ref ca), .val (.int (1 : Int32)), .val (.ref ba), .val (.int (0 : Int32)), .val (.int (1 : Int32)), .val (.int (0 : Int32)), .val (.int ch)]) rfl k) ?_
  show own_Go _ _ _ _ T2 (mkF m 35 #[.val (.ref ca), .val (.int (1 : Int32)), .val (.ref ba), .val (.int (0 : Int32)), .val (.int (1 : Int32)), .val (.int (0 : Int32)), .val (.int ch)] [])
  show own_Go _ _ _ _ T2 (mkF m 35 _ [])
  refine own_st (fun t k => XS.iinc X2.here hx rfl (hb hby d1_35) rfl (l' := #[.val (.ref ca), .val (.int (1 : Int32)), .val (.ref ba), .val (.int (1 : Int32)), .val (.int (1 : Int32)), .val (.int (0 : Int32)), .val (.int ch)]) rfl k) ?_
  show own_Go _ _ _ _ T2 (mkF m 38 #[.val (.ref ca), .val (.int (1 : Int32)), .val (.ref ba), .val (.int (1 : Int32)), .val (.int (1 : Int32)), .val (.int (0 : Int32)), .val (.int ch)] [])
  show own_Go _ _ _ _ T2 (mkF m 38 _ [])
  refine own_st (fun t k => XS.iinc X2.here hx rfl (hb hby d1_38) rfl (l' := #[.val (.ref ca), .val (.int (1 : Int32)), .val (.ref ba), .val (.int (1 : Int32)), .val (.int (1 : Int32)), .val (.int (1 : Int32)), .val (.int ch)]) rfl k) ?_
  show own_Go _ _ _ _ T2 (mkF m 41 #[.val (.ref ca), .val (.int (1 : Int32)), .val (.ref ba), .val (.int (1 : Int32)), .val (.int (1 : Int32)), .val (.int (1 : Int32)), .val (.int ch)] [])
  show own_Go _ _ _ _ T2 (mkF m 41 _ [])
  refine own_st (fun t k => XS.goto X2.here hx rfl (pc0 := 41) (pc' := 3) rfl (hb hby d1_41) (by decide) (by decide) k) ?_
  show own_Go _ _ _ _ T2 (mkF m 3 _ [])
  refine own_st (fun t k => XS.iload X2.here hx rfl (hb hby d1_3) rfl k) ?_
  show own_Go _ _ _ _ T2 (mkF m 5 _ [(.int (1 : Int32))])
  refine own_st (fun t k => XS.iload X2.here hx rfl (hb hby d1_5) rfl k) ?_
  show own_Go _ _ _ _ T2 (mkF m 7 _ [(.int (1 : Int32)), (.int (1 : Int32))])
  refine own_st (fun t k => XS.icmpYes X2.here hx rfl (pc0 := 7) (pc' := 44) rfl (hb hby d1_7) rfl (flt (by decide : ¬ ((1 : Int32) < (1 : Int32)))).2.1 (by decide) (by decide) k) ?_
  show own_Go _ _ _ _ T2 (mkF m 44 _ [])
  refine own_st (fun t k => XS.iload X2.here hx rfl (hb hby d1_44) rfl k) ?_
  show own_Go _ _ _ _ T2 (mkF m 46 _ [(.int (1 : Int32))])
  subst hPq
  refine own_out X2 (v := some (.int (1 : Int32))) (fun h => by rw [Bd.returns] at h; cases h) Bd.notSynchronized (own_retI X2 hx Bd.returns (hb hby d1_46)) (by decide) (by decide) ?_
  show Q1 Z ca ba kc kb ch bv h0 n0 _ T2.heap _
  rw [e2]
  exact ⟨rfl, N5, K7, f3⟩
theorem d2_0 : decode jdk_52_method_16_code 0 = .ok (.iload_n 2, 1) := by decide +kernel
theorem d2_1 : decode jdk_52_method_16_code 1 = .ok (.newarray .byte, 2) := by decide +kernel
theorem d2_3 : decode jdk_52_method_16_code 3 = .ok (.astore_n 3, 1) := by decide +kernel
theorem d2_4 : decode jdk_52_method_16_code 4 = .ok (.aload_n 0, 1) := by decide +kernel
theorem d2_5 : decode jdk_52_method_16_code 5 = .ok (.iload_n 1, 1) := by decide +kernel
theorem d2_6 : decode jdk_52_method_16_code 6 = .ok (.aload_n 3, 1) := by decide +kernel
theorem d2_7 : decode jdk_52_method_16_code 7 = .ok (.iconst 0, 1) := by decide +kernel
theorem d2_8 : decode jdk_52_method_16_code 8 = .ok (.iload_n 2, 1) := by decide +kernel
theorem d2_9 : decode jdk_52_method_16_code 9 = .ok (.invokestatic 115, 3) := by decide +kernel
theorem d2_12 : decode jdk_52_method_16_code 12 = .ok (.istore 4, 2) := by decide +kernel
theorem d2_14 : decode jdk_52_method_16_code 14 = .ok (.iload 4, 2) := by decide +kernel
theorem d2_16 : decode jdk_52_method_16_code 16 = .ok (.iload_n 2, 1) := by decide +kernel
theorem d2_17 : decode jdk_52_method_16_code 17 = .ok (.if_icmp .eq 40, 3) := by decide +kernel
theorem d2_57 : decode jdk_52_method_16_code 57 = .ok (.aload_n 3, 1) := by decide +kernel
theorem d2_58 : decode jdk_52_method_16_code 58 = .ok (.areturn, 1) := by decide +kernel
theorem own_pn2 : plainName "java/lang/StringUTF16" = true := by first | (simp [plainName, overriddenIn]; done) | decide +kernel
theorem own_ef2 (m : MethodId) (ca : Addr) : entryFrame m #[(.ref ca), (.int (0 : Int32)), (.int (1 : Int32))] 6 = mkF m 0 #[.val (.ref ca), .val (.int (0 : Int32)), .val (.int (1 : Int32)), .unset, .unset, .unset] [] := by first | (simp [entryFrame, mkF, argsToLocals, Value.category]; done) | rfl
def Q2 (Z : State) (ca : Addr) (kc : ClassId) (ch : Int32) (h0 : Heap) (n0 : Nat) (v : Option Value) (h : Heap) (L : List Loc) : Prop := ∃ (kb : ClassId) (bb : Addr), v = some (.ref bb) ∧ Fr n0 L ∧ Keep h0 h [] ∧ n0 ≤ bb ∧ h0.size ≤ bb ∧ Arv Z h bb kb .byte (1 : Int32) [(.int (own_by ch))] (.int (0 : Int32))
set_option maxRecDepth 65536 in
set_option maxHeartbeats 4000000 in
theorem rm2 (l : Launch) (Z : State) (a0 : Array Value) (hw : ∀ d ∈ tables_1, d.before a0 Z = true) (ws : List Jvm.Cond) (ca : Addr) (kc : ClassId) (ch : Int32) (h0 : Heap) (n0 : Nat) (Z0 : n0 ≤ h0.size) (F0 : Arv Z h0 ca kc .char (1 : Int32) [(.int ch)] (.int (0 : Int32))) (hch : ¬ (255 : Int32) < ch) :
    MetFree l (⟨"java/lang/StringUTF16", "compress", "([CII)[B"⟩ : MethodName) (head1 (Jvm.Cond.code (⟨"java/lang/StringUTF16", "compress", "([CII)[B"⟩ : MethodName) jdk_52_method_16_code 6 (some (.array .byte)) :: ws) ({ frames := 1, cells := 1, slots := 1, locals := 18 } : Room)) (fun aW U => aW = #[(.ref ca), (.int (0 : Int32)), (.int (1 : Int32))] ∧ Z.Warmed39 U.vm ∧ U.heap = h0) (fun _ _ _ _ _ => True) (fun _ U o U' => ∃ v L, o = .returned v ∧ Q2 Z ca kc ch h0 n0 v U'.heap L ∧ FrameEnd U o U' L ({ frames := 1, cells := 1, slots := 1, locals := 18 } : Room).cells ({ frames := 1, cells := 1, slots := 1, locals := 18 } : Room).slots) := by
  refine MetFree.of_bodySF (plainFor_of_name own_pn2) hisR ?_
  intro p e s m args below meth c s₁ Bd hml0 hP hK
  obtain ⟨rfl, hZ, hh⟩ := hP
  have hx := Bd.exec
  have hby := Bd.bytes
  have hml : c.maxLocals = 6 := hml0
  have hown : s.vm.findClass "java/lang/StringUTF16" = some m.cls := findClass_of_methodNamed Bd.named
  have hnm := (name_of_methodNamed Bd.named Bd.method).1
  have X0 : Stand p l e ({ frames := 1, cells := 1, slots := 1, locals := 18 } : Room) s m #[(.ref ca), (.int (0 : Int32)), (.int (1 : Int32))] below meth c s₁ [] 0 0 := Stand.of_body Bd
  have e0 : s₁.heap = h0 := by rw [← hh, Bd.state]; rfl
  have N0 := Fr.nil n0
  have K0 : Keep h0 h0 [] := Keep.refl _ _
  obtain ⟨Pq, hPq⟩ : ∃ P, P = own_P s below (fun v h L => Q2 Z ca kc ch h0 n0 v h L) ({ frames := 1, cells := 1, slots := 1, locals := 18 } : Room).cells ({ frames := 1, cells := 1, slots := 1, locals := 18 } : Room).slots := ⟨_, rfl⟩
  suffices hgo : own_Go p.tables e below Pq s₁ (mkF m 0 #[.val (.ref ca), .val (.int (0 : Int32)), .val (.int (1 : Int32)), .unset, .unset, .unset] []) by
    subst hPq
    obtain ⟨t, k1, k2, o, k3, k4⟩ := hgo
    exact ⟨t, o, castTop (own_ef2 m ca) k1, k2, k3, k4⟩
  show own_Go _ _ _ _ s₁ (mkF m 0 #[.val (.ref ca), .val (.int (0 : Int32)), .val (.int (1 : Int32)), .unset, .unset, .unset] [])
  refine own_st (fun t k => XS.iloadN X0.here hx rfl (hb hby d2_0) rfl k) ?_
  show own_Go _ _ _ _ s₁ (mkF m 1 _ [(.int (1 : Int32))])
  obtain ⟨T1, h1, k1, X1, e1, E1, A1, st1⟩ := newP X0 hx hZ (hw _ (List.mem_of_getElem? (i := 23) rfl)) e0 (g := (mkF m 1 #[.val (.ref ca), .val (.int (0 : Int32)), .val (.int (1 : Int32)), .unset, .unset, .unset] [(.int (1 : Int32))])) rfl (hb hby d2_1) rfl (by decide) (cap := 1) (by decide) (by decide) (by decide) (by decide)
  obtain ⟨b1, g1⟩ : ∃ z, z = h0.size := ⟨_, rfl⟩
  rw [← g1] at A1 st1
  refine own_st st1 ?_
  have ne2 : ca ≠ b1 := Nat.ne_of_lt (Nat.lt_of_lt_of_le F0.lt (Nat.le_of_eq g1.symm))
  have f3 := F0.ext E1
  have gx4 : n0 ≤ b1 := Nat.le_trans Z0 (Nat.le_of_eq g1.symm)
  have Z5 : n0 ≤ h1.size := Nat.le_trans Z0 E1.1
  have sz7 : h0.size ≤ b1 := Nat.le_trans K0.1 (Nat.le_of_eq g1.symm)
  have K6 : Keep h0 h1 [] := K0.ext E1
  have V1 : Arv Z h1 b1 k1 .byte (1 : Int32) [(.int (0 : Int32))] (.int (0 : Int32)) := (Arv.new A1 (by decide)).pad (pad_rep [] (.int (0 : Int32)) 1)
  show own_Go _ _ _ _ T1 (mkF m 3 _ [(.ref b1)])
  refine own_st (fun t k => XS.astoreN X1.here hx rfl (hb hby d2_3) rfl rfl (l' := #[.val (.ref ca), .val (.int (0 : Int32)), .val (.int (1 : Int32)), .val (.ref b1), .unset, .unset]) rfl k) ?_
  show own_Go _ _ _ _ T1 (mkF m 4 #[.val (.ref ca), .val (.int (0 : Int32)), .val (.int (1 : Int32)), .val (.ref b1), .unset, .unset] [])
  refine own_st (fun t k => XS.aloadN X1.here hx rfl (hb hby d2_4) rfl rfl k) ?_
  show own_Go _ _ _ _ T1 (mkF m 5 _ [(.ref ca)])
  refine own_st (fun t k => XS.iloadN X1.here hx rfl (hb hby d2_5) rfl k) ?_
  show own_Go _ _ _ _ T1 (mkF m 6 _ [(.int (0 : Int32)), (.ref ca)])
  refine own_st (fun t k => XS.aloadN X1.here hx rfl (hb hby d2_6) rfl rfl k) ?_
  show own_Go _ _ _ _ T1 (mkF m 7 _ [(.ref b1), (.int (0 : Int32)), (.ref ca)])
  refine own_st (fun t k => XS.iconst X1.here hx rfl (hb hby d2_7) k) ?_
  show own_Go _ _ _ _ T1 (mkF m 8 _ [(.int (0 : Int32)), (.ref b1), (.int (0 : Int32)), (.ref ca)])
  refine own_st (fun t k => XS.iloadN X1.here hx rfl (hb hby d2_8) rfl k) ?_
  show own_Go _ _ _ _ T1 (mkF m 9 _ [(.int (1 : Int32)), (.int (0 : Int32)), (.ref b1), (.int (0 : Int32)), (.ref ca)])
  obtain ⟨_, _, ⟨T8, L8, k8, n8⟩, -, X8, ⟨Lc8, hQ8, l8, y8, z8⟩, st8⟩ := Jvm.LawKit.callS X1 hx (y := (⟨"java/lang/StringUTF16", "compress", "([CI[BII)I"⟩ : MethodName)) hown (mvT hZ (hw _ (List.mem_of_getElem? (i := 24) rfl))) (mvT hZ (hw _ (List.mem_of_getElem? (i := 25) rfl))) (mvT hZ (hw _ (List.mem_of_getElem? (i := 21) rfl))) (mvT hZ (hw _ (List.mem_of_getElem? (i := 26) rfl))) (by decide) (backOf (W := 0) (rm1 l Z a0 hw [] ca b1 kc k1 ch (0 : Int32) h1 n0 Z5 f3 V1 hch ne2 gx4) hZ (hw _ (List.mem_of_getElem? (i := 26) rfl)) (hw _ (List.mem_of_getElem? (i := 21) rfl)) (by decide) (by decide)) (g := (mkF m 9 #[.val (.ref ca), .val (.int (0 : Int32)), .val (.int (1 : Int32)), .val (.ref b1), .unset, .unset] [(.int (1 : Int32)), (.int (0 : Int32)), (.ref b1), (.int (0 : Int32)), (.ref ca)])) rfl (by rw [hml]; rfl) (argsL := [(.ref ca), (.int (0 : Int32)), (.ref b1), (.int (0 : Int32)), (.int (1 : Int32))]) (rest := []) (lenOf own_pd___CI_BII_I rfl) rfl (by show 2 * 0 + _ ≤ _; exact Nat.le_of_eq rfl) (hb hby d2_9) (fun _ _ => ⟨rfl, e1, (by decide : 1 + 0 ≤ _), (by decide : 1 + 0 ≤ _)⟩)
  dsimp only [Pt.U, Pt.locs, Pt.cells, Pt.slots] at X8 l8 y8 z8 st8 hQ8
  subst l8 y8 z8
  obtain ⟨rfl, NQ8, K8, fq8_0⟩ := hQ8
  have N9 := Fr.app N0 NQ8
  refine own_st st8 ?_
  have f10 := f3.keep K8 (ninS ne2 nin0)
  have Z11 : n0 ≤ T8.heap.size := Nat.le_trans Z5 K8.1
  have K12 : Keep h0 T8.heap [] := K6.trans K8 (allS (Or.inr sz7) all0)
  show own_Go _ _ _ _ T8 (mkF m 12 _ [(.int (1 : Int32))])
  refine own_st (fun t k => XS.istore X8.here hx rfl (hb hby d2_12) rfl (l' := #[.val (.ref ca), .val (.int (0 : Int32)), .val (.int (1 : Int32)), .val (.ref b1), .val (.int (1 : Int32)), .unset]) rfl k) ?_
  show own_Go _ _ _ _ T8 (mkF m 14 #[.val (.ref ca), .val (.int (0 : Int32)), .val (.int (1 : Int32)), .val (.ref b1), .val (.int (1 : Int32)), .unset] [])
  refine own_st (fun t k => XS.iload X8.here hx rfl (hb hby d2_14) rfl k) ?_
  show own_Go _ _ _ _ T8 (mkF m 16 _ [(.int (1 : Int32))])
  refine own_st (fun t k => XS.iloadN X8.here hx rfl (hb hby d2_16) rfl k) ?_
  show own_Go _ _ _ _ T8 (mkF m 17 _ [(.int (1 : Int32)), (.int (1 : Int32))])
  refine own_st (fun t k => XS.icmpYes X8.here hx rfl (pc0 := 17) (pc' := 57) rfl (hb hby d2_17) rfl (teq (by decide : ((1 : Int32) = (1 : Int32)))).1 (by decide) (by decide) k) ?_
  show own_Go _ _ _ _ T8 (mkF m 57 _ [])
  refine own_st (fun t k => XS.aloadN X8.here hx rfl (hb hby d2_57) rfl rfl k) ?_
  show own_Go _ _ _ _ T8 (mkF m 58 _ [(.ref b1)])
  subst hPq
  refine own_out X8 (v := some (.ref b1)) (fun h => by rw [Bd.returns] at h; cases h) Bd.notSynchronized (own_retR X8 hx (t := (.array .byte)) Bd.returns rfl rfl rfl (hb hby d2_58)) (by decide) (by decide) ?_
  show Q2 Z ca kc ch h0 n0 _ T8.heap _
  exact ⟨k1, b1, rfl, N9, K12, gx4, sz7, fq8_0⟩
theorem d3_0 : decode jdk_52_method_15_code 0 = .ok (.iload_n 1, 1) := by decide +kernel
theorem d3_1 : decode jdk_52_method_15_code 1 = .ok (.aload_n 0, 1) := by decide +kernel
theorem d3_2 : decode jdk_52_method_15_code 2 = .ok (.arraylength, 1) := by decide +kernel
theorem d3_3 : decode jdk_52_method_15_code 3 = .ok (.isub, 1) := by decide +kernel
theorem d3_4 : decode jdk_52_method_15_code 4 = .ok (.bipush 31, 2) := by decide +kernel
theorem d3_6 : decode jdk_52_method_15_code 6 = .ok (.iushr, 1) := by decide +kernel
theorem d3_7 : decode jdk_52_method_15_code 7 = .ok (.i2b, 1) := by decide +kernel
theorem d3_8 : decode jdk_52_method_15_code 8 = .ok (.ireturn, 1) := by decide +kernel
theorem own_pn3 : plainName "java/lang/StringUTF16" = true := by first | (simp [plainName, overriddenIn]; done) | decide +kernel
theorem own_ef3 (m : MethodId) (bb : Addr) : entryFrame m #[(.ref bb), (.int (1 : Int32))] 2 = mkF m 0 #[.val (.ref bb), .val (.int (1 : Int32))] [] := by first | (simp [entryFrame, mkF, argsToLocals, Value.category]; done) | rfl
def Q3 (Z : State) (bb : Addr) (kb : ClassId) (bv : Int32) (h0 : Heap) (n0 : Nat) (v : Option Value) (h : Heap) (L : List Loc) : Prop := v = some (.int (0 : Int32)) ∧ Fr n0 L ∧ h = h0
set_option maxRecDepth 65536 in
set_option maxHeartbeats 4000000 in
theorem rm3 (l : Launch) (Z : State) (a0 : Array Value) (hw : ∀ d ∈ tables_1, d.before a0 Z = true) (ws : List Jvm.Cond) (bb : Addr) (kb : ClassId) (bv : Int32) (h0 : Heap) (n0 : Nat) (Z0 : n0 ≤ h0.size) (F0 : Arv Z h0 bb kb .byte (1 : Int32) [(.int bv)] (.int (0 : Int32))) :
    MetFree l (⟨"java/lang/StringUTF16", "coderFromArrayLen", "([BI)B"⟩ : MethodName) (head1 (Jvm.Cond.code (⟨"java/lang/StringUTF16", "coderFromArrayLen", "([BI)B"⟩ : MethodName) jdk_52_method_15_code 2 (some .byte) :: ws) ({ frames := 0, cells := 0, slots := 0, locals := 0 } : Room)) (fun aW U => aW = #[(.ref bb), (.int (1 : Int32))] ∧ Z.Warmed39 U.vm ∧ U.heap = h0) (fun _ _ _ _ _ => True) (fun _ U o U' => ∃ v L, o = .returned v ∧ Q3 Z bb kb bv h0 n0 v U'.heap L ∧ FrameEnd U o U' L ({ frames := 0, cells := 0, slots := 0, locals := 0 } : Room).cells ({ frames := 0, cells := 0, slots := 0, locals := 0 } : Room).slots) := by
  refine MetFree.of_bodySF (plainFor_of_name own_pn3) hisR ?_
  intro p e s m args below meth c s₁ Bd hml0 hP hK
  obtain ⟨rfl, hZ, hh⟩ := hP
  have hx := Bd.exec
  have hby := Bd.bytes
  have hml : c.maxLocals = 2 := hml0
  have hown : s.vm.findClass "java/lang/StringUTF16" = some m.cls := findClass_of_methodNamed Bd.named
  have hnm := (name_of_methodNamed Bd.named Bd.method).1
  have X0 : Stand p l e ({ frames := 0, cells := 0, slots := 0, locals := 0 } : Room) s m #[(.ref bb), (.int (1 : Int32))] below meth c s₁ [] 0 0 := Stand.of_body Bd
  have e0 : s₁.heap = h0 := by rw [← hh, Bd.state]; rfl
  have N0 := Fr.nil n0
  obtain ⟨Pq, hPq⟩ : ∃ P, P = own_P s below (fun v h L => Q3 Z bb kb bv h0 n0 v h L) ({ frames := 0, cells := 0, slots := 0, locals := 0 } : Room).cells ({ frames := 0, cells := 0, slots := 0, locals := 0 } : Room).slots := ⟨_, rfl⟩
  suffices hgo : own_Go p.tables e below Pq s₁ (mkF m 0 #[.val (.ref bb), .val (.int (1 : Int32))] []) by
    subst hPq
    obtain ⟨t, k1, k2, o, k3, k4⟩ := hgo
    exact ⟨t, o, castTop (own_ef3 m bb) k1, k2, k3, k4⟩
  show own_Go _ _ _ _ s₁ (mkF m 0 #[.val (.ref bb), .val (.int (1 : Int32))] [])
  refine own_st (fun t k => XS.iloadN X0.here hx rfl (hb hby d3_0) rfl k) ?_
  show own_Go _ _ _ _ s₁ (mkF m 1 _ [(.int (1 : Int32))])
  refine own_st (fun t k => XS.aloadN X0.here hx rfl (hb hby d3_1) rfl rfl k) ?_
  show own_Go _ _ _ _ s₁ (mkF m 2 _ [(.ref bb), (.int (1 : Int32))])
  obtain ⟨c1, Ar1, q1, S1, N1, H1, G1⟩ := id F0
  refine own_st (fun t k => X0.arraylength hx (by rw [e0]; exact Ar1.1) (State.isArrayOf_alike hZ.alike Ar1.2.1) (g := (mkF m 2 #[.val (.ref bb), .val (.int (1 : Int32))] [(.ref bb), (.int (1 : Int32))])) rfl rfl (hb hby d3_2) _ k) ?_
  rw [len_of S1 N1]
  show own_Go _ _ _ _ s₁ (mkF m 3 _ [(.int (1 : Int32)), (.int (1 : Int32))])
  refine own_st (fun t k => XS.isub X0.here hx rfl (hb hby d3_3) rfl k) ?_
  show own_Go _ _ _ _ s₁ (mkF m 4 _ [(.int (0 : Int32))])
  refine own_st (fun t k => XS.bipush X0.here hx rfl (hb hby d3_4) k) ?_
  show own_Go _ _ _ _ s₁ (mkF m 6 _ [(.int (31 : Int32)), (.int (0 : Int32))])
  refine own_st (fun t k => XS.iushr X0.here hx rfl (hb hby d3_6) rfl k) ?_
  show own_Go _ _ _ _ s₁ (mkF m 7 _ [(.int (0 : Int32))])
  refine own_st (fun t k => XS.i2b X0.here hx rfl (hb hby d3_7) rfl k) ?_
  show own_Go _ _ _ _ s₁ (mkF m 8 _ [(.int (0 : Int32))])
  subst hPq
  refine own_out X0 (v := some (.int (nar .byte (0 : Int32)))) (fun h => by rw [Bd.returns] at h; cases h) Bd.notSynchronized (fun fs hr => retN X0 hx (t := .byte) Bd.returns (by simp) (hb hby d3_8) hr) (by decide) (by decide) ?_
  show Q3 Z bb kb bv h0 n0 _ s₁.heap _
  rw [e0]
  exact ⟨rfl, N0, rfl⟩
theorem d4_0 : decode jdk_42_method_149_code 0 = .ok (.aload_n 0, 1) := by decide +kernel
theorem d4_1 : decode jdk_42_method_149_code 1 = .ok (.invokespecial 1, 3) := by decide +kernel
theorem d4_4 : decode jdk_42_method_149_code 4 = .ok (.iload_n 3, 1) := by decide +kernel
theorem d4_5 : decode jdk_42_method_149_code 5 = .ok (.ifCond .ne 22, 3) := by decide +kernel
theorem d4_27 : decode jdk_42_method_149_code 27 = .ok (.getstatic 38, 3) := by decide +kernel
theorem d4_30 : decode jdk_42_method_149_code 30 = .ok (.ifCond .eq 28, 3) := by decide +kernel
theorem d4_33 : decode jdk_42_method_149_code 33 = .ok (.aload_n 1, 1) := by decide +kernel
theorem d4_34 : decode jdk_42_method_149_code 34 = .ok (.iload_n 2, 1) := by decide +kernel
theorem d4_35 : decode jdk_42_method_149_code 35 = .ok (.iload_n 3, 1) := by decide +kernel
theorem d4_36 : decode jdk_42_method_149_code 36 = .ok (.invokestatic 177, 3) := by decide +kernel
theorem d4_39 : decode jdk_42_method_149_code 39 = .ok (.astore 5, 2) := by decide +kernel
theorem d4_41 : decode jdk_42_method_149_code 41 = .ok (.aload_n 0, 1) := by decide +kernel
theorem d4_42 : decode jdk_42_method_149_code 42 = .ok (.aload 5, 2) := by decide +kernel
theorem d4_44 : decode jdk_42_method_149_code 44 = .ok (.iload_n 3, 1) := by decide +kernel
theorem d4_45 : decode jdk_42_method_149_code 45 = .ok (.invokestatic 47, 3) := by decide +kernel
theorem d4_48 : decode jdk_42_method_149_code 48 = .ok (.putfield 15, 3) := by decide +kernel
theorem d4_51 : decode jdk_42_method_149_code 51 = .ok (.aload_n 0, 1) := by decide +kernel
theorem d4_52 : decode jdk_42_method_149_code 52 = .ok (.aload 5, 2) := by decide +kernel
theorem d4_54 : decode jdk_42_method_149_code 54 = .ok (.putfield 9, 3) := by decide +kernel
theorem d4_57 : decode jdk_42_method_149_code 57 = .ok (.return_, 1) := by decide +kernel
theorem own_pn4 : plainName "java/lang/String" = true := by first | (simp [plainName, overriddenIn]; done) | decide +kernel
theorem own_ef4 (m : MethodId) (a : Addr) (ca : Addr) : entryFrame m #[(.ref a), (.ref ca), (.int (0 : Int32)), (.int (1 : Int32)), .null] 6 = mkF m 0 #[.val (.ref a), .val (.ref ca), .val (.int (0 : Int32)), .val (.int (1 : Int32)), .val .null, .unset] [] := by first | (simp [entryFrame, mkF, argsToLocals, Value.category]; done) | rfl
def Q4 (Z : State) (a : Addr) (ca : Addr) (kc : ClassId) (ch : Int32) (cs : Int32) (u0 : Value) (u1 : Value) (h0 : Heap) (n0 : Nat) (v : Option Value) (h : Heap) (L : List Loc) : Prop := ∃ (kb : ClassId) (bb : Addr), v = none ∧ Fr n0 L ∧ Keep h0 h [a] ∧ n0 ≤ bb ∧ h0.size ≤ bb ∧ Exa Z h a "java/lang/String" ∧ Fld Z h a "java/lang/String" "value" "[B" (.ref bb) ∧ Fld Z h a "java/lang/String" "coder" "B" (.int (0 : Int32)) ∧ Arv Z h bb kb .byte (1 : Int32) [(.int (own_by ch))] (.int (0 : Int32))
set_option maxRecDepth 65536 in
set_option maxHeartbeats 4000000 in
theorem rm4 (l : Launch) (Z : State) (a0 : Array Value) (hw : ∀ d ∈ tables_1, d.before a0 Z = true) (ws : List Jvm.Cond) (a : Addr) (ca : Addr) (kc : ClassId) (ch : Int32) (cs : Int32) (u0 : Value) (u1 : Value) (h0 : Heap) (n0 : Nat) (Z0 : n0 ≤ h0.size) (F0 : Exa Z h0 a "java/lang/String") (F1 : Fld Z h0 a "java/lang/String" "value" "[B" u0) (F2 : Fld Z h0 a "java/lang/String" "coder" "B" u1) (F3 : Arv Z h0 ca kc .char (1 : Int32) [(.int ch)] (.int (0 : Int32))) (F4 : Sta Z h0 "java/lang/String" "COMPACT_STRINGS" "Z" (.int cs)) (hch : ¬ (255 : Int32) < ch) (hcs : ¬ cs = (0 : Int32)) (n1 : ca ≠ a) (g_a : n0 ≤ a) :
    MetFree l (⟨"java/lang/String", "<init>", "([CIILjava/lang/Void;)V"⟩ : MethodName) (head1 (Jvm.Cond.code (⟨"java/lang/String", "<init>", "([CIILjava/lang/Void;)V"⟩ : MethodName) jdk_42_method_149_code 6 none :: ws) ({ frames := 2, cells := 1, slots := 1, locals := 35 } : Room)) (fun aW U => aW = #[(.ref a), (.ref ca), (.int (0 : Int32)), (.int (1 : Int32)), .null] ∧ Z.Warmed39 U.vm ∧ U.heap = h0) (fun _ _ _ _ _ => True) (fun _ U o U' => ∃ v L, o = .returned v ∧ Q4 Z a ca kc ch cs u0 u1 h0 n0 v U'.heap L ∧ FrameEnd U o U' L ({ frames := 2, cells := 1, slots := 1, locals := 35 } : Room).cells ({ frames := 2, cells := 1, slots := 1, locals := 35 } : Room).slots) := by
  refine MetFree.of_bodySF (plainFor_of_name own_pn4) hisR ?_
  intro p e s m args below meth c s₁ Bd hml0 hP hK
  obtain ⟨rfl, hZ, hh⟩ := hP
  have hx := Bd.exec
  have hby := Bd.bytes
  have hml : c.maxLocals = 6 := hml0
  have hown : s.vm.findClass "java/lang/String" = some m.cls := findClass_of_methodNamed Bd.named
  have hnm := (name_of_methodNamed Bd.named Bd.method).1
  have X0 : Stand p l e ({ frames := 2, cells := 1, slots := 1, locals := 35 } : Room) s m #[(.ref a), (.ref ca), (.int (0 : Int32)), (.int (1 : Int32)), .null] below meth c s₁ [] 0 0 := Stand.of_body Bd
  have e0 : s₁.heap = h0 := by rw [← hh, Bd.state]; rfl
  have N0 := Fr.nil n0
  have K0 : Keep h0 h0 [a] := Keep.refl _ _
  obtain ⟨Pq, hPq⟩ : ∃ P, P = own_P s below (fun v h L => Q4 Z a ca kc ch cs u0 u1 h0 n0 v h L) ({ frames := 2, cells := 1, slots := 1, locals := 35 } : Room).cells ({ frames := 2, cells := 1, slots := 1, locals := 35 } : Room).slots := ⟨_, rfl⟩
  suffices hgo : own_Go p.tables e below Pq s₁ (mkF m 0 #[.val (.ref a), .val (.ref ca), .val (.int (0 : Int32)), .val (.int (1 : Int32)), .val .null, .unset] []) by
    subst hPq
    obtain ⟨t, k1, k2, o, k3, k4⟩ := hgo
    exact ⟨t, o, castTop (own_ef4 m a ca) k1, k2, k3, k4⟩
  show own_Go _ _ _ _ s₁ (mkF m 0 #[.val (.ref a), .val (.ref ca), .val (.int (0 : Int32)), .val (.int (1 : Int32)), .val .null, .unset] [])
  refine own_st (fun t k => XS.aloadN X0.here hx rfl (hb hby d4_0) rfl rfl k) ?_
  show own_Go _ _ _ _ s₁ (mkF m 1 _ [(.ref a)])
  obtain ⟨T1, X1, e1, st1⟩ := initO X0 hx hZ hown (hw _ (List.mem_of_getElem? (i := 15) rfl)) (hw _ (List.mem_of_getElem? (i := 16) rfl)) (hw _ (List.mem_of_getElem? (i := 17) rfl)) e0 (g := (mkF m 1 #[.val (.ref a), .val (.ref ca), .val (.int (0 : Int32)), .val (.int (1 : Int32)), .val .null, .unset] [(.ref a)])) rfl (by rw [hml]; rfl) rfl (hb hby d4_1) (by decide) (W := 0) (by show 2 * 0 + _ ≤ _; exact Nat.le_of_eq rfl) (by decide)
  refine own_st st1 ?_
  show own_Go _ _ _ _ T1 (mkF m 4 _ [])
  refine own_st (fun t k => XS.iloadN X1.here hx rfl (hb hby d4_4) rfl k) ?_
  show own_Go _ _ _ _ T1 (mkF m 5 _ [(.int (1 : Int32))])
  refine own_st (fun t k => XS.ifYes X1.here hx rfl (pc0 := 5) (pc' := 27) rfl (hb hby d4_5) rfl ((if0 _ _).trans (feq (by decide : ¬ ((1 : Int32) = (0 : Int32)))).2) (by decide) (by decide) k) ?_
  show own_Go _ _ _ _ T1 (mkF m 27 _ [])
  obtain ⟨T2, X2, e2, st2⟩ := getS2 X1 hx hZ hown (host := "") (Or.inl (hw _ (List.mem_of_getElem? (i := 18) rfl))) Via.refl e1 F4 (g := (mkF m 27 #[.val (.ref a), .val (.ref ca), .val (.int (0 : Int32)), .val (.int (1 : Int32)), .val .null, .unset] [])) rfl (hb hby d4_27)
  refine own_st st2 ?_
  show own_Go _ _ _ _ T2 (mkF m 30 _ [(.int cs)])
  refine own_st (fun t k => XS.ifNo X2.here hx rfl (hb hby d4_30) rfl ((if0 _ _).trans (feq hcs).1) k) ?_
  show own_Go _ _ _ _ T2 (mkF m 33 _ [])
  refine own_st (fun t k => XS.aloadN X2.here hx rfl (hb hby d4_33) rfl rfl k) ?_
  show own_Go _ _ _ _ T2 (mkF m 34 _ [(.ref ca)])
  refine own_st (fun t k => XS.iloadN X2.here hx rfl (hb hby d4_34) rfl k) ?_
  show own_Go _ _ _ _ T2 (mkF m 35 _ [(.int (0 : Int32)), (.ref ca)])
  refine own_st (fun t k => XS.iloadN X2.here hx rfl (hb hby d4_35) rfl k) ?_
  show own_Go _ _ _ _ T2 (mkF m 36 _ [(.int (1 : Int32)), (.int (0 : Int32)), (.ref ca)])
  obtain ⟨_, _, ⟨T3, L3, k3, n3⟩, -, X3, ⟨Lc3, hQ3, l3, y3, z3⟩, st3⟩ := Jvm.LawKit.callS X2 hx (y := (⟨"java/lang/StringUTF16", "compress", "([CII)[B"⟩ : MethodName)) hown (mvT hZ (hw _ (List.mem_of_getElem? (i := 19) rfl))) (mvT hZ (hw _ (List.mem_of_getElem? (i := 20) rfl))) (mvT hZ (hw _ (List.mem_of_getElem? (i := 21) rfl))) (mvT hZ (hw _ (List.mem_of_getElem? (i := 22) rfl))) (by decide) (backOf (W := 0) (rm2 l Z a0 hw [] ca kc ch h0 n0 Z0 F3 hch) hZ (hw _ (List.mem_of_getElem? (i := 22) rfl)) (hw _ (List.mem_of_getElem? (i := 21) rfl)) (by decide) (by decide)) (g := (mkF m 36 #[.val (.ref a), .val (.ref ca), .val (.int (0 : Int32)), .val (.int (1 : Int32)), .val .null, .unset] [(.int (1 : Int32)), (.int (0 : Int32)), (.ref ca)])) rfl (by rw [hml]; rfl) (argsL := [(.ref ca), (.int (0 : Int32)), (.int (1 : Int32))]) (rest := []) (lenOf own_pd___CII__B rfl) rfl (by show 2 * 0 + _ ≤ _; exact Nat.le_of_eq rfl) (hb hby d4_36) (fun _ _ => ⟨rfl, e2, (by decide : 0 + 1 ≤ _), (by decide : 0 + 1 ≤ _)⟩)
  dsimp only [Pt.U, Pt.locs, Pt.cells, Pt.slots] at X3 l3 y3 z3 st3 hQ3
  subst l3 y3 z3
  obtain ⟨r3_kb, b3_bb, rfl, NQ3, K3, gx_b3_bb, sz_b3_bb, fq3_0⟩ := hQ3
  have N4 := Fr.app N0 NQ3
  refine own_st st3 ?_
  have f5 := F0.keep K3
  have f6 := F1.keep K3 nin0
  have f7 := F2.keep K3 nin0
  have f8 := F3.keep K3 nin0
  have f9 := own_staK F4 K3 all0
  have Z10 : n0 ≤ T3.heap.size := Nat.le_trans Z0 K3.1
  have ne11 : a ≠ b3_bb := Nat.ne_of_lt (Nat.lt_of_lt_of_le F0.lt sz_b3_bb)
  have ne12 : ca ≠ b3_bb := Nat.ne_of_lt (Nat.lt_of_lt_of_le F3.lt sz_b3_bb)
  have sz14 : h0.size ≤ b3_bb := Nat.le_trans K0.1 sz_b3_bb
  have K13 : Keep h0 T3.heap [a] := K0.trans K3 all0
  show own_Go _ _ _ _ T3 (mkF m 39 _ [(.ref b3_bb)])
  refine own_st (fun t k => XS.astore X3.here hx rfl (hb hby d4_39) rfl rfl (l' := #[.val (.ref a), .val (.ref ca), .val (.int (0 : Int32)), .val (.int (1 : Int32)), .val .null, .val (.ref b3_bb)]) rfl k) ?_
  show own_Go _ _ _ _ T3 (mkF m 41 #[.val (.ref a), .val (.ref ca), .val (.int (0 : Int32)), .val (.int (1 : Int32)), .val .null, .val (.ref b3_bb)] [])
  refine own_st (fun t k => XS.aloadN X3.here hx rfl (hb hby d4_41) rfl rfl k) ?_
  show own_Go _ _ _ _ T3 (mkF m 42 _ [(.ref a)])
  refine own_st (fun t k => XS.aload X3.here hx rfl (hb hby d4_42) rfl rfl k) ?_
  show own_Go _ _ _ _ T3 (mkF m 44 _ [(.ref b3_bb), (.ref a)])
  refine own_st (fun t k => XS.iloadN X3.here hx rfl (hb hby d4_44) rfl k) ?_
  show own_Go _ _ _ _ T3 (mkF m 45 _ [(.int (1 : Int32)), (.ref b3_bb), (.ref a)])
  obtain ⟨_, _, ⟨T15, L15, k15, n15⟩, -, X15, ⟨Lc15, hQ15, l15, y15, z15⟩, st15⟩ := Jvm.LawKit.callS X3 hx (y := (⟨"java/lang/StringUTF16", "coderFromArrayLen", "([BI)B"⟩ : MethodName)) hown (mvT hZ (hw _ (List.mem_of_getElem? (i := 27) rfl))) (mvT hZ (hw _ (List.mem_of_getElem? (i := 28) rfl))) (mvT hZ (hw _ (List.mem_of_getElem? (i := 21) rfl))) (mvT hZ (hw _ (List.mem_of_getElem? (i := 29) rfl))) (by decide) (backOf (W := 1) (rm3 l Z a0 hw [] b3_bb r3_kb (own_by ch) T3.heap n0 Z10 fq3_0) hZ (hw _ (List.mem_of_getElem? (i := 29) rfl)) (hw _ (List.mem_of_getElem? (i := 21) rfl)) (by decide) (by decide)) (g := (mkF m 45 #[.val (.ref a), .val (.ref ca), .val (.int (0 : Int32)), .val (.int (1 : Int32)), .val .null, .val (.ref b3_bb)] [(.int (1 : Int32)), (.ref b3_bb), (.ref a)])) rfl (by rw [hml]; rfl) (argsL := [(.ref b3_bb), (.int (1 : Int32))]) (rest := [(.ref a)]) (lenOf own_pd___BI_B rfl) rfl (by show 2 * 0 + _ ≤ _; exact Nat.le_of_eq rfl) (hb hby d4_45) (fun _ _ => ⟨rfl, rfl, (by decide : 1 + 0 ≤ _), (by decide : 1 + 0 ≤ _)⟩)
  dsimp only [Pt.U, Pt.locs, Pt.cells, Pt.slots] at X15 l15 y15 z15 st15 hQ15
  subst l15 y15 z15
  obtain ⟨rfl, NQ15, eq15⟩ := hQ15
  have N16 := Fr.app N4 NQ15
  refine own_st st15 ?_
  show own_Go _ _ _ _ T15 (mkF m 48 _ [(.int (0 : Int32)), (.ref a)])
  obtain ⟨T17, h17, X17, e17, W17, st17⟩ := putF X15 hx hZ hown (host := "") (Or.inl (hw _ (List.mem_of_getElem? (i := 30) rfl))) Via.refl eq15 f7 f5 (Or.inr ⟨(hw _ (List.mem_of_getElem? (i := 31) rfl)), rfl, hnm⟩) (hw _ (List.mem_of_getElem? (i := 6) rfl)) (ty := .byte) (by decide) rfl rfl (g := (mkF m 48 #[.val (.ref a), .val (.ref ca), .val (.int (0 : Int32)), .val (.int (1 : Int32)), .val .null, .val (.ref b3_bb)] [(.int (0 : Int32)), (.ref a)])) rfl rfl (hb hby d4_48)
  refine own_st st17 ?_
  have f18 := f5.wr W17
  have f19 := f6.other W17 (Or.inr (slot_ne (Or.inr (hw _ (List.mem_of_getElem? (i := 33) rfl))) (Or.inr (hw _ (List.mem_of_getElem? (i := 31) rfl))) (by decide) (t := (.array .byte)) (t' := .byte) (by decide) (by decide)))
  have f20 := f8.other W17 n1
  have f21 := f9.wr W17
  have f22 := fq3_0.other W17 (Ne.symm ne11)
  have N23 := Fr.snoc X17 N16 g_a
  have Z24 : n0 ≤ h17.size := Nat.le_trans Z10 (Nat.le_of_eq W17.size.symm)
  have K25 : Keep h0 h17 [a] := K13.wr W17 (Or.inl (List.mem_of_getElem? (i := 0) rfl))
  have f26 := f7.same W17
  show own_Go _ _ _ _ T17 (mkF m 51 _ [])
  refine own_st (fun t k => XS.aloadN X17.here hx rfl (hb hby d4_51) rfl rfl k) ?_
  show own_Go _ _ _ _ T17 (mkF m 52 _ [(.ref a)])
  refine own_st (fun t k => XS.aload X17.here hx rfl (hb hby d4_52) rfl rfl k) ?_
  show own_Go _ _ _ _ T17 (mkF m 54 _ [(.ref b3_bb), (.ref a)])
  obtain ⟨T27, h27, X27, e27, W27, st27⟩ := putF X17 hx hZ hown (host := "") (Or.inl (hw _ (List.mem_of_getElem? (i := 32) rfl))) Via.refl e17 f19 f18 (Or.inr ⟨(hw _ (List.mem_of_getElem? (i := 33) rfl)), rfl, hnm⟩) (hw _ (List.mem_of_getElem? (i := 6) rfl)) (ty := (.array .byte)) (by decide) rfl rfl (g := (mkF m 54 #[.val (.ref a), .val (.ref ca), .val (.int (0 : Int32)), .val (.int (1 : Int32)), .val .null, .val (.ref b3_bb)] [(.ref b3_bb), (.ref a)])) rfl rfl (hb hby d4_54)
  refine own_st st27 ?_
  have f28 := f18.wr W27
  have f29 := f20.other W27 n1
  have f30 := f21.wr W27
  have f31 := f22.other W27 (Ne.symm ne11)
  have f32 := f26.other W27 (Or.inr (slot_ne (Or.inr (hw _ (List.mem_of_getElem? (i := 31) rfl))) (Or.inr (hw _ (List.mem_of_getElem? (i := 33) rfl))) (by decide) (t := .byte) (t' := (.array .byte)) (by decide) (by decide)))
  have N33 := Fr.snoc X27 N23 g_a
  have Z34 : n0 ≤ h27.size := Nat.le_trans Z24 (Nat.le_of_eq W27.size.symm)
  have K35 : Keep h0 h27 [a] := K25.wr W27 (Or.inl (List.mem_of_getElem? (i := 0) rfl))
  have f36 := f19.same W27
  show own_Go _ _ _ _ T27 (mkF m 57 _ [])
  subst hPq
  refine own_out X27 (v := none) (fun _ => rfl) Bd.notSynchronized (fun fs hr => X27.returnOut hx Bd.returns (hb hby d4_57) hr) (by decide) (by decide) ?_
  show Q4 Z a ca kc ch cs u0 u1 h0 n0 _ T27.heap _
  rw [e27]
  exact ⟨r3_kb, b3_bb, rfl, N33, K35, gx_b3_bb, sz14, f28, f36, f32, f31⟩
theorem d5_0 : decode jdk_42_method_3_code 0 = .ok (.aload_n 0, 1) := by decide +kernel
theorem d5_1 : decode jdk_42_method_3_code 1 = .ok (.aload_n 1, 1) := by decide +kernel
theorem d5_2 : decode jdk_42_method_3_code 2 = .ok (.iconst 0, 1) := by decide +kernel
theorem d5_3 : decode jdk_42_method_3_code 3 = .ok (.aload_n 1, 1) := by decide +kernel
theorem d5_4 : decode jdk_42_method_3_code 4 = .ok (.arraylength, 1) := by decide +kernel
theorem d5_5 : decode jdk_42_method_3_code 5 = .ok (.aconst_null, 1) := by decide +kernel
theorem d5_6 : decode jdk_42_method_3_code 6 = .ok (.invokespecial 27, 3) := by decide +kernel
theorem d5_9 : decode jdk_42_method_3_code 9 = .ok (.return_, 1) := by decide +kernel
theorem own_pn5 : plainName "java/lang/String" = true := by first | (simp [plainName, overriddenIn]; done) | decide +kernel
theorem own_ef5 (m : MethodId) (a : Addr) (ca : Addr) : entryFrame m #[(.ref a), (.ref ca)] 2 = mkF m 0 #[.val (.ref a), .val (.ref ca)] [] := by first | (simp [entryFrame, mkF, argsToLocals, Value.category]; done) | rfl
def Q5 (Z : State) (a : Addr) (ca : Addr) (kc : ClassId) (ch : Int32) (cs : Int32) (u0 : Value) (u1 : Value) (h0 : Heap) (n0 : Nat) (v : Option Value) (h : Heap) (L : List Loc) : Prop := ∃ (kb : ClassId) (bb : Addr), v = none ∧ Fr n0 L ∧ Keep h0 h [a] ∧ n0 ≤ bb ∧ h0.size ≤ bb ∧ Exa Z h a "java/lang/String" ∧ Fld Z h a "java/lang/String" "value" "[B" (.ref bb) ∧ Fld Z h a "java/lang/String" "coder" "B" (.int (0 : Int32)) ∧ Arv Z h bb kb .byte (1 : Int32) [(.int (own_by ch))] (.int (0 : Int32))
set_option maxRecDepth 65536 in
set_option maxHeartbeats 4000000 in
theorem rm5 (l : Launch) (Z : State) (a0 : Array Value) (hw : ∀ d ∈ tables_1, d.before a0 Z = true) (ws : List Jvm.Cond) (a : Addr) (ca : Addr) (kc : ClassId) (ch : Int32) (cs : Int32) (u0 : Value) (u1 : Value) (h0 : Heap) (n0 : Nat) (Z0 : n0 ≤ h0.size) (F0 : Exa Z h0 a "java/lang/String") (F1 : Fld Z h0 a "java/lang/String" "value" "[B" u0) (F2 : Fld Z h0 a "java/lang/String" "coder" "B" u1) (F3 : Arv Z h0 ca kc .char (1 : Int32) [(.int ch)] (.int (0 : Int32))) (F4 : Sta Z h0 "java/lang/String" "COMPACT_STRINGS" "Z" (.int cs)) (hch : ¬ (255 : Int32) < ch) (hcs : ¬ cs = (0 : Int32)) (n1 : ca ≠ a) (g_a : n0 ≤ a) :
    MetFree l (⟨"java/lang/String", "<init>", "([C)V"⟩ : MethodName) (head1 (Jvm.Cond.code (⟨"java/lang/String", "<init>", "([C)V"⟩ : MethodName) jdk_42_method_3_code 2 none :: ws) ({ frames := 3, cells := 1, slots := 1, locals := 52 } : Room)) (fun aW U => aW = #[(.ref a), (.ref ca)] ∧ Z.Warmed39 U.vm ∧ U.heap = h0) (fun _ _ _ _ _ => True) (fun _ U o U' => ∃ v L, o = .returned v ∧ Q5 Z a ca kc ch cs u0 u1 h0 n0 v U'.heap L ∧ FrameEnd U o U' L ({ frames := 3, cells := 1, slots := 1, locals := 52 } : Room).cells ({ frames := 3, cells := 1, slots := 1, locals := 52 } : Room).slots) := by
  refine MetFree.of_bodySF (plainFor_of_name own_pn5) hisR ?_
  intro p e s m args below meth c s₁ Bd hml0 hP hK
  obtain ⟨rfl, hZ, hh⟩ := hP
  have hx := Bd.exec
  have hby := Bd.bytes
  have hml : c.maxLocals = 2 := hml0
  have hown : s.vm.findClass "java/lang/String" = some m.cls := findClass_of_methodNamed Bd.named
  have hnm := (name_of_methodNamed Bd.named Bd.method).1
  have X0 : Stand p l e ({ frames := 3, cells := 1, slots := 1, locals := 52 } : Room) s m #[(.ref a), (.ref ca)] below meth c s₁ [] 0 0 := Stand.of_body Bd
  have e0 : s₁.heap = h0 := by rw [← hh, Bd.state]; rfl
  have N0 := Fr.nil n0
  have K0 : Keep h0 h0 [a] := Keep.refl _ _
  obtain ⟨Pq, hPq⟩ : ∃ P, P = own_P s below (fun v h L => Q5 Z a ca kc ch cs u0 u1 h0 n0 v h L) ({ frames := 3, cells := 1, slots := 1, locals := 52 } : Room).cells ({ frames := 3, cells := 1, slots := 1, locals := 52 } : Room).slots := ⟨_, rfl⟩
  suffices hgo : own_Go p.tables e below Pq s₁ (mkF m 0 #[.val (.ref a), .val (.ref ca)] []) by
    subst hPq
    obtain ⟨t, k1, k2, o, k3, k4⟩ := hgo
    exact ⟨t, o, castTop (own_ef5 m a ca) k1, k2, k3, k4⟩
  show own_Go _ _ _ _ s₁ (mkF m 0 #[.val (.ref a), .val (.ref ca)] [])
  refine own_st (fun t k => XS.aloadN X0.here hx rfl (hb hby d5_0) rfl rfl k) ?_
  show own_Go _ _ _ _ s₁ (mkF m 1 _ [(.ref a)])
  refine own_st (fun t k => XS.aloadN X0.here hx rfl (hb hby d5_1) rfl rfl k) ?_
  show own_Go _ _ _ _ s₁ (mkF m 2 _ [(.ref ca), (.ref a)])
  refine own_st (fun t k => XS.iconst X0.here hx rfl (hb hby d5_2) k) ?_
  show own_Go _ _ _ _ s₁ (mkF m 3 _ [(.int (0 : Int32)), (.ref ca), (.ref a)])
  refine own_st (fun t k => XS.aloadN X0.here hx rfl (hb hby d5_3) rfl rfl k) ?_
  show own_Go _ _ _ _ s₁ (mkF m 4 _ [(.ref ca), (.int (0 : Int32)), (.ref ca), (.ref a)])
  obtain ⟨c1, Ar1, q1, S1, N1, H1, G1⟩ := id F3
  refine own_st (fun t k => X0.arraylength hx (by rw [e0]; exact Ar1.1) (State.isArrayOf_alike hZ.alike Ar1.2.1) (g := (mkF m 4 #[.val (.ref a), .val (.ref ca)] [(.ref ca), (.int (0 : Int32)), (.ref ca), (.ref a)])) rfl rfl (hb hby d5_4) _ k) ?_
  rw [len_of S1 N1]
  show own_Go _ _ _ _ s₁ (mkF m 5 _ [(.int (1 : Int32)), (.int (0 : Int32)), (.ref ca), (.ref a)])
  refine own_st (fun t k => XS.aconstNull X0.here hx rfl (hb hby d5_5) k) ?_
  show own_Go _ _ _ _ s₁ (mkF m 6 _ [.null, (.int (1 : Int32)), (.int (0 : Int32)), (.ref ca), (.ref a)])
  obtain ⟨_, _, ⟨T2, L2, k2, n2⟩, -, X2, ⟨Lc2, hQ2, l2, y2, z2⟩, st2⟩ := X0.specialBack hx (y := (⟨"java/lang/String", "<init>", "([CIILjava/lang/Void;)V"⟩ : MethodName)) rfl hown (mvT hZ (hw _ (List.mem_of_getElem? (i := 11) rfl))) (mvT hZ (hw _ (List.mem_of_getElem? (i := 12) rfl))) (mvT hZ (hw _ (List.mem_of_getElem? (i := 14) rfl))) (by decide) (backOf (W := 0) (rm4 l Z a0 hw [] a ca kc ch cs u0 u1 h0 n0 Z0 F0 F1 F2 F3 F4 hch hcs n1 g_a) hZ (hw _ (List.mem_of_getElem? (i := 14) rfl)) (hw _ (List.mem_of_getElem? (i := 7) rfl)) (by decide) (by decide)) (g := (mkF m 6 #[.val (.ref a), .val (.ref ca)] [.null, (.int (1 : Int32)), (.int (0 : Int32)), (.ref ca), (.ref a)])) rfl (by rw [hml]; rfl) (Steps.refl _) (a := a) (argsL := [(.ref ca), (.int (0 : Int32)), (.int (1 : Int32)), .null]) (rest := []) (lenOf own_pd___CIILjava_lang_Void__V rfl) rfl (by show 2 * 0 + _ ≤ _; exact Nat.le_of_eq rfl) (hb hby d5_6) (fun _ _ => ⟨rfl, e0, (by decide : 0 + 1 ≤ _), (by decide : 0 + 1 ≤ _)⟩)
  dsimp only [Pt.U, Pt.locs, Pt.cells, Pt.slots] at X2 l2 y2 z2 st2 hQ2
  subst l2 y2 z2
  obtain ⟨r2_kb, b2_bb, rfl, NQ2, K2, gx_b2_bb, sz_b2_bb, fq2_0, fq2_1, fq2_2, fq2_3⟩ := hQ2
  have N3 := Fr.app N0 NQ2
  refine own_st (fun t k => st2.trans k) ?_
  have f4 := F0.keep K2
  have f5 := F3.keep K2 (ninS n1 nin0)
  have f6 := own_staK F4 K2 (allS ⟨_, F0⟩ all0)
  have Z7 : n0 ≤ T2.heap.size := Nat.le_trans Z0 K2.1
  have ne8 : a ≠ b2_bb := Nat.ne_of_lt (Nat.lt_of_lt_of_le F0.lt sz_b2_bb)
  have ne9 : ca ≠ b2_bb := Nat.ne_of_lt (Nat.lt_of_lt_of_le F3.lt sz_b2_bb)
  have sz11 : h0.size ≤ b2_bb := Nat.le_trans K0.1 sz_b2_bb
  have K10 : Keep h0 T2.heap [a] := K0.trans K2 (allS (Or.inl (List.mem_of_getElem? (i := 0) rfl)) all0)
  show own_Go _ _ _ _ T2 (mkF m 9 _ [])
  subst hPq
  refine own_out X2 (v := none) (fun _ => rfl) Bd.notSynchronized (fun fs hr => X2.returnOut hx Bd.returns (hb hby d5_9) hr) (by decide) (by decide) ?_
  show Q5 Z a ca kc ch cs u0 u1 h0 n0 _ T2.heap _
  exact ⟨r2_kb, b2_bb, rfl, N3, K10, gx_b2_bb, sz11, fq2_0, fq2_1, fq2_2, fq2_3⟩
theorem d6_0 : decode method_2_code 0 = .ok (.iconst 1, 1) := by decide +kernel
theorem d6_1 : decode method_2_code 1 = .ok (.newarray .char, 2) := by decide +kernel
theorem d6_3 : decode method_2_code 3 = .ok (.astore_n 1, 1) := by decide +kernel
theorem d6_4 : decode method_2_code 4 = .ok (.aload_n 1, 1) := by decide +kernel
theorem d6_5 : decode method_2_code 5 = .ok (.iconst 0, 1) := by decide +kernel
theorem d6_6 : decode method_2_code 6 = .ok (.bipush 97, 2) := by decide +kernel
theorem d6_8 : decode method_2_code 8 = .ok (.iload_n 0, 1) := by decide +kernel
theorem d6_9 : decode method_2_code 9 = .ok (.iconst 3, 1) := by decide +kernel
theorem d6_10 : decode method_2_code 10 = .ok (.iand, 1) := by decide +kernel
theorem d6_11 : decode method_2_code 11 = .ok (.iadd, 1) := by decide +kernel
theorem d6_12 : decode method_2_code 12 = .ok (.i2c, 1) := by decide +kernel
theorem d6_13 : decode method_2_code 13 = .ok (.castore, 1) := by decide +kernel
theorem d6_14 : decode method_2_code 14 = .ok (.new 7, 3) := by decide +kernel
theorem d6_17 : decode method_2_code 17 = .ok (.dup, 1) := by decide +kernel
theorem d6_18 : decode method_2_code 18 = .ok (.aload_n 1, 1) := by decide +kernel
theorem d6_19 : decode method_2_code 19 = .ok (.invokespecial 9, 3) := by decide +kernel
theorem d6_22 : decode method_2_code 22 = .ok (.areturn, 1) := by decide +kernel
theorem own_pn6 : plainName "com/example/antientropy/antientropy/sds/NamedEntriesHeardPinLaw" = true := by first | (simp [plainName, overriddenIn]; done) | decide +kernel
theorem own_ef6 (m : MethodId) (x0 : Int32) : entryFrame m #[(.int x0)] 2 = mkF m 0 #[.val (.int x0), .unset] [] := by first | (simp [entryFrame, mkF, argsToLocals, Value.category]; done) | rfl
def Q6 (Z : State) (x0 : Int32) (cs : Int32) (h0 : Heap) (n0 : Nat) (v : Option Value) (h : Heap) (L : List Loc) : Prop := ∃ (kb : ClassId) (so : Addr) (bb : Addr), v = some (.ref so) ∧ Fr n0 L ∧ Keep h0 h [] ∧ n0 ≤ so ∧ h0.size ≤ so ∧ n0 ≤ bb ∧ h0.size ≤ bb ∧ Exa Z h so "java/lang/String" ∧ Fld Z h so "java/lang/String" "value" "[B" (.ref bb) ∧ Fld Z h so "java/lang/String" "coder" "B" (.int (0 : Int32)) ∧ Arv Z h bb kb .byte (1 : Int32) [(.int (own_by (own_chr x0)))] (.int (0 : Int32)) ∧ so ≠ bb
set_option maxRecDepth 65536 in
set_option maxHeartbeats 4000000 in
theorem rm6 (l : Launch) (Z : State) (a0 : Array Value) (hw : ∀ d ∈ tables_1, d.before a0 Z = true) (ws : List Jvm.Cond) (x0 : Int32) (cs : Int32) (h0 : Heap) (n0 : Nat) (Z0 : n0 ≤ h0.size) (F0 : Sta Z h0 "java/lang/String" "COMPACT_STRINGS" "Z" (.int cs)) (hcs : ¬ cs = (0 : Int32)) :
    MetFree l (⟨"com/example/antientropy/antientropy/sds/NamedEntriesHeardPinLaw", "name", "(I)Ljava/lang/String;"⟩ : MethodName) (head1 (Jvm.Cond.code (⟨"com/example/antientropy/antientropy/sds/NamedEntriesHeardPinLaw", "name", "(I)Ljava/lang/String;"⟩ : MethodName) method_2_code 2 (some (.object "java/lang/String")) :: ws) ({ frames := 4, cells := 3, slots := 6, locals := 66 } : Room)) (fun aW U => aW = #[(.int x0)] ∧ Z.Warmed39 U.vm ∧ U.heap = h0) (fun _ _ _ _ _ => True) (fun _ U o U' => ∃ v L, o = .returned v ∧ Q6 Z x0 cs h0 n0 v U'.heap L ∧ FrameEnd U o U' L ({ frames := 4, cells := 3, slots := 6, locals := 66 } : Room).cells ({ frames := 4, cells := 3, slots := 6, locals := 66 } : Room).slots) := by
  refine MetFree.of_bodySF (plainFor_of_name own_pn6) hisR ?_
  intro p e s m args below meth c s₁ Bd hml0 hP hK
  obtain ⟨rfl, hZ, hh⟩ := hP
  have hx := Bd.exec
  have hby := Bd.bytes
  have hml : c.maxLocals = 2 := hml0
  have hown : s.vm.findClass "com/example/antientropy/antientropy/sds/NamedEntriesHeardPinLaw" = some m.cls := findClass_of_methodNamed Bd.named
  have hnm := (name_of_methodNamed Bd.named Bd.method).1
  have X0 : Stand p l e ({ frames := 4, cells := 3, slots := 6, locals := 66 } : Room) s m #[(.int x0)] below meth c s₁ [] 0 0 := Stand.of_body Bd
  have e0 : s₁.heap = h0 := by rw [← hh, Bd.state]; rfl
  have N0 := Fr.nil n0
  have K0 : Keep h0 h0 [] := Keep.refl _ _
  obtain ⟨Pq, hPq⟩ : ∃ P, P = own_P s below (fun v h L => Q6 Z x0 cs h0 n0 v h L) ({ frames := 4, cells := 3, slots := 6, locals := 66 } : Room).cells ({ frames := 4, cells := 3, slots := 6, locals := 66 } : Room).slots := ⟨_, rfl⟩
  suffices hgo : own_Go p.tables e below Pq s₁ (mkF m 0 #[.val (.int x0), .unset] []) by
    subst hPq
    obtain ⟨t, k1, k2, o, k3, k4⟩ := hgo
    exact ⟨t, o, castTop (own_ef6 m x0) k1, k2, k3, k4⟩
  show own_Go _ _ _ _ s₁ (mkF m 0 #[.val (.int x0), .unset] [])
  refine own_st (fun t k => XS.iconst X0.here hx rfl (hb hby d6_0) k) ?_
  show own_Go _ _ _ _ s₁ (mkF m 1 _ [(.int (1 : Int32))])
  obtain ⟨T1, h1, k1, X1, e1, E1, A1, st1⟩ := newP X0 hx hZ (hw _ (List.mem_of_getElem? (i := 4) rfl)) e0 (g := (mkF m 1 #[.val (.int x0), .unset] [(.int (1 : Int32))])) rfl (hb hby d6_1) rfl (by decide) (cap := 1) (by decide) (by decide) (by decide) (by decide)
  obtain ⟨b1, g1⟩ : ∃ z, z = h0.size := ⟨_, rfl⟩
  rw [← g1] at A1 st1
  refine own_st st1 ?_
  have f2 := F0.ext E1
  have gx3 : n0 ≤ b1 := Nat.le_trans Z0 (Nat.le_of_eq g1.symm)
  have Z4 : n0 ≤ h1.size := Nat.le_trans Z0 E1.1
  have sz6 : h0.size ≤ b1 := Nat.le_trans K0.1 (Nat.le_of_eq g1.symm)
  have K5 : Keep h0 h1 [] := K0.ext E1
  have V1 : Arv Z h1 b1 k1 .char (1 : Int32) [(.int (0 : Int32))] (.int (0 : Int32)) := (Arv.new A1 (by decide)).pad (pad_rep [] (.int (0 : Int32)) 1)
  show own_Go _ _ _ _ T1 (mkF m 3 _ [(.ref b1)])
  refine own_st (fun t k => XS.astoreN X1.here hx rfl (hb hby d6_3) rfl rfl (l' := #[.val (.int x0), .val (.ref b1)]) rfl k) ?_
  show own_Go _ _ _ _ T1 (mkF m 4 #[.val (.int x0), .val (.ref b1)] [])
  refine own_st (fun t k => XS.aloadN X1.here hx rfl (hb hby d6_4) rfl rfl k) ?_
  show own_Go _ _ _ _ T1 (mkF m 5 _ [(.ref b1)])
  refine own_st (fun t k => XS.iconst X1.here hx rfl (hb hby d6_5) k) ?_
  show own_Go _ _ _ _ T1 (mkF m 6 _ [(.int (0 : Int32)), (.ref b1)])
  refine own_st (fun t k => XS.bipush X1.here hx rfl (hb hby d6_6) k) ?_
  show own_Go _ _ _ _ T1 (mkF m 8 _ [(.int (97 : Int32)), (.int (0 : Int32)), (.ref b1)])
  refine own_st (fun t k => XS.iloadN X1.here hx rfl (hb hby d6_8) rfl k) ?_
  show own_Go _ _ _ _ T1 (mkF m 9 _ [(.int x0), (.int (97 : Int32)), (.int (0 : Int32)), (.ref b1)])
  refine own_st (fun t k => XS.iconst X1.here hx rfl (hb hby d6_9) k) ?_
  show own_Go _ _ _ _ T1 (mkF m 10 _ [(.int (3 : Int32)), (.int x0), (.int (97 : Int32)), (.int (0 : Int32)), (.ref b1)])
  refine own_st (fun t k => XS.iand X1.here hx rfl (hb hby d6_10) rfl k) ?_
  show own_Go _ _ _ _ T1 (mkF m 11 _ [(.int (x0 &&& (3 : Int32))), (.int (97 : Int32)), (.int (0 : Int32)), (.ref b1)])
  refine own_st (fun t k => XS.iadd X1.here hx rfl (hb hby d6_11) rfl k) ?_
  show own_Go _ _ _ _ T1 (mkF m 12 _ [(.int ((97 : Int32) + (x0 &&& (3 : Int32)))), (.int (0 : Int32)), (.ref b1)])
  refine own_st (fun t k => XS.i2c X1.here hx rfl (hb hby d6_12) rfl k) ?_
  show own_Go _ _ _ _ T1 (mkF m 13 _ [(.int ((97 : Int32) + (x0 &&& (3 : Int32))).toUInt32.toUInt16.toUInt32.toInt32), (.int (0 : Int32)), (.ref b1)])
  obtain ⟨c7, Ar7, q7, S7, N7, H7, G7⟩ := id V1
  obtain ⟨T7, h7, X7, e7, W7, st7⟩ := stC X1 hx hZ e1 Ar7 (j := (0 : Int32)) (inb_of S7 ⟨by decide, by decide⟩) (g := (mkF m 13 #[.val (.int x0), .val (.ref b1)] [(.int ((97 : Int32) + (x0 &&& (3 : Int32))).toUInt32.toUInt16.toUInt32.toInt32), (.int (0 : Int32)), (.ref b1)])) rfl rfl (hb hby d6_13)
  refine own_st st7 ?_
  have f8 := Arv.set Ar7 q7 S7 N7 H7 G7 (fits_nar_char _) W7 0 rfl (Nat.le_of_ble_eq_true rfl)
  have f9 := f2.wr W7
  have N10 := Fr.snoc X7 N0 gx3
  have Z11 : n0 ≤ h7.size := Nat.le_trans Z4 (Nat.le_of_eq W7.size.symm)
  have K12 : Keep h0 h7 [] := K5.wr W7 (Or.inr sz6)
  show own_Go _ _ _ _ T7 (mkF m 14 _ [])
  obtain ⟨T13, h13, X13, e13, E13, A13, D13, -, st13⟩ := newO X7 hx hZ hown (hw _ (List.mem_of_getElem? (i := 5) rfl)) (hw _ (List.mem_of_getElem? (i := 6) rfl)) (hw _ (List.mem_of_getElem? (i := 7) rfl)) e7 (g := (mkF m 14 #[.val (.int x0), .val (.ref b1)] [])) rfl (hb hby d6_14) (by decide) (by decide)
  obtain ⟨b13, g13⟩ : ∃ z, z = h7.size := ⟨_, rfl⟩
  rw [← g13] at A13 D13 st13
  refine own_st st13 ?_
  have ne14 : b1 ≠ b13 := Nat.ne_of_lt (Nat.lt_of_lt_of_le f8.lt (Nat.le_of_eq g13.symm))
  have f15 := f9.ext E13
  have f16 := f8.ext E13
  have gx17 : n0 ≤ b13 := Nat.le_trans Z11 (Nat.le_of_eq g13.symm)
  have Z18 : n0 ≤ h13.size := Nat.le_trans Z11 E13.1
  have sz20 : h0.size ≤ b13 := Nat.le_trans K12.1 (Nat.le_of_eq g13.symm)
  have K19 : Keep h0 h13 [] := K12.ext E13
  have f21 : Fld Z h13 b13 "java/lang/String" "coder" "B" (.int (0 : Int32)) := D13 (Or.inr (hw _ (List.mem_of_getElem? (i := 31) rfl))) (ty := .byte) (by decide)
  have f22 : Fld Z h13 b13 "java/lang/String" "value" "[B" .null := D13 (Or.inr (hw _ (List.mem_of_getElem? (i := 33) rfl))) (ty := (.array .byte)) (by decide)
  show own_Go _ _ _ _ T13 (mkF m 17 _ [(.ref b13)])
  refine own_st (fun t k => XS.dup X13.here hx rfl (hb hby d6_17) rfl rfl k) ?_
  show own_Go _ _ _ _ T13 (mkF m 18 _ [(.ref b13), (.ref b13)])
  refine own_st (fun t k => XS.aloadN X13.here hx rfl (hb hby d6_18) rfl rfl k) ?_
  show own_Go _ _ _ _ T13 (mkF m 19 _ [(.ref b1), (.ref b13), (.ref b13)])
  obtain ⟨_, _, ⟨T23, L23, k23, n23⟩, -, X23, ⟨Lc23, hQ23, l23, y23, z23⟩, st23⟩ := X13.specialBack hx (y := (⟨"java/lang/String", "<init>", "([C)V"⟩ : MethodName)) rfl hown (mvT hZ (hw _ (List.mem_of_getElem? (i := 8) rfl))) (mvT hZ (hw _ (List.mem_of_getElem? (i := 9) rfl))) (mvT hZ (hw _ (List.mem_of_getElem? (i := 10) rfl))) (by decide) (backOf (W := 1) (rm5 l Z a0 hw [] b13 b1 k1 (nar .char ((97 : Int32) + (x0 &&& (3 : Int32))).toUInt32.toUInt16.toUInt32.toInt32) cs (.null) (.int (0 : Int32)) h13 n0 Z18 A13 f22 f21 f16 f15 (own_chr_le x0) hcs ne14 gx17) hZ (hw _ (List.mem_of_getElem? (i := 10) rfl)) (hw _ (List.mem_of_getElem? (i := 7) rfl)) (by decide) (by decide)) (g := (mkF m 19 #[.val (.int x0), .val (.ref b1)] [(.ref b1), (.ref b13), (.ref b13)])) rfl (by rw [hml]; rfl) (Steps.refl _) (a := b13) (argsL := [(.ref b1)]) (rest := [(.ref b13)]) (lenOf own_pd___C_V rfl) rfl (by show 2 * 0 + _ ≤ _; exact Nat.le_of_eq rfl) (hb hby d6_19) (fun _ _ => ⟨rfl, e13, (by decide : 2 + 1 ≤ _), (by decide : 5 + 1 ≤ _)⟩)
  dsimp only [Pt.U, Pt.locs, Pt.cells, Pt.slots] at X23 l23 y23 z23 st23 hQ23
  subst l23 y23 z23
  obtain ⟨r23_kb, b23_bb, rfl, NQ23, K23, gx_b23_bb, sz_b23_bb, fq23_0, fq23_1, fq23_2, fq23_3⟩ := hQ23
  have N24 := Fr.app N10 NQ23
  refine own_st (fun t k => st23.trans k) ?_
  have f25 := own_staK f15 K23 (allS ⟨_, A13⟩ all0)
  have f26 := f16.keep K23 (ninS ne14 nin0)
  have f27 := A13.keep K23
  have Z28 : n0 ≤ T23.heap.size := Nat.le_trans Z18 K23.1
  have ne29 : b1 ≠ b23_bb := Nat.ne_of_lt (Nat.lt_of_lt_of_le f16.lt sz_b23_bb)
  have ne30 : b13 ≠ b23_bb := Nat.ne_of_lt (Nat.lt_of_lt_of_le A13.lt sz_b23_bb)
  have sz32 : h0.size ≤ b23_bb := Nat.le_trans K19.1 sz_b23_bb
  have K31 : Keep h0 T23.heap [] := K19.trans K23 (allS (Or.inr sz20) all0)
  show own_Go _ _ _ _ T23 (mkF m 22 _ [(.ref b13)])
  subst hPq
  refine own_out X23 (v := some (.ref b13)) (fun h => by rw [Bd.returns] at h; cases h) Bd.notSynchronized (own_retR X23 hx (t := (.object "java/lang/String")) Bd.returns rfl rfl rfl (hb hby d6_22)) (by decide) (by decide) ?_
  show Q6 Z x0 cs h0 n0 _ T23.heap _
  exact ⟨r23_kb, b13, b23_bb, rfl, N24, K31, gx17, sz20, gx_b23_bb, sz32, fq23_0, fq23_1, fq23_2, fq23_3, ne30⟩
def own_eqb (b1 : Int32) (b2 : Int32) : Int32 := (if b1 = b2 then (1 : Int32) else (0 : Int32))
theorem own_eqb_b (b1 : Int32) (b2 : Int32) : (own_eqb b1 b2) = 0 ∨ (own_eqb b1 b2) = 1 := by
  unfold own_eqb
  (repeat' split) <;> first | exact Or.inl rfl | exact Or.inr rfl
theorem d7_0 : decode jdk_43_method_13_code 0 = .ok (.aload_n 0, 1) := by decide +kernel
theorem d7_1 : decode jdk_43_method_13_code 1 = .ok (.arraylength, 1) := by decide +kernel
theorem d7_2 : decode jdk_43_method_13_code 2 = .ok (.aload_n 1, 1) := by decide +kernel
theorem d7_3 : decode jdk_43_method_13_code 3 = .ok (.arraylength, 1) := by decide +kernel
theorem d7_4 : decode jdk_43_method_13_code 4 = .ok (.if_icmp .ne 30, 3) := by decide +kernel
theorem d7_7 : decode jdk_43_method_13_code 7 = .ok (.iconst 0, 1) := by decide +kernel
theorem d7_8 : decode jdk_43_method_13_code 8 = .ok (.istore_n 2, 1) := by decide +kernel
theorem d7_9 : decode jdk_43_method_13_code 9 = .ok (.iload_n 2, 1) := by decide +kernel
theorem d7_10 : decode jdk_43_method_13_code 10 = .ok (.aload_n 0, 1) := by decide +kernel
theorem d7_11 : decode jdk_43_method_13_code 11 = .ok (.arraylength, 1) := by decide +kernel
theorem d7_12 : decode jdk_43_method_13_code 12 = .ok (.if_icmp .ge 20, 3) := by decide +kernel
theorem d7_15 : decode jdk_43_method_13_code 15 = .ok (.aload_n 0, 1) := by decide +kernel
theorem d7_16 : decode jdk_43_method_13_code 16 = .ok (.iload_n 2, 1) := by decide +kernel
theorem d7_17 : decode jdk_43_method_13_code 17 = .ok (.baload, 1) := by decide +kernel
theorem d7_18 : decode jdk_43_method_13_code 18 = .ok (.aload_n 1, 1) := by decide +kernel
theorem d7_19 : decode jdk_43_method_13_code 19 = .ok (.iload_n 2, 1) := by decide +kernel
theorem d7_20 : decode jdk_43_method_13_code 20 = .ok (.baload, 1) := by decide +kernel
theorem d7_21 : decode jdk_43_method_13_code 21 = .ok (.if_icmp .eq 5, 3) := by decide +kernel
theorem d7_24 : decode jdk_43_method_13_code 24 = .ok (.iconst 0, 1) := by decide +kernel
theorem d7_25 : decode jdk_43_method_13_code 25 = .ok (.ireturn, 1) := by decide +kernel
theorem d7_26 : decode jdk_43_method_13_code 26 = .ok (.iinc 2 1, 3) := by decide +kernel
theorem d7_29 : decode jdk_43_method_13_code 29 = .ok (.goto (-20), 3) := by decide +kernel
theorem d7_32 : decode jdk_43_method_13_code 32 = .ok (.iconst 1, 1) := by decide +kernel
theorem d7_33 : decode jdk_43_method_13_code 33 = .ok (.ireturn, 1) := by decide +kernel
theorem own_pn7 : plainName "java/lang/StringLatin1" = true := by first | (simp [plainName, overriddenIn]; done) | decide +kernel
theorem own_ef7 (m : MethodId) (v1 : Addr) (v2 : Addr) : entryFrame m #[(.ref v1), (.ref v2)] 3 = mkF m 0 #[.val (.ref v1), .val (.ref v2), .unset] [] := by first | (simp [entryFrame, mkF, argsToLocals, Value.category]; done) | rfl
def Q7 (Z : State) (v1 : Addr) (v2 : Addr) (k1 : ClassId) (k2 : ClassId) (b1 : Int32) (b2 : Int32) (h0 : Heap) (n0 : Nat) (v : Option Value) (h : Heap) (L : List Loc) : Prop := v = some (.int (own_eqb b1 b2)) ∧ Fr n0 L ∧ h = h0
set_option maxRecDepth 65536 in
set_option maxHeartbeats 4000000 in
theorem rm7 (l : Launch) (Z : State) (a0 : Array Value) (hw : ∀ d ∈ tables_1, d.before a0 Z = true) (ws : List Jvm.Cond) (v1 : Addr) (v2 : Addr) (k1 : ClassId) (k2 : ClassId) (b1 : Int32) (b2 : Int32) (h0 : Heap) (n0 : Nat) (Z0 : n0 ≤ h0.size) (F0 : Arv Z h0 v1 k1 .byte (1 : Int32) [(.int b1)] (.int (0 : Int32))) (F1 : Arv Z h0 v2 k2 .byte (1 : Int32) [(.int b2)] (.int (0 : Int32))) :
    MetFree l (⟨"java/lang/StringLatin1", "equals", "([B[B)Z"⟩ : MethodName) (head1 (Jvm.Cond.code (⟨"java/lang/StringLatin1", "equals", "([B[B)Z"⟩ : MethodName) jdk_43_method_13_code 3 (some .boolean) :: ws) ({ frames := 0, cells := 0, slots := 0, locals := 0 } : Room)) (fun aW U => aW = #[(.ref v1), (.ref v2)] ∧ Z.Warmed39 U.vm ∧ U.heap = h0) (fun _ _ _ _ _ => True) (fun _ U o U' => ∃ v L, o = .returned v ∧ Q7 Z v1 v2 k1 k2 b1 b2 h0 n0 v U'.heap L ∧ FrameEnd U o U' L ({ frames := 0, cells := 0, slots := 0, locals := 0 } : Room).cells ({ frames := 0, cells := 0, slots := 0, locals := 0 } : Room).slots) := by
  refine MetFree.of_bodySF (plainFor_of_name own_pn7) hisR ?_
  intro p e s m args below meth c s₁ Bd hml0 hP hK
  obtain ⟨rfl, hZ, hh⟩ := hP
  have hx := Bd.exec
  have hby := Bd.bytes
  have hml : c.maxLocals = 3 := hml0
  have hown : s.vm.findClass "java/lang/StringLatin1" = some m.cls := findClass_of_methodNamed Bd.named
  have hnm := (name_of_methodNamed Bd.named Bd.method).1
  have X0 : Stand p l e ({ frames := 0, cells := 0, slots := 0, locals := 0 } : Room) s m #[(.ref v1), (.ref v2)] below meth c s₁ [] 0 0 := Stand.of_body Bd
  have e0 : s₁.heap = h0 := by rw [← hh, Bd.state]; rfl
  have N0 := Fr.nil n0
  obtain ⟨Pq, hPq⟩ : ∃ P, P = own_P s below (fun v h L => Q7 Z v1 v2 k1 k2 b1 b2 h0 n0 v h L) ({ frames := 0, cells := 0, slots := 0, locals := 0 } : Room).cells ({ frames := 0, cells := 0, slots := 0, locals := 0 } : Room).slots := ⟨_, rfl⟩
  suffices hgo : own_Go p.tables e below Pq s₁ (mkF m 0 #[.val (.ref v1), .val (.ref v2), .unset] []) by
    subst hPq
    obtain ⟨t, k1, k2, o, k3, k4⟩ := hgo
    exact ⟨t, o, castTop (own_ef7 m v1 v2) k1, k2, k3, k4⟩
  show own_Go _ _ _ _ s₁ (mkF m 0 #[.val (.ref v1), .val (.ref v2), .unset] [])
  refine own_st (fun t k => XS.aloadN X0.here hx rfl (hb hby d7_0) rfl rfl k) ?_
  show own_Go _ _ _ _ s₁ (mkF m 1 _ [(.ref v1)])
  obtain ⟨c1, Ar1, q1, S1, N1, H1, G1⟩ := id F0
  refine own_st (fun t k => X0.arraylength hx (by rw [e0]; exact Ar1.1) (State.isArrayOf_alike hZ.alike Ar1.2.1) (g := (mkF m 1 #[.val (.ref v1), .val (.ref v2), .unset] [(.ref v1)])) rfl rfl (hb hby d7_1) _ k) ?_
  rw [len_of S1 N1]
  show own_Go _ _ _ _ s₁ (mkF m 2 _ [(.int (1 : Int32))])
  refine own_st (fun t k => XS.aloadN X0.here hx rfl (hb hby d7_2) rfl rfl k) ?_
  show own_Go _ _ _ _ s₁ (mkF m 3 _ [(.ref v2), (.int (1 : Int32))])
  obtain ⟨c2, Ar2, q2, S2, N2, H2, G2⟩ := id F1
  refine own_st (fun t k => X0.arraylength hx (by rw [e0]; exact Ar2.1) (State.isArrayOf_alike hZ.alike Ar2.2.1) (g := (mkF m 3 #[.val (.ref v1), .val (.ref v2), .unset] [(.ref v2), (.int (1 : Int32))])) rfl rfl (hb hby d7_3) _ k) ?_
  rw [len_of S2 N2]
  show own_Go _ _ _ _ s₁ (mkF m 4 _ [(.int (1 : Int32)), (.int (1 : Int32))])
  refine own_st (fun t k => XS.icmpNo X0.here hx rfl (hb hby d7_4) rfl (teq (by decide : ((1 : Int32) = (1 : Int32)))).2 k) ?_
  show own_Go _ _ _ _ s₁ (mkF m 7 _ [])
  refine own_st (fun t k => XS.iconst X0.here hx rfl (hb hby d7_7) k) ?_
  show own_Go _ _ _ _ s₁ (mkF m 8 _ [(.int (0 : Int32))])
  refine own_st (fun t k => XS.istoreN X0.here hx rfl (hb hby d7_8) rfl (l' := #[.val (.ref v1), .val (.ref v2), .val (.int (0 : Int32))]) rfl k) ?_
  show own_Go _ _ _ _ s₁ (mkF m 9 #[.val (.ref v1), .val (.ref v2), .val (.int (0 : Int32))] [])
  refine own_st (fun t k => XS.iloadN X0.here hx rfl (hb hby d7_9) rfl k) ?_
  show own_Go _ _ _ _ s₁ (mkF m 10 _ [(.int (0 : Int32))])
  refine own_st (fun t k => XS.aloadN X0.here hx rfl (hb hby d7_10) rfl rfl k) ?_
  show own_Go _ _ _ _ s₁ (mkF m 11 _ [(.ref v1), (.int (0 : Int32))])
  obtain ⟨c3, Ar3, q3, S3, N3, H3, G3⟩ := id F0
  refine own_st (fun t k => X0.arraylength hx (by rw [e0]; exact Ar3.1) (State.isArrayOf_alike hZ.alike Ar3.2.1) (g := (mkF m 11 #[.val (.ref v1), .val (.ref v2), .val (.int (0 : Int32))] [(.ref v1), (.int (0 : Int32))])) rfl rfl (hb hby d7_11) _ k) ?_
  rw [len_of S3 N3]
  show own_Go _ _ _ _ s₁ (mkF m 12 _ [(.int (1 : Int32)), (.int (0 : Int32))])
  refine own_st (fun t k => XS.icmpNo X0.here hx rfl (hb hby d7_12) rfl (tlt (by decide : ((0 : Int32) < (1 : Int32)))).2.1 k) ?_
  show own_Go _ _ _ _ s₁ (mkF m 15 _ [])
  refine own_st (fun t k => XS.aloadN X0.here hx rfl (hb hby d7_15) rfl rfl k) ?_
  show own_Go _ _ _ _ s₁ (mkF m 16 _ [(.ref v1)])
  refine own_st (fun t k => XS.iloadN X0.here hx rfl (hb hby d7_16) rfl k) ?_
  show own_Go _ _ _ _ s₁ (mkF m 17 _ [(.int (0 : Int32)), (.ref v1)])
  obtain ⟨c4, Ar4, q4, S4, N4, H4, G4⟩ := id F0
  have in4 := ((inb_of S4 ⟨by decide, by decide⟩) : ¬ ((0 : Int32) < 0 ∨ c4.slots.size ≤ ((0 : Int32)).toNatClampNeg))
  refine own_st (fun t k => X0.baloadBytes hx (j := (0 : Int32)) (v := (.int b1)) (by rw [e0]; exact Ar4.1) (State.isArrayOf_alike hZ.alike Ar4.2.1) Ar4.2.2 in4 (H4.at in4 rfl) (g := (mkF m 17 #[.val (.ref v1), .val (.ref v2), .val (.int (0 : Int32))] [(.int (0 : Int32)), (.ref v1)])) rfl rfl (hb hby d7_17) _ k) ?_
  show own_Go _ _ _ _ s₁ (mkF m 18 _ [(.int b1)])
  refine own_st (fun t k => XS.aloadN X0.here hx rfl (hb hby d7_18) rfl rfl k) ?_
  show own_Go _ _ _ _ s₁ (mkF m 19 _ [(.ref v2), (.int b1)])
  refine own_st (fun t k => XS.iloadN X0.here hx rfl (hb hby d7_19) rfl k) ?_
  show own_Go _ _ _ _ s₁ (mkF m 20 _ [(.int (0 : Int32)), (.ref v2), (.int b1)])
  obtain ⟨c5, Ar5, q5, S5, N5, H5, G5⟩ := id F1
  have in5 := ((inb_of S5 ⟨by decide, by decide⟩) : ¬ ((0 : Int32) < 0 ∨ c5.slots.size ≤ ((0 : Int32)).toNatClampNeg))
  refine own_st (fun t k => X0.baloadBytes hx (j := (0 : Int32)) (v := (.int b2)) (by rw [e0]; exact Ar5.1) (State.isArrayOf_alike hZ.alike Ar5.2.1) Ar5.2.2 in5 (H5.at in5 rfl) (g := (mkF m 20 #[.val (.ref v1), .val (.ref v2), .val (.int (0 : Int32))] [(.int (0 : Int32)), (.ref v2), (.int b1)])) rfl rfl (hb hby d7_20) _ k) ?_
  show own_Go _ _ _ _ s₁ (mkF m 21 _ [(.int b2), (.int b1)])
  by_cases c6 : b1 = b2
  · skip
    refine own_st (fun t k => XS.icmpYes X0.here hx rfl (pc0 := 21) (pc' := 26) rfl (hb hby d7_21) rfl (teq c6).1 (by decide) (by decide) k) ?_
    show own_Go _ _ _ _ s₁ (mkF m 26 _ [])
    refine own_st (fun t k => XS.iinc X0.here hx rfl (hb hby d7_26) rfl (l' := #[.val (.ref v1), .val (.ref v2), .val (.int (1 : Int32))]) rfl k) ?_
    show own_Go _ _ _ _ s₁ (mkF m 29 #[.val (.ref v1), .val (.ref v2), .val (.int (1 : Int32))] [])
    show own_Go _ _ _ _ s₁ (mkF m 29 _ [])
    refine own_st (fun t k => XS.goto X0.here hx rfl (pc0 := 29) (pc' := 9) rfl (hb hby d7_29) (by decide) (by decide) k) ?_
    show own_Go _ _ _ _ s₁ (mkF m 9 _ [])
    refine own_st (fun t k => XS.iloadN X0.here hx rfl (hb hby d7_9) rfl k) ?_
    show own_Go _ _ _ _ s₁ (mkF m 10 _ [(.int (1 : Int32))])
    refine own_st (fun t k => XS.aloadN X0.here hx rfl (hb hby d7_10) rfl rfl k) ?_
    show own_Go _ _ _ _ s₁ (mkF m 11 _ [(.ref v1), (.int (1 : Int32))])
    obtain ⟨c7, Ar7, q7, S7, N7, H7, G7⟩ := id F0
    refine own_st (fun t k => X0.arraylength hx (by rw [e0]; exact Ar7.1) (State.isArrayOf_alike hZ.alike Ar7.2.1) (g := (mkF m 11 #[.val (.ref v1), .val (.ref v2), .val (.int (1 : Int32))] [(.ref v1), (.int (1 : Int32))])) rfl rfl (hb hby d7_11) _ k) ?_
    rw [len_of S7 N7]
    show own_Go _ _ _ _ s₁ (mkF m 12 _ [(.int (1 : Int32)), (.int (1 : Int32))])
    refine own_st (fun t k => XS.icmpYes X0.here hx rfl (pc0 := 12) (pc' := 32) rfl (hb hby d7_12) rfl (flt (by decide : ¬ ((1 : Int32) < (1 : Int32)))).2.1 (by decide) (by decide) k) ?_
    show own_Go _ _ _ _ s₁ (mkF m 32 _ [])
    refine own_st (fun t k => XS.iconst X0.here hx rfl (hb hby d7_32) k) ?_
    show own_Go _ _ _ _ s₁ (mkF m 33 _ [(.int (1 : Int32))])
    subst hPq
    refine own_out X0 (v := some (.int (1 : Int32))) (fun h => by rw [Bd.returns] at h; cases h) Bd.notSynchronized (own_retZ X0 hx Bd.returns (hb hby d7_33) (by decide)) (by decide) (by decide) ?_
    show Q7 Z v1 v2 k1 k2 b1 b2 h0 n0 _ s₁.heap _
    rw [e0]
    exact ⟨by first | (simp only [own_eqb, if_pos c6]; done) | (subst_vars; simp only [own_eqb, if_pos c6]; done) | (subst_vars; simp [own_eqb]; done), N0, rfl⟩
  · skip
    refine own_st (fun t k => XS.icmpNo X0.here hx rfl (hb hby d7_21) rfl (feq c6).1 k) ?_
    show own_Go _ _ _ _ s₁ (mkF m 24 _ [])
    refine own_st (fun t k => XS.iconst X0.here hx rfl (hb hby d7_24) k) ?_
    show own_Go _ _ _ _ s₁ (mkF m 25 _ [(.int (0 : Int32))])
    subst hPq
    refine own_out X0 (v := some (.int (0 : Int32))) (fun h => by rw [Bd.returns] at h; cases h) Bd.notSynchronized (own_retZ X0 hx Bd.returns (hb hby d7_25) (by decide)) (by decide) (by decide) ?_
    show Q7 Z v1 v2 k1 k2 b1 b2 h0 n0 _ s₁.heap _
    rw [e0]
    exact ⟨by first | (simp only [own_eqb, if_neg c6]; done) | (subst_vars; simp only [own_eqb, if_neg c6]; done) | (subst_vars; simp [own_eqb]; done), N0, rfl⟩
theorem d8_0 : decode jdk_42_method_66_code 0 = .ok (.aload_n 0, 1) := by decide +kernel
theorem d8_1 : decode jdk_42_method_66_code 1 = .ok (.aload_n 1, 1) := by decide +kernel
theorem d8_2 : decode jdk_42_method_66_code 2 = .ok (.if_acmp .ne 5, 3) := by decide +kernel
theorem d8_7 : decode jdk_42_method_66_code 7 = .ok (.aload_n 1, 1) := by decide +kernel
theorem d8_8 : decode jdk_42_method_66_code 8 = .ok (.instanceof 10, 3) := by decide +kernel
theorem d8_11 : decode jdk_42_method_66_code 11 = .ok (.ifCond .eq 43, 3) := by decide +kernel
theorem d8_54 : decode jdk_42_method_66_code 54 = .ok (.iconst 0, 1) := by decide +kernel
theorem d8_55 : decode jdk_42_method_66_code 55 = .ok (.ireturn, 1) := by decide +kernel
theorem own_pn8 : plainName "java/lang/String" = true := by first | (simp [plainName, overriddenIn]; done) | decide +kernel
theorem own_ef8 (m : MethodId) (s1 : Addr) : entryFrame m #[(.ref s1), .null] 3 = mkF m 0 #[.val (.ref s1), .val .null, .unset] [] := by first | (simp [entryFrame, mkF, argsToLocals, Value.category]; done) | rfl
def Q8 (Z : State) (s1 : Addr) (h0 : Heap) (n0 : Nat) (v : Option Value) (h : Heap) (L : List Loc) : Prop := v = some (.int (0 : Int32)) ∧ Fr n0 L ∧ h = h0
set_option maxRecDepth 65536 in
set_option maxHeartbeats 4000000 in
theorem rm8 (l : Launch) (Z : State) (a0 : Array Value) (hw : ∀ d ∈ tables_1, d.before a0 Z = true) (ws : List Jvm.Cond) (s1 : Addr) (h0 : Heap) (n0 : Nat) (Z0 : n0 ≤ h0.size) (F0 : Exa Z h0 s1 "java/lang/String") :
    MetFree l (⟨"java/lang/String", "equals", "(Ljava/lang/Object;)Z"⟩ : MethodName) (head1 (Jvm.Cond.code (⟨"java/lang/String", "equals", "(Ljava/lang/Object;)Z"⟩ : MethodName) jdk_42_method_66_code 3 (some .boolean) :: ws) ({ frames := 0, cells := 0, slots := 0, locals := 0 } : Room)) (fun aW U => aW = #[(.ref s1), .null] ∧ Z.Warmed39 U.vm ∧ U.heap = h0) (fun _ _ _ _ _ => True) (fun _ U o U' => ∃ v L, o = .returned v ∧ Q8 Z s1 h0 n0 v U'.heap L ∧ FrameEnd U o U' L ({ frames := 0, cells := 0, slots := 0, locals := 0 } : Room).cells ({ frames := 0, cells := 0, slots := 0, locals := 0 } : Room).slots) := by
  refine MetFree.of_bodySF (plainFor_of_name own_pn8) hisR ?_
  intro p e s m args below meth c s₁ Bd hml0 hP hK
  obtain ⟨rfl, hZ, hh⟩ := hP
  have hx := Bd.exec
  have hby := Bd.bytes
  have hml : c.maxLocals = 3 := hml0
  have hown : s.vm.findClass "java/lang/String" = some m.cls := findClass_of_methodNamed Bd.named
  have hnm := (name_of_methodNamed Bd.named Bd.method).1
  have X0 : Stand p l e ({ frames := 0, cells := 0, slots := 0, locals := 0 } : Room) s m #[(.ref s1), .null] below meth c s₁ [] 0 0 := Stand.of_body Bd
  have e0 : s₁.heap = h0 := by rw [← hh, Bd.state]; rfl
  have N0 := Fr.nil n0
  obtain ⟨Pq, hPq⟩ : ∃ P, P = own_P s below (fun v h L => Q8 Z s1 h0 n0 v h L) ({ frames := 0, cells := 0, slots := 0, locals := 0 } : Room).cells ({ frames := 0, cells := 0, slots := 0, locals := 0 } : Room).slots := ⟨_, rfl⟩
  suffices hgo : own_Go p.tables e below Pq s₁ (mkF m 0 #[.val (.ref s1), .val .null, .unset] []) by
    subst hPq
    obtain ⟨t, k1, k2, o, k3, k4⟩ := hgo
    exact ⟨t, o, castTop (own_ef8 m s1) k1, k2, k3, k4⟩
  show own_Go _ _ _ _ s₁ (mkF m 0 #[.val (.ref s1), .val .null, .unset] [])
  refine own_st (fun t k => XS.aloadN X0.here hx rfl (hb hby d8_0) rfl rfl k) ?_
  show own_Go _ _ _ _ s₁ (mkF m 1 _ [(.ref s1)])
  refine own_st (fun t k => XS.aloadN X0.here hx rfl (hb hby d8_1) rfl rfl k) ?_
  show own_Go _ _ _ _ s₁ (mkF m 2 _ [.null, (.ref s1)])
  refine own_st (fun t k => Jvm.RoadKit.acmp (g := (mkF m 2 #[.val (.ref s1), .val .null, .unset] [.null, (.ref s1)])) X0 hx rfl rfl rfl (pc0 := 2) (pc' := 7) (same := false) rfl (hb hby d8_2) rfl (decide_eq_false nofun) (by decide) (by decide) k) ?_
  show own_Go _ _ _ _ s₁ (mkF m 7 _ [])
  refine own_st (fun t k => XS.aloadN X0.here hx rfl (hb hby d8_7) rfl rfl k) ?_
  show own_Go _ _ _ _ s₁ (mkF m 8 _ [.null])
  refine own_st (fun t k => X0.instanceofNull hx (g := (mkF m 8 #[.val (.ref s1), .val .null, .unset] [.null])) rfl rfl (hb hby d8_8) _ k) ?_
  show own_Go _ _ _ _ s₁ (mkF m 11 _ [(.int (0 : Int32))])
  refine own_st (fun t k => XS.ifYes X0.here hx rfl (pc0 := 11) (pc' := 54) rfl (hb hby d8_11) rfl ((if0 _ _).trans (teq (by decide : ((0 : Int32) = (0 : Int32)))).1) (by decide) (by decide) k) ?_
  show own_Go _ _ _ _ s₁ (mkF m 54 _ [])
  refine own_st (fun t k => XS.iconst X0.here hx rfl (hb hby d8_54) k) ?_
  show own_Go _ _ _ _ s₁ (mkF m 55 _ [(.int (0 : Int32))])
  subst hPq
  refine own_out X0 (v := some (.int (0 : Int32))) (fun h => by rw [Bd.returns] at h; cases h) Bd.notSynchronized (own_retZ X0 hx Bd.returns (hb hby d8_55) (by decide)) (by decide) (by decide) ?_
  show Q8 Z s1 h0 n0 _ s₁.heap _
  rw [e0]
  exact ⟨rfl, N0, rfl⟩
def own_eqs (b1 : Int32) (b2 : Int32) : Int32 := (if (own_eqb b1 b2) = (0 : Int32) then (0 : Int32) else (1 : Int32))
theorem own_eqs_b (b1 : Int32) (b2 : Int32) : (own_eqs b1 b2) = 0 ∨ (own_eqs b1 b2) = 1 := by
  unfold own_eqs
  (repeat' split) <;> first | exact Or.inl rfl | exact Or.inr rfl | exact own_eqb_b _ _
theorem d8_14 : decode jdk_42_method_66_code 14 = .ok (.aload_n 1, 1) := by decide +kernel
theorem d8_15 : decode jdk_42_method_66_code 15 = .ok (.checkcast 10, 3) := by decide +kernel
theorem d8_18 : decode jdk_42_method_66_code 18 = .ok (.astore_n 2, 1) := by decide +kernel
theorem d8_19 : decode jdk_42_method_66_code 19 = .ok (.getstatic 38, 3) := by decide +kernel
theorem d8_22 : decode jdk_42_method_66_code 22 = .ok (.ifCond .eq 14, 3) := by decide +kernel
theorem d8_25 : decode jdk_42_method_66_code 25 = .ok (.aload_n 0, 1) := by decide +kernel
theorem d8_26 : decode jdk_42_method_66_code 26 = .ok (.getfield 15, 3) := by decide +kernel
theorem d8_29 : decode jdk_42_method_66_code 29 = .ok (.aload_n 2, 1) := by decide +kernel
theorem d8_30 : decode jdk_42_method_66_code 30 = .ok (.getfield 15, 3) := by decide +kernel
theorem d8_33 : decode jdk_42_method_66_code 33 = .ok (.if_icmp .ne 21, 3) := by decide +kernel
theorem d8_36 : decode jdk_42_method_66_code 36 = .ok (.aload_n 0, 1) := by decide +kernel
theorem d8_37 : decode jdk_42_method_66_code 37 = .ok (.getfield 9, 3) := by decide +kernel
theorem d8_40 : decode jdk_42_method_66_code 40 = .ok (.aload_n 2, 1) := by decide +kernel
theorem d8_41 : decode jdk_42_method_66_code 41 = .ok (.getfield 9, 3) := by decide +kernel
theorem d8_44 : decode jdk_42_method_66_code 44 = .ok (.invokestatic 541, 3) := by decide +kernel
theorem d8_47 : decode jdk_42_method_66_code 47 = .ok (.ifCond .eq 7, 3) := by decide +kernel
theorem d8_50 : decode jdk_42_method_66_code 50 = .ok (.iconst 1, 1) := by decide +kernel
theorem d8_51 : decode jdk_42_method_66_code 51 = .ok (.goto 4, 3) := by decide +kernel
theorem own_pn9 : plainName "java/lang/String" = true := by first | (simp [plainName, overriddenIn]; done) | decide +kernel
theorem own_ef9 (m : MethodId) (s1 : Addr) (s2 : Addr) : entryFrame m #[(.ref s1), (.ref s2)] 3 = mkF m 0 #[.val (.ref s1), .val (.ref s2), .unset] [] := by first | (simp [entryFrame, mkF, argsToLocals, Value.category]; done) | rfl
def Q9 (Z : State) (s1 : Addr) (s2 : Addr) (v1 : Addr) (k1 : ClassId) (b1 : Int32) (v2 : Addr) (k2 : ClassId) (b2 : Int32) (cs : Int32) (h0 : Heap) (n0 : Nat) (v : Option Value) (h : Heap) (L : List Loc) : Prop := v = some (.int (own_eqs b1 b2)) ∧ Fr n0 L ∧ h = h0
set_option maxRecDepth 65536 in
set_option maxHeartbeats 4000000 in
theorem rm9 (l : Launch) (Z : State) (a0 : Array Value) (hw : ∀ d ∈ tables_1, d.before a0 Z = true) (ws : List Jvm.Cond) (s1 : Addr) (s2 : Addr) (v1 : Addr) (k1 : ClassId) (b1 : Int32) (v2 : Addr) (k2 : ClassId) (b2 : Int32) (cs : Int32) (h0 : Heap) (n0 : Nat) (Z0 : n0 ≤ h0.size) (F0 : Exa Z h0 s1 "java/lang/String") (F1 : Fld Z h0 s1 "java/lang/String" "value" "[B" (.ref v1)) (F2 : Fld Z h0 s1 "java/lang/String" "coder" "B" (.int (0 : Int32))) (F3 : Arv Z h0 v1 k1 .byte (1 : Int32) [(.int b1)] (.int (0 : Int32))) (F4 : Exa Z h0 s2 "java/lang/String") (F5 : Fld Z h0 s2 "java/lang/String" "value" "[B" (.ref v2)) (F6 : Fld Z h0 s2 "java/lang/String" "coder" "B" (.int (0 : Int32))) (F7 : Arv Z h0 v2 k2 .byte (1 : Int32) [(.int b2)] (.int (0 : Int32))) (F8 : Sta Z h0 "java/lang/String" "COMPACT_STRINGS" "Z" (.int cs)) (hcs : ¬ cs = (0 : Int32)) (n1 : s1 ≠ s2) :
    MetFree l (⟨"java/lang/String", "equals", "(Ljava/lang/Object;)Z"⟩ : MethodName) (head1 (Jvm.Cond.code (⟨"java/lang/String", "equals", "(Ljava/lang/Object;)Z"⟩ : MethodName) jdk_42_method_66_code 3 (some .boolean) :: ws) ({ frames := 1, cells := 0, slots := 0, locals := 14 } : Room)) (fun aW U => aW = #[(.ref s1), (.ref s2)] ∧ Z.Warmed39 U.vm ∧ U.heap = h0) (fun _ _ _ _ _ => True) (fun _ U o U' => ∃ v L, o = .returned v ∧ Q9 Z s1 s2 v1 k1 b1 v2 k2 b2 cs h0 n0 v U'.heap L ∧ FrameEnd U o U' L ({ frames := 1, cells := 0, slots := 0, locals := 14 } : Room).cells ({ frames := 1, cells := 0, slots := 0, locals := 14 } : Room).slots) := by
  refine MetFree.of_bodySF (plainFor_of_name own_pn9) hisR ?_
  intro p e s m args below meth c s₁ Bd hml0 hP hK
  obtain ⟨rfl, hZ, hh⟩ := hP
  have hx := Bd.exec
  have hby := Bd.bytes
  have hml : c.maxLocals = 3 := hml0
  have hown : s.vm.findClass "java/lang/String" = some m.cls := findClass_of_methodNamed Bd.named
  have hnm := (name_of_methodNamed Bd.named Bd.method).1
  have X0 : Stand p l e ({ frames := 1, cells := 0, slots := 0, locals := 14 } : Room) s m #[(.ref s1), (.ref s2)] below meth c s₁ [] 0 0 := Stand.of_body Bd
  have e0 : s₁.heap = h0 := by rw [← hh, Bd.state]; rfl
  have N0 := Fr.nil n0
  obtain ⟨Pq, hPq⟩ : ∃ P, P = own_P s below (fun v h L => Q9 Z s1 s2 v1 k1 b1 v2 k2 b2 cs h0 n0 v h L) ({ frames := 1, cells := 0, slots := 0, locals := 14 } : Room).cells ({ frames := 1, cells := 0, slots := 0, locals := 14 } : Room).slots := ⟨_, rfl⟩
  suffices hgo : own_Go p.tables e below Pq s₁ (mkF m 0 #[.val (.ref s1), .val (.ref s2), .unset] []) by
    subst hPq
    obtain ⟨t, k1, k2, o, k3, k4⟩ := hgo
    exact ⟨t, o, castTop (own_ef9 m s1 s2) k1, k2, k3, k4⟩
  show own_Go _ _ _ _ s₁ (mkF m 0 #[.val (.ref s1), .val (.ref s2), .unset] [])
  refine own_st (fun t k => XS.aloadN X0.here hx rfl (hb hby d8_0) rfl rfl k) ?_
  show own_Go _ _ _ _ s₁ (mkF m 1 _ [(.ref s1)])
  refine own_st (fun t k => XS.aloadN X0.here hx rfl (hb hby d8_1) rfl rfl k) ?_
  show own_Go _ _ _ _ s₁ (mkF m 2 _ [(.ref s2), (.ref s1)])
  refine own_st (fun t k => Jvm.RoadKit.acmp (g := (mkF m 2 #[.val (.ref s1), .val (.ref s2), .unset] [(.ref s2), (.ref s1)])) X0 hx rfl rfl rfl (pc0 := 2) (pc' := 7) (same := false) rfl (hb hby d8_2) rfl (decide_eq_false fun q => n1 (Value.ref.inj q)) (by decide) (by decide) k) ?_
  show own_Go _ _ _ _ s₁ (mkF m 7 _ [])
  refine own_st (fun t k => XS.aloadN X0.here hx rfl (hb hby d8_7) rfl rfl k) ?_
  show own_Go _ _ _ _ s₁ (mkF m 8 _ [(.ref s2)])
  obtain ⟨T1, X1, e1, st1⟩ := instY X0 hx hZ hown (hw _ (List.mem_of_getElem? (i := 57) rfl)) e0 (Ins.self F4) (g := (mkF m 8 #[.val (.ref s1), .val (.ref s2), .unset] [(.ref s2)])) rfl rfl (hb hby d8_8)
  refine own_st st1 ?_
  show own_Go _ _ _ _ T1 (mkF m 11 _ [(.int (1 : Int32))])
  refine own_st (fun t k => XS.ifNo X1.here hx rfl (hb hby d8_11) rfl ((if0 _ _).trans (feq (by decide : ¬ ((1 : Int32) = (0 : Int32)))).1) k) ?_
  show own_Go _ _ _ _ T1 (mkF m 14 _ [])
  refine own_st (fun t k => XS.aloadN X1.here hx rfl (hb hby d8_14) rfl rfl k) ?_
  show own_Go _ _ _ _ T1 (mkF m 15 _ [(.ref s2)])
  obtain ⟨T2, X2, e2, st2⟩ := castY X1 hx hZ hown (hw _ (List.mem_of_getElem? (i := 57) rfl)) e1 (Ins.self F4) (g := (mkF m 15 #[.val (.ref s1), .val (.ref s2), .unset] [(.ref s2)])) rfl rfl (hb hby d8_15)
  refine own_st st2 ?_
  show own_Go _ _ _ _ T2 (mkF m 18 _ [(.ref s2)])
  refine own_st (fun t k => XS.astoreN X2.here hx rfl (hb hby d8_18) rfl rfl (l' := #[.val (.ref s1), .val (.ref s2), .val (.ref s2)]) rfl k) ?_
  show own_Go _ _ _ _ T2 (mkF m 19 #[.val (.ref s1), .val (.ref s2), .val (.ref s2)] [])
  obtain ⟨T3, X3, e3, st3⟩ := getS2 X2 hx hZ hown (host := "") (Or.inl (hw _ (List.mem_of_getElem? (i := 18) rfl))) Via.refl e2 F8 (g := (mkF m 19 #[.val (.ref s1), .val (.ref s2), .val (.ref s2)] [])) rfl (hb hby d8_19)
  refine own_st st3 ?_
  show own_Go _ _ _ _ T3 (mkF m 22 _ [(.int cs)])
  refine own_st (fun t k => XS.ifNo X3.here hx rfl (hb hby d8_22) rfl ((if0 _ _).trans (feq hcs).1) k) ?_
  show own_Go _ _ _ _ T3 (mkF m 25 _ [])
  refine own_st (fun t k => XS.aloadN X3.here hx rfl (hb hby d8_25) rfl rfl k) ?_
  show own_Go _ _ _ _ T3 (mkF m 26 _ [(.ref s1)])
  obtain ⟨T4, X4, e4, st4⟩ := getF X3 hx hZ hown (host := "") (Or.inl (hw _ (List.mem_of_getElem? (i := 30) rfl))) Via.refl e3 F2 (g := (mkF m 26 #[.val (.ref s1), .val (.ref s2), .val (.ref s2)] [(.ref s1)])) rfl rfl (hb hby d8_26)
  refine own_st st4 ?_
  show own_Go _ _ _ _ T4 (mkF m 29 _ [(.int (0 : Int32))])
  refine own_st (fun t k => XS.aloadN X4.here hx rfl (hb hby d8_29) rfl rfl k) ?_
  show own_Go _ _ _ _ T4 (mkF m 30 _ [(.ref s2), (.int (0 : Int32))])
  obtain ⟨T5, X5, e5, st5⟩ := getF X4 hx hZ hown (host := "") (Or.inl (hw _ (List.mem_of_getElem? (i := 30) rfl))) Via.refl e4 F6 (g := (mkF m 30 #[.val (.ref s1), .val (.ref s2), .val (.ref s2)] [(.ref s2), (.int (0 : Int32))])) rfl rfl (hb hby d8_30)
  refine own_st st5 ?_
  show own_Go _ _ _ _ T5 (mkF m 33 _ [(.int (0 : Int32)), (.int (0 : Int32))])
  refine own_st (fun t k => XS.icmpNo X5.here hx rfl (hb hby d8_33) rfl (teq (by decide : ((0 : Int32) = (0 : Int32)))).2 k) ?_
  show own_Go _ _ _ _ T5 (mkF m 36 _ [])
  refine own_st (fun t k => XS.aloadN X5.here hx rfl (hb hby d8_36) rfl rfl k) ?_
  show own_Go _ _ _ _ T5 (mkF m 37 _ [(.ref s1)])
  obtain ⟨T6, X6, e6, st6⟩ := getF X5 hx hZ hown (host := "") (Or.inl (hw _ (List.mem_of_getElem? (i := 32) rfl))) Via.refl e5 F1 (g := (mkF m 37 #[.val (.ref s1), .val (.ref s2), .val (.ref s2)] [(.ref s1)])) rfl rfl (hb hby d8_37)
  refine own_st st6 ?_
  show own_Go _ _ _ _ T6 (mkF m 40 _ [(.ref v1)])
  refine own_st (fun t k => XS.aloadN X6.here hx rfl (hb hby d8_40) rfl rfl k) ?_
  show own_Go _ _ _ _ T6 (mkF m 41 _ [(.ref s2), (.ref v1)])
  obtain ⟨T7, X7, e7, st7⟩ := getF X6 hx hZ hown (host := "") (Or.inl (hw _ (List.mem_of_getElem? (i := 32) rfl))) Via.refl e6 F5 (g := (mkF m 41 #[.val (.ref s1), .val (.ref s2), .val (.ref s2)] [(.ref s2), (.ref v1)])) rfl rfl (hb hby d8_41)
  refine own_st st7 ?_
  show own_Go _ _ _ _ T7 (mkF m 44 _ [(.ref v2), (.ref v1)])
  obtain ⟨_, _, ⟨T8, L8, k8, n8⟩, -, X8, ⟨Lc8, hQ8, l8, y8, z8⟩, st8⟩ := Jvm.LawKit.callS X7 hx (y := (⟨"java/lang/StringLatin1", "equals", "([B[B)Z"⟩ : MethodName)) hown (mvT hZ (hw _ (List.mem_of_getElem? (i := 58) rfl))) (mvT hZ (hw _ (List.mem_of_getElem? (i := 59) rfl))) (mvT hZ (hw _ (List.mem_of_getElem? (i := 60) rfl))) (mvT hZ (hw _ (List.mem_of_getElem? (i := 61) rfl))) (by decide) (backOf (W := 0) (rm7 l Z a0 hw [] v1 v2 k1 k2 b1 b2 h0 n0 Z0 F3 F7) hZ (hw _ (List.mem_of_getElem? (i := 61) rfl)) (hw _ (List.mem_of_getElem? (i := 60) rfl)) (by decide) (by decide)) (g := (mkF m 44 #[.val (.ref s1), .val (.ref s2), .val (.ref s2)] [(.ref v2), (.ref v1)])) rfl (by rw [hml]; rfl) (argsL := [(.ref v1), (.ref v2)]) (rest := []) (lenOf own_pd___B_B_Z rfl) rfl (by show 2 * 0 + _ ≤ _; exact Nat.le_of_eq rfl) (hb hby d8_44) (fun _ _ => ⟨rfl, e7, (by decide : 0 + 0 ≤ _), (by decide : 0 + 0 ≤ _)⟩)
  dsimp only [Pt.U, Pt.locs, Pt.cells, Pt.slots] at X8 l8 y8 z8 st8 hQ8
  subst l8 y8 z8
  obtain ⟨rfl, NQ8, eq8⟩ := hQ8
  have N9 := Fr.app N0 NQ8
  refine own_st st8 ?_
  show own_Go _ _ _ _ T8 (mkF m 47 _ [(.int (own_eqb b1 b2))])
  have J13 : ∀ (Tj13 : State) (Lj13 : List Loc) (p14 : Int32), Stand p l e ({ frames := 1, cells := 0, slots := 0, locals := 14 } : Room) s m #[(.ref s1), (.ref s2)] below meth c Tj13 Lj13 0 0 → Tj13.heap = h0 → Fr n0 Lj13 → p14 = (if (own_eqb b1 b2) = (0 : Int32) then (0 : Int32) else (1 : Int32)) → own_Go p.tables e below Pq Tj13 (mkF m 55 #[.val (.ref s1), .val (.ref s2), .val (.ref s2)] [(.int p14)]) := by
    intro Tj13 Lj13 p14 Xj13 ej13 Nj13 qp14
    show own_Go _ _ _ _ Tj13 (mkF m 55 _ [(.int p14)])
    have hb_p14 : p14 = 0 ∨ p14 = 1 := by rw [qp14]; (repeat' split) <;> first | exact Or.inl rfl | exact Or.inr rfl | assumption | exact own_eqb_b _ _
    subst hPq
    refine own_out Xj13 (v := some (.int p14)) (fun h => by rw [Bd.returns] at h; cases h) Bd.notSynchronized (own_retZ Xj13 hx Bd.returns (hb hby d8_55) hb_p14) (by decide) (by decide) ?_
    show Q9 Z s1 s2 v1 k1 b1 v2 k2 b2 cs h0 n0 _ Tj13.heap _
    rw [ej13]
    exact ⟨by subst_vars; rfl, Nj13, rfl⟩
  by_cases c10 : (own_eqb b1 b2) = (0 : Int32)
  · skip
    refine own_st (fun t k => XS.ifYes X8.here hx rfl (pc0 := 47) (pc' := 54) rfl (hb hby d8_47) rfl ((if0 _ _).trans (teq c10).1) (by decide) (by decide) k) ?_
    show own_Go _ _ _ _ T8 (mkF m 54 _ [])
    refine own_st (fun t k => XS.iconst X8.here hx rfl (hb hby d8_54) k) ?_
    show own_Go _ _ _ _ T8 (mkF m 55 _ [(.int (0 : Int32))])
    exact J13 T8 _ _ X8 eq8 N9 (by simp only [if_pos c10])
  · skip
    refine own_st (fun t k => XS.ifNo X8.here hx rfl (hb hby d8_47) rfl ((if0 _ _).trans (feq c10).1) k) ?_
    show own_Go _ _ _ _ T8 (mkF m 50 _ [])
    refine own_st (fun t k => XS.iconst X8.here hx rfl (hb hby d8_50) k) ?_
    show own_Go _ _ _ _ T8 (mkF m 51 _ [(.int (1 : Int32))])
    refine own_st (fun t k => XS.goto X8.here hx rfl (pc0 := 51) (pc' := 55) rfl (hb hby d8_51) (by decide) (by decide) k) ?_
    show own_Go _ _ _ _ T8 (mkF m 55 _ [(.int (1 : Int32))])
    exact J13 T8 _ _ X8 eq8 N9 (by simp only [if_neg c10])
theorem d9_0 : decode prog_17_method_1_code 0 = .ok (.aload_n 0, 1) := by decide +kernel
theorem d9_1 : decode prog_17_method_1_code 1 = .ok (.invokespecial 1, 3) := by decide +kernel
theorem d9_4 : decode prog_17_method_1_code 4 = .ok (.return_, 1) := by decide +kernel
theorem own_pn10 : plainName "com/example/antientropy/antientropy/sds/NamedEntries" = true := by first | (simp [plainName, overriddenIn]; done) | decide +kernel
theorem own_ef10 (m : MethodId) (a : Addr) : entryFrame m #[(.ref a)] 1 = mkF m 0 #[.val (.ref a)] [] := by first | (simp [entryFrame, mkF, argsToLocals, Value.category]; done) | rfl
def Q10 (Z : State) (a : Addr) (h0 : Heap) (n0 : Nat) (v : Option Value) (h : Heap) (L : List Loc) : Prop := v = none ∧ Fr n0 L ∧ h = h0
set_option maxRecDepth 65536 in
set_option maxHeartbeats 4000000 in
theorem rm10 (l : Launch) (Z : State) (a0 : Array Value) (hw : ∀ d ∈ tables_1, d.before a0 Z = true) (ws : List Jvm.Cond) (a : Addr) (h0 : Heap) (n0 : Nat) (Z0 : n0 ≤ h0.size) :
    MetFree l (⟨"com/example/antientropy/antientropy/sds/NamedEntries", "<init>", "()V"⟩ : MethodName) (head1 (Jvm.Cond.code (⟨"com/example/antientropy/antientropy/sds/NamedEntries", "<init>", "()V"⟩ : MethodName) prog_17_method_1_code 1 none :: ws) ({ frames := 1, cells := 0, slots := 0, locals := 12 } : Room)) (fun aW U => aW = #[(.ref a)] ∧ Z.Warmed39 U.vm ∧ U.heap = h0) (fun _ _ _ _ _ => True) (fun _ U o U' => ∃ v L, o = .returned v ∧ Q10 Z a h0 n0 v U'.heap L ∧ FrameEnd U o U' L ({ frames := 1, cells := 0, slots := 0, locals := 12 } : Room).cells ({ frames := 1, cells := 0, slots := 0, locals := 12 } : Room).slots) := by
  refine MetFree.of_bodySF (plainFor_of_name own_pn10) hisR ?_
  intro p e s m args below meth c s₁ Bd hml0 hP hK
  obtain ⟨rfl, hZ, hh⟩ := hP
  have hx := Bd.exec
  have hby := Bd.bytes
  have hml : c.maxLocals = 1 := hml0
  have hown : s.vm.findClass "com/example/antientropy/antientropy/sds/NamedEntries" = some m.cls := findClass_of_methodNamed Bd.named
  have hnm := (name_of_methodNamed Bd.named Bd.method).1
  have X0 : Stand p l e ({ frames := 1, cells := 0, slots := 0, locals := 12 } : Room) s m #[(.ref a)] below meth c s₁ [] 0 0 := Stand.of_body Bd
  have e0 : s₁.heap = h0 := by rw [← hh, Bd.state]; rfl
  have N0 := Fr.nil n0
  obtain ⟨Pq, hPq⟩ : ∃ P, P = own_P s below (fun v h L => Q10 Z a h0 n0 v h L) ({ frames := 1, cells := 0, slots := 0, locals := 12 } : Room).cells ({ frames := 1, cells := 0, slots := 0, locals := 12 } : Room).slots := ⟨_, rfl⟩
  suffices hgo : own_Go p.tables e below Pq s₁ (mkF m 0 #[.val (.ref a)] []) by
    subst hPq
    obtain ⟨t, k1, k2, o, k3, k4⟩ := hgo
    exact ⟨t, o, castTop (own_ef10 m a) k1, k2, k3, k4⟩
  show own_Go _ _ _ _ s₁ (mkF m 0 #[.val (.ref a)] [])
  refine own_st (fun t k => XS.aloadN X0.here hx rfl (hb hby d9_0) rfl rfl k) ?_
  show own_Go _ _ _ _ s₁ (mkF m 1 _ [(.ref a)])
  obtain ⟨T1, X1, e1, st1⟩ := initO X0 hx hZ hown (hw _ (List.mem_of_getElem? (i := 40) rfl)) (hw _ (List.mem_of_getElem? (i := 16) rfl)) (hw _ (List.mem_of_getElem? (i := 17) rfl)) e0 (g := (mkF m 1 #[.val (.ref a)] [(.ref a)])) rfl (by rw [hml]; rfl) rfl (hb hby d9_1) (by decide) (W := 0) (by show 2 * 0 + _ ≤ _; exact Nat.le_of_eq rfl) (by decide)
  refine own_st st1 ?_
  show own_Go _ _ _ _ T1 (mkF m 4 _ [])
  subst hPq
  refine own_out X1 (v := none) (fun _ => rfl) Bd.notSynchronized (fun fs hr => X1.returnOut hx Bd.returns (hb hby d9_4) hr) (by decide) (by decide) ?_
  show Q10 Z a h0 n0 _ T1.heap _
  rw [e1]
  exact ⟨rfl, N0, rfl⟩
theorem d10_0 : decode prog_17_method_2_code 0 = .ok (.aload_n 0, 1) := by decide +kernel
theorem d10_1 : decode prog_17_method_2_code 1 = .ok (.lload_n 1, 1) := by decide +kernel
theorem d10_2 : decode prog_17_method_2_code 2 = .ok (.putfield 7, 3) := by decide +kernel
theorem d10_5 : decode prog_17_method_2_code 5 = .ok (.return_, 1) := by decide +kernel
theorem own_pn11 : plainName "com/example/antientropy/antientropy/sds/NamedEntries" = true := by first | (simp [plainName, overriddenIn]; done) | decide +kernel
theorem own_ef11 (m : MethodId) (a : Addr) (x0 : Int64) : entryFrame m #[(.ref a), (.long x0)] 3 = mkF m 0 #[.val (.ref a), .val (.long x0), .second] [] := by first | (simp [entryFrame, mkF, argsToLocals, Value.category]; done) | rfl
def Q11 (Z : State) (a : Addr) (x0 : Int64) (bs : Int64) (bl : Int64) (br : Int64) (lf : Value) (h0 : Heap) (n0 : Nat) (v : Option Value) (h : Heap) (L : List Loc) : Prop := v = none ∧ Fr n0 L ∧ Keep h0 h [a] ∧ Exa Z h a "com/example/antientropy/antientropy/sds/NamedEntries" ∧ Fld Z h a "com/example/antientropy/antientropy/sds/NamedEntries" "bySelf" "J" (.long x0) ∧ Fld Z h a "com/example/antientropy/antientropy/sds/NamedEntries" "byLatest" "J" (.long bl) ∧ Fld Z h a "com/example/antientropy/antientropy/sds/NamedEntries" "byLatestOfTheRest" "J" (.long br) ∧ Fld Z h a "com/example/antientropy/antientropy/sds/NamedEntries" "latestFrom" "Ljava/lang/String;" lf
set_option maxRecDepth 65536 in
set_option maxHeartbeats 4000000 in
theorem rm11 (l : Launch) (Z : State) (a0 : Array Value) (hw : ∀ d ∈ tables_1, d.before a0 Z = true) (ws : List Jvm.Cond) (a : Addr) (x0 : Int64) (bs : Int64) (bl : Int64) (br : Int64) (lf : Value) (h0 : Heap) (n0 : Nat) (Z0 : n0 ≤ h0.size) (F0 : Exa Z h0 a "com/example/antientropy/antientropy/sds/NamedEntries") (F1 : Fld Z h0 a "com/example/antientropy/antientropy/sds/NamedEntries" "bySelf" "J" (.long bs)) (F2 : Fld Z h0 a "com/example/antientropy/antientropy/sds/NamedEntries" "byLatest" "J" (.long bl)) (F3 : Fld Z h0 a "com/example/antientropy/antientropy/sds/NamedEntries" "byLatestOfTheRest" "J" (.long br)) (F4 : Fld Z h0 a "com/example/antientropy/antientropy/sds/NamedEntries" "latestFrom" "Ljava/lang/String;" lf) (g_a : n0 ≤ a) :
    MetFree l (⟨"com/example/antientropy/antientropy/sds/NamedEntries", "sent", "(J)V"⟩ : MethodName) (head1 (Jvm.Cond.code (⟨"com/example/antientropy/antientropy/sds/NamedEntries", "sent", "(J)V"⟩ : MethodName) prog_17_method_2_code 3 none :: ws) ({ frames := 0, cells := 0, slots := 0, locals := 0 } : Room)) (fun aW U => aW = #[(.ref a), (.long x0)] ∧ Z.Warmed39 U.vm ∧ U.heap = h0) (fun _ _ _ _ _ => True) (fun _ U o U' => ∃ v L, o = .returned v ∧ Q11 Z a x0 bs bl br lf h0 n0 v U'.heap L ∧ FrameEnd U o U' L ({ frames := 0, cells := 0, slots := 0, locals := 0 } : Room).cells ({ frames := 0, cells := 0, slots := 0, locals := 0 } : Room).slots) := by
  refine MetFree.of_bodySF (plainFor_of_name own_pn11) hisR ?_
  intro p e s m args below meth c s₁ Bd hml0 hP hK
  obtain ⟨rfl, hZ, hh⟩ := hP
  have hx := Bd.exec
  have hby := Bd.bytes
  have hml : c.maxLocals = 3 := hml0
  have hown : s.vm.findClass "com/example/antientropy/antientropy/sds/NamedEntries" = some m.cls := findClass_of_methodNamed Bd.named
  have hnm := (name_of_methodNamed Bd.named Bd.method).1
  have X0 : Stand p l e ({ frames := 0, cells := 0, slots := 0, locals := 0 } : Room) s m #[(.ref a), (.long x0)] below meth c s₁ [] 0 0 := Stand.of_body Bd
  have e0 : s₁.heap = h0 := by rw [← hh, Bd.state]; rfl
  have N0 := Fr.nil n0
  have K0 : Keep h0 h0 [a] := Keep.refl _ _
  obtain ⟨Pq, hPq⟩ : ∃ P, P = own_P s below (fun v h L => Q11 Z a x0 bs bl br lf h0 n0 v h L) ({ frames := 0, cells := 0, slots := 0, locals := 0 } : Room).cells ({ frames := 0, cells := 0, slots := 0, locals := 0 } : Room).slots := ⟨_, rfl⟩
  suffices hgo : own_Go p.tables e below Pq s₁ (mkF m 0 #[.val (.ref a), .val (.long x0), .second] []) by
    subst hPq
    obtain ⟨t, k1, k2, o, k3, k4⟩ := hgo
    exact ⟨t, o, castTop (own_ef11 m a x0) k1, k2, k3, k4⟩
  show own_Go _ _ _ _ s₁ (mkF m 0 #[.val (.ref a), .val (.long x0), .second] [])
  refine own_st (fun t k => XS.aloadN X0.here hx rfl (hb hby d10_0) rfl rfl k) ?_
  show own_Go _ _ _ _ s₁ (mkF m 1 _ [(.ref a)])
  refine own_st (fun t k => XS.lloadN X0.here hx rfl (hb hby d10_1) rfl k) ?_
  show own_Go _ _ _ _ s₁ (mkF m 2 _ [(.long x0), (.ref a)])
  obtain ⟨T1, h1, X1, e1, W1, st1⟩ := putF X0 hx hZ hown (host := "") (Or.inl (hw _ (List.mem_of_getElem? (i := 67) rfl))) Via.refl e0 F1 F0 (Or.inl (hw _ (List.mem_of_getElem? (i := 68) rfl))) (hw _ (List.mem_of_getElem? (i := 35) rfl)) (ty := .long) (by decide) rfl rfl (g := (mkF m 2 #[.val (.ref a), .val (.long x0), .second] [(.long x0), (.ref a)])) rfl rfl (hb hby d10_2)
  refine own_st st1 ?_
  have f2 := F0.wr W1
  have f3 := F2.other W1 (Or.inr (slot_ne (Or.inl (hw _ (List.mem_of_getElem? (i := 54) rfl))) (Or.inl (hw _ (List.mem_of_getElem? (i := 68) rfl))) (by decide) (t := .long) (t' := .long) (by decide) (by decide)))
  have f4 := F3.other W1 (Or.inr (slot_ne (Or.inl (hw _ (List.mem_of_getElem? (i := 56) rfl))) (Or.inl (hw _ (List.mem_of_getElem? (i := 68) rfl))) (by decide) (t := .long) (t' := .long) (by decide) (by decide)))
  have f5 := F4.other W1 (Or.inr (slot_ne (Or.inl (hw _ (List.mem_of_getElem? (i := 47) rfl))) (Or.inl (hw _ (List.mem_of_getElem? (i := 68) rfl))) (by decide) (t := (.object "java/lang/String")) (t' := .long) (by decide) (by decide)))
  have N6 := Fr.snoc X1 N0 g_a
  have Z7 : n0 ≤ h1.size := Nat.le_trans Z0 (Nat.le_of_eq W1.size.symm)
  have K8 : Keep h0 h1 [a] := K0.wr W1 (Or.inl (List.mem_of_getElem? (i := 0) rfl))
  have f9 := F1.same W1
  show own_Go _ _ _ _ T1 (mkF m 5 _ [])
  subst hPq
  refine own_out X1 (v := none) (fun _ => rfl) Bd.notSynchronized (fun fs hr => X1.returnOut hx Bd.returns (hb hby d10_5) hr) (by decide) (by decide) ?_
  show Q11 Z a x0 bs bl br lf h0 n0 _ T1.heap _
  rw [e1]
  exact ⟨rfl, N6, K8, f2, f9, f3, f4, f5⟩
def own_max (x0 : Int64) (x1 : Int64) : Int64 := (if x0 < x1 then x1 else x0)
theorem d11_0 : decode jdk_29_method_66_code 0 = .ok (.lload_n 0, 1) := by decide +kernel
theorem d11_1 : decode jdk_29_method_66_code 1 = .ok (.lload_n 2, 1) := by decide +kernel
theorem d11_2 : decode jdk_29_method_66_code 2 = .ok (.lcmp, 1) := by decide +kernel
theorem d11_3 : decode jdk_29_method_66_code 3 = .ok (.ifCond .lt 7, 3) := by decide +kernel
theorem d11_6 : decode jdk_29_method_66_code 6 = .ok (.lload_n 0, 1) := by decide +kernel
theorem d11_7 : decode jdk_29_method_66_code 7 = .ok (.goto 4, 3) := by decide +kernel
theorem d11_10 : decode jdk_29_method_66_code 10 = .ok (.lload_n 2, 1) := by decide +kernel
theorem d11_11 : decode jdk_29_method_66_code 11 = .ok (.lreturn, 1) := by decide +kernel
theorem own_ef12 (m : MethodId) (x0 : Int64) (x1 : Int64) : entryFrame m #[(.long x0), (.long x1)] 4 = mkF m 0 #[.val (.long x0), .second, .val (.long x1), .second] [] := by first | (simp [entryFrame, mkF, argsToLocals, Value.category]; done) | rfl
def Q12 (Z : State) (x0 : Int64) (x1 : Int64) (h0 : Heap) (n0 : Nat) (v : Option Value) (h : Heap) (L : List Loc) : Prop := v = some (.long (own_max x0 x1)) ∧ Fr n0 L ∧ h = h0
set_option maxRecDepth 65536 in
set_option maxHeartbeats 4000000 in
theorem rm12 (l : Launch) (Z : State) (a0 : Array Value) (hw : ∀ d ∈ tables_1, d.before a0 Z = true) (ws : List Jvm.Cond) (x0 : Int64) (x1 : Int64) (h0 : Heap) (n0 : Nat) (Z0 : n0 ≤ h0.size) :
    MetFree l (⟨"java/lang/Math", "max", "(JJ)J"⟩ : MethodName) (head1 (Jvm.Cond.code (⟨"java/lang/Math", "max", "(JJ)J"⟩ : MethodName) jdk_29_method_66_code 4 (some .long) :: ws) ({ frames := 0, cells := 0, slots := 0, locals := 0 } : Room)) (fun aW U => aW = #[(.long x0), (.long x1)] ∧ Z.Warmed39 U.vm ∧ U.heap = h0) (fun _ _ _ _ _ => True) (fun _ U o U' => ∃ v L, o = .returned v ∧ Q12 Z x0 x1 h0 n0 v U'.heap L ∧ FrameEnd U o U' L ({ frames := 0, cells := 0, slots := 0, locals := 0 } : Room).cells ({ frames := 0, cells := 0, slots := 0, locals := 0 } : Room).slots) := by
  refine MetFree.of_bodySF (Jvm.Free.JP.mathPlain rfl (by decide +kernel)) hisR ?_
  intro p e s m args below meth c s₁ Bd hml0 hP hK
  obtain ⟨rfl, hZ, hh⟩ := hP
  have hx := Bd.exec
  have hby := Bd.bytes
  have hml : c.maxLocals = 4 := hml0
  have hown : s.vm.findClass "java/lang/Math" = some m.cls := findClass_of_methodNamed Bd.named
  have hnm := (name_of_methodNamed Bd.named Bd.method).1
  have X0 : Stand p l e ({ frames := 0, cells := 0, slots := 0, locals := 0 } : Room) s m #[(.long x0), (.long x1)] below meth c s₁ [] 0 0 := Stand.of_body Bd
  have e0 : s₁.heap = h0 := by rw [← hh, Bd.state]; rfl
  have N0 := Fr.nil n0
  obtain ⟨Pq, hPq⟩ : ∃ P, P = own_P s below (fun v h L => Q12 Z x0 x1 h0 n0 v h L) ({ frames := 0, cells := 0, slots := 0, locals := 0 } : Room).cells ({ frames := 0, cells := 0, slots := 0, locals := 0 } : Room).slots := ⟨_, rfl⟩
  suffices hgo : own_Go p.tables e below Pq s₁ (mkF m 0 #[.val (.long x0), .second, .val (.long x1), .second] []) by
    subst hPq
    obtain ⟨t, k1, k2, o, k3, k4⟩ := hgo
    exact ⟨t, o, castTop (own_ef12 m x0 x1) k1, k2, k3, k4⟩
  show own_Go _ _ _ _ s₁ (mkF m 0 #[.val (.long x0), .second, .val (.long x1), .second] [])
  refine own_st (fun t k => XS.lloadN X0.here hx rfl (hb hby d11_0) rfl k) ?_
  show own_Go _ _ _ _ s₁ (mkF m 1 _ [(.long x0)])
  refine own_st (fun t k => XS.lloadN X0.here hx rfl (hb hby d11_1) rfl k) ?_
  show own_Go _ _ _ _ s₁ (mkF m 2 _ [(.long x1), (.long x0)])
  refine own_st (fun t k => XS.lcmp X0.here hx rfl (hb hby d11_2) rfl k) ?_
  show own_Go _ _ _ _ s₁ (mkF m 3 _ [(.int (lcmpW x0 x1))])
  have J4 : ∀ (Tj4 : State) (Lj4 : List Loc) (p5 : Int64), Stand p l e ({ frames := 0, cells := 0, slots := 0, locals := 0 } : Room) s m #[(.long x0), (.long x1)] below meth c Tj4 Lj4 0 0 → Tj4.heap = h0 → Fr n0 Lj4 → p5 = (if x0 < x1 then x1 else x0) → own_Go p.tables e below Pq Tj4 (mkF m 11 #[.val (.long x0), .second, .val (.long x1), .second] [(.long p5)]) := by
    intro Tj4 Lj4 p5 Xj4 ej4 Nj4 qp5
    show own_Go _ _ _ _ Tj4 (mkF m 11 _ [(.long p5)])
    subst hPq
    refine own_out Xj4 (v := some (.long p5)) (fun h => by rw [Bd.returns] at h; cases h) Bd.notSynchronized (own_retJ Xj4 hx Bd.returns (hb hby d11_11)) (by decide) (by decide) ?_
    show Q12 Z x0 x1 h0 n0 _ Tj4.heap _
    rw [ej4]
    exact ⟨by subst_vars; rfl, Nj4, rfl⟩
  by_cases c1 : x0 < x1
  · skip
    refine own_st (fun t k => XS.ifYes X0.here hx rfl (pc0 := 3) (pc' := 10) rfl (hb hby d11_3) rfl (own_lcT (cd := .lt) c1) (by decide) (by decide) k) ?_
    show own_Go _ _ _ _ s₁ (mkF m 10 _ [])
    refine own_st (fun t k => XS.lloadN X0.here hx rfl (hb hby d11_10) rfl k) ?_
    show own_Go _ _ _ _ s₁ (mkF m 11 _ [(.long x1)])
    exact J4 s₁ _ _ X0 e0 N0 (by simp only [if_pos c1])
  · skip
    refine own_st (fun t k => XS.ifNo X0.here hx rfl (hb hby d11_3) rfl (own_lcF (cd := .lt) c1) k) ?_
    show own_Go _ _ _ _ s₁ (mkF m 6 _ [])
    refine own_st (fun t k => XS.lloadN X0.here hx rfl (hb hby d11_6) rfl k) ?_
    show own_Go _ _ _ _ s₁ (mkF m 7 _ [(.long x0)])
    refine own_st (fun t k => XS.goto X0.here hx rfl (pc0 := 7) (pc' := 11) rfl (hb hby d11_7) (by decide) (by decide) k) ?_
    show own_Go _ _ _ _ s₁ (mkF m 11 _ [(.long x0)])
    exact J4 s₁ _ _ X0 e0 N0 (by simp only [if_neg c1])
theorem d12_0 : decode prog_17_method_3_code 0 = .ok (.aload_n 1, 1) := by decide +kernel
theorem d12_1 : decode prog_17_method_3_code 1 = .ok (.aload_n 0, 1) := by decide +kernel
theorem d12_2 : decode prog_17_method_3_code 2 = .ok (.getfield 13, 3) := by decide +kernel
theorem d12_5 : decode prog_17_method_3_code 5 = .ok (.invokevirtual 17, 3) := by decide +kernel
theorem d12_8 : decode prog_17_method_3_code 8 = .ok (.ifCond .ne 16, 3) := by decide +kernel
theorem d12_11 : decode prog_17_method_3_code 11 = .ok (.aload_n 0, 1) := by decide +kernel
theorem d12_12 : decode prog_17_method_3_code 12 = .ok (.aload_n 0, 1) := by decide +kernel
theorem d12_13 : decode prog_17_method_3_code 13 = .ok (.getfield 23, 3) := by decide +kernel
theorem d12_16 : decode prog_17_method_3_code 16 = .ok (.putfield 26, 3) := by decide +kernel
theorem d12_19 : decode prog_17_method_3_code 19 = .ok (.aload_n 0, 1) := by decide +kernel
theorem d12_20 : decode prog_17_method_3_code 20 = .ok (.aload_n 1, 1) := by decide +kernel
theorem d12_21 : decode prog_17_method_3_code 21 = .ok (.putfield 13, 3) := by decide +kernel
theorem d12_24 : decode prog_17_method_3_code 24 = .ok (.aload_n 0, 1) := by decide +kernel
theorem d12_25 : decode prog_17_method_3_code 25 = .ok (.lload_n 2, 1) := by decide +kernel
theorem d12_26 : decode prog_17_method_3_code 26 = .ok (.putfield 23, 3) := by decide +kernel
theorem d12_29 : decode prog_17_method_3_code 29 = .ok (.return_, 1) := by decide +kernel
theorem own_pn13 : plainName "com/example/antientropy/antientropy/sds/NamedEntries" = true := by first | (simp [plainName, overriddenIn]; done) | decide +kernel
theorem own_ef13 (m : MethodId) (a : Addr) (fo : Addr) (x0 : Int64) : entryFrame m #[(.ref a), (.ref fo), (.long x0)] 4 = mkF m 0 #[.val (.ref a), .val (.ref fo), .val (.long x0), .second] [] := by first | (simp [entryFrame, mkF, argsToLocals, Value.category]; done) | rfl
def Q13 (Z : State) (a : Addr) (fo : Addr) (x0 : Int64) (bs : Int64) (bl : Int64) (br : Int64) (fv : Addr) (kf : ClassId) (fb : Int32) (h0 : Heap) (n0 : Nat) (v : Option Value) (h : Heap) (L : List Loc) : Prop := v = none ∧ Fr n0 L ∧ Keep h0 h [a] ∧ Exa Z h a "com/example/antientropy/antientropy/sds/NamedEntries" ∧ Fld Z h a "com/example/antientropy/antientropy/sds/NamedEntries" "bySelf" "J" (.long bs) ∧ Fld Z h a "com/example/antientropy/antientropy/sds/NamedEntries" "byLatest" "J" (.long x0) ∧ Fld Z h a "com/example/antientropy/antientropy/sds/NamedEntries" "byLatestOfTheRest" "J" (.long bl) ∧ Fld Z h a "com/example/antientropy/antientropy/sds/NamedEntries" "latestFrom" "Ljava/lang/String;" (.ref fo)
set_option maxRecDepth 65536 in
set_option maxHeartbeats 4000000 in
theorem rm13 (l : Launch) (Z : State) (a0 : Array Value) (hw : ∀ d ∈ tables_1, d.before a0 Z = true) (ws : List Jvm.Cond) (a : Addr) (fo : Addr) (x0 : Int64) (bs : Int64) (bl : Int64) (br : Int64) (fv : Addr) (kf : ClassId) (fb : Int32) (h0 : Heap) (n0 : Nat) (Z0 : n0 ≤ h0.size) (F0 : Exa Z h0 a "com/example/antientropy/antientropy/sds/NamedEntries") (F1 : Fld Z h0 a "com/example/antientropy/antientropy/sds/NamedEntries" "bySelf" "J" (.long bs)) (F2 : Fld Z h0 a "com/example/antientropy/antientropy/sds/NamedEntries" "byLatest" "J" (.long bl)) (F3 : Fld Z h0 a "com/example/antientropy/antientropy/sds/NamedEntries" "byLatestOfTheRest" "J" (.long br)) (F4 : Fld Z h0 a "com/example/antientropy/antientropy/sds/NamedEntries" "latestFrom" "Ljava/lang/String;" .null) (F5 : Exa Z h0 fo "java/lang/String") (F6 : Fld Z h0 fo "java/lang/String" "value" "[B" (.ref fv)) (F7 : Fld Z h0 fo "java/lang/String" "coder" "B" (.int (0 : Int32))) (F8 : Arv Z h0 fv kf .byte (1 : Int32) [(.int fb)] (.int (0 : Int32))) (n1 : fo ≠ a) (n2 : fv ≠ a) (g_a : n0 ≤ a) :
    MetFree l (⟨"com/example/antientropy/antientropy/sds/NamedEntries", "heard", "(Ljava/lang/String;J)V"⟩ : MethodName) (head1 (Jvm.Cond.code (⟨"com/example/antientropy/antientropy/sds/NamedEntries", "heard", "(Ljava/lang/String;J)V"⟩ : MethodName) prog_17_method_3_code 4 none :: ws) ({ frames := 1, cells := 0, slots := 0, locals := 14 } : Room)) (fun aW U => aW = #[(.ref a), (.ref fo), (.long x0)] ∧ Z.Warmed39 U.vm ∧ U.heap = h0) (fun _ _ _ _ _ => True) (fun _ U o U' => ∃ v L, o = .returned v ∧ Q13 Z a fo x0 bs bl br fv kf fb h0 n0 v U'.heap L ∧ FrameEnd U o U' L ({ frames := 1, cells := 0, slots := 0, locals := 14 } : Room).cells ({ frames := 1, cells := 0, slots := 0, locals := 14 } : Room).slots) := by
  refine MetFree.of_bodySF (plainFor_of_name own_pn13) hisR ?_
  intro p e s m args below meth c s₁ Bd hml0 hP hK
  obtain ⟨rfl, hZ, hh⟩ := hP
  have hx := Bd.exec
  have hby := Bd.bytes
  have hml : c.maxLocals = 4 := hml0
  have hown : s.vm.findClass "com/example/antientropy/antientropy/sds/NamedEntries" = some m.cls := findClass_of_methodNamed Bd.named
  have hnm := (name_of_methodNamed Bd.named Bd.method).1
  have X0 : Stand p l e ({ frames := 1, cells := 0, slots := 0, locals := 14 } : Room) s m #[(.ref a), (.ref fo), (.long x0)] below meth c s₁ [] 0 0 := Stand.of_body Bd
  have e0 : s₁.heap = h0 := by rw [← hh, Bd.state]; rfl
  have N0 := Fr.nil n0
  have K0 : Keep h0 h0 [a] := Keep.refl _ _
  obtain ⟨Pq, hPq⟩ : ∃ P, P = own_P s below (fun v h L => Q13 Z a fo x0 bs bl br fv kf fb h0 n0 v h L) ({ frames := 1, cells := 0, slots := 0, locals := 14 } : Room).cells ({ frames := 1, cells := 0, slots := 0, locals := 14 } : Room).slots := ⟨_, rfl⟩
  suffices hgo : own_Go p.tables e below Pq s₁ (mkF m 0 #[.val (.ref a), .val (.ref fo), .val (.long x0), .second] []) by
    subst hPq
    obtain ⟨t, k1, k2, o, k3, k4⟩ := hgo
    exact ⟨t, o, castTop (own_ef13 m a fo x0) k1, k2, k3, k4⟩
  show own_Go _ _ _ _ s₁ (mkF m 0 #[.val (.ref a), .val (.ref fo), .val (.long x0), .second] [])
  refine own_st (fun t k => XS.aloadN X0.here hx rfl (hb hby d12_0) rfl rfl k) ?_
  show own_Go _ _ _ _ s₁ (mkF m 1 _ [(.ref fo)])
  refine own_st (fun t k => XS.aloadN X0.here hx rfl (hb hby d12_1) rfl rfl k) ?_
  show own_Go _ _ _ _ s₁ (mkF m 2 _ [(.ref a), (.ref fo)])
  obtain ⟨T1, X1, e1, st1⟩ := getF X0 hx hZ hown (host := "") (Or.inl (hw _ (List.mem_of_getElem? (i := 46) rfl))) Via.refl e0 F4 (g := (mkF m 2 #[.val (.ref a), .val (.ref fo), .val (.long x0), .second] [(.ref a), (.ref fo)])) rfl rfl (hb hby d12_2)
  refine own_st st1 ?_
  show own_Go _ _ _ _ T1 (mkF m 5 _ [.null, (.ref fo)])
  obtain ⟨cq2, kq2, q2a, q2b, q2c⟩ := isOf hZ e1 F5
  obtain ⟨_, _, ⟨T2, L2, k2, n2⟩, -, X2, ⟨Lc2, hQ2, l2, y2, z2⟩, st2⟩ := X1.virtualBack hx (y := (⟨"java/lang/String", "equals", "(Ljava/lang/Object;)Z"⟩ : MethodName)) (z := (⟨"java/lang/String", "equals", "(Ljava/lang/Object;)Z"⟩ : MethodName)) hown (mvT hZ (hw _ (List.mem_of_getElem? (i := 48) rfl))) (mvT hZ (hw _ (List.mem_of_getElem? (i := 49) rfl))) (notFace_of_selects (args := #[]) (mvT hZ (hw _ (List.mem_of_getElem? (i := 51) rfl)))) (mvT hZ (hw _ (List.mem_of_getElem? (i := 51) rfl))) (mvT hZ (hw _ (List.mem_of_getElem? (i := 50) rfl))) (by decide) (backOf (W := 0) (rm8 l Z a0 hw [] fo h0 n0 Z0 F5) hZ (hw _ (List.mem_of_getElem? (i := 52) rfl)) (hw _ (List.mem_of_getElem? (i := 7) rfl)) (by decide) (by decide)) q2a q2c (g := (mkF m 5 #[.val (.ref a), .val (.ref fo), .val (.long x0), .second] [.null, (.ref fo)])) rfl (by rw [hml]; rfl) (Steps.refl _) (argsL := [.null]) (rest := []) (lenOf own_pd__Ljava_lang_Object__Z rfl) rfl (by show 2 * 0 + _ ≤ _; exact Nat.le_of_eq rfl) (hb hby d12_5) (fun _ _ => ⟨rfl, e1, (by decide : 0 + 0 ≤ _), (by decide : 0 + 0 ≤ _)⟩)
  dsimp only [Pt.U, Pt.locs, Pt.cells, Pt.slots] at X2 l2 y2 z2 st2 hQ2
  subst l2 y2 z2
  obtain ⟨rfl, NQ2, eq2⟩ := hQ2
  have N3 := Fr.app N0 NQ2
  refine own_st (fun t k => st2.trans k) ?_
  show own_Go _ _ _ _ T2 (mkF m 8 _ [(.int (0 : Int32))])
  refine own_st (fun t k => XS.ifNo X2.here hx rfl (hb hby d12_8) rfl ((if0 _ _).trans (teq (by decide : ((0 : Int32) = (0 : Int32)))).2) k) ?_
  show own_Go _ _ _ _ T2 (mkF m 11 _ [])
  refine own_st (fun t k => XS.aloadN X2.here hx rfl (hb hby d12_11) rfl rfl k) ?_
  show own_Go _ _ _ _ T2 (mkF m 12 _ [(.ref a)])
  refine own_st (fun t k => XS.aloadN X2.here hx rfl (hb hby d12_12) rfl rfl k) ?_
  show own_Go _ _ _ _ T2 (mkF m 13 _ [(.ref a), (.ref a)])
  obtain ⟨T4, X4, e4, st4⟩ := getF X2 hx hZ hown (host := "") (Or.inl (hw _ (List.mem_of_getElem? (i := 53) rfl))) Via.refl eq2 F2 (g := (mkF m 13 #[.val (.ref a), .val (.ref fo), .val (.long x0), .second] [(.ref a), (.ref a)])) rfl rfl (hb hby d12_13)
  refine own_st st4 ?_
  show own_Go _ _ _ _ T4 (mkF m 16 _ [(.long bl), (.ref a)])
  obtain ⟨T5, h5, X5, e5, W5, st5⟩ := putF X4 hx hZ hown (host := "") (Or.inl (hw _ (List.mem_of_getElem? (i := 55) rfl))) Via.refl e4 F3 F0 (Or.inl (hw _ (List.mem_of_getElem? (i := 56) rfl))) (hw _ (List.mem_of_getElem? (i := 35) rfl)) (ty := .long) (by decide) rfl rfl (g := (mkF m 16 #[.val (.ref a), .val (.ref fo), .val (.long x0), .second] [(.long bl), (.ref a)])) rfl rfl (hb hby d12_16)
  refine own_st st5 ?_
  have f6 := F0.wr W5
  have f7 := F1.other W5 (Or.inr (slot_ne (Or.inl (hw _ (List.mem_of_getElem? (i := 68) rfl))) (Or.inl (hw _ (List.mem_of_getElem? (i := 56) rfl))) (by decide) (t := .long) (t' := .long) (by decide) (by decide)))
  have f8 := F2.other W5 (Or.inr (slot_ne (Or.inl (hw _ (List.mem_of_getElem? (i := 54) rfl))) (Or.inl (hw _ (List.mem_of_getElem? (i := 56) rfl))) (by decide) (t := .long) (t' := .long) (by decide) (by decide)))
  have f9 := F4.other W5 (Or.inr (slot_ne (Or.inl (hw _ (List.mem_of_getElem? (i := 47) rfl))) (Or.inl (hw _ (List.mem_of_getElem? (i := 56) rfl))) (by decide) (t := (.object "java/lang/String")) (t' := .long) (by decide) (by decide)))
  have f10 := F5.wr W5
  have f11 := F6.other W5 (Or.inl n1)
  have f12 := F7.other W5 (Or.inl n1)
  have f13 := F8.other W5 n2
  have N14 := Fr.snoc X5 N3 g_a
  have Z15 : n0 ≤ h5.size := Nat.le_trans Z0 (Nat.le_of_eq W5.size.symm)
  have K16 : Keep h0 h5 [a] := K0.wr W5 (Or.inl (List.mem_of_getElem? (i := 0) rfl))
  have f17 := F3.same W5
  show own_Go _ _ _ _ T5 (mkF m 19 _ [])
  refine own_st (fun t k => XS.aloadN X5.here hx rfl (hb hby d12_19) rfl rfl k) ?_
  show own_Go _ _ _ _ T5 (mkF m 20 _ [(.ref a)])
  refine own_st (fun t k => XS.aloadN X5.here hx rfl (hb hby d12_20) rfl rfl k) ?_
  show own_Go _ _ _ _ T5 (mkF m 21 _ [(.ref fo), (.ref a)])
  obtain ⟨T18, h18, X18, e18, W18, st18⟩ := putF X5 hx hZ hown (host := "") (Or.inl (hw _ (List.mem_of_getElem? (i := 46) rfl))) Via.refl e5 f9 f6 (Or.inl (hw _ (List.mem_of_getElem? (i := 47) rfl))) (hw _ (List.mem_of_getElem? (i := 35) rfl)) (ty := (.object "java/lang/String")) (by decide) rfl rfl (g := (mkF m 21 #[.val (.ref a), .val (.ref fo), .val (.long x0), .second] [(.ref fo), (.ref a)])) rfl rfl (hb hby d12_21)
  refine own_st st18 ?_
  have f19 := f6.wr W18
  have f20 := f7.other W18 (Or.inr (slot_ne (Or.inl (hw _ (List.mem_of_getElem? (i := 68) rfl))) (Or.inl (hw _ (List.mem_of_getElem? (i := 47) rfl))) (by decide) (t := .long) (t' := (.object "java/lang/String")) (by decide) (by decide)))
  have f21 := f8.other W18 (Or.inr (slot_ne (Or.inl (hw _ (List.mem_of_getElem? (i := 54) rfl))) (Or.inl (hw _ (List.mem_of_getElem? (i := 47) rfl))) (by decide) (t := .long) (t' := (.object "java/lang/String")) (by decide) (by decide)))
  have f22 := f10.wr W18
  have f23 := f11.other W18 (Or.inl n1)
  have f24 := f12.other W18 (Or.inl n1)
  have f25 := f13.other W18 n2
  have f26 := f17.other W18 (Or.inr (slot_ne (Or.inl (hw _ (List.mem_of_getElem? (i := 56) rfl))) (Or.inl (hw _ (List.mem_of_getElem? (i := 47) rfl))) (by decide) (t := .long) (t' := (.object "java/lang/String")) (by decide) (by decide)))
  have N27 := Fr.snoc X18 N14 g_a
  have Z28 : n0 ≤ h18.size := Nat.le_trans Z15 (Nat.le_of_eq W18.size.symm)
  have K29 : Keep h0 h18 [a] := K16.wr W18 (Or.inl (List.mem_of_getElem? (i := 0) rfl))
  have f30 := f9.same W18
  show own_Go _ _ _ _ T18 (mkF m 24 _ [])
  refine own_st (fun t k => XS.aloadN X18.here hx rfl (hb hby d12_24) rfl rfl k) ?_
  show own_Go _ _ _ _ T18 (mkF m 25 _ [(.ref a)])
  refine own_st (fun t k => XS.lloadN X18.here hx rfl (hb hby d12_25) rfl k) ?_
  show own_Go _ _ _ _ T18 (mkF m 26 _ [(.long x0), (.ref a)])
  obtain ⟨T31, h31, X31, e31, W31, st31⟩ := putF X18 hx hZ hown (host := "") (Or.inl (hw _ (List.mem_of_getElem? (i := 53) rfl))) Via.refl e18 f21 f19 (Or.inl (hw _ (List.mem_of_getElem? (i := 54) rfl))) (hw _ (List.mem_of_getElem? (i := 35) rfl)) (ty := .long) (by decide) rfl rfl (g := (mkF m 26 #[.val (.ref a), .val (.ref fo), .val (.long x0), .second] [(.long x0), (.ref a)])) rfl rfl (hb hby d12_26)
  refine own_st st31 ?_
  have f32 := f19.wr W31
  have f33 := f20.other W31 (Or.inr (slot_ne (Or.inl (hw _ (List.mem_of_getElem? (i := 68) rfl))) (Or.inl (hw _ (List.mem_of_getElem? (i := 54) rfl))) (by decide) (t := .long) (t' := .long) (by decide) (by decide)))
  have f34 := f22.wr W31
  have f35 := f23.other W31 (Or.inl n1)
  have f36 := f24.other W31 (Or.inl n1)
  have f37 := f25.other W31 n2
  have f38 := f26.other W31 (Or.inr (slot_ne (Or.inl (hw _ (List.mem_of_getElem? (i := 56) rfl))) (Or.inl (hw _ (List.mem_of_getElem? (i := 54) rfl))) (by decide) (t := .long) (t' := .long) (by decide) (by decide)))
  have f39 := f30.other W31 (Or.inr (slot_ne (Or.inl (hw _ (List.mem_of_getElem? (i := 47) rfl))) (Or.inl (hw _ (List.mem_of_getElem? (i := 54) rfl))) (by decide) (t := (.object "java/lang/String")) (t' := .long) (by decide) (by decide)))
  have N40 := Fr.snoc X31 N27 g_a
  have Z41 : n0 ≤ h31.size := Nat.le_trans Z28 (Nat.le_of_eq W31.size.symm)
  have K42 : Keep h0 h31 [a] := K29.wr W31 (Or.inl (List.mem_of_getElem? (i := 0) rfl))
  have f43 := f21.same W31
  show own_Go _ _ _ _ T31 (mkF m 29 _ [])
  subst hPq
  refine own_out X31 (v := none) (fun _ => rfl) Bd.notSynchronized (fun fs hr => X31.returnOut hx Bd.returns (hb hby d12_29) hr) (by decide) (by decide) ?_
  show Q13 Z a fo x0 bs bl br fv kf fb h0 n0 _ T31.heap _
  rw [e31]
  exact ⟨rfl, N40, K42, f32, f33, f43, f38, f39⟩
theorem own_eqs_ne {x y : Int32} (h : own_eqs x y = 0) : ¬ x = y := fun q => by
  subst q
  unfold own_eqs own_eqb at h
  rw [if_pos rfl] at h
  exact absurd h (by decide)
theorem own_eqs_eq {x y : Int32} (h : ¬ own_eqs x y = 0) : x = y := Classical.byContradiction fun q => h (by
  unfold own_eqs own_eqb
  rw [if_neg q]; decide)
theorem own_eqs_iff (x y : Int32) : own_eqs x y = 0 ↔ ¬ x = y := ⟨own_eqs_ne, fun h => Classical.byContradiction fun q => h (own_eqs_eq q)⟩
theorem own_orne {a b c x : Addr} (h : a = b ∨ a = c) (h1 : b ≠ x) (h2 : c ≠ x) : a ≠ x := by rcases h with rfl | rfl <;> assumption
theorem own_pn14 : plainName "com/example/antientropy/antientropy/sds/NamedEntries" = true := by first | (simp [plainName, overriddenIn]; done) | decide +kernel
theorem own_ef14 (m : MethodId) (a : Addr) (fo : Addr) (x0 : Int64) : entryFrame m #[(.ref a), (.ref fo), (.long x0)] 4 = mkF m 0 #[.val (.ref a), .val (.ref fo), .val (.long x0), .second] [] := by first | (simp [entryFrame, mkF, argsToLocals, Value.category]; done) | rfl
def Q14 (Z : State) (a : Addr) (fo : Addr) (x0 : Int64) (bs : Int64) (bl : Int64) (br : Int64) (fv : Addr) (kf : ClassId) (fb : Int32) (cs : Int32) (ls : Addr) (lv : Addr) (kl : ClassId) (lb : Int32) (h0 : Heap) (n0 : Nat) (v : Option Value) (h : Heap) (L : List Loc) : Prop := ∃ (ls2 : Addr) (lv2 : Addr) (kl2 : ClassId) (rs2 : Int64), v = none ∧ Fr n0 L ∧ Keep h0 h [a] ∧ Exa Z h a "com/example/antientropy/antientropy/sds/NamedEntries" ∧ Fld Z h a "com/example/antientropy/antientropy/sds/NamedEntries" "bySelf" "J" (.long bs) ∧ Fld Z h a "com/example/antientropy/antientropy/sds/NamedEntries" "byLatest" "J" (.long x0) ∧ Fld Z h a "com/example/antientropy/antientropy/sds/NamedEntries" "byLatestOfTheRest" "J" (.long rs2) ∧ Fld Z h a "com/example/antientropy/antientropy/sds/NamedEntries" "latestFrom" "Ljava/lang/String;" (.ref ls2) ∧ Exa Z h ls2 "java/lang/String" ∧ Fld Z h ls2 "java/lang/String" "value" "[B" (.ref lv2) ∧ Fld Z h ls2 "java/lang/String" "coder" "B" (.int (0 : Int32)) ∧ Arv Z h lv2 kl2 .byte (1 : Int32) [(.int fb)] (.int (0 : Int32)) ∧ (ls2 = fo ∨ ls2 = ls) ∧ (lv2 = fv ∨ lv2 = lv) ∧ rs2 = (if fb = lb then br else bl)
set_option maxRecDepth 65536 in
set_option maxHeartbeats 4000000 in
theorem rm14 (l : Launch) (Z : State) (a0 : Array Value) (hw : ∀ d ∈ tables_1, d.before a0 Z = true) (ws : List Jvm.Cond) (a : Addr) (fo : Addr) (x0 : Int64) (bs : Int64) (bl : Int64) (br : Int64) (fv : Addr) (kf : ClassId) (fb : Int32) (cs : Int32) (ls : Addr) (lv : Addr) (kl : ClassId) (lb : Int32) (h0 : Heap) (n0 : Nat) (Z0 : n0 ≤ h0.size) (F0 : Exa Z h0 a "com/example/antientropy/antientropy/sds/NamedEntries") (F1 : Fld Z h0 a "com/example/antientropy/antientropy/sds/NamedEntries" "bySelf" "J" (.long bs)) (F2 : Fld Z h0 a "com/example/antientropy/antientropy/sds/NamedEntries" "byLatest" "J" (.long bl)) (F3 : Fld Z h0 a "com/example/antientropy/antientropy/sds/NamedEntries" "byLatestOfTheRest" "J" (.long br)) (F4 : Fld Z h0 a "com/example/antientropy/antientropy/sds/NamedEntries" "latestFrom" "Ljava/lang/String;" (.ref ls)) (F5 : Exa Z h0 fo "java/lang/String") (F6 : Fld Z h0 fo "java/lang/String" "value" "[B" (.ref fv)) (F7 : Fld Z h0 fo "java/lang/String" "coder" "B" (.int (0 : Int32))) (F8 : Arv Z h0 fv kf .byte (1 : Int32) [(.int fb)] (.int (0 : Int32))) (F9 : Exa Z h0 ls "java/lang/String") (F10 : Fld Z h0 ls "java/lang/String" "value" "[B" (.ref lv)) (F11 : Fld Z h0 ls "java/lang/String" "coder" "B" (.int (0 : Int32))) (F12 : Arv Z h0 lv kl .byte (1 : Int32) [(.int lb)] (.int (0 : Int32))) (F13 : Sta Z h0 "java/lang/String" "COMPACT_STRINGS" "Z" (.int cs)) (n1 : fo ≠ a) (n2 : fv ≠ a) (n3 : ls ≠ a) (n4 : lv ≠ a) (n5 : fo ≠ ls) (hcs : ¬ cs = (0 : Int32)) (g_a : n0 ≤ a) :
    MetFree l (⟨"com/example/antientropy/antientropy/sds/NamedEntries", "heard", "(Ljava/lang/String;J)V"⟩ : MethodName) (head1 (Jvm.Cond.code (⟨"com/example/antientropy/antientropy/sds/NamedEntries", "heard", "(Ljava/lang/String;J)V"⟩ : MethodName) prog_17_method_3_code 4 none :: ws) ({ frames := 2, cells := 0, slots := 0, locals := 28 } : Room)) (fun aW U => aW = #[(.ref a), (.ref fo), (.long x0)] ∧ Z.Warmed39 U.vm ∧ U.heap = h0) (fun _ _ _ _ _ => True) (fun _ U o U' => ∃ v L, o = .returned v ∧ Q14 Z a fo x0 bs bl br fv kf fb cs ls lv kl lb h0 n0 v U'.heap L ∧ FrameEnd U o U' L ({ frames := 2, cells := 0, slots := 0, locals := 28 } : Room).cells ({ frames := 2, cells := 0, slots := 0, locals := 28 } : Room).slots) := by
  refine MetFree.of_bodySF (plainFor_of_name own_pn14) hisR ?_
  intro p e s m args below meth c s₁ Bd hml0 hP hK
  obtain ⟨rfl, hZ, hh⟩ := hP
  have hx := Bd.exec
  have hby := Bd.bytes
  have hml : c.maxLocals = 4 := hml0
  have hown : s.vm.findClass "com/example/antientropy/antientropy/sds/NamedEntries" = some m.cls := findClass_of_methodNamed Bd.named
  have hnm := (name_of_methodNamed Bd.named Bd.method).1
  have X0 : Stand p l e ({ frames := 2, cells := 0, slots := 0, locals := 28 } : Room) s m #[(.ref a), (.ref fo), (.long x0)] below meth c s₁ [] 0 0 := Stand.of_body Bd
  have e0 : s₁.heap = h0 := by rw [← hh, Bd.state]; rfl
  have N0 := Fr.nil n0
  have K0 : Keep h0 h0 [a] := Keep.refl _ _
  obtain ⟨Pq, hPq⟩ : ∃ P, P = own_P s below (fun v h L => Q14 Z a fo x0 bs bl br fv kf fb cs ls lv kl lb h0 n0 v h L) ({ frames := 2, cells := 0, slots := 0, locals := 28 } : Room).cells ({ frames := 2, cells := 0, slots := 0, locals := 28 } : Room).slots := ⟨_, rfl⟩
  suffices hgo : own_Go p.tables e below Pq s₁ (mkF m 0 #[.val (.ref a), .val (.ref fo), .val (.long x0), .second] []) by
    subst hPq
    obtain ⟨t, k1, k2, o, k3, k4⟩ := hgo
    exact ⟨t, o, castTop (own_ef14 m a fo x0) k1, k2, k3, k4⟩
  show own_Go _ _ _ _ s₁ (mkF m 0 #[.val (.ref a), .val (.ref fo), .val (.long x0), .second] [])
  refine own_st (fun t k => XS.aloadN X0.here hx rfl (hb hby d12_0) rfl rfl k) ?_
  show own_Go _ _ _ _ s₁ (mkF m 1 _ [(.ref fo)])
  refine own_st (fun t k => XS.aloadN X0.here hx rfl (hb hby d12_1) rfl rfl k) ?_
  show own_Go _ _ _ _ s₁ (mkF m 2 _ [(.ref a), (.ref fo)])
  obtain ⟨T1, X1, e1, st1⟩ := getF X0 hx hZ hown (host := "") (Or.inl (hw _ (List.mem_of_getElem? (i := 46) rfl))) Via.refl e0 F4 (g := (mkF m 2 #[.val (.ref a), .val (.ref fo), .val (.long x0), .second] [(.ref a), (.ref fo)])) rfl rfl (hb hby d12_2)
  refine own_st st1 ?_
  show own_Go _ _ _ _ T1 (mkF m 5 _ [(.ref ls), (.ref fo)])
  obtain ⟨cq2, kq2, q2a, q2b, q2c⟩ := isOf hZ e1 F5
  obtain ⟨_, _, ⟨T2, L2, k2, n2⟩, -, X2, ⟨Lc2, hQ2, l2, y2, z2⟩, st2⟩ := X1.virtualBack hx (y := (⟨"java/lang/String", "equals", "(Ljava/lang/Object;)Z"⟩ : MethodName)) (z := (⟨"java/lang/String", "equals", "(Ljava/lang/Object;)Z"⟩ : MethodName)) hown (mvT hZ (hw _ (List.mem_of_getElem? (i := 48) rfl))) (mvT hZ (hw _ (List.mem_of_getElem? (i := 49) rfl))) (notFace_of_selects (args := #[]) (mvT hZ (hw _ (List.mem_of_getElem? (i := 51) rfl)))) (mvT hZ (hw _ (List.mem_of_getElem? (i := 51) rfl))) (mvT hZ (hw _ (List.mem_of_getElem? (i := 50) rfl))) (by decide) (backOf (W := 0) (rm9 l Z a0 hw [] fo ls fv kf fb lv kl lb cs h0 n0 Z0 F5 F6 F7 F8 F9 F10 F11 F12 F13 hcs n5) hZ (hw _ (List.mem_of_getElem? (i := 52) rfl)) (hw _ (List.mem_of_getElem? (i := 7) rfl)) (by decide) (by decide)) q2a q2c (g := (mkF m 5 #[.val (.ref a), .val (.ref fo), .val (.long x0), .second] [(.ref ls), (.ref fo)])) rfl (by rw [hml]; rfl) (Steps.refl _) (argsL := [(.ref ls)]) (rest := []) (lenOf own_pd__Ljava_lang_Object__Z rfl) rfl (by show 2 * 0 + _ ≤ _; exact Nat.le_of_eq rfl) (hb hby d12_5) (fun _ _ => ⟨rfl, e1, (by decide : 0 + 0 ≤ _), (by decide : 0 + 0 ≤ _)⟩)
  dsimp only [Pt.U, Pt.locs, Pt.cells, Pt.slots] at X2 l2 y2 z2 st2 hQ2
  subst l2 y2 z2
  obtain ⟨rfl, NQ2, eq2⟩ := hQ2
  have N3 := Fr.app N0 NQ2
  refine own_st (fun t k => st2.trans k) ?_
  show own_Go _ _ _ _ T2 (mkF m 8 _ [(.int (own_eqs fb lb))])
  by_cases c4 : (own_eqs fb lb) = (0 : Int32)
  · skip
    refine own_st (fun t k => XS.ifNo X2.here hx rfl (hb hby d12_8) rfl ((if0 _ _).trans (teq c4).2) k) ?_
    show own_Go _ _ _ _ T2 (mkF m 11 _ [])
    refine own_st (fun t k => XS.aloadN X2.here hx rfl (hb hby d12_11) rfl rfl k) ?_
    show own_Go _ _ _ _ T2 (mkF m 12 _ [(.ref a)])
    refine own_st (fun t k => XS.aloadN X2.here hx rfl (hb hby d12_12) rfl rfl k) ?_
    show own_Go _ _ _ _ T2 (mkF m 13 _ [(.ref a), (.ref a)])
    obtain ⟨T5, X5, e5, st5⟩ := getF X2 hx hZ hown (host := "") (Or.inl (hw _ (List.mem_of_getElem? (i := 53) rfl))) Via.refl eq2 F2 (g := (mkF m 13 #[.val (.ref a), .val (.ref fo), .val (.long x0), .second] [(.ref a), (.ref a)])) rfl rfl (hb hby d12_13)
    refine own_st st5 ?_
    show own_Go _ _ _ _ T5 (mkF m 16 _ [(.long bl), (.ref a)])
    obtain ⟨T6, h6, X6, e6, W6, st6⟩ := putF X5 hx hZ hown (host := "") (Or.inl (hw _ (List.mem_of_getElem? (i := 55) rfl))) Via.refl e5 F3 F0 (Or.inl (hw _ (List.mem_of_getElem? (i := 56) rfl))) (hw _ (List.mem_of_getElem? (i := 35) rfl)) (ty := .long) (by decide) rfl rfl (g := (mkF m 16 #[.val (.ref a), .val (.ref fo), .val (.long x0), .second] [(.long bl), (.ref a)])) rfl rfl (hb hby d12_16)
    refine own_st st6 ?_
    have f7 := F0.wr W6
    have f8 := F1.other W6 (Or.inr (slot_ne (Or.inl (hw _ (List.mem_of_getElem? (i := 68) rfl))) (Or.inl (hw _ (List.mem_of_getElem? (i := 56) rfl))) (by decide) (t := .long) (t' := .long) (by decide) (by decide)))
    have f9 := F2.other W6 (Or.inr (slot_ne (Or.inl (hw _ (List.mem_of_getElem? (i := 54) rfl))) (Or.inl (hw _ (List.mem_of_getElem? (i := 56) rfl))) (by decide) (t := .long) (t' := .long) (by decide) (by decide)))
    have f10 := F4.other W6 (Or.inr (slot_ne (Or.inl (hw _ (List.mem_of_getElem? (i := 47) rfl))) (Or.inl (hw _ (List.mem_of_getElem? (i := 56) rfl))) (by decide) (t := (.object "java/lang/String")) (t' := .long) (by decide) (by decide)))
    have f11 := F5.wr W6
    have f12 := F6.other W6 (Or.inl n1)
    have f13 := F7.other W6 (Or.inl n1)
    have f14 := F8.other W6 n2
    have f15 := F9.wr W6
    have f16 := F10.other W6 (Or.inl n3)
    have f17 := F11.other W6 (Or.inl n3)
    have f18 := F12.other W6 n4
    have f19 := F13.wr W6
    have N20 := Fr.snoc X6 N3 g_a
    have Z21 : n0 ≤ h6.size := Nat.le_trans Z0 (Nat.le_of_eq W6.size.symm)
    have K22 : Keep h0 h6 [a] := K0.wr W6 (Or.inl (List.mem_of_getElem? (i := 0) rfl))
    have f23 := F3.same W6
    show own_Go _ _ _ _ T6 (mkF m 19 _ [])
    refine own_st (fun t k => XS.aloadN X6.here hx rfl (hb hby d12_19) rfl rfl k) ?_
    show own_Go _ _ _ _ T6 (mkF m 20 _ [(.ref a)])
    refine own_st (fun t k => XS.aloadN X6.here hx rfl (hb hby d12_20) rfl rfl k) ?_
    show own_Go _ _ _ _ T6 (mkF m 21 _ [(.ref fo), (.ref a)])
    obtain ⟨T24, h24, X24, e24, W24, st24⟩ := putF X6 hx hZ hown (host := "") (Or.inl (hw _ (List.mem_of_getElem? (i := 46) rfl))) Via.refl e6 f10 f7 (Or.inl (hw _ (List.mem_of_getElem? (i := 47) rfl))) (hw _ (List.mem_of_getElem? (i := 35) rfl)) (ty := (.object "java/lang/String")) (by decide) rfl rfl (g := (mkF m 21 #[.val (.ref a), .val (.ref fo), .val (.long x0), .second] [(.ref fo), (.ref a)])) rfl rfl (hb hby d12_21)
    refine own_st st24 ?_
    have f25 := f7.wr W24
    have f26 := f8.other W24 (Or.inr (slot_ne (Or.inl (hw _ (List.mem_of_getElem? (i := 68) rfl))) (Or.inl (hw _ (List.mem_of_getElem? (i := 47) rfl))) (by decide) (t := .long) (t' := (.object "java/lang/String")) (by decide) (by decide)))
    have f27 := f9.other W24 (Or.inr (slot_ne (Or.inl (hw _ (List.mem_of_getElem? (i := 54) rfl))) (Or.inl (hw _ (List.mem_of_getElem? (i := 47) rfl))) (by decide) (t := .long) (t' := (.object "java/lang/String")) (by decide) (by decide)))
    have f28 := f11.wr W24
    have f29 := f12.other W24 (Or.inl n1)
    have f30 := f13.other W24 (Or.inl n1)
    have f31 := f14.other W24 n2
    have f32 := f15.wr W24
    have f33 := f16.other W24 (Or.inl n3)
    have f34 := f17.other W24 (Or.inl n3)
    have f35 := f18.other W24 n4
    have f36 := f19.wr W24
    have f37 := f23.other W24 (Or.inr (slot_ne (Or.inl (hw _ (List.mem_of_getElem? (i := 56) rfl))) (Or.inl (hw _ (List.mem_of_getElem? (i := 47) rfl))) (by decide) (t := .long) (t' := (.object "java/lang/String")) (by decide) (by decide)))
    have N38 := Fr.snoc X24 N20 g_a
    have Z39 : n0 ≤ h24.size := Nat.le_trans Z21 (Nat.le_of_eq W24.size.symm)
    have K40 : Keep h0 h24 [a] := K22.wr W24 (Or.inl (List.mem_of_getElem? (i := 0) rfl))
    have f41 := f10.same W24
    show own_Go _ _ _ _ T24 (mkF m 24 _ [])
    refine own_st (fun t k => XS.aloadN X24.here hx rfl (hb hby d12_24) rfl rfl k) ?_
    show own_Go _ _ _ _ T24 (mkF m 25 _ [(.ref a)])
    refine own_st (fun t k => XS.lloadN X24.here hx rfl (hb hby d12_25) rfl k) ?_
    show own_Go _ _ _ _ T24 (mkF m 26 _ [(.long x0), (.ref a)])
    obtain ⟨T42, h42, X42, e42, W42, st42⟩ := putF X24 hx hZ hown (host := "") (Or.inl (hw _ (List.mem_of_getElem? (i := 53) rfl))) Via.refl e24 f27 f25 (Or.inl (hw _ (List.mem_of_getElem? (i := 54) rfl))) (hw _ (List.mem_of_getElem? (i := 35) rfl)) (ty := .long) (by decide) rfl rfl (g := (mkF m 26 #[.val (.ref a), .val (.ref fo), .val (.long x0), .second] [(.long x0), (.ref a)])) rfl rfl (hb hby d12_26)
    refine own_st st42 ?_
    have f43 := f25.wr W42
    have f44 := f26.other W42 (Or.inr (slot_ne (Or.inl (hw _ (List.mem_of_getElem? (i := 68) rfl))) (Or.inl (hw _ (List.mem_of_getElem? (i := 54) rfl))) (by decide) (t := .long) (t' := .long) (by decide) (by decide)))
    have f45 := f28.wr W42
    have f46 := f29.other W42 (Or.inl n1)
    have f47 := f30.other W42 (Or.inl n1)
    have f48 := f31.other W42 n2
    have f49 := f32.wr W42
    have f50 := f33.other W42 (Or.inl n3)
    have f51 := f34.other W42 (Or.inl n3)
    have f52 := f35.other W42 n4
    have f53 := f36.wr W42
    have f54 := f37.other W42 (Or.inr (slot_ne (Or.inl (hw _ (List.mem_of_getElem? (i := 56) rfl))) (Or.inl (hw _ (List.mem_of_getElem? (i := 54) rfl))) (by decide) (t := .long) (t' := .long) (by decide) (by decide)))
    have f55 := f41.other W42 (Or.inr (slot_ne (Or.inl (hw _ (List.mem_of_getElem? (i := 47) rfl))) (Or.inl (hw _ (List.mem_of_getElem? (i := 54) rfl))) (by decide) (t := (.object "java/lang/String")) (t' := .long) (by decide) (by decide)))
    have N56 := Fr.snoc X42 N38 g_a
    have Z57 : n0 ≤ h42.size := Nat.le_trans Z39 (Nat.le_of_eq W42.size.symm)
    have K58 : Keep h0 h42 [a] := K40.wr W42 (Or.inl (List.mem_of_getElem? (i := 0) rfl))
    have f59 := f27.same W42
    show own_Go _ _ _ _ T42 (mkF m 29 _ [])
    subst hPq
    refine own_out X42 (v := none) (fun _ => rfl) Bd.notSynchronized (fun fs hr => X42.returnOut hx Bd.returns (hb hby d12_29) hr) (by decide) (by decide) ?_
    show Q14 Z a fo x0 bs bl br fv kf fb cs ls lv kl lb h0 n0 _ T42.heap _
    rw [e42]
    exact ⟨fo, fv, kf, bl, rfl, N56, K58, f43, f44, f59, f54, f55, f45, f46, f47, f48, Or.inl rfl, Or.inl rfl, (if_neg (own_eqs_ne c4)).symm⟩
  · skip
    refine own_st (fun t k => XS.ifYes X2.here hx rfl (pc0 := 8) (pc' := 24) rfl (hb hby d12_8) rfl ((if0 _ _).trans (feq c4).2) (by decide) (by decide) k) ?_
    show own_Go _ _ _ _ T2 (mkF m 24 _ [])
    refine own_st (fun t k => XS.aloadN X2.here hx rfl (hb hby d12_24) rfl rfl k) ?_
    show own_Go _ _ _ _ T2 (mkF m 25 _ [(.ref a)])
    refine own_st (fun t k => XS.lloadN X2.here hx rfl (hb hby d12_25) rfl k) ?_
    show own_Go _ _ _ _ T2 (mkF m 26 _ [(.long x0), (.ref a)])
    obtain ⟨T60, h60, X60, e60, W60, st60⟩ := putF X2 hx hZ hown (host := "") (Or.inl (hw _ (List.mem_of_getElem? (i := 53) rfl))) Via.refl eq2 F2 F0 (Or.inl (hw _ (List.mem_of_getElem? (i := 54) rfl))) (hw _ (List.mem_of_getElem? (i := 35) rfl)) (ty := .long) (by decide) rfl rfl (g := (mkF m 26 #[.val (.ref a), .val (.ref fo), .val (.long x0), .second] [(.long x0), (.ref a)])) rfl rfl (hb hby d12_26)
    refine own_st st60 ?_
    have f61 := F0.wr W60
    have f62 := F1.other W60 (Or.inr (slot_ne (Or.inl (hw _ (List.mem_of_getElem? (i := 68) rfl))) (Or.inl (hw _ (List.mem_of_getElem? (i := 54) rfl))) (by decide) (t := .long) (t' := .long) (by decide) (by decide)))
    have f63 := F3.other W60 (Or.inr (slot_ne (Or.inl (hw _ (List.mem_of_getElem? (i := 56) rfl))) (Or.inl (hw _ (List.mem_of_getElem? (i := 54) rfl))) (by decide) (t := .long) (t' := .long) (by decide) (by decide)))
    have f64 := F4.other W60 (Or.inr (slot_ne (Or.inl (hw _ (List.mem_of_getElem? (i := 47) rfl))) (Or.inl (hw _ (List.mem_of_getElem? (i := 54) rfl))) (by decide) (t := (.object "java/lang/String")) (t' := .long) (by decide) (by decide)))
    have f65 := F5.wr W60
    have f66 := F6.other W60 (Or.inl n1)
    have f67 := F7.other W60 (Or.inl n1)
    have f68 := F8.other W60 n2
    have f69 := F9.wr W60
    have f70 := F10.other W60 (Or.inl n3)
    have f71 := F11.other W60 (Or.inl n3)
    have f72 := F12.other W60 n4
    have f73 := F13.wr W60
    have N74 := Fr.snoc X60 N3 g_a
    have Z75 : n0 ≤ h60.size := Nat.le_trans Z0 (Nat.le_of_eq W60.size.symm)
    have K76 : Keep h0 h60 [a] := K0.wr W60 (Or.inl (List.mem_of_getElem? (i := 0) rfl))
    have f77 := F2.same W60
    show own_Go _ _ _ _ T60 (mkF m 29 _ [])
    subst hPq
    refine own_out X60 (v := none) (fun _ => rfl) Bd.notSynchronized (fun fs hr => X60.returnOut hx Bd.returns (hb hby d12_29) hr) (by decide) (by decide) ?_
    show Q14 Z a fo x0 bs bl br fv kf fb cs ls lv kl lb h0 n0 _ T60.heap _
    rw [e60]
    exact ⟨ls, lv, kl, br, rfl, N74, K76, f61, f62, f77, f63, f64, f69, f70, f71, (own_eqs_eq c4 ▸ f72), Or.inr rfl, Or.inr rfl, (if_pos (own_eqs_eq c4)).symm⟩
def own_in0 (x0 : Int64) (bs : Int64) (bl : Int64) : Int32 := (if x0 < (own_max bs bl) then (1 : Int32) else (0 : Int32))
theorem own_in0_b (x0 : Int64) (bs : Int64) (bl : Int64) : (own_in0 x0 bs bl) = 0 ∨ (own_in0 x0 bs bl) = 1 := by
  unfold own_in0
  (repeat' split) <;> first | exact Or.inl rfl | exact Or.inr rfl
theorem d13_0 : decode prog_17_method_4_code 0 = .ok (.aload_n 1, 1) := by decide +kernel
theorem d13_1 : decode prog_17_method_4_code 1 = .ok (.aload_n 0, 1) := by decide +kernel
theorem d13_2 : decode prog_17_method_4_code 2 = .ok (.getfield 13, 3) := by decide +kernel
theorem d13_5 : decode prog_17_method_4_code 5 = .ok (.invokevirtual 17, 3) := by decide +kernel
theorem d13_8 : decode prog_17_method_4_code 8 = .ok (.ifCond .eq 10, 3) := by decide +kernel
theorem d13_18 : decode prog_17_method_4_code 18 = .ok (.aload_n 0, 1) := by decide +kernel
theorem d13_19 : decode prog_17_method_4_code 19 = .ok (.getfield 23, 3) := by decide +kernel
theorem d13_22 : decode prog_17_method_4_code 22 = .ok (.lstore 4, 2) := by decide +kernel
theorem d13_24 : decode prog_17_method_4_code 24 = .ok (.lload_n 2, 1) := by decide +kernel
theorem d13_25 : decode prog_17_method_4_code 25 = .ok (.aload_n 0, 1) := by decide +kernel
theorem d13_26 : decode prog_17_method_4_code 26 = .ok (.getfield 7, 3) := by decide +kernel
theorem d13_29 : decode prog_17_method_4_code 29 = .ok (.lload 4, 2) := by decide +kernel
theorem d13_31 : decode prog_17_method_4_code 31 = .ok (.invokestatic 29, 3) := by decide +kernel
theorem d13_34 : decode prog_17_method_4_code 34 = .ok (.lcmp, 1) := by decide +kernel
theorem d13_35 : decode prog_17_method_4_code 35 = .ok (.ifCond .ge 7, 3) := by decide +kernel
theorem d13_38 : decode prog_17_method_4_code 38 = .ok (.iconst 1, 1) := by decide +kernel
theorem d13_39 : decode prog_17_method_4_code 39 = .ok (.goto 4, 3) := by decide +kernel
theorem d13_42 : decode prog_17_method_4_code 42 = .ok (.iconst 0, 1) := by decide +kernel
theorem d13_43 : decode prog_17_method_4_code 43 = .ok (.ireturn, 1) := by decide +kernel
theorem own_pn15 : plainName "com/example/antientropy/antientropy/sds/NamedEntries" = true := by first | (simp [plainName, overriddenIn]; done) | decide +kernel
theorem own_ef15 (m : MethodId) (a : Addr) (fo : Addr) (x0 : Int64) : entryFrame m #[(.ref a), (.ref fo), (.long x0)] 6 = mkF m 0 #[.val (.ref a), .val (.ref fo), .val (.long x0), .second, .unset, .unset] [] := by first | (simp [entryFrame, mkF, argsToLocals, Value.category]; done) | rfl
def Q15 (Z : State) (a : Addr) (fo : Addr) (x0 : Int64) (bs : Int64) (bl : Int64) (br : Int64) (fv : Addr) (kf : ClassId) (fb : Int32) (h0 : Heap) (n0 : Nat) (v : Option Value) (h : Heap) (L : List Loc) : Prop := v = some (.int (own_in0 x0 bs bl)) ∧ Fr n0 L ∧ h = h0
set_option maxRecDepth 65536 in
set_option maxHeartbeats 4000000 in
theorem rm15 (l : Launch) (Z : State) (a0 : Array Value) (hw : ∀ d ∈ tables_1, d.before a0 Z = true) (ws : List Jvm.Cond) (a : Addr) (fo : Addr) (x0 : Int64) (bs : Int64) (bl : Int64) (br : Int64) (fv : Addr) (kf : ClassId) (fb : Int32) (h0 : Heap) (n0 : Nat) (Z0 : n0 ≤ h0.size) (F0 : Exa Z h0 a "com/example/antientropy/antientropy/sds/NamedEntries") (F1 : Fld Z h0 a "com/example/antientropy/antientropy/sds/NamedEntries" "bySelf" "J" (.long bs)) (F2 : Fld Z h0 a "com/example/antientropy/antientropy/sds/NamedEntries" "byLatest" "J" (.long bl)) (F3 : Fld Z h0 a "com/example/antientropy/antientropy/sds/NamedEntries" "byLatestOfTheRest" "J" (.long br)) (F4 : Fld Z h0 a "com/example/antientropy/antientropy/sds/NamedEntries" "latestFrom" "Ljava/lang/String;" .null) (F5 : Exa Z h0 fo "java/lang/String") (F6 : Fld Z h0 fo "java/lang/String" "value" "[B" (.ref fv)) (F7 : Fld Z h0 fo "java/lang/String" "coder" "B" (.int (0 : Int32))) (F8 : Arv Z h0 fv kf .byte (1 : Int32) [(.int fb)] (.int (0 : Int32))) :
    MetFree l (⟨"com/example/antientropy/antientropy/sds/NamedEntries", "isNamedTo", "(Ljava/lang/String;J)Z"⟩ : MethodName) (head1 (Jvm.Cond.code (⟨"com/example/antientropy/antientropy/sds/NamedEntries", "isNamedTo", "(Ljava/lang/String;J)Z"⟩ : MethodName) prog_17_method_4_code 6 (some .boolean) :: ws) ({ frames := 1, cells := 0, slots := 0, locals := 17 } : Room)) (fun aW U => aW = #[(.ref a), (.ref fo), (.long x0)] ∧ Z.Warmed39 U.vm ∧ U.heap = h0) (fun _ _ _ _ _ => True) (fun _ U o U' => ∃ v L, o = .returned v ∧ Q15 Z a fo x0 bs bl br fv kf fb h0 n0 v U'.heap L ∧ FrameEnd U o U' L ({ frames := 1, cells := 0, slots := 0, locals := 17 } : Room).cells ({ frames := 1, cells := 0, slots := 0, locals := 17 } : Room).slots) := by
  refine MetFree.of_bodySF (plainFor_of_name own_pn15) hisR ?_
  intro p e s m args below meth c s₁ Bd hml0 hP hK
  obtain ⟨rfl, hZ, hh⟩ := hP
  have hx := Bd.exec
  have hby := Bd.bytes
  have hml : c.maxLocals = 6 := hml0
  have hown : s.vm.findClass "com/example/antientropy/antientropy/sds/NamedEntries" = some m.cls := findClass_of_methodNamed Bd.named
  have hnm := (name_of_methodNamed Bd.named Bd.method).1
  have X0 : Stand p l e ({ frames := 1, cells := 0, slots := 0, locals := 17 } : Room) s m #[(.ref a), (.ref fo), (.long x0)] below meth c s₁ [] 0 0 := Stand.of_body Bd
  have e0 : s₁.heap = h0 := by rw [← hh, Bd.state]; rfl
  have N0 := Fr.nil n0
  obtain ⟨Pq, hPq⟩ : ∃ P, P = own_P s below (fun v h L => Q15 Z a fo x0 bs bl br fv kf fb h0 n0 v h L) ({ frames := 1, cells := 0, slots := 0, locals := 17 } : Room).cells ({ frames := 1, cells := 0, slots := 0, locals := 17 } : Room).slots := ⟨_, rfl⟩
  suffices hgo : own_Go p.tables e below Pq s₁ (mkF m 0 #[.val (.ref a), .val (.ref fo), .val (.long x0), .second, .unset, .unset] []) by
    subst hPq
    obtain ⟨t, k1, k2, o, k3, k4⟩ := hgo
    exact ⟨t, o, castTop (own_ef15 m a fo x0) k1, k2, k3, k4⟩
  show own_Go _ _ _ _ s₁ (mkF m 0 #[.val (.ref a), .val (.ref fo), .val (.long x0), .second, .unset, .unset] [])
  refine own_st (fun t k => XS.aloadN X0.here hx rfl (hb hby d13_0) rfl rfl k) ?_
  show own_Go _ _ _ _ s₁ (mkF m 1 _ [(.ref fo)])
  refine own_st (fun t k => XS.aloadN X0.here hx rfl (hb hby d13_1) rfl rfl k) ?_
  show own_Go _ _ _ _ s₁ (mkF m 2 _ [(.ref a), (.ref fo)])
  obtain ⟨T1, X1, e1, st1⟩ := getF X0 hx hZ hown (host := "") (Or.inl (hw _ (List.mem_of_getElem? (i := 46) rfl))) Via.refl e0 F4 (g := (mkF m 2 #[.val (.ref a), .val (.ref fo), .val (.long x0), .second, .unset, .unset] [(.ref a), (.ref fo)])) rfl rfl (hb hby d13_2)
  refine own_st st1 ?_
  show own_Go _ _ _ _ T1 (mkF m 5 _ [.null, (.ref fo)])
  obtain ⟨cq2, kq2, q2a, q2b, q2c⟩ := isOf hZ e1 F5
  obtain ⟨_, _, ⟨T2, L2, k2, n2⟩, -, X2, ⟨Lc2, hQ2, l2, y2, z2⟩, st2⟩ := X1.virtualBack hx (y := (⟨"java/lang/String", "equals", "(Ljava/lang/Object;)Z"⟩ : MethodName)) (z := (⟨"java/lang/String", "equals", "(Ljava/lang/Object;)Z"⟩ : MethodName)) hown (mvT hZ (hw _ (List.mem_of_getElem? (i := 48) rfl))) (mvT hZ (hw _ (List.mem_of_getElem? (i := 49) rfl))) (notFace_of_selects (args := #[]) (mvT hZ (hw _ (List.mem_of_getElem? (i := 51) rfl)))) (mvT hZ (hw _ (List.mem_of_getElem? (i := 51) rfl))) (mvT hZ (hw _ (List.mem_of_getElem? (i := 50) rfl))) (by decide) (backOf (W := 0) (rm8 l Z a0 hw [] fo h0 n0 Z0 F5) hZ (hw _ (List.mem_of_getElem? (i := 52) rfl)) (hw _ (List.mem_of_getElem? (i := 7) rfl)) (by decide) (by decide)) q2a q2c (g := (mkF m 5 #[.val (.ref a), .val (.ref fo), .val (.long x0), .second, .unset, .unset] [.null, (.ref fo)])) rfl (by rw [hml]; rfl) (Steps.refl _) (argsL := [.null]) (rest := []) (lenOf own_pd__Ljava_lang_Object__Z rfl) rfl (by show 2 * 0 + _ ≤ _; exact Nat.le_of_eq rfl) (hb hby d13_5) (fun _ _ => ⟨rfl, e1, (by decide : 0 + 0 ≤ _), (by decide : 0 + 0 ≤ _)⟩)
  dsimp only [Pt.U, Pt.locs, Pt.cells, Pt.slots] at X2 l2 y2 z2 st2 hQ2
  subst l2 y2 z2
  obtain ⟨rfl, NQ2, eq2⟩ := hQ2
  have N3 := Fr.app N0 NQ2
  refine own_st (fun t k => st2.trans k) ?_
  show own_Go _ _ _ _ T2 (mkF m 8 _ [(.int (0 : Int32))])
  refine own_st (fun t k => XS.ifYes X2.here hx rfl (pc0 := 8) (pc' := 18) rfl (hb hby d13_8) rfl ((if0 _ _).trans (teq (by decide : ((0 : Int32) = (0 : Int32)))).1) (by decide) (by decide) k) ?_
  show own_Go _ _ _ _ T2 (mkF m 18 _ [])
  refine own_st (fun t k => XS.aloadN X2.here hx rfl (hb hby d13_18) rfl rfl k) ?_
  show own_Go _ _ _ _ T2 (mkF m 19 _ [(.ref a)])
  obtain ⟨T4, X4, e4, st4⟩ := getF X2 hx hZ hown (host := "") (Or.inl (hw _ (List.mem_of_getElem? (i := 53) rfl))) Via.refl eq2 F2 (g := (mkF m 19 #[.val (.ref a), .val (.ref fo), .val (.long x0), .second, .unset, .unset] [(.ref a)])) rfl rfl (hb hby d13_19)
  refine own_st st4 ?_
  show own_Go _ _ _ _ T4 (mkF m 22 _ [(.long bl)])
  refine own_st (fun t k => XS.lstore X4.here hx rfl (hb hby d13_22) rfl (l' := #[.val (.ref a), .val (.ref fo), .val (.long x0), .second, .val (.long bl), .second]) rfl k) ?_
  show own_Go _ _ _ _ T4 (mkF m 24 #[.val (.ref a), .val (.ref fo), .val (.long x0), .second, .val (.long bl), .second] [])
  refine own_st (fun t k => XS.lloadN X4.here hx rfl (hb hby d13_24) rfl k) ?_
  show own_Go _ _ _ _ T4 (mkF m 25 _ [(.long x0)])
  refine own_st (fun t k => XS.aloadN X4.here hx rfl (hb hby d13_25) rfl rfl k) ?_
  show own_Go _ _ _ _ T4 (mkF m 26 _ [(.ref a), (.long x0)])
  obtain ⟨T5, X5, e5, st5⟩ := getF X4 hx hZ hown (host := "") (Or.inl (hw _ (List.mem_of_getElem? (i := 67) rfl))) Via.refl e4 F1 (g := (mkF m 26 #[.val (.ref a), .val (.ref fo), .val (.long x0), .second, .val (.long bl), .second] [(.ref a), (.long x0)])) rfl rfl (hb hby d13_26)
  refine own_st st5 ?_
  show own_Go _ _ _ _ T5 (mkF m 29 _ [(.long bs), (.long x0)])
  refine own_st (fun t k => XS.lload X5.here hx rfl (hb hby d13_29) rfl k) ?_
  show own_Go _ _ _ _ T5 (mkF m 31 _ [(.long bl), (.long bs), (.long x0)])
  obtain ⟨_, _, ⟨T6, L6, k6, n6⟩, -, X6, ⟨Lc6, hQ6, l6, y6, z6⟩, st6⟩ := Jvm.LawKit.callS X5 hx (y := (⟨"java/lang/Math", "max", "(JJ)J"⟩ : MethodName)) hown (mvT hZ (hw _ (List.mem_of_getElem? (i := 69) rfl))) (mvT hZ (hw _ (List.mem_of_getElem? (i := 70) rfl))) (mvT hZ (hw _ (List.mem_of_getElem? (i := 71) rfl))) (mvT hZ (hw _ (List.mem_of_getElem? (i := 72) rfl))) (by decide) (backOf (W := 2) (rm12 l Z a0 hw [] bs bl h0 n0 Z0 ) hZ (hw _ (List.mem_of_getElem? (i := 72) rfl)) (hw _ (List.mem_of_getElem? (i := 71) rfl)) (by decide) (by decide)) (g := (mkF m 31 #[.val (.ref a), .val (.ref fo), .val (.long x0), .second, .val (.long bl), .second] [(.long bl), (.long bs), (.long x0)])) rfl (by rw [hml]; rfl) (argsL := [(.long bs), (.long bl)]) (rest := [(.long x0)]) (lenOf own_pd__JJ_J rfl) rfl (by show 2 * 0 + _ ≤ _; exact Nat.le_of_eq rfl) (hb hby d13_31) (fun _ _ => ⟨rfl, e5, (by decide : 0 + 0 ≤ _), (by decide : 0 + 0 ≤ _)⟩)
  dsimp only [Pt.U, Pt.locs, Pt.cells, Pt.slots] at X6 l6 y6 z6 st6 hQ6
  subst l6 y6 z6
  obtain ⟨rfl, NQ6, eq6⟩ := hQ6
  have N7 := Fr.app N3 NQ6
  refine own_st st6 ?_
  show own_Go _ _ _ _ T6 (mkF m 34 _ [(.long (own_max bs bl)), (.long x0)])
  refine own_st (fun t k => XS.lcmp X6.here hx rfl (hb hby d13_34) rfl k) ?_
  show own_Go _ _ _ _ T6 (mkF m 35 _ [(.int (lcmpW x0 (own_max bs bl)))])
  have J11 : ∀ (Tj11 : State) (Lj11 : List Loc) (p12 : Int32), Stand p l e ({ frames := 1, cells := 0, slots := 0, locals := 17 } : Room) s m #[(.ref a), (.ref fo), (.long x0)] below meth c Tj11 Lj11 0 0 → Tj11.heap = h0 → Fr n0 Lj11 → p12 = (if x0 < (own_max bs bl) then (1 : Int32) else (0 : Int32)) → own_Go p.tables e below Pq Tj11 (mkF m 43 #[.val (.ref a), .val (.ref fo), .val (.long x0), .second, .val (.long bl), .second] [(.int p12)]) := by
    intro Tj11 Lj11 p12 Xj11 ej11 Nj11 qp12
    show own_Go _ _ _ _ Tj11 (mkF m 43 _ [(.int p12)])
    have hb_p12 : p12 = 0 ∨ p12 = 1 := by rw [qp12]; (repeat' split) <;> first | exact Or.inl rfl | exact Or.inr rfl | assumption
    subst hPq
    refine own_out Xj11 (v := some (.int p12)) (fun h => by rw [Bd.returns] at h; cases h) Bd.notSynchronized (own_retZ Xj11 hx Bd.returns (hb hby d13_43) hb_p12) (by decide) (by decide) ?_
    show Q15 Z a fo x0 bs bl br fv kf fb h0 n0 _ Tj11.heap _
    rw [ej11]
    exact ⟨by subst_vars; rfl, Nj11, rfl⟩
  by_cases c8 : x0 < (own_max bs bl)
  · skip
    refine own_st (fun t k => XS.ifNo X6.here hx rfl (hb hby d13_35) rfl (own_lcF (cd := .ge) (not_not_intro c8)) k) ?_
    show own_Go _ _ _ _ T6 (mkF m 38 _ [])
    refine own_st (fun t k => XS.iconst X6.here hx rfl (hb hby d13_38) k) ?_
    show own_Go _ _ _ _ T6 (mkF m 39 _ [(.int (1 : Int32))])
    refine own_st (fun t k => XS.goto X6.here hx rfl (pc0 := 39) (pc' := 43) rfl (hb hby d13_39) (by decide) (by decide) k) ?_
    show own_Go _ _ _ _ T6 (mkF m 43 _ [(.int (1 : Int32))])
    exact J11 T6 _ _ X6 eq6 N7 (by simp only [if_pos c8])
  · skip
    refine own_st (fun t k => XS.ifYes X6.here hx rfl (pc0 := 35) (pc' := 42) rfl (hb hby d13_35) rfl (own_lcT (cd := .ge) c8) (by decide) (by decide) k) ?_
    show own_Go _ _ _ _ T6 (mkF m 42 _ [])
    refine own_st (fun t k => XS.iconst X6.here hx rfl (hb hby d13_42) k) ?_
    show own_Go _ _ _ _ T6 (mkF m 43 _ [(.int (0 : Int32))])
    exact J11 T6 _ _ X6 eq6 N7 (by simp only [if_neg c8])
def own_in1 (x0 : Int64) (bs : Int64) (bl : Int64) (br : Int64) (fb : Int32) (lb : Int32) : Int32 := (if x0 < (own_max bs (if (own_eqs fb lb) = (0 : Int32) then bl else br)) then (1 : Int32) else (0 : Int32))
theorem own_in1_b (x0 : Int64) (bs : Int64) (bl : Int64) (br : Int64) (fb : Int32) (lb : Int32) : (own_in1 x0 bs bl br fb lb) = 0 ∨ (own_in1 x0 bs bl br fb lb) = 1 := by
  unfold own_in1
  (repeat' split) <;> first | exact Or.inl rfl | exact Or.inr rfl | exact own_eqs_b _ _
theorem d13_11 : decode prog_17_method_4_code 11 = .ok (.aload_n 0, 1) := by decide +kernel
theorem d13_12 : decode prog_17_method_4_code 12 = .ok (.getfield 26, 3) := by decide +kernel
theorem d13_15 : decode prog_17_method_4_code 15 = .ok (.goto 7, 3) := by decide +kernel
theorem own_pn16 : plainName "com/example/antientropy/antientropy/sds/NamedEntries" = true := by first | (simp [plainName, overriddenIn]; done) | decide +kernel
theorem own_ef16 (m : MethodId) (a : Addr) (fo : Addr) (x0 : Int64) : entryFrame m #[(.ref a), (.ref fo), (.long x0)] 6 = mkF m 0 #[.val (.ref a), .val (.ref fo), .val (.long x0), .second, .unset, .unset] [] := by first | (simp [entryFrame, mkF, argsToLocals, Value.category]; done) | rfl
def Q16 (Z : State) (a : Addr) (fo : Addr) (x0 : Int64) (bs : Int64) (bl : Int64) (br : Int64) (fv : Addr) (kf : ClassId) (fb : Int32) (cs : Int32) (ls : Addr) (lv : Addr) (kl : ClassId) (lb : Int32) (h0 : Heap) (n0 : Nat) (v : Option Value) (h : Heap) (L : List Loc) : Prop := v = some (.int (own_in1 x0 bs bl br fb lb)) ∧ Fr n0 L ∧ h = h0
set_option maxRecDepth 65536 in
set_option maxHeartbeats 4000000 in
theorem rm16 (l : Launch) (Z : State) (a0 : Array Value) (hw : ∀ d ∈ tables_1, d.before a0 Z = true) (ws : List Jvm.Cond) (a : Addr) (fo : Addr) (x0 : Int64) (bs : Int64) (bl : Int64) (br : Int64) (fv : Addr) (kf : ClassId) (fb : Int32) (cs : Int32) (ls : Addr) (lv : Addr) (kl : ClassId) (lb : Int32) (h0 : Heap) (n0 : Nat) (Z0 : n0 ≤ h0.size) (F0 : Exa Z h0 a "com/example/antientropy/antientropy/sds/NamedEntries") (F1 : Fld Z h0 a "com/example/antientropy/antientropy/sds/NamedEntries" "bySelf" "J" (.long bs)) (F2 : Fld Z h0 a "com/example/antientropy/antientropy/sds/NamedEntries" "byLatest" "J" (.long bl)) (F3 : Fld Z h0 a "com/example/antientropy/antientropy/sds/NamedEntries" "byLatestOfTheRest" "J" (.long br)) (F4 : Fld Z h0 a "com/example/antientropy/antientropy/sds/NamedEntries" "latestFrom" "Ljava/lang/String;" (.ref ls)) (F5 : Exa Z h0 fo "java/lang/String") (F6 : Fld Z h0 fo "java/lang/String" "value" "[B" (.ref fv)) (F7 : Fld Z h0 fo "java/lang/String" "coder" "B" (.int (0 : Int32))) (F8 : Arv Z h0 fv kf .byte (1 : Int32) [(.int fb)] (.int (0 : Int32))) (F9 : Exa Z h0 ls "java/lang/String") (F10 : Fld Z h0 ls "java/lang/String" "value" "[B" (.ref lv)) (F11 : Fld Z h0 ls "java/lang/String" "coder" "B" (.int (0 : Int32))) (F12 : Arv Z h0 lv kl .byte (1 : Int32) [(.int lb)] (.int (0 : Int32))) (F13 : Sta Z h0 "java/lang/String" "COMPACT_STRINGS" "Z" (.int cs)) (n5 : fo ≠ ls) (hcs : ¬ cs = (0 : Int32)) :
    MetFree l (⟨"com/example/antientropy/antientropy/sds/NamedEntries", "isNamedTo", "(Ljava/lang/String;J)Z"⟩ : MethodName) (head1 (Jvm.Cond.code (⟨"com/example/antientropy/antientropy/sds/NamedEntries", "isNamedTo", "(Ljava/lang/String;J)Z"⟩ : MethodName) prog_17_method_4_code 6 (some .boolean) :: ws) ({ frames := 2, cells := 0, slots := 0, locals := 28 } : Room)) (fun aW U => aW = #[(.ref a), (.ref fo), (.long x0)] ∧ Z.Warmed39 U.vm ∧ U.heap = h0) (fun _ _ _ _ _ => True) (fun _ U o U' => ∃ v L, o = .returned v ∧ Q16 Z a fo x0 bs bl br fv kf fb cs ls lv kl lb h0 n0 v U'.heap L ∧ FrameEnd U o U' L ({ frames := 2, cells := 0, slots := 0, locals := 28 } : Room).cells ({ frames := 2, cells := 0, slots := 0, locals := 28 } : Room).slots) := by
  refine MetFree.of_bodySF (plainFor_of_name own_pn16) hisR ?_
  intro p e s m args below meth c s₁ Bd hml0 hP hK
  obtain ⟨rfl, hZ, hh⟩ := hP
  have hx := Bd.exec
  have hby := Bd.bytes
  have hml : c.maxLocals = 6 := hml0
  have hown : s.vm.findClass "com/example/antientropy/antientropy/sds/NamedEntries" = some m.cls := findClass_of_methodNamed Bd.named
  have hnm := (name_of_methodNamed Bd.named Bd.method).1
  have X0 : Stand p l e ({ frames := 2, cells := 0, slots := 0, locals := 28 } : Room) s m #[(.ref a), (.ref fo), (.long x0)] below meth c s₁ [] 0 0 := Stand.of_body Bd
  have e0 : s₁.heap = h0 := by rw [← hh, Bd.state]; rfl
  have N0 := Fr.nil n0
  obtain ⟨Pq, hPq⟩ : ∃ P, P = own_P s below (fun v h L => Q16 Z a fo x0 bs bl br fv kf fb cs ls lv kl lb h0 n0 v h L) ({ frames := 2, cells := 0, slots := 0, locals := 28 } : Room).cells ({ frames := 2, cells := 0, slots := 0, locals := 28 } : Room).slots := ⟨_, rfl⟩
  suffices hgo : own_Go p.tables e below Pq s₁ (mkF m 0 #[.val (.ref a), .val (.ref fo), .val (.long x0), .second, .unset, .unset] []) by
    subst hPq
    obtain ⟨t, k1, k2, o, k3, k4⟩ := hgo
    exact ⟨t, o, castTop (own_ef16 m a fo x0) k1, k2, k3, k4⟩
  show own_Go _ _ _ _ s₁ (mkF m 0 #[.val (.ref a), .val (.ref fo), .val (.long x0), .second, .unset, .unset] [])
  refine own_st (fun t k => XS.aloadN X0.here hx rfl (hb hby d13_0) rfl rfl k) ?_
  show own_Go _ _ _ _ s₁ (mkF m 1 _ [(.ref fo)])
  refine own_st (fun t k => XS.aloadN X0.here hx rfl (hb hby d13_1) rfl rfl k) ?_
  show own_Go _ _ _ _ s₁ (mkF m 2 _ [(.ref a), (.ref fo)])
  obtain ⟨T1, X1, e1, st1⟩ := getF X0 hx hZ hown (host := "") (Or.inl (hw _ (List.mem_of_getElem? (i := 46) rfl))) Via.refl e0 F4 (g := (mkF m 2 #[.val (.ref a), .val (.ref fo), .val (.long x0), .second, .unset, .unset] [(.ref a), (.ref fo)])) rfl rfl (hb hby d13_2)
  refine own_st st1 ?_
  show own_Go _ _ _ _ T1 (mkF m 5 _ [(.ref ls), (.ref fo)])
  obtain ⟨cq2, kq2, q2a, q2b, q2c⟩ := isOf hZ e1 F5
  obtain ⟨_, _, ⟨T2, L2, k2, n2⟩, -, X2, ⟨Lc2, hQ2, l2, y2, z2⟩, st2⟩ := X1.virtualBack hx (y := (⟨"java/lang/String", "equals", "(Ljava/lang/Object;)Z"⟩ : MethodName)) (z := (⟨"java/lang/String", "equals", "(Ljava/lang/Object;)Z"⟩ : MethodName)) hown (mvT hZ (hw _ (List.mem_of_getElem? (i := 48) rfl))) (mvT hZ (hw _ (List.mem_of_getElem? (i := 49) rfl))) (notFace_of_selects (args := #[]) (mvT hZ (hw _ (List.mem_of_getElem? (i := 51) rfl)))) (mvT hZ (hw _ (List.mem_of_getElem? (i := 51) rfl))) (mvT hZ (hw _ (List.mem_of_getElem? (i := 50) rfl))) (by decide) (backOf (W := 0) (rm9 l Z a0 hw [] fo ls fv kf fb lv kl lb cs h0 n0 Z0 F5 F6 F7 F8 F9 F10 F11 F12 F13 hcs n5) hZ (hw _ (List.mem_of_getElem? (i := 52) rfl)) (hw _ (List.mem_of_getElem? (i := 7) rfl)) (by decide) (by decide)) q2a q2c (g := (mkF m 5 #[.val (.ref a), .val (.ref fo), .val (.long x0), .second, .unset, .unset] [(.ref ls), (.ref fo)])) rfl (by rw [hml]; rfl) (Steps.refl _) (argsL := [(.ref ls)]) (rest := []) (lenOf own_pd__Ljava_lang_Object__Z rfl) rfl (by show 2 * 0 + _ ≤ _; exact Nat.le_of_eq rfl) (hb hby d13_5) (fun _ _ => ⟨rfl, e1, (by decide : 0 + 0 ≤ _), (by decide : 0 + 0 ≤ _)⟩)
  dsimp only [Pt.U, Pt.locs, Pt.cells, Pt.slots] at X2 l2 y2 z2 st2 hQ2
  subst l2 y2 z2
  obtain ⟨rfl, NQ2, eq2⟩ := hQ2
  have N3 := Fr.app N0 NQ2
  refine own_st (fun t k => st2.trans k) ?_
  show own_Go _ _ _ _ T2 (mkF m 8 _ [(.int (own_eqs fb lb))])
  have J9 : ∀ (Tj9 : State) (Lj9 : List Loc) (p10 : Int64), Stand p l e ({ frames := 2, cells := 0, slots := 0, locals := 28 } : Room) s m #[(.ref a), (.ref fo), (.long x0)] below meth c Tj9 Lj9 0 0 → Tj9.heap = h0 → Fr n0 Lj9 → p10 = (if (own_eqs fb lb) = (0 : Int32) then bl else br) → own_Go p.tables e below Pq Tj9 (mkF m 22 #[.val (.ref a), .val (.ref fo), .val (.long x0), .second, .unset, .unset] [(.long p10)]) := by
    intro Tj9 Lj9 p10 Xj9 ej9 Nj9 qp10
    show own_Go _ _ _ _ Tj9 (mkF m 22 _ [(.long p10)])
    refine own_st (fun t k => XS.lstore Xj9.here hx rfl (hb hby d13_22) rfl (l' := #[.val (.ref a), .val (.ref fo), .val (.long x0), .second, .val (.long p10), .second]) rfl k) ?_
    show own_Go _ _ _ _ Tj9 (mkF m 24 #[.val (.ref a), .val (.ref fo), .val (.long x0), .second, .val (.long p10), .second] [])
    refine own_st (fun t k => XS.lloadN Xj9.here hx rfl (hb hby d13_24) rfl k) ?_
    show own_Go _ _ _ _ Tj9 (mkF m 25 _ [(.long x0)])
    refine own_st (fun t k => XS.aloadN Xj9.here hx rfl (hb hby d13_25) rfl rfl k) ?_
    show own_Go _ _ _ _ Tj9 (mkF m 26 _ [(.ref a), (.long x0)])
    obtain ⟨T11, X11, e11, st11⟩ := getF Xj9 hx hZ hown (host := "") (Or.inl (hw _ (List.mem_of_getElem? (i := 67) rfl))) Via.refl ej9 F1 (g := (mkF m 26 #[.val (.ref a), .val (.ref fo), .val (.long x0), .second, .val (.long p10), .second] [(.ref a), (.long x0)])) rfl rfl (hb hby d13_26)
    refine own_st st11 ?_
    show own_Go _ _ _ _ T11 (mkF m 29 _ [(.long bs), (.long x0)])
    refine own_st (fun t k => XS.lload X11.here hx rfl (hb hby d13_29) rfl k) ?_
    show own_Go _ _ _ _ T11 (mkF m 31 _ [(.long p10), (.long bs), (.long x0)])
    obtain ⟨_, _, ⟨T12, L12, k12, n12⟩, -, X12, ⟨Lc12, hQ12, l12, y12, z12⟩, st12⟩ := Jvm.LawKit.callS X11 hx (y := (⟨"java/lang/Math", "max", "(JJ)J"⟩ : MethodName)) hown (mvT hZ (hw _ (List.mem_of_getElem? (i := 69) rfl))) (mvT hZ (hw _ (List.mem_of_getElem? (i := 70) rfl))) (mvT hZ (hw _ (List.mem_of_getElem? (i := 71) rfl))) (mvT hZ (hw _ (List.mem_of_getElem? (i := 72) rfl))) (by decide) (backOf (W := 2) (rm12 l Z a0 hw [] bs p10 h0 n0 Z0 ) hZ (hw _ (List.mem_of_getElem? (i := 72) rfl)) (hw _ (List.mem_of_getElem? (i := 71) rfl)) (by decide) (by decide)) (g := (mkF m 31 #[.val (.ref a), .val (.ref fo), .val (.long x0), .second, .val (.long p10), .second] [(.long p10), (.long bs), (.long x0)])) rfl (by rw [hml]; rfl) (argsL := [(.long bs), (.long p10)]) (rest := [(.long x0)]) (lenOf own_pd__JJ_J rfl) rfl (by show 2 * 0 + _ ≤ _; exact Nat.le_of_eq rfl) (hb hby d13_31) (fun _ _ => ⟨rfl, e11, (by decide : 0 + 0 ≤ _), (by decide : 0 + 0 ≤ _)⟩)
    dsimp only [Pt.U, Pt.locs, Pt.cells, Pt.slots] at X12 l12 y12 z12 st12 hQ12
    subst l12 y12 z12
    obtain ⟨rfl, NQ12, eq12⟩ := hQ12
    have N13 := Fr.app Nj9 NQ12
    refine own_st st12 ?_
    show own_Go _ _ _ _ T12 (mkF m 34 _ [(.long (own_max bs p10)), (.long x0)])
    refine own_st (fun t k => XS.lcmp X12.here hx rfl (hb hby d13_34) rfl k) ?_
    show own_Go _ _ _ _ T12 (mkF m 35 _ [(.int (lcmpW x0 (own_max bs p10)))])
    have J17 : ∀ (Tj17 : State) (Lj17 : List Loc) (p18 : Int32), Stand p l e ({ frames := 2, cells := 0, slots := 0, locals := 28 } : Room) s m #[(.ref a), (.ref fo), (.long x0)] below meth c Tj17 Lj17 0 0 → Tj17.heap = h0 → Fr n0 Lj17 → p18 = (if x0 < (own_max bs p10) then (1 : Int32) else (0 : Int32)) → own_Go p.tables e below Pq Tj17 (mkF m 43 #[.val (.ref a), .val (.ref fo), .val (.long x0), .second, .val (.long p10), .second] [(.int p18)]) := by
      intro Tj17 Lj17 p18 Xj17 ej17 Nj17 qp18
      show own_Go _ _ _ _ Tj17 (mkF m 43 _ [(.int p18)])
      have hb_p18 : p18 = 0 ∨ p18 = 1 := by rw [qp18]; (repeat' split) <;> first | exact Or.inl rfl | exact Or.inr rfl | assumption
      subst hPq
      refine own_out Xj17 (v := some (.int p18)) (fun h => by rw [Bd.returns] at h; cases h) Bd.notSynchronized (own_retZ Xj17 hx Bd.returns (hb hby d13_43) hb_p18) (by decide) (by decide) ?_
      show Q16 Z a fo x0 bs bl br fv kf fb cs ls lv kl lb h0 n0 _ Tj17.heap _
      rw [ej17]
      exact ⟨by subst_vars; rfl, Nj17, rfl⟩
    by_cases c14 : x0 < (own_max bs p10)
    · skip
      refine own_st (fun t k => XS.ifNo X12.here hx rfl (hb hby d13_35) rfl (own_lcF (cd := .ge) (not_not_intro c14)) k) ?_
      show own_Go _ _ _ _ T12 (mkF m 38 _ [])
      refine own_st (fun t k => XS.iconst X12.here hx rfl (hb hby d13_38) k) ?_
      show own_Go _ _ _ _ T12 (mkF m 39 _ [(.int (1 : Int32))])
      refine own_st (fun t k => XS.goto X12.here hx rfl (pc0 := 39) (pc' := 43) rfl (hb hby d13_39) (by decide) (by decide) k) ?_
      show own_Go _ _ _ _ T12 (mkF m 43 _ [(.int (1 : Int32))])
      exact J17 T12 _ _ X12 eq12 N13 (by simp only [if_pos c14])
    · skip
      refine own_st (fun t k => XS.ifYes X12.here hx rfl (pc0 := 35) (pc' := 42) rfl (hb hby d13_35) rfl (own_lcT (cd := .ge) c14) (by decide) (by decide) k) ?_
      show own_Go _ _ _ _ T12 (mkF m 42 _ [])
      refine own_st (fun t k => XS.iconst X12.here hx rfl (hb hby d13_42) k) ?_
      show own_Go _ _ _ _ T12 (mkF m 43 _ [(.int (0 : Int32))])
      exact J17 T12 _ _ X12 eq12 N13 (by simp only [if_neg c14])
  by_cases c4 : (own_eqs fb lb) = (0 : Int32)
  · skip
    refine own_st (fun t k => XS.ifYes X2.here hx rfl (pc0 := 8) (pc' := 18) rfl (hb hby d13_8) rfl ((if0 _ _).trans (teq c4).1) (by decide) (by decide) k) ?_
    show own_Go _ _ _ _ T2 (mkF m 18 _ [])
    refine own_st (fun t k => XS.aloadN X2.here hx rfl (hb hby d13_18) rfl rfl k) ?_
    show own_Go _ _ _ _ T2 (mkF m 19 _ [(.ref a)])
    obtain ⟨T5, X5, e5, st5⟩ := getF X2 hx hZ hown (host := "") (Or.inl (hw _ (List.mem_of_getElem? (i := 53) rfl))) Via.refl eq2 F2 (g := (mkF m 19 #[.val (.ref a), .val (.ref fo), .val (.long x0), .second, .unset, .unset] [(.ref a)])) rfl rfl (hb hby d13_19)
    refine own_st st5 ?_
    show own_Go _ _ _ _ T5 (mkF m 22 _ [(.long bl)])
    exact J9 T5 _ _ X5 e5 N3 (by simp only [if_pos c4])
  · skip
    refine own_st (fun t k => XS.ifNo X2.here hx rfl (hb hby d13_8) rfl ((if0 _ _).trans (feq c4).1) k) ?_
    show own_Go _ _ _ _ T2 (mkF m 11 _ [])
    refine own_st (fun t k => XS.aloadN X2.here hx rfl (hb hby d13_11) rfl rfl k) ?_
    show own_Go _ _ _ _ T2 (mkF m 12 _ [(.ref a)])
    obtain ⟨T7, X7, e7, st7⟩ := getF X2 hx hZ hown (host := "") (Or.inl (hw _ (List.mem_of_getElem? (i := 55) rfl))) Via.refl eq2 F3 (g := (mkF m 12 #[.val (.ref a), .val (.ref fo), .val (.long x0), .second, .unset, .unset] [(.ref a)])) rfl rfl (hb hby d13_12)
    refine own_st st7 ?_
    show own_Go _ _ _ _ T7 (mkF m 15 _ [(.long br)])
    refine own_st (fun t k => XS.goto X7.here hx rfl (pc0 := 15) (pc' := 22) rfl (hb hby d13_15) (by decide) (by decide) k) ?_
    show own_Go _ _ _ _ T7 (mkF m 22 _ [(.long br)])
    exact J9 T7 _ _ X7 e7 N3 (by simp only [if_neg c4])
theorem own_ltle {x a b : Int32} (h : x < a) (hab : a < b) : x < b := by
  rw [Int32.lt_iff_toInt_lt] at *; omega
theorem own_m3 {x v : Int32} (h : (x &&& (3 : Int32)) = v) : v = 0 ∨ v = 1 ∨ v = 2 ∨ v = 3 := by
  have e := c_mask x 3 2 (by decide) (by decide)
  rw [h] at e
  have r : (0 : Int) ≤ v.toInt ∧ v.toInt < 4 := by omega
  have q : v.toInt = 0 ∨ v.toInt = 1 ∨ v.toInt = 2 ∨ v.toInt = 3 := by omega
  rcases q with q | q | q | q
  · exact Or.inl (Int32.toInt_inj.mp q)
  · exact Or.inr (Or.inl (Int32.toInt_inj.mp q))
  · exact Or.inr (Or.inr (Or.inl (Int32.toInt_inj.mp q)))
  · exact Or.inr (Or.inr (Or.inr (Int32.toInt_inj.mp q)))
theorem own_nm {a b : Int32} (ha : a = 0 ∨ a = 1 ∨ a = 2 ∨ a = 3) (hb : b = 0 ∨ b = 1 ∨ b = 2 ∨ b = 3) : (own_by (own_chr a) = own_by (own_chr b)) ↔ a = b := by
  rcases ha with rfl | rfl | rfl | rfl <;> rcases hb with rfl | rfl | rfl | rfl <;> decide
theorem own_self {p10 p15 : Int32} {p162 x4 : Int64} (q : p162 = (if p10 = (0 : Int32) then (0 : Int64) else (if p15 = (0 : Int32) then (0 : Int64) else x4))) : (if p10 = (0 : Int32) then p162 else (if p15 = (0 : Int32) then x4 else p162)) = (if p10 = (0 : Int32) then (0 : Int64) else x4) := by
  subst q
  by_cases h1 : p10 = 0
  · rw [if_pos h1, if_pos h1, if_pos h1]
  · rw [if_neg h1, if_neg h1, if_neg h1]
    by_cases h2 : p15 = 0
    · rw [if_pos h2]
    · rw [if_neg h2, if_neg h2]
theorem own_in1v {x0 bs bl br : Int64} {a b : Int32} (ha : a = 0 ∨ a = 1 ∨ a = 2 ∨ a = 3) (hb : b = 0 ∨ b = 1 ∨ b = 2 ∨ b = 3) : own_in1 x0 bs bl br (own_by (own_chr a)) (own_by (own_chr b)) = (if x0 < own_max bs (if b = a then br else bl) then (1 : Int32) else (0 : Int32)) := by
  unfold own_in1
  by_cases h : b = a
  · rw [if_pos h, if_neg (fun q => own_eqs_ne q ((own_nm ha hb).mpr h.symm))]
  · rw [if_neg h, if_pos ((own_eqs_iff _ _).mpr fun q => h ((own_nm ha hb).mp q).symm)]
theorem own_pn0 : plainName "com/example/antientropy/antientropy/sds/NamedEntriesHeardPinLaw" = true := by first | (simp [plainName, overriddenIn]; done) | decide +kernel
theorem own_ef0 (m : MethodId) (x0 : Int64) (x1 : Int64) (x2 : Int64) (x3 : Int64) (x4 : Int64) (x5 : Int32) : entryFrame m #[(.long x0), (.long x1), (.long x2), (.long x3), (.long x4), (.int x5)] maxLocals = mkF m 0 #[.val (.long x0), .second, .val (.long x1), .second, .val (.long x2), .second, .val (.long x3), .second, .val (.long x4), .second, .val (.int x5), .unset, .unset, .unset, .unset, .unset, .unset, .unset, .unset, .unset, .unset, .unset, .unset, .unset, .unset, .unset, .unset, .unset, .unset] [] := by first | (simp [entryFrame, mkF, argsToLocals, Value.category, maxLocals]; done) | rfl
def Q0 (Z : State) (x0 : Int64) (x1 : Int64) (x2 : Int64) (x3 : Int64) (x4 : Int64) (x5 : Int32) (cs : Int32) (h0 : Heap) (n0 : Nat) (v : Option Value) (h : Heap) (L : List Loc) : Prop := v = some (.int 1) ∧ Fr n0 L
theorem own_law1 (x0 : Int64) (x1 : Int64) (x2 : Int64) (x3 : Int64) (x4 : Int64) (x5 : Int32) (cs : Int32) (v1 : Int32) (v2 : Int32) (v3 : Int32) (v4 : Int32) (v5 : Int32) (p10 : Int32) (p15 : Int32) (r16_kb : ClassId) (r20_kb : ClassId) (r32_kb : ClassId) (r52_kb : ClassId) (p162 : Int64) (p213 : Int64) (v217 : Int32) (p222 : Int64) (p229 : Int32) (p234 : Int32) (hcs : ¬ cs = (0 : Int32)) (hv1 : (x5 &&& (3 : Int32)) = v1) (hv2 : ((x5 >>> ((2 : Int32) &&& 31)) &&& (3 : Int32)) = v2) (hv3 : ((x5 >>> ((4 : Int32) &&& 31)) &&& (3 : Int32)) = v3) (hv4 : ((x5 >>> ((6 : Int32) &&& 31)) &&& (3 : Int32)) = v4) (hv5 : ((x5 >>> ((8 : Int32) &&& 31)) &&& (3 : Int32)) = v5) (qp10 : p10 = (if ((x5 >>> ((10 : Int32) &&& 31)) &&& (1 : Int32)) = (0 : Int32) then (0 : Int32) else (1 : Int32))) (qp15 : p15 = (if ((x5 >>> ((11 : Int32) &&& 31)) &&& (1 : Int32)) = (0 : Int32) then (0 : Int32) else (1 : Int32))) (qp162 : p162 = (if p10 = (0 : Int32) then (0 : Int64) else (if p15 = (0 : Int32) then (0 : Int64) else x4))) (qp213 : p213 = (if p10 = (0 : Int32) then p162 else (if p15 = (0 : Int32) then x4 else p162))) (hv217 : (own_in0 x3 p213 (0 : Int64)) = v217) (qp222 : p222 = (if p10 = (0 : Int32) then (0 : Int64) else x4)) (qp229 : p229 = (if x3 < (own_max p222 (0 : Int64)) then (1 : Int32) else (0 : Int32))) (qp234 : p234 = (if v217 = p229 then (1 : Int32) else (0 : Int32))) (c164 : v1 < (1 : Int32)) : p234 = 1 := by
    have w3 := own_self qp162 (p15 := p15)
    rw [← qp213, ← qp222] at w3
    rw [w3] at hv217
    unfold own_in0 at hv217
    rw [qp234, ← hv217, ← qp229, if_pos rfl]
theorem own_law2 (x0 : Int64) (x1 : Int64) (x2 : Int64) (x3 : Int64) (x4 : Int64) (x5 : Int32) (cs : Int32) (v1 : Int32) (v2 : Int32) (v3 : Int32) (v4 : Int32) (v5 : Int32) (p10 : Int32) (p15 : Int32) (r16_kb : ClassId) (r20_kb : ClassId) (r32_kb : ClassId) (r52_kb : ClassId) (p162 : Int64) (p302 : Int64) (v309 : Int32) (p314 : Int64) (p319 : Int64) (p326 : Int32) (p331 : Int32) (hcs : ¬ cs = (0 : Int32)) (hv1 : (x5 &&& (3 : Int32)) = v1) (hv2 : ((x5 >>> ((2 : Int32) &&& 31)) &&& (3 : Int32)) = v2) (hv3 : ((x5 >>> ((4 : Int32) &&& 31)) &&& (3 : Int32)) = v3) (hv4 : ((x5 >>> ((6 : Int32) &&& 31)) &&& (3 : Int32)) = v4) (hv5 : ((x5 >>> ((8 : Int32) &&& 31)) &&& (3 : Int32)) = v5) (qp10 : p10 = (if ((x5 >>> ((10 : Int32) &&& 31)) &&& (1 : Int32)) = (0 : Int32) then (0 : Int32) else (1 : Int32))) (qp15 : p15 = (if ((x5 >>> ((11 : Int32) &&& 31)) &&& (1 : Int32)) = (0 : Int32) then (0 : Int32) else (1 : Int32))) (qp162 : p162 = (if p10 = (0 : Int32) then (0 : Int64) else (if p15 = (0 : Int32) then (0 : Int64) else x4))) (qp302 : p302 = (if p10 = (0 : Int32) then p162 else (if p15 = (0 : Int32) then x4 else p162))) (hv309 : (own_in1 x3 p302 x0 (0 : Int64) (own_by (own_chr v5)) (own_by (own_chr v2))) = v309) (qp314 : p314 = (if p10 = (0 : Int32) then (0 : Int64) else x4)) (qp319 : p319 = (if v2 = v5 then (0 : Int64) else x0)) (qp326 : p326 = (if x3 < (own_max p314 p319) then (1 : Int32) else (0 : Int32))) (qp331 : p331 = (if v309 = p326 then (1 : Int32) else (0 : Int32))) (c164 : ¬ (v1 < (1 : Int32))) (c256 : v1 < (2 : Int32)) : p331 = 1 := by
    have w3 := own_self qp162 (p15 := p15)
    rw [← qp302, ← qp314] at w3
    rw [w3, own_in1v (own_m3 hv5) (own_m3 hv2), ← qp319, ← qp326] at hv309
    rw [qp331, hv309, if_pos rfl]
theorem own_law3 (x0 : Int64) (x1 : Int64) (x2 : Int64) (x3 : Int64) (x4 : Int64) (x5 : Int32) (cs : Int32) (v1 : Int32) (v2 : Int32) (v3 : Int32) (v4 : Int32) (v5 : Int32) (p10 : Int32) (p15 : Int32) (r16_kb : ClassId) (r20_kb : ClassId) (r32_kb : ClassId) (r52_kb : ClassId) (p162 : Int64) (r332_ls2 : Addr) (r332_lv2 : Addr) (r332_kl2 : ClassId) (r332_rs2 : Int64) (p417 : Int64) (v428 : Int32) (p433 : Int64) (p438 : Int64) (p443 : Int64) (p450 : Int32) (p455 : Int32) (hcs : ¬ cs = (0 : Int32)) (hv1 : (x5 &&& (3 : Int32)) = v1) (hv2 : ((x5 >>> ((2 : Int32) &&& 31)) &&& (3 : Int32)) = v2) (hv3 : ((x5 >>> ((4 : Int32) &&& 31)) &&& (3 : Int32)) = v3) (hv4 : ((x5 >>> ((6 : Int32) &&& 31)) &&& (3 : Int32)) = v4) (hv5 : ((x5 >>> ((8 : Int32) &&& 31)) &&& (3 : Int32)) = v5) (qp10 : p10 = (if ((x5 >>> ((10 : Int32) &&& 31)) &&& (1 : Int32)) = (0 : Int32) then (0 : Int32) else (1 : Int32))) (qp15 : p15 = (if ((x5 >>> ((11 : Int32) &&& 31)) &&& (1 : Int32)) = (0 : Int32) then (0 : Int32) else (1 : Int32))) (qp162 : p162 = (if p10 = (0 : Int32) then (0 : Int64) else (if p15 = (0 : Int32) then (0 : Int64) else x4))) (hq332_2 : r332_rs2 = (if (own_by (own_chr v3)) = (own_by (own_chr v2)) then (0 : Int64) else x0)) (qp417 : p417 = (if p10 = (0 : Int32) then p162 else (if p15 = (0 : Int32) then x4 else p162))) (hv428 : (own_in1 x3 p417 x1 r332_rs2 (own_by (own_chr v5)) (own_by (own_chr v3))) = v428) (qp433 : p433 = (if p10 = (0 : Int32) then (0 : Int64) else x4)) (qp438 : p438 = (if v2 = v5 then (0 : Int64) else x0)) (qp443 : p443 = (if v3 = v5 then p438 else x1)) (qp450 : p450 = (if x3 < (own_max p433 p443) then (1 : Int32) else (0 : Int32))) (qp455 : p455 = (if v428 = p450 then (1 : Int32) else (0 : Int32))) (c164 : ¬ (v1 < (1 : Int32))) (c256 : ¬ (v1 < (2 : Int32))) (c367 : v1 < (3 : Int32)) : p455 = 1 := by
    have w3 := own_self qp162 (p15 := p15)
    rw [← qp417, ← qp433] at w3
    have w4 : (if v3 = v5 then r332_rs2 else x1) = p443 := by
      rw [qp443]
      by_cases h : v3 = v5
      · rw [if_pos h, if_pos h, hq332_2, qp438]
        by_cases k : v2 = v5
        · rw [if_pos k, if_pos ((own_nm (own_m3 hv3) (own_m3 hv2)).mpr (h.trans k.symm))]
        · rw [if_neg k, if_neg fun q => k (((own_nm (own_m3 hv3) (own_m3 hv2)).mp q).symm.trans h)]
      · rw [if_neg h, if_neg h]
    rw [w3, own_in1v (own_m3 hv5) (own_m3 hv3), w4, ← qp450] at hv428
    rw [qp455, hv428, if_pos rfl]
theorem own_law4 (x0 : Int64) (x1 : Int64) (x2 : Int64) (x3 : Int64) (x4 : Int64) (x5 : Int32) (cs : Int32) (v1 : Int32) (v2 : Int32) (v3 : Int32) (v4 : Int32) (v5 : Int32) (p10 : Int32) (p15 : Int32) (r16_kb : ClassId) (r20_kb : ClassId) (r32_kb : ClassId) (r52_kb : ClassId) (p162 : Int64) (r332_ls2 : Addr) (r332_lv2 : Addr) (r332_kl2 : ClassId) (r332_rs2 : Int64) (r456_ls2 : Addr) (r456_lv2 : Addr) (r456_kl2 : ClassId) (r456_rs2 : Int64) (p550 : Int64) (v561 : Int32) (p566 : Int64) (p571 : Int64) (p576 : Int64) (p581 : Int64) (p588 : Int32) (p593 : Int32) (hcs : ¬ cs = (0 : Int32)) (hv1 : (x5 &&& (3 : Int32)) = v1) (hv2 : ((x5 >>> ((2 : Int32) &&& 31)) &&& (3 : Int32)) = v2) (hv3 : ((x5 >>> ((4 : Int32) &&& 31)) &&& (3 : Int32)) = v3) (hv4 : ((x5 >>> ((6 : Int32) &&& 31)) &&& (3 : Int32)) = v4) (hv5 : ((x5 >>> ((8 : Int32) &&& 31)) &&& (3 : Int32)) = v5) (qp10 : p10 = (if ((x5 >>> ((10 : Int32) &&& 31)) &&& (1 : Int32)) = (0 : Int32) then (0 : Int32) else (1 : Int32))) (qp15 : p15 = (if ((x5 >>> ((11 : Int32) &&& 31)) &&& (1 : Int32)) = (0 : Int32) then (0 : Int32) else (1 : Int32))) (qp162 : p162 = (if p10 = (0 : Int32) then (0 : Int64) else (if p15 = (0 : Int32) then (0 : Int64) else x4))) (hq332_2 : r332_rs2 = (if (own_by (own_chr v3)) = (own_by (own_chr v2)) then (0 : Int64) else x0)) (hq456_2 : r456_rs2 = (if (own_by (own_chr v4)) = (own_by (own_chr v3)) then r332_rs2 else x1)) (qp550 : p550 = (if p10 = (0 : Int32) then p162 else (if p15 = (0 : Int32) then x4 else p162))) (hv561 : (own_in1 x3 p550 x2 r456_rs2 (own_by (own_chr v5)) (own_by (own_chr v4))) = v561) (qp566 : p566 = (if p10 = (0 : Int32) then (0 : Int64) else x4)) (qp571 : p571 = (if v2 = v5 then (0 : Int64) else x0)) (qp576 : p576 = (if v3 = v5 then p571 else x1)) (qp581 : p581 = (if v4 = v5 then p576 else x2)) (qp588 : p588 = (if x3 < (own_max p566 p581) then (1 : Int32) else (0 : Int32))) (qp593 : p593 = (if v561 = p588 then (1 : Int32) else (0 : Int32))) (c164 : ¬ (v1 < (1 : Int32))) (c256 : ¬ (v1 < (2 : Int32))) (c367 : ¬ (v1 < (3 : Int32))) : p593 = 1 := by
    have w3 := own_self qp162 (p15 := p15)
    rw [← qp550, ← qp566] at w3
    have w5 : v3 = v5 → r332_rs2 = p571 := by
      intro h
      rw [hq332_2, qp571]
      by_cases k : v2 = v5
      · rw [if_pos k, if_pos ((own_nm (own_m3 hv3) (own_m3 hv2)).mpr (h.trans k.symm))]
      · rw [if_neg k, if_neg fun q => k (((own_nm (own_m3 hv3) (own_m3 hv2)).mp q).symm.trans h)]
    have w4 : (if v4 = v5 then r456_rs2 else x2) = p581 := by
      rw [qp581]
      by_cases h : v4 = v5
      · rw [if_pos h, if_pos h, hq456_2, qp576]
        by_cases k : v3 = v5
        · rw [if_pos k, if_pos ((own_nm (own_m3 hv4) (own_m3 hv3)).mpr (h.trans k.symm)), w5 k]
        · rw [if_neg k, if_neg fun q => k (((own_nm (own_m3 hv4) (own_m3 hv3)).mp q).symm.trans h)]
      · rw [if_neg h, if_neg h]
    rw [w3, own_in1v (own_m3 hv5) (own_m3 hv4), w4, ← qp588] at hv561
    rw [qp593, hv561, if_pos rfl]
set_option maxRecDepth 65536 in
set_option maxHeartbeats 4000000 in
theorem rm0 (l : Launch) (Z : State) (a0 : Array Value) (hw : ∀ d ∈ tables_1, d.before a0 Z = true) (ws : List Jvm.Cond) (x0 : Int64) (x1 : Int64) (x2 : Int64) (x3 : Int64) (x4 : Int64) (x5 : Int32) (cs : Int32) (h0 : Heap) (n0 : Nat) (Z0 : n0 ≤ h0.size) (F0 : Sta Z h0 "java/lang/String" "COMPACT_STRINGS" "Z" (.int cs)) (hcs : ¬ cs = (0 : Int32)) :
    MetFree l x (head1 (Jvm.Cond.code x code maxLocals ret :: ws) room_1) (fun aW U => aW = #[(.long x0), (.long x1), (.long x2), (.long x3), (.long x4), (.int x5)] ∧ Z.Warmed39 U.vm ∧ U.heap = h0) (fun _ _ _ _ _ => True) (fun _ U o U' => ∃ v L, o = .returned v ∧ Q0 Z x0 x1 x2 x3 x4 x5 cs h0 n0 v U'.heap L ∧ FrameEnd U o U' L 40 128) := by
  refine MetFree.of_bodySF (plainFor_of_name own_pn0) hisR ?_
  intro p e s m args below meth c s₁ Bd hml0 hP hK
  obtain ⟨rfl, hZ, hh⟩ := hP
  have hx := Bd.exec
  have hby := Bd.bytes
  have hml : c.maxLocals = 29 := hml0
  have hown : s.vm.findClass "com/example/antientropy/antientropy/sds/NamedEntriesHeardPinLaw" = some m.cls := findClass_of_methodNamed Bd.named
  have hnm := (name_of_methodNamed Bd.named Bd.method).1
  have X0 : Stand p l e room_1 s m #[(.long x0), (.long x1), (.long x2), (.long x3), (.long x4), (.int x5)] below meth c s₁ [] 0 0 := Stand.of_body Bd
  have e0 : s₁.heap = h0 := by rw [← hh, Bd.state]; rfl
  have N0 := Fr.nil n0
  obtain ⟨Pq, hPq⟩ : ∃ P, P = own_P s below (fun v h L => Q0 Z x0 x1 x2 x3 x4 x5 cs h0 n0 v h L) 40 128 := ⟨_, rfl⟩
  suffices hgo : own_Go p.tables e below Pq s₁ (mkF m 0 #[.val (.long x0), .second, .val (.long x1), .second, .val (.long x2), .second, .val (.long x3), .second, .val (.long x4), .second, .val (.int x5), .unset, .unset, .unset, .unset, .unset, .unset, .unset, .unset, .unset, .unset, .unset, .unset, .unset, .unset, .unset, .unset, .unset, .unset] []) by
    subst hPq
    obtain ⟨t, k1, k2, o, k3, k4⟩ := hgo
    exact ⟨t, o, castTop (own_ef0 m x0 x1 x2 x3 x4 x5) k1, k2, k3, k4⟩
  show own_Go _ _ _ _ s₁ (mkF m 0 #[.val (.long x0), .second, .val (.long x1), .second, .val (.long x2), .second, .val (.long x3), .second, .val (.long x4), .second, .val (.int x5), .unset, .unset, .unset, .unset, .unset, .unset, .unset, .unset, .unset, .unset, .unset, .unset, .unset, .unset, .unset, .unset, .unset, .unset] [])
  refine own_st (fun t k => XS.iload X0.here hx rfl (hb hby at_0) rfl k) ?_
  show own_Go _ _ _ _ s₁ (mkF m 2 _ [(.int x5)])
  refine own_st (fun t k => XS.iconst X0.here hx rfl (hb hby at_2) k) ?_
  show own_Go _ _ _ _ s₁ (mkF m 3 _ [(.int (3 : Int32)), (.int x5)])
  refine own_st (fun t k => XS.iand X0.here hx rfl (hb hby at_3) rfl k) ?_
  show own_Go _ _ _ _ s₁ (mkF m 4 _ [(.int (x5 &&& (3 : Int32)))])
  generalize hv1 : (x5 &&& (3 : Int32)) = v1
  refine own_st (fun t k => XS.istore X0.here hx rfl (hb hby at_4) rfl (l' := #[.val (.long x0), .second, .val (.long x1), .second, .val (.long x2), .second, .val (.long x3), .second, .val (.long x4), .second, .val (.int x5), .val (.int v1), .unset, .unset, .unset, .unset, .unset, .unset, .unset, .unset, .unset, .unset, .unset, .unset, .unset, .unset, .unset, .unset, .unset]) rfl k) ?_
  show own_Go _ _ _ _ s₁ (mkF m 6 #[.val (.long x0), .second, .val (.long x1), .second, .val (.long x2), .second, .val (.long x3), .second, .val (.long x4), .second, .val (.int x5), .val (.int v1), .unset, .unset, .unset, .unset, .unset, .unset, .unset, .unset, .unset, .unset, .unset, .unset, .unset, .unset, .unset, .unset, .unset] [])
  refine own_st (fun t k => XS.iload X0.here hx rfl (hb hby at_6) rfl k) ?_
  show own_Go _ _ _ _ s₁ (mkF m 8 _ [(.int x5)])
  refine own_st (fun t k => XS.iconst X0.here hx rfl (hb hby at_8) k) ?_
  show own_Go _ _ _ _ s₁ (mkF m 9 _ [(.int (2 : Int32)), (.int x5)])
  refine own_st (fun t k => XS.ishr X0.here hx rfl (hb hby at_9) rfl k) ?_
  show own_Go _ _ _ _ s₁ (mkF m 10 _ [(.int (x5 >>> ((2 : Int32) &&& 31)))])
  refine own_st (fun t k => XS.iconst X0.here hx rfl (hb hby at_10) k) ?_
  show own_Go _ _ _ _ s₁ (mkF m 11 _ [(.int (3 : Int32)), (.int (x5 >>> ((2 : Int32) &&& 31)))])
  refine own_st (fun t k => XS.iand X0.here hx rfl (hb hby at_11) rfl k) ?_
  show own_Go _ _ _ _ s₁ (mkF m 12 _ [(.int ((x5 >>> ((2 : Int32) &&& 31)) &&& (3 : Int32)))])
  generalize hv2 : ((x5 >>> ((2 : Int32) &&& 31)) &&& (3 : Int32)) = v2
  refine own_st (fun t k => XS.istore X0.here hx rfl (hb hby at_12) rfl (l' := #[.val (.long x0), .second, .val (.long x1), .second, .val (.long x2), .second, .val (.long x3), .second, .val (.long x4), .second, .val (.int x5), .val (.int v1), .val (.int v2), .unset, .unset, .unset, .unset, .unset, .unset, .unset, .unset, .unset, .unset, .unset, .unset, .unset, .unset, .unset, .unset]) rfl k) ?_
  show own_Go _ _ _ _ s₁ (mkF m 14 #[.val (.long x0), .second, .val (.long x1), .second, .val (.long x2), .second, .val (.long x3), .second, .val (.long x4), .second, .val (.int x5), .val (.int v1), .val (.int v2), .unset, .unset, .unset, .unset, .unset, .unset, .unset, .unset, .unset, .unset, .unset, .unset, .unset, .unset, .unset, .unset] [])
  refine own_st (fun t k => XS.iload X0.here hx rfl (hb hby at_14) rfl k) ?_
  show own_Go _ _ _ _ s₁ (mkF m 16 _ [(.int x5)])
  refine own_st (fun t k => XS.iconst X0.here hx rfl (hb hby at_16) k) ?_
  show own_Go _ _ _ _ s₁ (mkF m 17 _ [(.int (4 : Int32)), (.int x5)])
  refine own_st (fun t k => XS.ishr X0.here hx rfl (hb hby at_17) rfl k) ?_
  show own_Go _ _ _ _ s₁ (mkF m 18 _ [(.int (x5 >>> ((4 : Int32) &&& 31)))])
  refine own_st (fun t k => XS.iconst X0.here hx rfl (hb hby at_18) k) ?_
  show own_Go _ _ _ _ s₁ (mkF m 19 _ [(.int (3 : Int32)), (.int (x5 >>> ((4 : Int32) &&& 31)))])
  refine own_st (fun t k => XS.iand X0.here hx rfl (hb hby at_19) rfl k) ?_
  show own_Go _ _ _ _ s₁ (mkF m 20 _ [(.int ((x5 >>> ((4 : Int32) &&& 31)) &&& (3 : Int32)))])
  generalize hv3 : ((x5 >>> ((4 : Int32) &&& 31)) &&& (3 : Int32)) = v3
  refine own_st (fun t k => XS.istore X0.here hx rfl (hb hby at_20) rfl (l' := #[.val (.long x0), .second, .val (.long x1), .second, .val (.long x2), .second, .val (.long x3), .second, .val (.long x4), .second, .val (.int x5), .val (.int v1), .val (.int v2), .val (.int v3), .unset, .unset, .unset, .unset, .unset, .unset, .unset, .unset, .unset, .unset, .unset, .unset, .unset, .unset, .unset]) rfl k) ?_
  show own_Go _ _ _ _ s₁ (mkF m 22 #[.val (.long x0), .second, .val (.long x1), .second, .val (.long x2), .second, .val (.long x3), .second, .val (.long x4), .second, .val (.int x5), .val (.int v1), .val (.int v2), .val (.int v3), .unset, .unset, .unset, .unset, .unset, .unset, .unset, .unset, .unset, .unset, .unset, .unset, .unset, .unset, .unset] [])
  refine own_st (fun t k => XS.iload X0.here hx rfl (hb hby at_22) rfl k) ?_
  show own_Go _ _ _ _ s₁ (mkF m 24 _ [(.int x5)])
  refine own_st (fun t k => XS.bipush X0.here hx rfl (hb hby at_24) k) ?_
  show own_Go _ _ _ _ s₁ (mkF m 26 _ [(.int (6 : Int32)), (.int x5)])
  refine own_st (fun t k => XS.ishr X0.here hx rfl (hb hby at_26) rfl k) ?_
  show own_Go _ _ _ _ s₁ (mkF m 27 _ [(.int (x5 >>> ((6 : Int32) &&& 31)))])
  refine own_st (fun t k => XS.iconst X0.here hx rfl (hb hby at_27) k) ?_
  show own_Go _ _ _ _ s₁ (mkF m 28 _ [(.int (3 : Int32)), (.int (x5 >>> ((6 : Int32) &&& 31)))])
  refine own_st (fun t k => XS.iand X0.here hx rfl (hb hby at_28) rfl k) ?_
  show own_Go _ _ _ _ s₁ (mkF m 29 _ [(.int ((x5 >>> ((6 : Int32) &&& 31)) &&& (3 : Int32)))])
  generalize hv4 : ((x5 >>> ((6 : Int32) &&& 31)) &&& (3 : Int32)) = v4
  refine own_st (fun t k => XS.istore X0.here hx rfl (hb hby at_29) rfl (l' := #[.val (.long x0), .second, .val (.long x1), .second, .val (.long x2), .second, .val (.long x3), .second, .val (.long x4), .second, .val (.int x5), .val (.int v1), .val (.int v2), .val (.int v3), .val (.int v4), .unset, .unset, .unset, .unset, .unset, .unset, .unset, .unset, .unset, .unset, .unset, .unset, .unset, .unset]) rfl k) ?_
  show own_Go _ _ _ _ s₁ (mkF m 31 #[.val (.long x0), .second, .val (.long x1), .second, .val (.long x2), .second, .val (.long x3), .second, .val (.long x4), .second, .val (.int x5), .val (.int v1), .val (.int v2), .val (.int v3), .val (.int v4), .unset, .unset, .unset, .unset, .unset, .unset, .unset, .unset, .unset, .unset, .unset, .unset, .unset, .unset] [])
  refine own_st (fun t k => XS.iload X0.here hx rfl (hb hby at_31) rfl k) ?_
  show own_Go _ _ _ _ s₁ (mkF m 33 _ [(.int x5)])
  refine own_st (fun t k => XS.bipush X0.here hx rfl (hb hby at_33) k) ?_
  show own_Go _ _ _ _ s₁ (mkF m 35 _ [(.int (8 : Int32)), (.int x5)])
  refine own_st (fun t k => XS.ishr X0.here hx rfl (hb hby at_35) rfl k) ?_
  show own_Go _ _ _ _ s₁ (mkF m 36 _ [(.int (x5 >>> ((8 : Int32) &&& 31)))])
  refine own_st (fun t k => XS.iconst X0.here hx rfl (hb hby at_36) k) ?_
  show own_Go _ _ _ _ s₁ (mkF m 37 _ [(.int (3 : Int32)), (.int (x5 >>> ((8 : Int32) &&& 31)))])
  refine own_st (fun t k => XS.iand X0.here hx rfl (hb hby at_37) rfl k) ?_
  show own_Go _ _ _ _ s₁ (mkF m 38 _ [(.int ((x5 >>> ((8 : Int32) &&& 31)) &&& (3 : Int32)))])
  generalize hv5 : ((x5 >>> ((8 : Int32) &&& 31)) &&& (3 : Int32)) = v5
  refine own_st (fun t k => XS.istore X0.here hx rfl (hb hby at_38) rfl (l' := #[.val (.long x0), .second, .val (.long x1), .second, .val (.long x2), .second, .val (.long x3), .second, .val (.long x4), .second, .val (.int x5), .val (.int v1), .val (.int v2), .val (.int v3), .val (.int v4), .val (.int v5), .unset, .unset, .unset, .unset, .unset, .unset, .unset, .unset, .unset, .unset, .unset, .unset, .unset]) rfl k) ?_
  show own_Go _ _ _ _ s₁ (mkF m 40 #[.val (.long x0), .second, .val (.long x1), .second, .val (.long x2), .second, .val (.long x3), .second, .val (.long x4), .second, .val (.int x5), .val (.int v1), .val (.int v2), .val (.int v3), .val (.int v4), .val (.int v5), .unset, .unset, .unset, .unset, .unset, .unset, .unset, .unset, .unset, .unset, .unset, .unset, .unset] [])
  refine own_st (fun t k => XS.iload X0.here hx rfl (hb hby at_40) rfl k) ?_
  show own_Go _ _ _ _ s₁ (mkF m 42 _ [(.int x5)])
  refine own_st (fun t k => XS.bipush X0.here hx rfl (hb hby at_42) k) ?_
  show own_Go _ _ _ _ s₁ (mkF m 44 _ [(.int (10 : Int32)), (.int x5)])
  refine own_st (fun t k => XS.ishr X0.here hx rfl (hb hby at_44) rfl k) ?_
  show own_Go _ _ _ _ s₁ (mkF m 45 _ [(.int (x5 >>> ((10 : Int32) &&& 31)))])
  refine own_st (fun t k => XS.iconst X0.here hx rfl (hb hby at_45) k) ?_
  show own_Go _ _ _ _ s₁ (mkF m 46 _ [(.int (1 : Int32)), (.int (x5 >>> ((10 : Int32) &&& 31)))])
  refine own_st (fun t k => XS.iand X0.here hx rfl (hb hby at_46) rfl k) ?_
  show own_Go _ _ _ _ s₁ (mkF m 47 _ [(.int ((x5 >>> ((10 : Int32) &&& 31)) &&& (1 : Int32)))])
  have J9 : ∀ (Tj9 : State) (Lj9 : List Loc) (p10 : Int32), Stand p l e room_1 s m #[(.long x0), (.long x1), (.long x2), (.long x3), (.long x4), (.int x5)] below meth c Tj9 Lj9 0 0 → Tj9.heap = h0 → Fr n0 Lj9 → p10 = (if ((x5 >>> ((10 : Int32) &&& 31)) &&& (1 : Int32)) = (0 : Int32) then (0 : Int32) else (1 : Int32)) → own_Go p.tables e below Pq Tj9 (mkF m 55 #[.val (.long x0), .second, .val (.long x1), .second, .val (.long x2), .second, .val (.long x3), .second, .val (.long x4), .second, .val (.int x5), .val (.int v1), .val (.int v2), .val (.int v3), .val (.int v4), .val (.int v5), .unset, .unset, .unset, .unset, .unset, .unset, .unset, .unset, .unset, .unset, .unset, .unset, .unset] [(.int p10)]) := by
    intro Tj9 Lj9 p10 Xj9 ej9 Nj9 qp10
    show own_Go _ _ _ _ Tj9 (mkF m 55 _ [(.int p10)])
    refine own_st (fun t k => XS.istore Xj9.here hx rfl (hb hby at_55) rfl (l' := #[.val (.long x0), .second, .val (.long x1), .second, .val (.long x2), .second, .val (.long x3), .second, .val (.long x4), .second, .val (.int x5), .val (.int v1), .val (.int v2), .val (.int v3), .val (.int v4), .val (.int v5), .val (.int p10), .unset, .unset, .unset, .unset, .unset, .unset, .unset, .unset, .unset, .unset, .unset, .unset]) rfl k) ?_
    show own_Go _ _ _ _ Tj9 (mkF m 57 #[.val (.long x0), .second, .val (.long x1), .second, .val (.long x2), .second, .val (.long x3), .second, .val (.long x4), .second, .val (.int x5), .val (.int v1), .val (.int v2), .val (.int v3), .val (.int v4), .val (.int v5), .val (.int p10), .unset, .unset, .unset, .unset, .unset, .unset, .unset, .unset, .unset, .unset, .unset, .unset] [])
    refine own_st (fun t k => XS.iload Xj9.here hx rfl (hb hby at_57) rfl k) ?_
    show own_Go _ _ _ _ Tj9 (mkF m 59 _ [(.int x5)])
    refine own_st (fun t k => XS.bipush Xj9.here hx rfl (hb hby at_59) k) ?_
    show own_Go _ _ _ _ Tj9 (mkF m 61 _ [(.int (11 : Int32)), (.int x5)])
    refine own_st (fun t k => XS.ishr Xj9.here hx rfl (hb hby at_61) rfl k) ?_
    show own_Go _ _ _ _ Tj9 (mkF m 62 _ [(.int (x5 >>> ((11 : Int32) &&& 31)))])
    refine own_st (fun t k => XS.iconst Xj9.here hx rfl (hb hby at_62) k) ?_
    show own_Go _ _ _ _ Tj9 (mkF m 63 _ [(.int (1 : Int32)), (.int (x5 >>> ((11 : Int32) &&& 31)))])
    refine own_st (fun t k => XS.iand Xj9.here hx rfl (hb hby at_63) rfl k) ?_
    show own_Go _ _ _ _ Tj9 (mkF m 64 _ [(.int ((x5 >>> ((11 : Int32) &&& 31)) &&& (1 : Int32)))])
    have J14 : ∀ (Tj14 : State) (Lj14 : List Loc) (p15 : Int32), Stand p l e room_1 s m #[(.long x0), (.long x1), (.long x2), (.long x3), (.long x4), (.int x5)] below meth c Tj14 Lj14 0 0 → Tj14.heap = h0 → Fr n0 Lj14 → p15 = (if ((x5 >>> ((11 : Int32) &&& 31)) &&& (1 : Int32)) = (0 : Int32) then (0 : Int32) else (1 : Int32)) → own_Go p.tables e below Pq Tj14 (mkF m 72 #[.val (.long x0), .second, .val (.long x1), .second, .val (.long x2), .second, .val (.long x3), .second, .val (.long x4), .second, .val (.int x5), .val (.int v1), .val (.int v2), .val (.int v3), .val (.int v4), .val (.int v5), .val (.int p10), .unset, .unset, .unset, .unset, .unset, .unset, .unset, .unset, .unset, .unset, .unset, .unset] [(.int p15)]) := by
      intro Tj14 Lj14 p15 Xj14 ej14 Nj14 qp15
      show own_Go _ _ _ _ Tj14 (mkF m 72 _ [(.int p15)])
      refine own_st (fun t k => XS.istore Xj14.here hx rfl (hb hby at_72) rfl (l' := #[.val (.long x0), .second, .val (.long x1), .second, .val (.long x2), .second, .val (.long x3), .second, .val (.long x4), .second, .val (.int x5), .val (.int v1), .val (.int v2), .val (.int v3), .val (.int v4), .val (.int v5), .val (.int p10), .val (.int p15), .unset, .unset, .unset, .unset, .unset, .unset, .unset, .unset, .unset, .unset, .unset]) rfl k) ?_
      show own_Go _ _ _ _ Tj14 (mkF m 74 #[.val (.long x0), .second, .val (.long x1), .second, .val (.long x2), .second, .val (.long x3), .second, .val (.long x4), .second, .val (.int x5), .val (.int v1), .val (.int v2), .val (.int v3), .val (.int v4), .val (.int v5), .val (.int p10), .val (.int p15), .unset, .unset, .unset, .unset, .unset, .unset, .unset, .unset, .unset, .unset, .unset] [])
      refine own_st (fun t k => XS.iload Xj14.here hx rfl (hb hby at_74) rfl k) ?_
      show own_Go _ _ _ _ Tj14 (mkF m 76 _ [(.int v2)])
      obtain ⟨_, _, ⟨T16, L16, k16, n16⟩, -, X16, ⟨Lc16, hQ16, l16, y16, z16⟩, st16⟩ := Jvm.LawKit.callS Xj14 hx (y := (⟨"com/example/antientropy/antientropy/sds/NamedEntriesHeardPinLaw", "name", "(I)Ljava/lang/String;"⟩ : MethodName)) hown (mvT hZ (hw _ (List.mem_of_getElem? (i := 0) rfl))) (mvT hZ (hw _ (List.mem_of_getElem? (i := 1) rfl))) (mvT hZ (hw _ (List.mem_of_getElem? (i := 2) rfl))) (mvT hZ (hw _ (List.mem_of_getElem? (i := 3) rfl))) (by decide) (backOf (W := 0) (rm6 l Z a0 hw [] v2 cs h0 n0 Z0 F0 hcs) hZ (hw _ (List.mem_of_getElem? (i := 3) rfl)) (hw _ (List.mem_of_getElem? (i := 2) rfl)) (by decide) (by decide)) (g := (mkF m 76 #[.val (.long x0), .second, .val (.long x1), .second, .val (.long x2), .second, .val (.long x3), .second, .val (.long x4), .second, .val (.int x5), .val (.int v1), .val (.int v2), .val (.int v3), .val (.int v4), .val (.int v5), .val (.int p10), .val (.int p15), .unset, .unset, .unset, .unset, .unset, .unset, .unset, .unset, .unset, .unset, .unset] [(.int v2)])) rfl (by rw [hml]; rfl) (argsL := [(.int v2)]) (rest := []) (lenOf own_pd__I_Ljava_lang_String_ rfl) rfl (by show 2 * 0 + _ ≤ _; exact Nat.le_of_eq rfl) (hb hby at_76) (fun _ _ => ⟨rfl, ej14, (by decide : 0 + 3 ≤ _), (by decide : 0 + 6 ≤ _)⟩)
      dsimp only [Pt.U, Pt.locs, Pt.cells, Pt.slots] at X16 l16 y16 z16 st16 hQ16
      subst l16 y16 z16
      obtain ⟨r16_kb, b16_so, b16_bb, rfl, NQ16, K16, gx_b16_so, sz_b16_so, gx_b16_bb, sz_b16_bb, fq16_0, fq16_1, fq16_2, fq16_3, hq16_0⟩ := hQ16
      have N17 := Fr.app Nj14 NQ16
      refine own_st st16 ?_
      have f18 := own_staK F0 K16 all0
      have Z19 : n0 ≤ T16.heap.size := Nat.le_trans Z0 K16.1
      show own_Go _ _ _ _ T16 (mkF m 79 _ [(.ref b16_so)])
      refine own_st (fun t k => XS.astore X16.here hx rfl (hb hby at_79) rfl rfl (l' := #[.val (.long x0), .second, .val (.long x1), .second, .val (.long x2), .second, .val (.long x3), .second, .val (.long x4), .second, .val (.int x5), .val (.int v1), .val (.int v2), .val (.int v3), .val (.int v4), .val (.int v5), .val (.int p10), .val (.int p15), .val (.ref b16_so), .unset, .unset, .unset, .unset, .unset, .unset, .unset, .unset, .unset, .unset]) rfl k) ?_
      show own_Go _ _ _ _ T16 (mkF m 81 #[.val (.long x0), .second, .val (.long x1), .second, .val (.long x2), .second, .val (.long x3), .second, .val (.long x4), .second, .val (.int x5), .val (.int v1), .val (.int v2), .val (.int v3), .val (.int v4), .val (.int v5), .val (.int p10), .val (.int p15), .val (.ref b16_so), .unset, .unset, .unset, .unset, .unset, .unset, .unset, .unset, .unset, .unset] [])
      refine own_st (fun t k => XS.iload X16.here hx rfl (hb hby at_81) rfl k) ?_
      show own_Go _ _ _ _ T16 (mkF m 83 _ [(.int v3)])
      obtain ⟨_, _, ⟨T20, L20, k20, n20⟩, -, X20, ⟨Lc20, hQ20, l20, y20, z20⟩, st20⟩ := Jvm.LawKit.callS X16 hx (y := (⟨"com/example/antientropy/antientropy/sds/NamedEntriesHeardPinLaw", "name", "(I)Ljava/lang/String;"⟩ : MethodName)) hown (mvT hZ (hw _ (List.mem_of_getElem? (i := 0) rfl))) (mvT hZ (hw _ (List.mem_of_getElem? (i := 1) rfl))) (mvT hZ (hw _ (List.mem_of_getElem? (i := 2) rfl))) (mvT hZ (hw _ (List.mem_of_getElem? (i := 3) rfl))) (by decide) (backOf (W := 0) (rm6 l Z a0 hw [] v3 cs T16.heap n0 Z19 f18 hcs) hZ (hw _ (List.mem_of_getElem? (i := 3) rfl)) (hw _ (List.mem_of_getElem? (i := 2) rfl)) (by decide) (by decide)) (g := (mkF m 83 #[.val (.long x0), .second, .val (.long x1), .second, .val (.long x2), .second, .val (.long x3), .second, .val (.long x4), .second, .val (.int x5), .val (.int v1), .val (.int v2), .val (.int v3), .val (.int v4), .val (.int v5), .val (.int p10), .val (.int p15), .val (.ref b16_so), .unset, .unset, .unset, .unset, .unset, .unset, .unset, .unset, .unset, .unset] [(.int v3)])) rfl (by rw [hml]; rfl) (argsL := [(.int v3)]) (rest := []) (lenOf own_pd__I_Ljava_lang_String_ rfl) rfl (by show 2 * 0 + _ ≤ _; exact Nat.le_of_eq rfl) (hb hby at_83) (fun _ _ => ⟨rfl, rfl, (by decide : 3 + 3 ≤ _), (by decide : 6 + 6 ≤ _)⟩)
      dsimp only [Pt.U, Pt.locs, Pt.cells, Pt.slots] at X20 l20 y20 z20 st20 hQ20
      subst l20 y20 z20
      obtain ⟨r20_kb, b20_so, b20_bb, rfl, NQ20, K20, gx_b20_so, sz_b20_so, gx_b20_bb, sz_b20_bb, fq20_0, fq20_1, fq20_2, fq20_3, hq20_0⟩ := hQ20
      have N21 := Fr.app N17 NQ20
      refine own_st st20 ?_
      have f22 := own_staK f18 K20 all0
      have f23 := fq16_0.keep K20
      have f24 := fq16_1.keep K20 nin0
      have f25 := fq16_2.keep K20 nin0
      have f26 := fq16_3.keep K20 nin0
      have Z27 : n0 ≤ T20.heap.size := Nat.le_trans Z19 K20.1
      have ne28 : b16_so ≠ b20_so := Nat.ne_of_lt (Nat.lt_of_lt_of_le fq16_0.lt sz_b20_so)
      have ne29 : b16_bb ≠ b20_so := Nat.ne_of_lt (Nat.lt_of_lt_of_le fq16_3.lt sz_b20_so)
      have ne30 : b16_so ≠ b20_bb := Nat.ne_of_lt (Nat.lt_of_lt_of_le fq16_0.lt sz_b20_bb)
      have ne31 : b16_bb ≠ b20_bb := Nat.ne_of_lt (Nat.lt_of_lt_of_le fq16_3.lt sz_b20_bb)
      show own_Go _ _ _ _ T20 (mkF m 86 _ [(.ref b20_so)])
      refine own_st (fun t k => XS.astore X20.here hx rfl (hb hby at_86) rfl rfl (l' := #[.val (.long x0), .second, .val (.long x1), .second, .val (.long x2), .second, .val (.long x3), .second, .val (.long x4), .second, .val (.int x5), .val (.int v1), .val (.int v2), .val (.int v3), .val (.int v4), .val (.int v5), .val (.int p10), .val (.int p15), .val (.ref b16_so), .val (.ref b20_so), .unset, .unset, .unset, .unset, .unset, .unset, .unset, .unset, .unset]) rfl k) ?_
      show own_Go _ _ _ _ T20 (mkF m 88 #[.val (.long x0), .second, .val (.long x1), .second, .val (.long x2), .second, .val (.long x3), .second, .val (.long x4), .second, .val (.int x5), .val (.int v1), .val (.int v2), .val (.int v3), .val (.int v4), .val (.int v5), .val (.int p10), .val (.int p15), .val (.ref b16_so), .val (.ref b20_so), .unset, .unset, .unset, .unset, .unset, .unset, .unset, .unset, .unset] [])
      refine own_st (fun t k => XS.iload X20.here hx rfl (hb hby at_88) rfl k) ?_
      show own_Go _ _ _ _ T20 (mkF m 90 _ [(.int v4)])
      obtain ⟨_, _, ⟨T32, L32, k32, n32⟩, -, X32, ⟨Lc32, hQ32, l32, y32, z32⟩, st32⟩ := Jvm.LawKit.callS X20 hx (y := (⟨"com/example/antientropy/antientropy/sds/NamedEntriesHeardPinLaw", "name", "(I)Ljava/lang/String;"⟩ : MethodName)) hown (mvT hZ (hw _ (List.mem_of_getElem? (i := 0) rfl))) (mvT hZ (hw _ (List.mem_of_getElem? (i := 1) rfl))) (mvT hZ (hw _ (List.mem_of_getElem? (i := 2) rfl))) (mvT hZ (hw _ (List.mem_of_getElem? (i := 3) rfl))) (by decide) (backOf (W := 0) (rm6 l Z a0 hw [] v4 cs T20.heap n0 Z27 f22 hcs) hZ (hw _ (List.mem_of_getElem? (i := 3) rfl)) (hw _ (List.mem_of_getElem? (i := 2) rfl)) (by decide) (by decide)) (g := (mkF m 90 #[.val (.long x0), .second, .val (.long x1), .second, .val (.long x2), .second, .val (.long x3), .second, .val (.long x4), .second, .val (.int x5), .val (.int v1), .val (.int v2), .val (.int v3), .val (.int v4), .val (.int v5), .val (.int p10), .val (.int p15), .val (.ref b16_so), .val (.ref b20_so), .unset, .unset, .unset, .unset, .unset, .unset, .unset, .unset, .unset] [(.int v4)])) rfl (by rw [hml]; rfl) (argsL := [(.int v4)]) (rest := []) (lenOf own_pd__I_Ljava_lang_String_ rfl) rfl (by show 2 * 0 + _ ≤ _; exact Nat.le_of_eq rfl) (hb hby at_90) (fun _ _ => ⟨rfl, rfl, (by decide : 6 + 3 ≤ _), (by decide : 12 + 6 ≤ _)⟩)
      dsimp only [Pt.U, Pt.locs, Pt.cells, Pt.slots] at X32 l32 y32 z32 st32 hQ32
      subst l32 y32 z32
      obtain ⟨r32_kb, b32_so, b32_bb, rfl, NQ32, K32, gx_b32_so, sz_b32_so, gx_b32_bb, sz_b32_bb, fq32_0, fq32_1, fq32_2, fq32_3, hq32_0⟩ := hQ32
      have N33 := Fr.app N21 NQ32
      refine own_st st32 ?_
      have f34 := own_staK f22 K32 all0
      have f35 := f23.keep K32
      have f36 := f24.keep K32 nin0
      have f37 := f25.keep K32 nin0
      have f38 := f26.keep K32 nin0
      have f39 := fq20_0.keep K32
      have f40 := fq20_1.keep K32 nin0
      have f41 := fq20_2.keep K32 nin0
      have f42 := fq20_3.keep K32 nin0
      have Z43 : n0 ≤ T32.heap.size := Nat.le_trans Z27 K32.1
      have ne44 : b16_so ≠ b32_so := Nat.ne_of_lt (Nat.lt_of_lt_of_le f23.lt sz_b32_so)
      have ne45 : b16_bb ≠ b32_so := Nat.ne_of_lt (Nat.lt_of_lt_of_le f26.lt sz_b32_so)
      have ne46 : b20_so ≠ b32_so := Nat.ne_of_lt (Nat.lt_of_lt_of_le fq20_0.lt sz_b32_so)
      have ne47 : b20_bb ≠ b32_so := Nat.ne_of_lt (Nat.lt_of_lt_of_le fq20_3.lt sz_b32_so)
      have ne48 : b16_so ≠ b32_bb := Nat.ne_of_lt (Nat.lt_of_lt_of_le f23.lt sz_b32_bb)
      have ne49 : b16_bb ≠ b32_bb := Nat.ne_of_lt (Nat.lt_of_lt_of_le f26.lt sz_b32_bb)
      have ne50 : b20_so ≠ b32_bb := Nat.ne_of_lt (Nat.lt_of_lt_of_le fq20_0.lt sz_b32_bb)
      have ne51 : b20_bb ≠ b32_bb := Nat.ne_of_lt (Nat.lt_of_lt_of_le fq20_3.lt sz_b32_bb)
      show own_Go _ _ _ _ T32 (mkF m 93 _ [(.ref b32_so)])
      refine own_st (fun t k => XS.astore X32.here hx rfl (hb hby at_93) rfl rfl (l' := #[.val (.long x0), .second, .val (.long x1), .second, .val (.long x2), .second, .val (.long x3), .second, .val (.long x4), .second, .val (.int x5), .val (.int v1), .val (.int v2), .val (.int v3), .val (.int v4), .val (.int v5), .val (.int p10), .val (.int p15), .val (.ref b16_so), .val (.ref b20_so), .val (.ref b32_so), .unset, .unset, .unset, .unset, .unset, .unset, .unset, .unset]) rfl k) ?_
      show own_Go _ _ _ _ T32 (mkF m 95 #[.val (.long x0), .second, .val (.long x1), .second, .val (.long x2), .second, .val (.long x3), .second, .val (.long x4), .second, .val (.int x5), .val (.int v1), .val (.int v2), .val (.int v3), .val (.int v4), .val (.int v5), .val (.int p10), .val (.int p15), .val (.ref b16_so), .val (.ref b20_so), .val (.ref b32_so), .unset, .unset, .unset, .unset, .unset, .unset, .unset, .unset] [])
      refine own_st (fun t k => XS.iload X32.here hx rfl (hb hby at_95) rfl k) ?_
      show own_Go _ _ _ _ T32 (mkF m 97 _ [(.int v5)])
      obtain ⟨_, _, ⟨T52, L52, k52, n52⟩, -, X52, ⟨Lc52, hQ52, l52, y52, z52⟩, st52⟩ := Jvm.LawKit.callS X32 hx (y := (⟨"com/example/antientropy/antientropy/sds/NamedEntriesHeardPinLaw", "name", "(I)Ljava/lang/String;"⟩ : MethodName)) hown (mvT hZ (hw _ (List.mem_of_getElem? (i := 0) rfl))) (mvT hZ (hw _ (List.mem_of_getElem? (i := 1) rfl))) (mvT hZ (hw _ (List.mem_of_getElem? (i := 2) rfl))) (mvT hZ (hw _ (List.mem_of_getElem? (i := 3) rfl))) (by decide) (backOf (W := 0) (rm6 l Z a0 hw [] v5 cs T32.heap n0 Z43 f34 hcs) hZ (hw _ (List.mem_of_getElem? (i := 3) rfl)) (hw _ (List.mem_of_getElem? (i := 2) rfl)) (by decide) (by decide)) (g := (mkF m 97 #[.val (.long x0), .second, .val (.long x1), .second, .val (.long x2), .second, .val (.long x3), .second, .val (.long x4), .second, .val (.int x5), .val (.int v1), .val (.int v2), .val (.int v3), .val (.int v4), .val (.int v5), .val (.int p10), .val (.int p15), .val (.ref b16_so), .val (.ref b20_so), .val (.ref b32_so), .unset, .unset, .unset, .unset, .unset, .unset, .unset, .unset] [(.int v5)])) rfl (by rw [hml]; rfl) (argsL := [(.int v5)]) (rest := []) (lenOf own_pd__I_Ljava_lang_String_ rfl) rfl (by show 2 * 0 + _ ≤ _; exact Nat.le_of_eq rfl) (hb hby at_97) (fun _ _ => ⟨rfl, rfl, (by decide : 9 + 3 ≤ _), (by decide : 18 + 6 ≤ _)⟩)
      dsimp only [Pt.U, Pt.locs, Pt.cells, Pt.slots] at X52 l52 y52 z52 st52 hQ52
      subst l52 y52 z52
      obtain ⟨r52_kb, b52_so, b52_bb, rfl, NQ52, K52, gx_b52_so, sz_b52_so, gx_b52_bb, sz_b52_bb, fq52_0, fq52_1, fq52_2, fq52_3, hq52_0⟩ := hQ52
      have N53 := Fr.app N33 NQ52
      refine own_st st52 ?_
      have f54 := own_staK f34 K52 all0
      have f55 := f35.keep K52
      have f56 := f36.keep K52 nin0
      have f57 := f37.keep K52 nin0
      have f58 := f38.keep K52 nin0
      have f59 := f39.keep K52
      have f60 := f40.keep K52 nin0
      have f61 := f41.keep K52 nin0
      have f62 := f42.keep K52 nin0
      have f63 := fq32_0.keep K52
      have f64 := fq32_1.keep K52 nin0
      have f65 := fq32_2.keep K52 nin0
      have f66 := fq32_3.keep K52 nin0
      have Z67 : n0 ≤ T52.heap.size := Nat.le_trans Z43 K52.1
      have ne68 : b16_so ≠ b52_so := Nat.ne_of_lt (Nat.lt_of_lt_of_le f35.lt sz_b52_so)
      have ne69 : b16_bb ≠ b52_so := Nat.ne_of_lt (Nat.lt_of_lt_of_le f38.lt sz_b52_so)
      have ne70 : b20_so ≠ b52_so := Nat.ne_of_lt (Nat.lt_of_lt_of_le f39.lt sz_b52_so)
      have ne71 : b20_bb ≠ b52_so := Nat.ne_of_lt (Nat.lt_of_lt_of_le f42.lt sz_b52_so)
      have ne72 : b32_so ≠ b52_so := Nat.ne_of_lt (Nat.lt_of_lt_of_le fq32_0.lt sz_b52_so)
      have ne73 : b32_bb ≠ b52_so := Nat.ne_of_lt (Nat.lt_of_lt_of_le fq32_3.lt sz_b52_so)
      have ne74 : b16_so ≠ b52_bb := Nat.ne_of_lt (Nat.lt_of_lt_of_le f35.lt sz_b52_bb)
      have ne75 : b16_bb ≠ b52_bb := Nat.ne_of_lt (Nat.lt_of_lt_of_le f38.lt sz_b52_bb)
      have ne76 : b20_so ≠ b52_bb := Nat.ne_of_lt (Nat.lt_of_lt_of_le f39.lt sz_b52_bb)
      have ne77 : b20_bb ≠ b52_bb := Nat.ne_of_lt (Nat.lt_of_lt_of_le f42.lt sz_b52_bb)
      have ne78 : b32_so ≠ b52_bb := Nat.ne_of_lt (Nat.lt_of_lt_of_le fq32_0.lt sz_b52_bb)
      have ne79 : b32_bb ≠ b52_bb := Nat.ne_of_lt (Nat.lt_of_lt_of_le fq32_3.lt sz_b52_bb)
      show own_Go _ _ _ _ T52 (mkF m 100 _ [(.ref b52_so)])
      refine own_st (fun t k => XS.astore X52.here hx rfl (hb hby at_100) rfl rfl (l' := #[.val (.long x0), .second, .val (.long x1), .second, .val (.long x2), .second, .val (.long x3), .second, .val (.long x4), .second, .val (.int x5), .val (.int v1), .val (.int v2), .val (.int v3), .val (.int v4), .val (.int v5), .val (.int p10), .val (.int p15), .val (.ref b16_so), .val (.ref b20_so), .val (.ref b32_so), .val (.ref b52_so), .unset, .unset, .unset, .unset, .unset, .unset, .unset]) rfl k) ?_
      show own_Go _ _ _ _ T52 (mkF m 102 #[.val (.long x0), .second, .val (.long x1), .second, .val (.long x2), .second, .val (.long x3), .second, .val (.long x4), .second, .val (.int x5), .val (.int v1), .val (.int v2), .val (.int v3), .val (.int v4), .val (.int v5), .val (.int p10), .val (.int p15), .val (.ref b16_so), .val (.ref b20_so), .val (.ref b32_so), .val (.ref b52_so), .unset, .unset, .unset, .unset, .unset, .unset, .unset] [])
      obtain ⟨T80, h80, X80, e80, E80, A80, D80, -, st80⟩ := newO X52 hx hZ hown (hw _ (List.mem_of_getElem? (i := 34) rfl)) (hw _ (List.mem_of_getElem? (i := 35) rfl)) (hw _ (List.mem_of_getElem? (i := 36) rfl)) rfl (g := (mkF m 102 #[.val (.long x0), .second, .val (.long x1), .second, .val (.long x2), .second, .val (.long x3), .second, .val (.long x4), .second, .val (.int x5), .val (.int v1), .val (.int v2), .val (.int v3), .val (.int v4), .val (.int v5), .val (.int p10), .val (.int p15), .val (.ref b16_so), .val (.ref b20_so), .val (.ref b32_so), .val (.ref b52_so), .unset, .unset, .unset, .unset, .unset, .unset, .unset] [])) rfl (hb hby at_102) (by decide) (by decide)
      obtain ⟨b80, g80⟩ : ∃ z, z = T52.heap.size := ⟨_, rfl⟩
      rw [← g80] at A80 D80 st80
      refine own_st st80 ?_
      have ne81 : b16_so ≠ b80 := Nat.ne_of_lt (Nat.lt_of_lt_of_le f55.lt (Nat.le_of_eq g80.symm))
      have ne82 : b16_bb ≠ b80 := Nat.ne_of_lt (Nat.lt_of_lt_of_le f58.lt (Nat.le_of_eq g80.symm))
      have ne83 : b20_so ≠ b80 := Nat.ne_of_lt (Nat.lt_of_lt_of_le f59.lt (Nat.le_of_eq g80.symm))
      have ne84 : b20_bb ≠ b80 := Nat.ne_of_lt (Nat.lt_of_lt_of_le f62.lt (Nat.le_of_eq g80.symm))
      have ne85 : b32_so ≠ b80 := Nat.ne_of_lt (Nat.lt_of_lt_of_le f63.lt (Nat.le_of_eq g80.symm))
      have ne86 : b32_bb ≠ b80 := Nat.ne_of_lt (Nat.lt_of_lt_of_le f66.lt (Nat.le_of_eq g80.symm))
      have ne87 : b52_so ≠ b80 := Nat.ne_of_lt (Nat.lt_of_lt_of_le fq52_0.lt (Nat.le_of_eq g80.symm))
      have ne88 : b52_bb ≠ b80 := Nat.ne_of_lt (Nat.lt_of_lt_of_le fq52_3.lt (Nat.le_of_eq g80.symm))
      have f89 := f54.ext E80
      have f90 := f55.ext E80
      have f91 := f56.ext E80
      have f92 := f57.ext E80
      have f93 := f58.ext E80
      have f94 := f59.ext E80
      have f95 := f60.ext E80
      have f96 := f61.ext E80
      have f97 := f62.ext E80
      have f98 := f63.ext E80
      have f99 := f64.ext E80
      have f100 := f65.ext E80
      have f101 := f66.ext E80
      have f102 := fq52_0.ext E80
      have f103 := fq52_1.ext E80
      have f104 := fq52_2.ext E80
      have f105 := fq52_3.ext E80
      have gx106 : n0 ≤ b80 := Nat.le_trans Z67 (Nat.le_of_eq g80.symm)
      have Z107 : n0 ≤ h80.size := Nat.le_trans Z67 E80.1
      have f108 : Fld Z h80 b80 "com/example/antientropy/antientropy/sds/NamedEntries" "latestFrom" "Ljava/lang/String;" .null := D80 (Or.inl (hw _ (List.mem_of_getElem? (i := 47) rfl))) (ty := (.object "java/lang/String")) (by decide)
      have f109 : Fld Z h80 b80 "com/example/antientropy/antientropy/sds/NamedEntries" "byLatest" "J" (.long (0 : Int64)) := D80 (Or.inl (hw _ (List.mem_of_getElem? (i := 54) rfl))) (ty := .long) (by decide)
      have f110 : Fld Z h80 b80 "com/example/antientropy/antientropy/sds/NamedEntries" "byLatestOfTheRest" "J" (.long (0 : Int64)) := D80 (Or.inl (hw _ (List.mem_of_getElem? (i := 56) rfl))) (ty := .long) (by decide)
      have f111 : Fld Z h80 b80 "com/example/antientropy/antientropy/sds/NamedEntries" "bySelf" "J" (.long (0 : Int64)) := D80 (Or.inl (hw _ (List.mem_of_getElem? (i := 68) rfl))) (ty := .long) (by decide)
      show own_Go _ _ _ _ T80 (mkF m 105 _ [(.ref b80)])
      refine own_st (fun t k => XS.dup X80.here hx rfl (hb hby at_105) rfl rfl k) ?_
      show own_Go _ _ _ _ T80 (mkF m 106 _ [(.ref b80), (.ref b80)])
      obtain ⟨_, _, ⟨T112, L112, k112, n112⟩, -, X112, ⟨Lc112, hQ112, l112, y112, z112⟩, st112⟩ := X80.specialBack hx (y := (⟨"com/example/antientropy/antientropy/sds/NamedEntries", "<init>", "()V"⟩ : MethodName)) rfl hown (mvT hZ (hw _ (List.mem_of_getElem? (i := 37) rfl))) (mvT hZ (hw _ (List.mem_of_getElem? (i := 38) rfl))) (mvT hZ (hw _ (List.mem_of_getElem? (i := 39) rfl))) (by decide) (backOf (W := 1) (rm10 l Z a0 hw [] b80 h80 n0 Z107 ) hZ (hw _ (List.mem_of_getElem? (i := 39) rfl)) (hw _ (List.mem_of_getElem? (i := 36) rfl)) (by decide) (by decide)) (g := (mkF m 106 #[.val (.long x0), .second, .val (.long x1), .second, .val (.long x2), .second, .val (.long x3), .second, .val (.long x4), .second, .val (.int x5), .val (.int v1), .val (.int v2), .val (.int v3), .val (.int v4), .val (.int v5), .val (.int p10), .val (.int p15), .val (.ref b16_so), .val (.ref b20_so), .val (.ref b32_so), .val (.ref b52_so), .unset, .unset, .unset, .unset, .unset, .unset, .unset] [(.ref b80), (.ref b80)])) rfl (by rw [hml]; rfl) (Steps.refl _) (a := b80) (argsL := []) (rest := [(.ref b80)]) (lenOf own_pd___V rfl) rfl (by show 2 * 0 + _ ≤ _; exact Nat.le_of_eq rfl) (hb hby at_106) (fun _ _ => ⟨rfl, e80, (by decide : 13 + 0 ≤ _), (by decide : 28 + 0 ≤ _)⟩)
      dsimp only [Pt.U, Pt.locs, Pt.cells, Pt.slots] at X112 l112 y112 z112 st112 hQ112
      subst l112 y112 z112
      obtain ⟨rfl, NQ112, eq112⟩ := hQ112
      have N113 := Fr.app N53 NQ112
      refine own_st (fun t k => st112.trans k) ?_
      show own_Go _ _ _ _ T112 (mkF m 109 _ [(.ref b80)])
      refine own_st (fun t k => XS.astore X112.here hx rfl (hb hby at_109) rfl rfl (l' := #[.val (.long x0), .second, .val (.long x1), .second, .val (.long x2), .second, .val (.long x3), .second, .val (.long x4), .second, .val (.int x5), .val (.int v1), .val (.int v2), .val (.int v3), .val (.int v4), .val (.int v5), .val (.int p10), .val (.int p15), .val (.ref b16_so), .val (.ref b20_so), .val (.ref b32_so), .val (.ref b52_so), .val (.ref b80), .unset, .unset, .unset, .unset, .unset, .unset]) rfl k) ?_
      show own_Go _ _ _ _ T112 (mkF m 111 #[.val (.long x0), .second, .val (.long x1), .second, .val (.long x2), .second, .val (.long x3), .second, .val (.long x4), .second, .val (.int x5), .val (.int v1), .val (.int v2), .val (.int v3), .val (.int v4), .val (.int v5), .val (.int p10), .val (.int p15), .val (.ref b16_so), .val (.ref b20_so), .val (.ref b32_so), .val (.ref b52_so), .val (.ref b80), .unset, .unset, .unset, .unset, .unset, .unset] [])
      refine own_st (fun t k => XS.iload X112.here hx rfl (hb hby at_111) rfl k) ?_
      show own_Go _ _ _ _ T112 (mkF m 113 _ [(.int p10)])
      have J140 : ∀ (Tj140 : State) (Lj140 : List Loc) (hj140 : Heap) (p162 : Int64), Stand p l e room_1 s m #[(.long x0), (.long x1), (.long x2), (.long x3), (.long x4), (.int x5)] below meth c Tj140 Lj140 13 28 → Tj140.heap = hj140 → Fr n0 Lj140 → n0 ≤ hj140.size → Sta Z hj140 "java/lang/String" "COMPACT_STRINGS" "Z" (.int cs) → Exa Z hj140 b16_so "java/lang/String" → Fld Z hj140 b16_so "java/lang/String" "value" "[B" (.ref b16_bb) → Fld Z hj140 b16_so "java/lang/String" "coder" "B" (.int (0 : Int32)) → Arv Z hj140 b16_bb r16_kb .byte (1 : Int32) [(.int (own_by (own_chr v2)))] (.int (0 : Int32)) → Exa Z hj140 b20_so "java/lang/String" → Fld Z hj140 b20_so "java/lang/String" "value" "[B" (.ref b20_bb) → Fld Z hj140 b20_so "java/lang/String" "coder" "B" (.int (0 : Int32)) → Arv Z hj140 b20_bb r20_kb .byte (1 : Int32) [(.int (own_by (own_chr v3)))] (.int (0 : Int32)) → Exa Z hj140 b32_so "java/lang/String" → Fld Z hj140 b32_so "java/lang/String" "value" "[B" (.ref b32_bb) → Fld Z hj140 b32_so "java/lang/String" "coder" "B" (.int (0 : Int32)) → Arv Z hj140 b32_bb r32_kb .byte (1 : Int32) [(.int (own_by (own_chr v4)))] (.int (0 : Int32)) → Exa Z hj140 b52_so "java/lang/String" → Fld Z hj140 b52_so "java/lang/String" "value" "[B" (.ref b52_bb) → Fld Z hj140 b52_so "java/lang/String" "coder" "B" (.int (0 : Int32)) → Arv Z hj140 b52_bb r52_kb .byte (1 : Int32) [(.int (own_by (own_chr v5)))] (.int (0 : Int32)) → Exa Z hj140 b80 "com/example/antientropy/antientropy/sds/NamedEntries" → Fld Z hj140 b80 "com/example/antientropy/antientropy/sds/NamedEntries" "latestFrom" "Ljava/lang/String;" .null → Fld Z hj140 b80 "com/example/antientropy/antientropy/sds/NamedEntries" "byLatest" "J" (.long (0 : Int64)) → Fld Z hj140 b80 "com/example/antientropy/antientropy/sds/NamedEntries" "byLatestOfTheRest" "J" (.long (0 : Int64)) → Fld Z hj140 b80 "com/example/antientropy/antientropy/sds/NamedEntries" "bySelf" "J" (.long p162) → p162 = (if p10 = (0 : Int32) then (0 : Int64) else (if p15 = (0 : Int32) then (0 : Int64) else x4)) → own_Go p.tables e below Pq Tj140 (mkF m 128 #[.val (.long x0), .second, .val (.long x1), .second, .val (.long x2), .second, .val (.long x3), .second, .val (.long x4), .second, .val (.int x5), .val (.int v1), .val (.int v2), .val (.int v3), .val (.int v4), .val (.int v5), .val (.int p10), .val (.int p15), .val (.ref b16_so), .val (.ref b20_so), .val (.ref b32_so), .val (.ref b52_so), .val (.ref b80), .unset, .unset, .unset, .unset, .unset, .unset] []) := by
        intro Tj140 Lj140 hj140 p162 Xj140 ej140 Nj140 Zj140 fj141 fj142 fj143 fj144 fj145 fj146 fj147 fj148 fj149 fj150 fj151 fj152 fj153 fj154 fj155 fj156 fj157 fj158 fj159 fj160 fj161 fj163 qp162
        show own_Go _ _ _ _ Tj140 (mkF m 128 _ [])
        refine own_st (fun t k => XS.iload Xj140.here hx rfl (hb hby at_128) rfl k) ?_
        show own_Go _ _ _ _ Tj140 (mkF m 130 _ [(.int v1)])
        refine own_st (fun t k => XS.iconst Xj140.here hx rfl (hb hby at_130) k) ?_
        show own_Go _ _ _ _ Tj140 (mkF m 131 _ [(.int (1 : Int32)), (.int v1)])
        by_cases c164 : v1 < (1 : Int32)
        · skip
          refine own_st (fun t k => XS.icmpYes Xj140.here hx rfl (pc0 := 131) (pc' := 142) rfl (hb hby at_131) rfl (tlt c164).1 (by decide) (by decide) k) ?_
          show own_Go _ _ _ _ Tj140 (mkF m 142 _ [])
          refine own_st (fun t k => XS.iload Xj140.here hx rfl (hb hby at_142) rfl k) ?_
          show own_Go _ _ _ _ Tj140 (mkF m 144 _ [(.int v1)])
          refine own_st (fun t k => XS.iconst Xj140.here hx rfl (hb hby at_144) k) ?_
          show own_Go _ _ _ _ Tj140 (mkF m 145 _ [(.int (2 : Int32)), (.int v1)])
          refine own_st (fun t k => XS.icmpYes Xj140.here hx rfl (pc0 := 145) (pc' := 156) rfl (hb hby at_145) rfl (tlt (own_ltle c164 (by decide))).1 (by decide) (by decide) k) ?_
          show own_Go _ _ _ _ Tj140 (mkF m 156 _ [])
          refine own_st (fun t k => XS.iload Xj140.here hx rfl (hb hby at_156) rfl k) ?_
          show own_Go _ _ _ _ Tj140 (mkF m 158 _ [(.int v1)])
          refine own_st (fun t k => XS.iconst Xj140.here hx rfl (hb hby at_158) k) ?_
          show own_Go _ _ _ _ Tj140 (mkF m 159 _ [(.int (3 : Int32)), (.int v1)])
          refine own_st (fun t k => XS.icmpYes Xj140.here hx rfl (pc0 := 159) (pc' := 171) rfl (hb hby at_159) rfl (tlt (own_ltle c164 (by decide))).1 (by decide) (by decide) k) ?_
          show own_Go _ _ _ _ Tj140 (mkF m 171 _ [])
          refine own_st (fun t k => XS.iload Xj140.here hx rfl (hb hby at_171) rfl k) ?_
          show own_Go _ _ _ _ Tj140 (mkF m 173 _ [(.int p10)])
          have J191 : ∀ (Tj191 : State) (Lj191 : List Loc) (hj191 : Heap) (p213 : Int64), Stand p l e room_1 s m #[(.long x0), (.long x1), (.long x2), (.long x3), (.long x4), (.int x5)] below meth c Tj191 Lj191 13 28 → Tj191.heap = hj191 → Fr n0 Lj191 → n0 ≤ hj191.size → Sta Z hj191 "java/lang/String" "COMPACT_STRINGS" "Z" (.int cs) → Exa Z hj191 b16_so "java/lang/String" → Fld Z hj191 b16_so "java/lang/String" "value" "[B" (.ref b16_bb) → Fld Z hj191 b16_so "java/lang/String" "coder" "B" (.int (0 : Int32)) → Arv Z hj191 b16_bb r16_kb .byte (1 : Int32) [(.int (own_by (own_chr v2)))] (.int (0 : Int32)) → Exa Z hj191 b20_so "java/lang/String" → Fld Z hj191 b20_so "java/lang/String" "value" "[B" (.ref b20_bb) → Fld Z hj191 b20_so "java/lang/String" "coder" "B" (.int (0 : Int32)) → Arv Z hj191 b20_bb r20_kb .byte (1 : Int32) [(.int (own_by (own_chr v3)))] (.int (0 : Int32)) → Exa Z hj191 b32_so "java/lang/String" → Fld Z hj191 b32_so "java/lang/String" "value" "[B" (.ref b32_bb) → Fld Z hj191 b32_so "java/lang/String" "coder" "B" (.int (0 : Int32)) → Arv Z hj191 b32_bb r32_kb .byte (1 : Int32) [(.int (own_by (own_chr v4)))] (.int (0 : Int32)) → Exa Z hj191 b52_so "java/lang/String" → Fld Z hj191 b52_so "java/lang/String" "value" "[B" (.ref b52_bb) → Fld Z hj191 b52_so "java/lang/String" "coder" "B" (.int (0 : Int32)) → Arv Z hj191 b52_bb r52_kb .byte (1 : Int32) [(.int (own_by (own_chr v5)))] (.int (0 : Int32)) → Exa Z hj191 b80 "com/example/antientropy/antientropy/sds/NamedEntries" → Fld Z hj191 b80 "com/example/antientropy/antientropy/sds/NamedEntries" "latestFrom" "Ljava/lang/String;" .null → Fld Z hj191 b80 "com/example/antientropy/antientropy/sds/NamedEntries" "byLatest" "J" (.long (0 : Int64)) → Fld Z hj191 b80 "com/example/antientropy/antientropy/sds/NamedEntries" "byLatestOfTheRest" "J" (.long (0 : Int64)) → Fld Z hj191 b80 "com/example/antientropy/antientropy/sds/NamedEntries" "bySelf" "J" (.long p213) → p213 = (if p10 = (0 : Int32) then p162 else (if p15 = (0 : Int32) then x4 else p162)) → own_Go p.tables e below Pq Tj191 (mkF m 188 #[.val (.long x0), .second, .val (.long x1), .second, .val (.long x2), .second, .val (.long x3), .second, .val (.long x4), .second, .val (.int x5), .val (.int v1), .val (.int v2), .val (.int v3), .val (.int v4), .val (.int v5), .val (.int p10), .val (.int p15), .val (.ref b16_so), .val (.ref b20_so), .val (.ref b32_so), .val (.ref b52_so), .val (.ref b80), .unset, .unset, .unset, .unset, .unset, .unset] []) := by
            intro Tj191 Lj191 hj191 p213 Xj191 ej191 Nj191 Zj191 fj192 fj193 fj194 fj195 fj196 fj197 fj198 fj199 fj200 fj201 fj202 fj203 fj204 fj205 fj206 fj207 fj208 fj209 fj210 fj211 fj212 fj214 qp213
            show own_Go _ _ _ _ Tj191 (mkF m 188 _ [])
            refine own_st (fun t k => XS.aload Xj191.here hx rfl (hb hby at_188) rfl rfl k) ?_
            show own_Go _ _ _ _ Tj191 (mkF m 190 _ [(.ref b80)])
            refine own_st (fun t k => XS.aload Xj191.here hx rfl (hb hby at_190) rfl rfl k) ?_
            show own_Go _ _ _ _ Tj191 (mkF m 192 _ [(.ref b52_so), (.ref b80)])
            refine own_st (fun t k => XS.lload Xj191.here hx rfl (hb hby at_192) rfl k) ?_
            show own_Go _ _ _ _ Tj191 (mkF m 194 _ [(.long x3), (.ref b52_so), (.ref b80)])
            obtain ⟨cq215, kq215, q215a, q215b, q215c⟩ := isOf hZ ej191 fj209
            obtain ⟨_, _, ⟨T215, L215, k215, n215⟩, -, X215, ⟨Lc215, hQ215, l215, y215, z215⟩, st215⟩ := Xj191.virtualBack hx (y := (⟨"com/example/antientropy/antientropy/sds/NamedEntries", "isNamedTo", "(Ljava/lang/String;J)Z"⟩ : MethodName)) (z := (⟨"com/example/antientropy/antientropy/sds/NamedEntries", "isNamedTo", "(Ljava/lang/String;J)Z"⟩ : MethodName)) hown (mvT hZ (hw _ (List.mem_of_getElem? (i := 62) rfl))) (mvT hZ (hw _ (List.mem_of_getElem? (i := 63) rfl))) (notFace_of_selects (args := #[]) (mvT hZ (hw _ (List.mem_of_getElem? (i := 65) rfl)))) (mvT hZ (hw _ (List.mem_of_getElem? (i := 65) rfl))) (mvT hZ (hw _ (List.mem_of_getElem? (i := 64) rfl))) (by decide) (backOf (W := 0) (rm15 l Z a0 hw [] b80 b52_so x3 p213 (0 : Int64) (0 : Int64) b52_bb r52_kb (own_by (own_chr v5)) hj191 n0 Zj191 fj209 fj214 fj211 fj212 fj210 fj205 fj206 fj207 fj208) hZ (hw _ (List.mem_of_getElem? (i := 66) rfl)) (hw _ (List.mem_of_getElem? (i := 36) rfl)) (by decide) (by decide)) q215a q215c (g := (mkF m 194 #[.val (.long x0), .second, .val (.long x1), .second, .val (.long x2), .second, .val (.long x3), .second, .val (.long x4), .second, .val (.int x5), .val (.int v1), .val (.int v2), .val (.int v3), .val (.int v4), .val (.int v5), .val (.int p10), .val (.int p15), .val (.ref b16_so), .val (.ref b20_so), .val (.ref b32_so), .val (.ref b52_so), .val (.ref b80), .unset, .unset, .unset, .unset, .unset, .unset] [(.long x3), (.ref b52_so), (.ref b80)])) rfl (by rw [hml]; rfl) (Steps.refl _) (argsL := [(.ref b52_so), (.long x3)]) (rest := []) (lenOf own_pd__Ljava_lang_String_J_Z rfl) rfl (by show 2 * 0 + _ ≤ _; exact Nat.le_of_eq rfl) (hb hby at_194) (fun _ _ => ⟨rfl, ej191, (by decide : 13 + 0 ≤ _), (by decide : 28 + 0 ≤ _)⟩)
            dsimp only [Pt.U, Pt.locs, Pt.cells, Pt.slots] at X215 l215 y215 z215 st215 hQ215
            subst l215 y215 z215
            obtain ⟨rfl, NQ215, eq215⟩ := hQ215
            have N216 := Fr.app Nj191 NQ215
            refine own_st (fun t k => st215.trans k) ?_
            show own_Go _ _ _ _ T215 (mkF m 197 _ [(.int (own_in0 x3 p213 (0 : Int64)))])
            generalize hv217 : (own_in0 x3 p213 (0 : Int64)) = v217
            refine own_st (fun t k => XS.istore X215.here hx rfl (hb hby at_197) rfl (l' := #[.val (.long x0), .second, .val (.long x1), .second, .val (.long x2), .second, .val (.long x3), .second, .val (.long x4), .second, .val (.int x5), .val (.int v1), .val (.int v2), .val (.int v3), .val (.int v4), .val (.int v5), .val (.int p10), .val (.int p15), .val (.ref b16_so), .val (.ref b20_so), .val (.ref b32_so), .val (.ref b52_so), .val (.ref b80), .val (.int v217), .unset, .unset, .unset, .unset, .unset]) rfl k) ?_
            show own_Go _ _ _ _ T215 (mkF m 199 #[.val (.long x0), .second, .val (.long x1), .second, .val (.long x2), .second, .val (.long x3), .second, .val (.long x4), .second, .val (.int x5), .val (.int v1), .val (.int v2), .val (.int v3), .val (.int v4), .val (.int v5), .val (.int p10), .val (.int p15), .val (.ref b16_so), .val (.ref b20_so), .val (.ref b32_so), .val (.ref b52_so), .val (.ref b80), .val (.int v217), .unset, .unset, .unset, .unset, .unset] [])
            refine own_st (fun t k => XS.iload X215.here hx rfl (hb hby at_199) rfl k) ?_
            show own_Go _ _ _ _ T215 (mkF m 201 _ [(.int p10)])
            have J221 : ∀ (Tj221 : State) (Lj221 : List Loc) (p222 : Int64), Stand p l e room_1 s m #[(.long x0), (.long x1), (.long x2), (.long x3), (.long x4), (.int x5)] below meth c Tj221 Lj221 13 28 → Tj221.heap = hj191 → Fr n0 Lj221 → p222 = (if p10 = (0 : Int32) then (0 : Int64) else x4) → own_Go p.tables e below Pq Tj221 (mkF m 210 #[.val (.long x0), .second, .val (.long x1), .second, .val (.long x2), .second, .val (.long x3), .second, .val (.long x4), .second, .val (.int x5), .val (.int v1), .val (.int v2), .val (.int v3), .val (.int v4), .val (.int v5), .val (.int p10), .val (.int p15), .val (.ref b16_so), .val (.ref b20_so), .val (.ref b32_so), .val (.ref b52_so), .val (.ref b80), .val (.int v217), .unset, .unset, .unset, .unset, .unset] [(.long p222)]) := by
              intro Tj221 Lj221 p222 Xj221 ej221 Nj221 qp222
              show own_Go _ _ _ _ Tj221 (mkF m 210 _ [(.long p222)])
              refine own_st (fun t k => XS.lstore Xj221.here hx rfl (hb hby at_210) rfl (l' := #[.val (.long x0), .second, .val (.long x1), .second, .val (.long x2), .second, .val (.long x3), .second, .val (.long x4), .second, .val (.int x5), .val (.int v1), .val (.int v2), .val (.int v3), .val (.int v4), .val (.int v5), .val (.int p10), .val (.int p15), .val (.ref b16_so), .val (.ref b20_so), .val (.ref b32_so), .val (.ref b52_so), .val (.ref b80), .val (.int v217), .val (.long p222), .second, .unset, .unset, .unset]) rfl k) ?_
              show own_Go _ _ _ _ Tj221 (mkF m 212 #[.val (.long x0), .second, .val (.long x1), .second, .val (.long x2), .second, .val (.long x3), .second, .val (.long x4), .second, .val (.int x5), .val (.int v1), .val (.int v2), .val (.int v3), .val (.int v4), .val (.int v5), .val (.int p10), .val (.int p15), .val (.ref b16_so), .val (.ref b20_so), .val (.ref b32_so), .val (.ref b52_so), .val (.ref b80), .val (.int v217), .val (.long p222), .second, .unset, .unset, .unset] [])
              refine own_st (fun t k => XS.lconst Xj221.here hx rfl (hb hby at_212) k) ?_
              show own_Go _ _ _ _ Tj221 (mkF m 213 _ [(.long (0 : Int64))])
              refine own_st (fun t k => XS.lstore Xj221.here hx rfl (hb hby at_213) rfl (l' := #[.val (.long x0), .second, .val (.long x1), .second, .val (.long x2), .second, .val (.long x3), .second, .val (.long x4), .second, .val (.int x5), .val (.int v1), .val (.int v2), .val (.int v3), .val (.int v4), .val (.int v5), .val (.int p10), .val (.int p15), .val (.ref b16_so), .val (.ref b20_so), .val (.ref b32_so), .val (.ref b52_so), .val (.ref b80), .val (.int v217), .val (.long p222), .second, .val (.long (0 : Int64)), .second, .unset]) rfl k) ?_
              show own_Go _ _ _ _ Tj221 (mkF m 215 #[.val (.long x0), .second, .val (.long x1), .second, .val (.long x2), .second, .val (.long x3), .second, .val (.long x4), .second, .val (.int x5), .val (.int v1), .val (.int v2), .val (.int v3), .val (.int v4), .val (.int v5), .val (.int p10), .val (.int p15), .val (.ref b16_so), .val (.ref b20_so), .val (.ref b32_so), .val (.ref b52_so), .val (.ref b80), .val (.int v217), .val (.long p222), .second, .val (.long (0 : Int64)), .second, .unset] [])
              refine own_st (fun t k => XS.iload Xj221.here hx rfl (hb hby at_215) rfl k) ?_
              show own_Go _ _ _ _ Tj221 (mkF m 217 _ [(.int v1)])
              refine own_st (fun t k => XS.iconst Xj221.here hx rfl (hb hby at_217) k) ?_
              show own_Go _ _ _ _ Tj221 (mkF m 218 _ [(.int (1 : Int32)), (.int v1)])
              refine own_st (fun t k => XS.icmpYes Xj221.here hx rfl (pc0 := 218) (pc' := 231) rfl (hb hby at_218) rfl (tlt c164).1 (by decide) (by decide) k) ?_
              show own_Go _ _ _ _ Tj221 (mkF m 231 _ [])
              refine own_st (fun t k => XS.iload Xj221.here hx rfl (hb hby at_231) rfl k) ?_
              show own_Go _ _ _ _ Tj221 (mkF m 233 _ [(.int v1)])
              refine own_st (fun t k => XS.iconst Xj221.here hx rfl (hb hby at_233) k) ?_
              show own_Go _ _ _ _ Tj221 (mkF m 234 _ [(.int (2 : Int32)), (.int v1)])
              refine own_st (fun t k => XS.icmpYes Xj221.here hx rfl (pc0 := 234) (pc' := 247) rfl (hb hby at_234) rfl (tlt (own_ltle c164 (by decide))).1 (by decide) (by decide) k) ?_
              show own_Go _ _ _ _ Tj221 (mkF m 247 _ [])
              refine own_st (fun t k => XS.iload Xj221.here hx rfl (hb hby at_247) rfl k) ?_
              show own_Go _ _ _ _ Tj221 (mkF m 249 _ [(.int v1)])
              refine own_st (fun t k => XS.iconst Xj221.here hx rfl (hb hby at_249) k) ?_
              show own_Go _ _ _ _ Tj221 (mkF m 250 _ [(.int (3 : Int32)), (.int v1)])
              refine own_st (fun t k => XS.icmpYes Xj221.here hx rfl (pc0 := 250) (pc' := 264) rfl (hb hby at_250) rfl (tlt (own_ltle c164 (by decide))).1 (by decide) (by decide) k) ?_
              show own_Go _ _ _ _ Tj221 (mkF m 264 _ [])
              refine own_st (fun t k => XS.lload Xj221.here hx rfl (hb hby at_264) rfl k) ?_
              show own_Go _ _ _ _ Tj221 (mkF m 266 _ [(.long x3)])
              refine own_st (fun t k => XS.lload Xj221.here hx rfl (hb hby at_266) rfl k) ?_
              show own_Go _ _ _ _ Tj221 (mkF m 268 _ [(.long p222), (.long x3)])
              refine own_st (fun t k => XS.lload Xj221.here hx rfl (hb hby at_268) rfl k) ?_
              show own_Go _ _ _ _ Tj221 (mkF m 270 _ [(.long (0 : Int64)), (.long p222), (.long x3)])
              obtain ⟨_, _, ⟨T223, L223, k223, n223⟩, -, X223, ⟨Lc223, hQ223, l223, y223, z223⟩, st223⟩ := Jvm.LawKit.callS Xj221 hx (y := (⟨"java/lang/Math", "max", "(JJ)J"⟩ : MethodName)) hown (mvT hZ (hw _ (List.mem_of_getElem? (i := 73) rfl))) (mvT hZ (hw _ (List.mem_of_getElem? (i := 70) rfl))) (mvT hZ (hw _ (List.mem_of_getElem? (i := 71) rfl))) (mvT hZ (hw _ (List.mem_of_getElem? (i := 72) rfl))) (by decide) (backOf (W := 2) (rm12 l Z a0 hw [] p222 (0 : Int64) hj191 n0 Zj191 ) hZ (hw _ (List.mem_of_getElem? (i := 72) rfl)) (hw _ (List.mem_of_getElem? (i := 71) rfl)) (by decide) (by decide)) (g := (mkF m 270 #[.val (.long x0), .second, .val (.long x1), .second, .val (.long x2), .second, .val (.long x3), .second, .val (.long x4), .second, .val (.int x5), .val (.int v1), .val (.int v2), .val (.int v3), .val (.int v4), .val (.int v5), .val (.int p10), .val (.int p15), .val (.ref b16_so), .val (.ref b20_so), .val (.ref b32_so), .val (.ref b52_so), .val (.ref b80), .val (.int v217), .val (.long p222), .second, .val (.long (0 : Int64)), .second, .unset] [(.long (0 : Int64)), (.long p222), (.long x3)])) rfl (by rw [hml]; rfl) (argsL := [(.long p222), (.long (0 : Int64))]) (rest := [(.long x3)]) (lenOf own_pd__JJ_J rfl) rfl (by show 2 * 0 + _ ≤ _; exact Nat.le_of_eq rfl) (hb hby at_270) (fun _ _ => ⟨rfl, ej221, (by decide : 13 + 0 ≤ _), (by decide : 28 + 0 ≤ _)⟩)
              dsimp only [Pt.U, Pt.locs, Pt.cells, Pt.slots] at X223 l223 y223 z223 st223 hQ223
              subst l223 y223 z223
              obtain ⟨rfl, NQ223, eq223⟩ := hQ223
              have N224 := Fr.app Nj221 NQ223
              refine own_st st223 ?_
              show own_Go _ _ _ _ T223 (mkF m 273 _ [(.long (own_max p222 (0 : Int64))), (.long x3)])
              refine own_st (fun t k => XS.lcmp X223.here hx rfl (hb hby at_273) rfl k) ?_
              show own_Go _ _ _ _ T223 (mkF m 274 _ [(.int (lcmpW x3 (own_max p222 (0 : Int64))))])
              have J228 : ∀ (Tj228 : State) (Lj228 : List Loc) (p229 : Int32), Stand p l e room_1 s m #[(.long x0), (.long x1), (.long x2), (.long x3), (.long x4), (.int x5)] below meth c Tj228 Lj228 13 28 → Tj228.heap = hj191 → Fr n0 Lj228 → p229 = (if x3 < (own_max p222 (0 : Int64)) then (1 : Int32) else (0 : Int32)) → own_Go p.tables e below Pq Tj228 (mkF m 282 #[.val (.long x0), .second, .val (.long x1), .second, .val (.long x2), .second, .val (.long x3), .second, .val (.long x4), .second, .val (.int x5), .val (.int v1), .val (.int v2), .val (.int v3), .val (.int v4), .val (.int v5), .val (.int p10), .val (.int p15), .val (.ref b16_so), .val (.ref b20_so), .val (.ref b32_so), .val (.ref b52_so), .val (.ref b80), .val (.int v217), .val (.long p222), .second, .val (.long (0 : Int64)), .second, .unset] [(.int p229)]) := by
                intro Tj228 Lj228 p229 Xj228 ej228 Nj228 qp229
                show own_Go _ _ _ _ Tj228 (mkF m 282 _ [(.int p229)])
                refine own_st (fun t k => XS.istore Xj228.here hx rfl (hb hby at_282) rfl (l' := #[.val (.long x0), .second, .val (.long x1), .second, .val (.long x2), .second, .val (.long x3), .second, .val (.long x4), .second, .val (.int x5), .val (.int v1), .val (.int v2), .val (.int v3), .val (.int v4), .val (.int v5), .val (.int p10), .val (.int p15), .val (.ref b16_so), .val (.ref b20_so), .val (.ref b32_so), .val (.ref b52_so), .val (.ref b80), .val (.int v217), .val (.long p222), .second, .val (.long (0 : Int64)), .second, .val (.int p229)]) rfl k) ?_
                show own_Go _ _ _ _ Tj228 (mkF m 284 #[.val (.long x0), .second, .val (.long x1), .second, .val (.long x2), .second, .val (.long x3), .second, .val (.long x4), .second, .val (.int x5), .val (.int v1), .val (.int v2), .val (.int v3), .val (.int v4), .val (.int v5), .val (.int p10), .val (.int p15), .val (.ref b16_so), .val (.ref b20_so), .val (.ref b32_so), .val (.ref b52_so), .val (.ref b80), .val (.int v217), .val (.long p222), .second, .val (.long (0 : Int64)), .second, .val (.int p229)] [])
                refine own_st (fun t k => XS.iload Xj228.here hx rfl (hb hby at_284) rfl k) ?_
                show own_Go _ _ _ _ Tj228 (mkF m 286 _ [(.int v217)])
                refine own_st (fun t k => XS.iload Xj228.here hx rfl (hb hby at_286) rfl k) ?_
                show own_Go _ _ _ _ Tj228 (mkF m 288 _ [(.int p229), (.int v217)])
                have J233 : ∀ (Tj233 : State) (Lj233 : List Loc) (p234 : Int32), Stand p l e room_1 s m #[(.long x0), (.long x1), (.long x2), (.long x3), (.long x4), (.int x5)] below meth c Tj233 Lj233 13 28 → Tj233.heap = hj191 → Fr n0 Lj233 → p234 = (if v217 = p229 then (1 : Int32) else (0 : Int32)) → own_Go p.tables e below Pq Tj233 (mkF m 296 #[.val (.long x0), .second, .val (.long x1), .second, .val (.long x2), .second, .val (.long x3), .second, .val (.long x4), .second, .val (.int x5), .val (.int v1), .val (.int v2), .val (.int v3), .val (.int v4), .val (.int v5), .val (.int p10), .val (.int p15), .val (.ref b16_so), .val (.ref b20_so), .val (.ref b32_so), .val (.ref b52_so), .val (.ref b80), .val (.int v217), .val (.long p222), .second, .val (.long (0 : Int64)), .second, .val (.int p229)] [(.int p234)]) := by
                  intro Tj233 Lj233 p234 Xj233 ej233 Nj233 qp234
                  show own_Go _ _ _ _ Tj233 (mkF m 296 _ [(.int p234)])
                  subst hPq
                  refine own_out Xj233 (v := some (.int (nar .boolean p234))) (fun h => by rw [Bd.returns] at h; cases h) Bd.notSynchronized (fun fs hr => retN Xj233 hx (t := .boolean) Bd.returns (by simp) (hb hby at_296) hr) (by decide) (by decide) ?_
                  show Q0 Z x0 x1 x2 x3 x4 x5 cs h0 n0 _ Tj233.heap _
                  rw [ej233]
                  exact ⟨congrArg (fun z => some (Value.int (nar .boolean z))) (own_law1 x0 x1 x2 x3 x4 x5 cs v1 v2 v3 v4 v5 p10 p15 r16_kb r20_kb r32_kb r52_kb p162 p213 v217 p222 p229 p234 hcs hv1 hv2 hv3 hv4 hv5 qp10 qp15 qp162 qp213 hv217 qp222 qp229 qp234 c164), Nj233⟩
                by_cases c230 : v217 = p229
                · skip
                  refine own_st (fun t k => XS.icmpNo Xj228.here hx rfl (hb hby at_288) rfl (teq c230).2 k) ?_
                  show own_Go _ _ _ _ Tj228 (mkF m 291 _ [])
                  refine own_st (fun t k => XS.iconst Xj228.here hx rfl (hb hby at_291) k) ?_
                  show own_Go _ _ _ _ Tj228 (mkF m 292 _ [(.int (1 : Int32))])
                  refine own_st (fun t k => XS.goto Xj228.here hx rfl (pc0 := 292) (pc' := 296) rfl (hb hby at_292) (by decide) (by decide) k) ?_
                  show own_Go _ _ _ _ Tj228 (mkF m 296 _ [(.int (1 : Int32))])
                  exact J233 Tj228 _ _ Xj228 ej228 Nj228 (by simp only [if_pos c230])
                · skip
                  refine own_st (fun t k => XS.icmpYes Xj228.here hx rfl (pc0 := 288) (pc' := 295) rfl (hb hby at_288) rfl (feq c230).2 (by decide) (by decide) k) ?_
                  show own_Go _ _ _ _ Tj228 (mkF m 295 _ [])
                  refine own_st (fun t k => XS.iconst Xj228.here hx rfl (hb hby at_295) k) ?_
                  show own_Go _ _ _ _ Tj228 (mkF m 296 _ [(.int (0 : Int32))])
                  exact J233 Tj228 _ _ Xj228 ej228 Nj228 (by simp only [if_neg c230])
              by_cases c225 : x3 < (own_max p222 (0 : Int64))
              · skip
                refine own_st (fun t k => XS.ifNo X223.here hx rfl (hb hby at_274) rfl (own_lcF (cd := .ge) (not_not_intro c225)) k) ?_
                show own_Go _ _ _ _ T223 (mkF m 277 _ [])
                refine own_st (fun t k => XS.iconst X223.here hx rfl (hb hby at_277) k) ?_
                show own_Go _ _ _ _ T223 (mkF m 278 _ [(.int (1 : Int32))])
                refine own_st (fun t k => XS.goto X223.here hx rfl (pc0 := 278) (pc' := 282) rfl (hb hby at_278) (by decide) (by decide) k) ?_
                show own_Go _ _ _ _ T223 (mkF m 282 _ [(.int (1 : Int32))])
                exact J228 T223 _ _ X223 eq223 N224 (by simp only [if_pos c225])
              · skip
                refine own_st (fun t k => XS.ifYes X223.here hx rfl (pc0 := 274) (pc' := 281) rfl (hb hby at_274) rfl (own_lcT (cd := .ge) c225) (by decide) (by decide) k) ?_
                show own_Go _ _ _ _ T223 (mkF m 281 _ [])
                refine own_st (fun t k => XS.iconst X223.here hx rfl (hb hby at_281) k) ?_
                show own_Go _ _ _ _ T223 (mkF m 282 _ [(.int (0 : Int32))])
                exact J228 T223 _ _ X223 eq223 N224 (by simp only [if_neg c225])
            by_cases c218 : p10 = (0 : Int32)
            · skip
              refine own_st (fun t k => XS.ifYes X215.here hx rfl (pc0 := 201) (pc' := 209) rfl (hb hby at_201) rfl ((if0 _ _).trans (teq c218).1) (by decide) (by decide) k) ?_
              show own_Go _ _ _ _ T215 (mkF m 209 _ [])
              refine own_st (fun t k => XS.lconst X215.here hx rfl (hb hby at_209) k) ?_
              show own_Go _ _ _ _ T215 (mkF m 210 _ [(.long (0 : Int64))])
              exact J221 T215 _ _ X215 eq215 N216 (by simp only [if_pos c218])
            · skip
              refine own_st (fun t k => XS.ifNo X215.here hx rfl (hb hby at_201) rfl ((if0 _ _).trans (feq c218).1) k) ?_
              show own_Go _ _ _ _ T215 (mkF m 204 _ [])
              refine own_st (fun t k => XS.lload X215.here hx rfl (hb hby at_204) rfl k) ?_
              show own_Go _ _ _ _ T215 (mkF m 206 _ [(.long x4)])
              refine own_st (fun t k => XS.goto X215.here hx rfl (pc0 := 206) (pc' := 210) rfl (hb hby at_206) (by decide) (by decide) k) ?_
              show own_Go _ _ _ _ T215 (mkF m 210 _ [(.long x4)])
              exact J221 T215 _ _ X215 eq215 N216 (by simp only [if_neg c218])
          by_cases c165 : p10 = (0 : Int32)
          · skip
            refine own_st (fun t k => XS.ifYes Xj140.here hx rfl (pc0 := 173) (pc' := 188) rfl (hb hby at_173) rfl ((if0 _ _).trans (teq c165).1) (by decide) (by decide) k) ?_
            show own_Go _ _ _ _ Tj140 (mkF m 188 _ [])
            exact J191 Tj140 _ hj140 _ Xj140 ej140 Nj140 Zj140 fj141 fj142 fj143 fj144 fj145 fj146 fj147 fj148 fj149 fj150 fj151 fj152 fj153 fj154 fj155 fj156 fj157 fj158 fj159 fj160 fj161 fj163 (by simp only [if_pos c165])
          · skip
            refine own_st (fun t k => XS.ifNo Xj140.here hx rfl (hb hby at_173) rfl ((if0 _ _).trans (feq c165).1) k) ?_
            show own_Go _ _ _ _ Tj140 (mkF m 176 _ [])
            refine own_st (fun t k => XS.iload Xj140.here hx rfl (hb hby at_176) rfl k) ?_
            show own_Go _ _ _ _ Tj140 (mkF m 178 _ [(.int p15)])
            by_cases c167 : p15 = (0 : Int32)
            · skip
              refine own_st (fun t k => XS.ifNo Xj140.here hx rfl (hb hby at_178) rfl ((if0 _ _).trans (teq c167).2) k) ?_
              show own_Go _ _ _ _ Tj140 (mkF m 181 _ [])
              refine own_st (fun t k => XS.aload Xj140.here hx rfl (hb hby at_181) rfl rfl k) ?_
              show own_Go _ _ _ _ Tj140 (mkF m 183 _ [(.ref b80)])
              refine own_st (fun t k => XS.lload Xj140.here hx rfl (hb hby at_183) rfl k) ?_
              show own_Go _ _ _ _ Tj140 (mkF m 185 _ [(.long x4), (.ref b80)])
              obtain ⟨cq168, kq168, q168a, q168b, q168c⟩ := isOf hZ ej140 fj158
              obtain ⟨_, _, ⟨T168, L168, k168, n168⟩, -, X168, ⟨Lc168, hQ168, l168, y168, z168⟩, st168⟩ := Xj140.virtualBack hx (y := (⟨"com/example/antientropy/antientropy/sds/NamedEntries", "sent", "(J)V"⟩ : MethodName)) (z := (⟨"com/example/antientropy/antientropy/sds/NamedEntries", "sent", "(J)V"⟩ : MethodName)) hown (mvT hZ (hw _ (List.mem_of_getElem? (i := 74) rfl))) (mvT hZ (hw _ (List.mem_of_getElem? (i := 75) rfl))) (notFace_of_selects (args := #[]) (mvT hZ (hw _ (List.mem_of_getElem? (i := 77) rfl)))) (mvT hZ (hw _ (List.mem_of_getElem? (i := 77) rfl))) (mvT hZ (hw _ (List.mem_of_getElem? (i := 76) rfl))) (by decide) (backOf (W := 0) (rm11 l Z a0 hw [] b80 x4 p162 (0 : Int64) (0 : Int64) (.null) hj140 n0 Zj140 fj158 fj163 fj160 fj161 fj159 gx106) hZ (hw _ (List.mem_of_getElem? (i := 78) rfl)) (hw _ (List.mem_of_getElem? (i := 36) rfl)) (by decide) (by decide)) q168a q168c (g := (mkF m 185 #[.val (.long x0), .second, .val (.long x1), .second, .val (.long x2), .second, .val (.long x3), .second, .val (.long x4), .second, .val (.int x5), .val (.int v1), .val (.int v2), .val (.int v3), .val (.int v4), .val (.int v5), .val (.int p10), .val (.int p15), .val (.ref b16_so), .val (.ref b20_so), .val (.ref b32_so), .val (.ref b52_so), .val (.ref b80), .unset, .unset, .unset, .unset, .unset, .unset] [(.long x4), (.ref b80)])) rfl (by rw [hml]; rfl) (Steps.refl _) (argsL := [(.long x4)]) (rest := []) (lenOf own_pd__J_V rfl) rfl (by show 2 * 0 + _ ≤ _; exact Nat.le_of_eq rfl) (hb hby at_185) (fun _ _ => ⟨rfl, ej140, (by decide : 13 + 0 ≤ _), (by decide : 28 + 0 ≤ _)⟩)
              dsimp only [Pt.U, Pt.locs, Pt.cells, Pt.slots] at X168 l168 y168 z168 st168 hQ168
              subst l168 y168 z168
              obtain ⟨rfl, NQ168, K168, fq168_0, fq168_1, fq168_2, fq168_3, fq168_4⟩ := hQ168
              have N169 := Fr.app Nj140 NQ168
              refine own_st (fun t k => st168.trans k) ?_
              have f170 := own_staK fj141 K168 (allS ⟨_, fj158⟩ all0)
              have f171 := fj142.keep K168
              have f172 := fj143.keep K168 (ninS ne81 nin0)
              have f173 := fj144.keep K168 (ninS ne81 nin0)
              have f174 := fj145.keep K168 (ninS ne82 nin0)
              have f175 := fj146.keep K168
              have f176 := fj147.keep K168 (ninS ne83 nin0)
              have f177 := fj148.keep K168 (ninS ne83 nin0)
              have f178 := fj149.keep K168 (ninS ne84 nin0)
              have f179 := fj150.keep K168
              have f180 := fj151.keep K168 (ninS ne85 nin0)
              have f181 := fj152.keep K168 (ninS ne85 nin0)
              have f182 := fj153.keep K168 (ninS ne86 nin0)
              have f183 := fj154.keep K168
              have f184 := fj155.keep K168 (ninS ne87 nin0)
              have f185 := fj156.keep K168 (ninS ne87 nin0)
              have f186 := fj157.keep K168 (ninS ne88 nin0)
              have f187 := fj158.keep K168
              have Z188 : n0 ≤ T168.heap.size := Nat.le_trans Zj140 K168.1
              show own_Go _ _ _ _ T168 (mkF m 188 _ [])
              exact J191 T168 _ T168.heap _ X168 rfl N169 Z188 f170 f171 f172 f173 f174 f175 f176 f177 f178 f179 f180 f181 f182 f183 f184 f185 f186 fq168_0 fq168_4 fq168_2 fq168_3 fq168_1 (by simp only [if_neg c165, if_pos c167])
            · skip
              refine own_st (fun t k => XS.ifYes Xj140.here hx rfl (pc0 := 178) (pc' := 188) rfl (hb hby at_178) rfl ((if0 _ _).trans (feq c167).2) (by decide) (by decide) k) ?_
              show own_Go _ _ _ _ Tj140 (mkF m 188 _ [])
              exact J191 Tj140 _ hj140 _ Xj140 ej140 Nj140 Zj140 fj141 fj142 fj143 fj144 fj145 fj146 fj147 fj148 fj149 fj150 fj151 fj152 fj153 fj154 fj155 fj156 fj157 fj158 fj159 fj160 fj161 fj163 (by simp only [if_neg c165, if_neg c167])
        · skip
          refine own_st (fun t k => XS.icmpNo Xj140.here hx rfl (hb hby at_131) rfl (flt c164).1 k) ?_
          show own_Go _ _ _ _ Tj140 (mkF m 134 _ [])
          refine own_st (fun t k => XS.aload Xj140.here hx rfl (hb hby at_134) rfl rfl k) ?_
          show own_Go _ _ _ _ Tj140 (mkF m 136 _ [(.ref b80)])
          refine own_st (fun t k => XS.aload Xj140.here hx rfl (hb hby at_136) rfl rfl k) ?_
          show own_Go _ _ _ _ Tj140 (mkF m 138 _ [(.ref b16_so), (.ref b80)])
          refine own_st (fun t k => XS.lloadN Xj140.here hx rfl (hb hby at_138) rfl k) ?_
          show own_Go _ _ _ _ Tj140 (mkF m 139 _ [(.long x0), (.ref b16_so), (.ref b80)])
          obtain ⟨cq235, kq235, q235a, q235b, q235c⟩ := isOf hZ ej140 fj158
          obtain ⟨_, _, ⟨T235, L235, k235, n235⟩, -, X235, ⟨Lc235, hQ235, l235, y235, z235⟩, st235⟩ := Xj140.virtualBack hx (y := (⟨"com/example/antientropy/antientropy/sds/NamedEntries", "heard", "(Ljava/lang/String;J)V"⟩ : MethodName)) (z := (⟨"com/example/antientropy/antientropy/sds/NamedEntries", "heard", "(Ljava/lang/String;J)V"⟩ : MethodName)) hown (mvT hZ (hw _ (List.mem_of_getElem? (i := 41) rfl))) (mvT hZ (hw _ (List.mem_of_getElem? (i := 42) rfl))) (notFace_of_selects (args := #[]) (mvT hZ (hw _ (List.mem_of_getElem? (i := 44) rfl)))) (mvT hZ (hw _ (List.mem_of_getElem? (i := 44) rfl))) (mvT hZ (hw _ (List.mem_of_getElem? (i := 43) rfl))) (by decide) (backOf (W := 0) (rm13 l Z a0 hw [] b80 b16_so x0 p162 (0 : Int64) (0 : Int64) b16_bb r16_kb (own_by (own_chr v2)) hj140 n0 Zj140 fj158 fj163 fj160 fj161 fj159 fj142 fj143 fj144 fj145 ne81 ne82 gx106) hZ (hw _ (List.mem_of_getElem? (i := 45) rfl)) (hw _ (List.mem_of_getElem? (i := 36) rfl)) (by decide) (by decide)) q235a q235c (g := (mkF m 139 #[.val (.long x0), .second, .val (.long x1), .second, .val (.long x2), .second, .val (.long x3), .second, .val (.long x4), .second, .val (.int x5), .val (.int v1), .val (.int v2), .val (.int v3), .val (.int v4), .val (.int v5), .val (.int p10), .val (.int p15), .val (.ref b16_so), .val (.ref b20_so), .val (.ref b32_so), .val (.ref b52_so), .val (.ref b80), .unset, .unset, .unset, .unset, .unset, .unset] [(.long x0), (.ref b16_so), (.ref b80)])) rfl (by rw [hml]; rfl) (Steps.refl _) (argsL := [(.ref b16_so), (.long x0)]) (rest := []) (lenOf own_pd__Ljava_lang_String_J_V rfl) rfl (by show 2 * 0 + _ ≤ _; exact Nat.le_of_eq rfl) (hb hby at_139) (fun _ _ => ⟨rfl, ej140, (by decide : 13 + 0 ≤ _), (by decide : 28 + 0 ≤ _)⟩)
          dsimp only [Pt.U, Pt.locs, Pt.cells, Pt.slots] at X235 l235 y235 z235 st235 hQ235
          subst l235 y235 z235
          obtain ⟨rfl, NQ235, K235, fq235_0, fq235_1, fq235_2, fq235_3, fq235_4⟩ := hQ235
          have N236 := Fr.app Nj140 NQ235
          refine own_st (fun t k => st235.trans k) ?_
          have f237 := own_staK fj141 K235 (allS ⟨_, fj158⟩ all0)
          have f238 := fj142.keep K235
          have f239 := fj143.keep K235 (ninS ne81 nin0)
          have f240 := fj144.keep K235 (ninS ne81 nin0)
          have f241 := fj145.keep K235 (ninS ne82 nin0)
          have f242 := fj146.keep K235
          have f243 := fj147.keep K235 (ninS ne83 nin0)
          have f244 := fj148.keep K235 (ninS ne83 nin0)
          have f245 := fj149.keep K235 (ninS ne84 nin0)
          have f246 := fj150.keep K235
          have f247 := fj151.keep K235 (ninS ne85 nin0)
          have f248 := fj152.keep K235 (ninS ne85 nin0)
          have f249 := fj153.keep K235 (ninS ne86 nin0)
          have f250 := fj154.keep K235
          have f251 := fj155.keep K235 (ninS ne87 nin0)
          have f252 := fj156.keep K235 (ninS ne87 nin0)
          have f253 := fj157.keep K235 (ninS ne88 nin0)
          have f254 := fj158.keep K235
          have Z255 : n0 ≤ T235.heap.size := Nat.le_trans Zj140 K235.1
          show own_Go _ _ _ _ T235 (mkF m 142 _ [])
          refine own_st (fun t k => XS.iload X235.here hx rfl (hb hby at_142) rfl k) ?_
          show own_Go _ _ _ _ T235 (mkF m 144 _ [(.int v1)])
          refine own_st (fun t k => XS.iconst X235.here hx rfl (hb hby at_144) k) ?_
          show own_Go _ _ _ _ T235 (mkF m 145 _ [(.int (2 : Int32)), (.int v1)])
          by_cases c256 : v1 < (2 : Int32)
          · skip
            refine own_st (fun t k => XS.icmpYes X235.here hx rfl (pc0 := 145) (pc' := 156) rfl (hb hby at_145) rfl (tlt c256).1 (by decide) (by decide) k) ?_
            show own_Go _ _ _ _ T235 (mkF m 156 _ [])
            refine own_st (fun t k => XS.iload X235.here hx rfl (hb hby at_156) rfl k) ?_
            show own_Go _ _ _ _ T235 (mkF m 158 _ [(.int v1)])
            refine own_st (fun t k => XS.iconst X235.here hx rfl (hb hby at_158) k) ?_
            show own_Go _ _ _ _ T235 (mkF m 159 _ [(.int (3 : Int32)), (.int v1)])
            refine own_st (fun t k => XS.icmpYes X235.here hx rfl (pc0 := 159) (pc' := 171) rfl (hb hby at_159) rfl (tlt (own_ltle c256 (by decide))).1 (by decide) (by decide) k) ?_
            show own_Go _ _ _ _ T235 (mkF m 171 _ [])
            refine own_st (fun t k => XS.iload X235.here hx rfl (hb hby at_171) rfl k) ?_
            show own_Go _ _ _ _ T235 (mkF m 173 _ [(.int p10)])
            have J283 : ∀ (Tj283 : State) (Lj283 : List Loc) (hj283 : Heap) (p302 : Int64), Stand p l e room_1 s m #[(.long x0), (.long x1), (.long x2), (.long x3), (.long x4), (.int x5)] below meth c Tj283 Lj283 13 28 → Tj283.heap = hj283 → Fr n0 Lj283 → n0 ≤ hj283.size → Sta Z hj283 "java/lang/String" "COMPACT_STRINGS" "Z" (.int cs) → Exa Z hj283 b16_so "java/lang/String" → Fld Z hj283 b16_so "java/lang/String" "value" "[B" (.ref b16_bb) → Fld Z hj283 b16_so "java/lang/String" "coder" "B" (.int (0 : Int32)) → Arv Z hj283 b16_bb r16_kb .byte (1 : Int32) [(.int (own_by (own_chr v2)))] (.int (0 : Int32)) → Exa Z hj283 b20_so "java/lang/String" → Fld Z hj283 b20_so "java/lang/String" "value" "[B" (.ref b20_bb) → Fld Z hj283 b20_so "java/lang/String" "coder" "B" (.int (0 : Int32)) → Arv Z hj283 b20_bb r20_kb .byte (1 : Int32) [(.int (own_by (own_chr v3)))] (.int (0 : Int32)) → Exa Z hj283 b32_so "java/lang/String" → Fld Z hj283 b32_so "java/lang/String" "value" "[B" (.ref b32_bb) → Fld Z hj283 b32_so "java/lang/String" "coder" "B" (.int (0 : Int32)) → Arv Z hj283 b32_bb r32_kb .byte (1 : Int32) [(.int (own_by (own_chr v4)))] (.int (0 : Int32)) → Exa Z hj283 b52_so "java/lang/String" → Fld Z hj283 b52_so "java/lang/String" "value" "[B" (.ref b52_bb) → Fld Z hj283 b52_so "java/lang/String" "coder" "B" (.int (0 : Int32)) → Arv Z hj283 b52_bb r52_kb .byte (1 : Int32) [(.int (own_by (own_chr v5)))] (.int (0 : Int32)) → Exa Z hj283 b80 "com/example/antientropy/antientropy/sds/NamedEntries" → Fld Z hj283 b80 "com/example/antientropy/antientropy/sds/NamedEntries" "bySelf" "J" (.long p302) → Fld Z hj283 b80 "com/example/antientropy/antientropy/sds/NamedEntries" "byLatest" "J" (.long x0) → Fld Z hj283 b80 "com/example/antientropy/antientropy/sds/NamedEntries" "byLatestOfTheRest" "J" (.long (0 : Int64)) → Fld Z hj283 b80 "com/example/antientropy/antientropy/sds/NamedEntries" "latestFrom" "Ljava/lang/String;" (.ref b16_so) → p302 = (if p10 = (0 : Int32) then p162 else (if p15 = (0 : Int32) then x4 else p162)) → own_Go p.tables e below Pq Tj283 (mkF m 188 #[.val (.long x0), .second, .val (.long x1), .second, .val (.long x2), .second, .val (.long x3), .second, .val (.long x4), .second, .val (.int x5), .val (.int v1), .val (.int v2), .val (.int v3), .val (.int v4), .val (.int v5), .val (.int p10), .val (.int p15), .val (.ref b16_so), .val (.ref b20_so), .val (.ref b32_so), .val (.ref b52_so), .val (.ref b80), .unset, .unset, .unset, .unset, .unset, .unset] []) := by
              intro Tj283 Lj283 hj283 p302 Xj283 ej283 Nj283 Zj283 fj284 fj285 fj286 fj287 fj288 fj289 fj290 fj291 fj292 fj293 fj294 fj295 fj296 fj297 fj298 fj299 fj300 fj301 fj303 fj304 fj305 fj306 qp302
              show own_Go _ _ _ _ Tj283 (mkF m 188 _ [])
              refine own_st (fun t k => XS.aload Xj283.here hx rfl (hb hby at_188) rfl rfl k) ?_
              show own_Go _ _ _ _ Tj283 (mkF m 190 _ [(.ref b80)])
              refine own_st (fun t k => XS.aload Xj283.here hx rfl (hb hby at_190) rfl rfl k) ?_
              show own_Go _ _ _ _ Tj283 (mkF m 192 _ [(.ref b52_so), (.ref b80)])
              refine own_st (fun t k => XS.lload Xj283.here hx rfl (hb hby at_192) rfl k) ?_
              show own_Go _ _ _ _ Tj283 (mkF m 194 _ [(.long x3), (.ref b52_so), (.ref b80)])
              obtain ⟨cq307, kq307, q307a, q307b, q307c⟩ := isOf hZ ej283 fj301
              obtain ⟨_, _, ⟨T307, L307, k307, n307⟩, -, X307, ⟨Lc307, hQ307, l307, y307, z307⟩, st307⟩ := Xj283.virtualBack hx (y := (⟨"com/example/antientropy/antientropy/sds/NamedEntries", "isNamedTo", "(Ljava/lang/String;J)Z"⟩ : MethodName)) (z := (⟨"com/example/antientropy/antientropy/sds/NamedEntries", "isNamedTo", "(Ljava/lang/String;J)Z"⟩ : MethodName)) hown (mvT hZ (hw _ (List.mem_of_getElem? (i := 62) rfl))) (mvT hZ (hw _ (List.mem_of_getElem? (i := 63) rfl))) (notFace_of_selects (args := #[]) (mvT hZ (hw _ (List.mem_of_getElem? (i := 65) rfl)))) (mvT hZ (hw _ (List.mem_of_getElem? (i := 65) rfl))) (mvT hZ (hw _ (List.mem_of_getElem? (i := 64) rfl))) (by decide) (backOf (W := 0) (rm16 l Z a0 hw [] b80 b52_so x3 p302 x0 (0 : Int64) b52_bb r52_kb (own_by (own_chr v5)) cs b16_so b16_bb r16_kb (own_by (own_chr v2)) hj283 n0 Zj283 fj301 fj303 fj304 fj305 fj306 fj297 fj298 fj299 fj300 fj285 fj286 fj287 fj288 fj284 (Ne.symm ne68) hcs) hZ (hw _ (List.mem_of_getElem? (i := 66) rfl)) (hw _ (List.mem_of_getElem? (i := 36) rfl)) (by decide) (by decide)) q307a q307c (g := (mkF m 194 #[.val (.long x0), .second, .val (.long x1), .second, .val (.long x2), .second, .val (.long x3), .second, .val (.long x4), .second, .val (.int x5), .val (.int v1), .val (.int v2), .val (.int v3), .val (.int v4), .val (.int v5), .val (.int p10), .val (.int p15), .val (.ref b16_so), .val (.ref b20_so), .val (.ref b32_so), .val (.ref b52_so), .val (.ref b80), .unset, .unset, .unset, .unset, .unset, .unset] [(.long x3), (.ref b52_so), (.ref b80)])) rfl (by rw [hml]; rfl) (Steps.refl _) (argsL := [(.ref b52_so), (.long x3)]) (rest := []) (lenOf own_pd__Ljava_lang_String_J_Z rfl) rfl (by show 2 * 0 + _ ≤ _; exact Nat.le_of_eq rfl) (hb hby at_194) (fun _ _ => ⟨rfl, ej283, (by decide : 13 + 0 ≤ _), (by decide : 28 + 0 ≤ _)⟩)
              dsimp only [Pt.U, Pt.locs, Pt.cells, Pt.slots] at X307 l307 y307 z307 st307 hQ307
              subst l307 y307 z307
              obtain ⟨rfl, NQ307, eq307⟩ := hQ307
              have N308 := Fr.app Nj283 NQ307
              refine own_st (fun t k => st307.trans k) ?_
              show own_Go _ _ _ _ T307 (mkF m 197 _ [(.int (own_in1 x3 p302 x0 (0 : Int64) (own_by (own_chr v5)) (own_by (own_chr v2))))])
              generalize hv309 : (own_in1 x3 p302 x0 (0 : Int64) (own_by (own_chr v5)) (own_by (own_chr v2))) = v309
              refine own_st (fun t k => XS.istore X307.here hx rfl (hb hby at_197) rfl (l' := #[.val (.long x0), .second, .val (.long x1), .second, .val (.long x2), .second, .val (.long x3), .second, .val (.long x4), .second, .val (.int x5), .val (.int v1), .val (.int v2), .val (.int v3), .val (.int v4), .val (.int v5), .val (.int p10), .val (.int p15), .val (.ref b16_so), .val (.ref b20_so), .val (.ref b32_so), .val (.ref b52_so), .val (.ref b80), .val (.int v309), .unset, .unset, .unset, .unset, .unset]) rfl k) ?_
              show own_Go _ _ _ _ T307 (mkF m 199 #[.val (.long x0), .second, .val (.long x1), .second, .val (.long x2), .second, .val (.long x3), .second, .val (.long x4), .second, .val (.int x5), .val (.int v1), .val (.int v2), .val (.int v3), .val (.int v4), .val (.int v5), .val (.int p10), .val (.int p15), .val (.ref b16_so), .val (.ref b20_so), .val (.ref b32_so), .val (.ref b52_so), .val (.ref b80), .val (.int v309), .unset, .unset, .unset, .unset, .unset] [])
              refine own_st (fun t k => XS.iload X307.here hx rfl (hb hby at_199) rfl k) ?_
              show own_Go _ _ _ _ T307 (mkF m 201 _ [(.int p10)])
              have J313 : ∀ (Tj313 : State) (Lj313 : List Loc) (p314 : Int64), Stand p l e room_1 s m #[(.long x0), (.long x1), (.long x2), (.long x3), (.long x4), (.int x5)] below meth c Tj313 Lj313 13 28 → Tj313.heap = hj283 → Fr n0 Lj313 → p314 = (if p10 = (0 : Int32) then (0 : Int64) else x4) → own_Go p.tables e below Pq Tj313 (mkF m 210 #[.val (.long x0), .second, .val (.long x1), .second, .val (.long x2), .second, .val (.long x3), .second, .val (.long x4), .second, .val (.int x5), .val (.int v1), .val (.int v2), .val (.int v3), .val (.int v4), .val (.int v5), .val (.int p10), .val (.int p15), .val (.ref b16_so), .val (.ref b20_so), .val (.ref b32_so), .val (.ref b52_so), .val (.ref b80), .val (.int v309), .unset, .unset, .unset, .unset, .unset] [(.long p314)]) := by
                intro Tj313 Lj313 p314 Xj313 ej313 Nj313 qp314
                show own_Go _ _ _ _ Tj313 (mkF m 210 _ [(.long p314)])
                refine own_st (fun t k => XS.lstore Xj313.here hx rfl (hb hby at_210) rfl (l' := #[.val (.long x0), .second, .val (.long x1), .second, .val (.long x2), .second, .val (.long x3), .second, .val (.long x4), .second, .val (.int x5), .val (.int v1), .val (.int v2), .val (.int v3), .val (.int v4), .val (.int v5), .val (.int p10), .val (.int p15), .val (.ref b16_so), .val (.ref b20_so), .val (.ref b32_so), .val (.ref b52_so), .val (.ref b80), .val (.int v309), .val (.long p314), .second, .unset, .unset, .unset]) rfl k) ?_
                show own_Go _ _ _ _ Tj313 (mkF m 212 #[.val (.long x0), .second, .val (.long x1), .second, .val (.long x2), .second, .val (.long x3), .second, .val (.long x4), .second, .val (.int x5), .val (.int v1), .val (.int v2), .val (.int v3), .val (.int v4), .val (.int v5), .val (.int p10), .val (.int p15), .val (.ref b16_so), .val (.ref b20_so), .val (.ref b32_so), .val (.ref b52_so), .val (.ref b80), .val (.int v309), .val (.long p314), .second, .unset, .unset, .unset] [])
                refine own_st (fun t k => XS.lconst Xj313.here hx rfl (hb hby at_212) k) ?_
                show own_Go _ _ _ _ Tj313 (mkF m 213 _ [(.long (0 : Int64))])
                refine own_st (fun t k => XS.lstore Xj313.here hx rfl (hb hby at_213) rfl (l' := #[.val (.long x0), .second, .val (.long x1), .second, .val (.long x2), .second, .val (.long x3), .second, .val (.long x4), .second, .val (.int x5), .val (.int v1), .val (.int v2), .val (.int v3), .val (.int v4), .val (.int v5), .val (.int p10), .val (.int p15), .val (.ref b16_so), .val (.ref b20_so), .val (.ref b32_so), .val (.ref b52_so), .val (.ref b80), .val (.int v309), .val (.long p314), .second, .val (.long (0 : Int64)), .second, .unset]) rfl k) ?_
                show own_Go _ _ _ _ Tj313 (mkF m 215 #[.val (.long x0), .second, .val (.long x1), .second, .val (.long x2), .second, .val (.long x3), .second, .val (.long x4), .second, .val (.int x5), .val (.int v1), .val (.int v2), .val (.int v3), .val (.int v4), .val (.int v5), .val (.int p10), .val (.int p15), .val (.ref b16_so), .val (.ref b20_so), .val (.ref b32_so), .val (.ref b52_so), .val (.ref b80), .val (.int v309), .val (.long p314), .second, .val (.long (0 : Int64)), .second, .unset] [])
                refine own_st (fun t k => XS.iload Xj313.here hx rfl (hb hby at_215) rfl k) ?_
                show own_Go _ _ _ _ Tj313 (mkF m 217 _ [(.int v1)])
                refine own_st (fun t k => XS.iconst Xj313.here hx rfl (hb hby at_217) k) ?_
                show own_Go _ _ _ _ Tj313 (mkF m 218 _ [(.int (1 : Int32)), (.int v1)])
                refine own_st (fun t k => XS.icmpNo Xj313.here hx rfl (hb hby at_218) rfl (flt c164).1 k) ?_
                show own_Go _ _ _ _ Tj313 (mkF m 221 _ [])
                refine own_st (fun t k => XS.iload Xj313.here hx rfl (hb hby at_221) rfl k) ?_
                show own_Go _ _ _ _ Tj313 (mkF m 223 _ [(.int v2)])
                refine own_st (fun t k => XS.iload Xj313.here hx rfl (hb hby at_223) rfl k) ?_
                show own_Go _ _ _ _ Tj313 (mkF m 225 _ [(.int v5), (.int v2)])
                have J318 : ∀ (Tj318 : State) (Lj318 : List Loc) (p319 : Int64), Stand p l e room_1 s m #[(.long x0), (.long x1), (.long x2), (.long x3), (.long x4), (.int x5)] below meth c Tj318 Lj318 13 28 → Tj318.heap = hj283 → Fr n0 Lj318 → p319 = (if v2 = v5 then (0 : Int64) else x0) → own_Go p.tables e below Pq Tj318 (mkF m 231 #[.val (.long x0), .second, .val (.long x1), .second, .val (.long x2), .second, .val (.long x3), .second, .val (.long x4), .second, .val (.int x5), .val (.int v1), .val (.int v2), .val (.int v3), .val (.int v4), .val (.int v5), .val (.int p10), .val (.int p15), .val (.ref b16_so), .val (.ref b20_so), .val (.ref b32_so), .val (.ref b52_so), .val (.ref b80), .val (.int v309), .val (.long p314), .second, .val (.long p319), .second, .unset] []) := by
                  intro Tj318 Lj318 p319 Xj318 ej318 Nj318 qp319
                  show own_Go _ _ _ _ Tj318 (mkF m 231 #[.val (.long x0), .second, .val (.long x1), .second, .val (.long x2), .second, .val (.long x3), .second, .val (.long x4), .second, .val (.int x5), .val (.int v1), .val (.int v2), .val (.int v3), .val (.int v4), .val (.int v5), .val (.int p10), .val (.int p15), .val (.ref b16_so), .val (.ref b20_so), .val (.ref b32_so), .val (.ref b52_so), .val (.ref b80), .val (.int v309), .val (.long p314), .second, .val (.long p319), .second, .unset] [])
                  refine own_st (fun t k => XS.iload Xj318.here hx rfl (hb hby at_231) rfl k) ?_
                  show own_Go _ _ _ _ Tj318 (mkF m 233 _ [(.int v1)])
                  refine own_st (fun t k => XS.iconst Xj318.here hx rfl (hb hby at_233) k) ?_
                  show own_Go _ _ _ _ Tj318 (mkF m 234 _ [(.int (2 : Int32)), (.int v1)])
                  refine own_st (fun t k => XS.icmpYes Xj318.here hx rfl (pc0 := 234) (pc' := 247) rfl (hb hby at_234) rfl (tlt c256).1 (by decide) (by decide) k) ?_
                  show own_Go _ _ _ _ Tj318 (mkF m 247 _ [])
                  refine own_st (fun t k => XS.iload Xj318.here hx rfl (hb hby at_247) rfl k) ?_
                  show own_Go _ _ _ _ Tj318 (mkF m 249 _ [(.int v1)])
                  refine own_st (fun t k => XS.iconst Xj318.here hx rfl (hb hby at_249) k) ?_
                  show own_Go _ _ _ _ Tj318 (mkF m 250 _ [(.int (3 : Int32)), (.int v1)])
                  refine own_st (fun t k => XS.icmpYes Xj318.here hx rfl (pc0 := 250) (pc' := 264) rfl (hb hby at_250) rfl (tlt (own_ltle c256 (by decide))).1 (by decide) (by decide) k) ?_
                  show own_Go _ _ _ _ Tj318 (mkF m 264 _ [])
                  refine own_st (fun t k => XS.lload Xj318.here hx rfl (hb hby at_264) rfl k) ?_
                  show own_Go _ _ _ _ Tj318 (mkF m 266 _ [(.long x3)])
                  refine own_st (fun t k => XS.lload Xj318.here hx rfl (hb hby at_266) rfl k) ?_
                  show own_Go _ _ _ _ Tj318 (mkF m 268 _ [(.long p314), (.long x3)])
                  refine own_st (fun t k => XS.lload Xj318.here hx rfl (hb hby at_268) rfl k) ?_
                  show own_Go _ _ _ _ Tj318 (mkF m 270 _ [(.long p319), (.long p314), (.long x3)])
                  obtain ⟨_, _, ⟨T320, L320, k320, n320⟩, -, X320, ⟨Lc320, hQ320, l320, y320, z320⟩, st320⟩ := Jvm.LawKit.callS Xj318 hx (y := (⟨"java/lang/Math", "max", "(JJ)J"⟩ : MethodName)) hown (mvT hZ (hw _ (List.mem_of_getElem? (i := 73) rfl))) (mvT hZ (hw _ (List.mem_of_getElem? (i := 70) rfl))) (mvT hZ (hw _ (List.mem_of_getElem? (i := 71) rfl))) (mvT hZ (hw _ (List.mem_of_getElem? (i := 72) rfl))) (by decide) (backOf (W := 2) (rm12 l Z a0 hw [] p314 p319 hj283 n0 Zj283 ) hZ (hw _ (List.mem_of_getElem? (i := 72) rfl)) (hw _ (List.mem_of_getElem? (i := 71) rfl)) (by decide) (by decide)) (g := (mkF m 270 #[.val (.long x0), .second, .val (.long x1), .second, .val (.long x2), .second, .val (.long x3), .second, .val (.long x4), .second, .val (.int x5), .val (.int v1), .val (.int v2), .val (.int v3), .val (.int v4), .val (.int v5), .val (.int p10), .val (.int p15), .val (.ref b16_so), .val (.ref b20_so), .val (.ref b32_so), .val (.ref b52_so), .val (.ref b80), .val (.int v309), .val (.long p314), .second, .val (.long p319), .second, .unset] [(.long p319), (.long p314), (.long x3)])) rfl (by rw [hml]; rfl) (argsL := [(.long p314), (.long p319)]) (rest := [(.long x3)]) (lenOf own_pd__JJ_J rfl) rfl (by show 2 * 0 + _ ≤ _; exact Nat.le_of_eq rfl) (hb hby at_270) (fun _ _ => ⟨rfl, ej318, (by decide : 13 + 0 ≤ _), (by decide : 28 + 0 ≤ _)⟩)
                  dsimp only [Pt.U, Pt.locs, Pt.cells, Pt.slots] at X320 l320 y320 z320 st320 hQ320
                  subst l320 y320 z320
                  obtain ⟨rfl, NQ320, eq320⟩ := hQ320
                  have N321 := Fr.app Nj318 NQ320
                  refine own_st st320 ?_
                  show own_Go _ _ _ _ T320 (mkF m 273 _ [(.long (own_max p314 p319)), (.long x3)])
                  refine own_st (fun t k => XS.lcmp X320.here hx rfl (hb hby at_273) rfl k) ?_
                  show own_Go _ _ _ _ T320 (mkF m 274 _ [(.int (lcmpW x3 (own_max p314 p319)))])
                  have J325 : ∀ (Tj325 : State) (Lj325 : List Loc) (p326 : Int32), Stand p l e room_1 s m #[(.long x0), (.long x1), (.long x2), (.long x3), (.long x4), (.int x5)] below meth c Tj325 Lj325 13 28 → Tj325.heap = hj283 → Fr n0 Lj325 → p326 = (if x3 < (own_max p314 p319) then (1 : Int32) else (0 : Int32)) → own_Go p.tables e below Pq Tj325 (mkF m 282 #[.val (.long x0), .second, .val (.long x1), .second, .val (.long x2), .second, .val (.long x3), .second, .val (.long x4), .second, .val (.int x5), .val (.int v1), .val (.int v2), .val (.int v3), .val (.int v4), .val (.int v5), .val (.int p10), .val (.int p15), .val (.ref b16_so), .val (.ref b20_so), .val (.ref b32_so), .val (.ref b52_so), .val (.ref b80), .val (.int v309), .val (.long p314), .second, .val (.long p319), .second, .unset] [(.int p326)]) := by
                    intro Tj325 Lj325 p326 Xj325 ej325 Nj325 qp326
                    show own_Go _ _ _ _ Tj325 (mkF m 282 _ [(.int p326)])
                    refine own_st (fun t k => XS.istore Xj325.here hx rfl (hb hby at_282) rfl (l' := #[.val (.long x0), .second, .val (.long x1), .second, .val (.long x2), .second, .val (.long x3), .second, .val (.long x4), .second, .val (.int x5), .val (.int v1), .val (.int v2), .val (.int v3), .val (.int v4), .val (.int v5), .val (.int p10), .val (.int p15), .val (.ref b16_so), .val (.ref b20_so), .val (.ref b32_so), .val (.ref b52_so), .val (.ref b80), .val (.int v309), .val (.long p314), .second, .val (.long p319), .second, .val (.int p326)]) rfl k) ?_
                    show own_Go _ _ _ _ Tj325 (mkF m 284 #[.val (.long x0), .second, .val (.long x1), .second, .val (.long x2), .second, .val (.long x3), .second, .val (.long x4), .second, .val (.int x5), .val (.int v1), .val (.int v2), .val (.int v3), .val (.int v4), .val (.int v5), .val (.int p10), .val (.int p15), .val (.ref b16_so), .val (.ref b20_so), .val (.ref b32_so), .val (.ref b52_so), .val (.ref b80), .val (.int v309), .val (.long p314), .second, .val (.long p319), .second, .val (.int p326)] [])
                    refine own_st (fun t k => XS.iload Xj325.here hx rfl (hb hby at_284) rfl k) ?_
                    show own_Go _ _ _ _ Tj325 (mkF m 286 _ [(.int v309)])
                    refine own_st (fun t k => XS.iload Xj325.here hx rfl (hb hby at_286) rfl k) ?_
                    show own_Go _ _ _ _ Tj325 (mkF m 288 _ [(.int p326), (.int v309)])
                    have J330 : ∀ (Tj330 : State) (Lj330 : List Loc) (p331 : Int32), Stand p l e room_1 s m #[(.long x0), (.long x1), (.long x2), (.long x3), (.long x4), (.int x5)] below meth c Tj330 Lj330 13 28 → Tj330.heap = hj283 → Fr n0 Lj330 → p331 = (if v309 = p326 then (1 : Int32) else (0 : Int32)) → own_Go p.tables e below Pq Tj330 (mkF m 296 #[.val (.long x0), .second, .val (.long x1), .second, .val (.long x2), .second, .val (.long x3), .second, .val (.long x4), .second, .val (.int x5), .val (.int v1), .val (.int v2), .val (.int v3), .val (.int v4), .val (.int v5), .val (.int p10), .val (.int p15), .val (.ref b16_so), .val (.ref b20_so), .val (.ref b32_so), .val (.ref b52_so), .val (.ref b80), .val (.int v309), .val (.long p314), .second, .val (.long p319), .second, .val (.int p326)] [(.int p331)]) := by
                      intro Tj330 Lj330 p331 Xj330 ej330 Nj330 qp331
                      show own_Go _ _ _ _ Tj330 (mkF m 296 _ [(.int p331)])
                      subst hPq
                      refine own_out Xj330 (v := some (.int (nar .boolean p331))) (fun h => by rw [Bd.returns] at h; cases h) Bd.notSynchronized (fun fs hr => retN Xj330 hx (t := .boolean) Bd.returns (by simp) (hb hby at_296) hr) (by decide) (by decide) ?_
                      show Q0 Z x0 x1 x2 x3 x4 x5 cs h0 n0 _ Tj330.heap _
                      rw [ej330]
                      exact ⟨congrArg (fun z => some (Value.int (nar .boolean z))) (own_law2 x0 x1 x2 x3 x4 x5 cs v1 v2 v3 v4 v5 p10 p15 r16_kb r20_kb r32_kb r52_kb p162 p302 v309 p314 p319 p326 p331 hcs hv1 hv2 hv3 hv4 hv5 qp10 qp15 qp162 qp302 hv309 qp314 qp319 qp326 qp331 c164 c256), Nj330⟩
                    by_cases c327 : v309 = p326
                    · skip
                      refine own_st (fun t k => XS.icmpNo Xj325.here hx rfl (hb hby at_288) rfl (teq c327).2 k) ?_
                      show own_Go _ _ _ _ Tj325 (mkF m 291 _ [])
                      refine own_st (fun t k => XS.iconst Xj325.here hx rfl (hb hby at_291) k) ?_
                      show own_Go _ _ _ _ Tj325 (mkF m 292 _ [(.int (1 : Int32))])
                      refine own_st (fun t k => XS.goto Xj325.here hx rfl (pc0 := 292) (pc' := 296) rfl (hb hby at_292) (by decide) (by decide) k) ?_
                      show own_Go _ _ _ _ Tj325 (mkF m 296 _ [(.int (1 : Int32))])
                      exact J330 Tj325 _ _ Xj325 ej325 Nj325 (by simp only [if_pos c327])
                    · skip
                      refine own_st (fun t k => XS.icmpYes Xj325.here hx rfl (pc0 := 288) (pc' := 295) rfl (hb hby at_288) rfl (feq c327).2 (by decide) (by decide) k) ?_
                      show own_Go _ _ _ _ Tj325 (mkF m 295 _ [])
                      refine own_st (fun t k => XS.iconst Xj325.here hx rfl (hb hby at_295) k) ?_
                      show own_Go _ _ _ _ Tj325 (mkF m 296 _ [(.int (0 : Int32))])
                      exact J330 Tj325 _ _ Xj325 ej325 Nj325 (by simp only [if_neg c327])
                  by_cases c322 : x3 < (own_max p314 p319)
                  · skip
                    refine own_st (fun t k => XS.ifNo X320.here hx rfl (hb hby at_274) rfl (own_lcF (cd := .ge) (not_not_intro c322)) k) ?_
                    show own_Go _ _ _ _ T320 (mkF m 277 _ [])
                    refine own_st (fun t k => XS.iconst X320.here hx rfl (hb hby at_277) k) ?_
                    show own_Go _ _ _ _ T320 (mkF m 278 _ [(.int (1 : Int32))])
                    refine own_st (fun t k => XS.goto X320.here hx rfl (pc0 := 278) (pc' := 282) rfl (hb hby at_278) (by decide) (by decide) k) ?_
                    show own_Go _ _ _ _ T320 (mkF m 282 _ [(.int (1 : Int32))])
                    exact J325 T320 _ _ X320 eq320 N321 (by simp only [if_pos c322])
                  · skip
                    refine own_st (fun t k => XS.ifYes X320.here hx rfl (pc0 := 274) (pc' := 281) rfl (hb hby at_274) rfl (own_lcT (cd := .ge) c322) (by decide) (by decide) k) ?_
                    show own_Go _ _ _ _ T320 (mkF m 281 _ [])
                    refine own_st (fun t k => XS.iconst X320.here hx rfl (hb hby at_281) k) ?_
                    show own_Go _ _ _ _ T320 (mkF m 282 _ [(.int (0 : Int32))])
                    exact J325 T320 _ _ X320 eq320 N321 (by simp only [if_neg c322])
                by_cases c315 : v2 = v5
                · skip
                  refine own_st (fun t k => XS.icmpYes Xj313.here hx rfl (pc0 := 225) (pc' := 231) rfl (hb hby at_225) rfl (teq c315).1 (by decide) (by decide) k) ?_
                  show own_Go _ _ _ _ Tj313 (mkF m 231 _ [])
                  exact J318 Tj313 _ _ Xj313 ej313 Nj313 (by simp only [if_pos c315])
                · skip
                  refine own_st (fun t k => XS.icmpNo Xj313.here hx rfl (hb hby at_225) rfl (feq c315).1 k) ?_
                  show own_Go _ _ _ _ Tj313 (mkF m 228 _ [])
                  refine own_st (fun t k => XS.lloadN Xj313.here hx rfl (hb hby at_228) rfl k) ?_
                  show own_Go _ _ _ _ Tj313 (mkF m 229 _ [(.long x0)])
                  refine own_st (fun t k => XS.lstore Xj313.here hx rfl (hb hby at_229) rfl (l' := #[.val (.long x0), .second, .val (.long x1), .second, .val (.long x2), .second, .val (.long x3), .second, .val (.long x4), .second, .val (.int x5), .val (.int v1), .val (.int v2), .val (.int v3), .val (.int v4), .val (.int v5), .val (.int p10), .val (.int p15), .val (.ref b16_so), .val (.ref b20_so), .val (.ref b32_so), .val (.ref b52_so), .val (.ref b80), .val (.int v309), .val (.long p314), .second, .val (.long x0), .second, .unset]) rfl k) ?_
                  show own_Go _ _ _ _ Tj313 (mkF m 231 #[.val (.long x0), .second, .val (.long x1), .second, .val (.long x2), .second, .val (.long x3), .second, .val (.long x4), .second, .val (.int x5), .val (.int v1), .val (.int v2), .val (.int v3), .val (.int v4), .val (.int v5), .val (.int p10), .val (.int p15), .val (.ref b16_so), .val (.ref b20_so), .val (.ref b32_so), .val (.ref b52_so), .val (.ref b80), .val (.int v309), .val (.long p314), .second, .val (.long x0), .second, .unset] [])
                  exact J318 Tj313 _ _ Xj313 ej313 Nj313 (by simp only [if_neg c315])
              by_cases c310 : p10 = (0 : Int32)
              · skip
                refine own_st (fun t k => XS.ifYes X307.here hx rfl (pc0 := 201) (pc' := 209) rfl (hb hby at_201) rfl ((if0 _ _).trans (teq c310).1) (by decide) (by decide) k) ?_
                show own_Go _ _ _ _ T307 (mkF m 209 _ [])
                refine own_st (fun t k => XS.lconst X307.here hx rfl (hb hby at_209) k) ?_
                show own_Go _ _ _ _ T307 (mkF m 210 _ [(.long (0 : Int64))])
                exact J313 T307 _ _ X307 eq307 N308 (by simp only [if_pos c310])
              · skip
                refine own_st (fun t k => XS.ifNo X307.here hx rfl (hb hby at_201) rfl ((if0 _ _).trans (feq c310).1) k) ?_
                show own_Go _ _ _ _ T307 (mkF m 204 _ [])
                refine own_st (fun t k => XS.lload X307.here hx rfl (hb hby at_204) rfl k) ?_
                show own_Go _ _ _ _ T307 (mkF m 206 _ [(.long x4)])
                refine own_st (fun t k => XS.goto X307.here hx rfl (pc0 := 206) (pc' := 210) rfl (hb hby at_206) (by decide) (by decide) k) ?_
                show own_Go _ _ _ _ T307 (mkF m 210 _ [(.long x4)])
                exact J313 T307 _ _ X307 eq307 N308 (by simp only [if_neg c310])
            by_cases c257 : p10 = (0 : Int32)
            · skip
              refine own_st (fun t k => XS.ifYes X235.here hx rfl (pc0 := 173) (pc' := 188) rfl (hb hby at_173) rfl ((if0 _ _).trans (teq c257).1) (by decide) (by decide) k) ?_
              show own_Go _ _ _ _ T235 (mkF m 188 _ [])
              exact J283 T235 _ T235.heap _ X235 rfl N236 Z255 f237 f238 f239 f240 f241 f242 f243 f244 f245 f246 f247 f248 f249 f250 f251 f252 f253 fq235_0 fq235_1 fq235_2 fq235_3 fq235_4 (by simp only [if_pos c257])
            · skip
              refine own_st (fun t k => XS.ifNo X235.here hx rfl (hb hby at_173) rfl ((if0 _ _).trans (feq c257).1) k) ?_
              show own_Go _ _ _ _ T235 (mkF m 176 _ [])
              refine own_st (fun t k => XS.iload X235.here hx rfl (hb hby at_176) rfl k) ?_
              show own_Go _ _ _ _ T235 (mkF m 178 _ [(.int p15)])
              by_cases c259 : p15 = (0 : Int32)
              · skip
                refine own_st (fun t k => XS.ifNo X235.here hx rfl (hb hby at_178) rfl ((if0 _ _).trans (teq c259).2) k) ?_
                show own_Go _ _ _ _ T235 (mkF m 181 _ [])
                refine own_st (fun t k => XS.aload X235.here hx rfl (hb hby at_181) rfl rfl k) ?_
                show own_Go _ _ _ _ T235 (mkF m 183 _ [(.ref b80)])
                refine own_st (fun t k => XS.lload X235.here hx rfl (hb hby at_183) rfl k) ?_
                show own_Go _ _ _ _ T235 (mkF m 185 _ [(.long x4), (.ref b80)])
                obtain ⟨cq260, kq260, q260a, q260b, q260c⟩ := isOf hZ rfl fq235_0
                obtain ⟨_, _, ⟨T260, L260, k260, n260⟩, -, X260, ⟨Lc260, hQ260, l260, y260, z260⟩, st260⟩ := X235.virtualBack hx (y := (⟨"com/example/antientropy/antientropy/sds/NamedEntries", "sent", "(J)V"⟩ : MethodName)) (z := (⟨"com/example/antientropy/antientropy/sds/NamedEntries", "sent", "(J)V"⟩ : MethodName)) hown (mvT hZ (hw _ (List.mem_of_getElem? (i := 74) rfl))) (mvT hZ (hw _ (List.mem_of_getElem? (i := 75) rfl))) (notFace_of_selects (args := #[]) (mvT hZ (hw _ (List.mem_of_getElem? (i := 77) rfl)))) (mvT hZ (hw _ (List.mem_of_getElem? (i := 77) rfl))) (mvT hZ (hw _ (List.mem_of_getElem? (i := 76) rfl))) (by decide) (backOf (W := 0) (rm11 l Z a0 hw [] b80 x4 p162 x0 (0 : Int64) (.ref b16_so) T235.heap n0 Z255 fq235_0 fq235_1 fq235_2 fq235_3 fq235_4 gx106) hZ (hw _ (List.mem_of_getElem? (i := 78) rfl)) (hw _ (List.mem_of_getElem? (i := 36) rfl)) (by decide) (by decide)) q260a q260c (g := (mkF m 185 #[.val (.long x0), .second, .val (.long x1), .second, .val (.long x2), .second, .val (.long x3), .second, .val (.long x4), .second, .val (.int x5), .val (.int v1), .val (.int v2), .val (.int v3), .val (.int v4), .val (.int v5), .val (.int p10), .val (.int p15), .val (.ref b16_so), .val (.ref b20_so), .val (.ref b32_so), .val (.ref b52_so), .val (.ref b80), .unset, .unset, .unset, .unset, .unset, .unset] [(.long x4), (.ref b80)])) rfl (by rw [hml]; rfl) (Steps.refl _) (argsL := [(.long x4)]) (rest := []) (lenOf own_pd__J_V rfl) rfl (by show 2 * 0 + _ ≤ _; exact Nat.le_of_eq rfl) (hb hby at_185) (fun _ _ => ⟨rfl, rfl, (by decide : 13 + 0 ≤ _), (by decide : 28 + 0 ≤ _)⟩)
                dsimp only [Pt.U, Pt.locs, Pt.cells, Pt.slots] at X260 l260 y260 z260 st260 hQ260
                subst l260 y260 z260
                obtain ⟨rfl, NQ260, K260, fq260_0, fq260_1, fq260_2, fq260_3, fq260_4⟩ := hQ260
                have N261 := Fr.app N236 NQ260
                refine own_st (fun t k => st260.trans k) ?_
                have f262 := own_staK f237 K260 (allS ⟨_, fq235_0⟩ all0)
                have f263 := f238.keep K260
                have f264 := f239.keep K260 (ninS ne81 nin0)
                have f265 := f240.keep K260 (ninS ne81 nin0)
                have f266 := f241.keep K260 (ninS ne82 nin0)
                have f267 := f242.keep K260
                have f268 := f243.keep K260 (ninS ne83 nin0)
                have f269 := f244.keep K260 (ninS ne83 nin0)
                have f270 := f245.keep K260 (ninS ne84 nin0)
                have f271 := f246.keep K260
                have f272 := f247.keep K260 (ninS ne85 nin0)
                have f273 := f248.keep K260 (ninS ne85 nin0)
                have f274 := f249.keep K260 (ninS ne86 nin0)
                have f275 := f250.keep K260
                have f276 := f251.keep K260 (ninS ne87 nin0)
                have f277 := f252.keep K260 (ninS ne87 nin0)
                have f278 := f253.keep K260 (ninS ne88 nin0)
                have f279 := fq235_0.keep K260
                have Z280 : n0 ≤ T260.heap.size := Nat.le_trans Z255 K260.1
                show own_Go _ _ _ _ T260 (mkF m 188 _ [])
                exact J283 T260 _ T260.heap _ X260 rfl N261 Z280 f262 f263 f264 f265 f266 f267 f268 f269 f270 f271 f272 f273 f274 f275 f276 f277 f278 fq260_0 fq260_1 fq260_2 fq260_3 fq260_4 (by simp only [if_neg c257, if_pos c259])
              · skip
                refine own_st (fun t k => XS.ifYes X235.here hx rfl (pc0 := 178) (pc' := 188) rfl (hb hby at_178) rfl ((if0 _ _).trans (feq c259).2) (by decide) (by decide) k) ?_
                show own_Go _ _ _ _ T235 (mkF m 188 _ [])
                exact J283 T235 _ T235.heap _ X235 rfl N236 Z255 f237 f238 f239 f240 f241 f242 f243 f244 f245 f246 f247 f248 f249 f250 f251 f252 f253 fq235_0 fq235_1 fq235_2 fq235_3 fq235_4 (by simp only [if_neg c257, if_neg c259])
          · skip
            refine own_st (fun t k => XS.icmpNo X235.here hx rfl (hb hby at_145) rfl (flt c256).1 k) ?_
            show own_Go _ _ _ _ T235 (mkF m 148 _ [])
            refine own_st (fun t k => XS.aload X235.here hx rfl (hb hby at_148) rfl rfl k) ?_
            show own_Go _ _ _ _ T235 (mkF m 150 _ [(.ref b80)])
            refine own_st (fun t k => XS.aload X235.here hx rfl (hb hby at_150) rfl rfl k) ?_
            show own_Go _ _ _ _ T235 (mkF m 152 _ [(.ref b20_so), (.ref b80)])
            refine own_st (fun t k => XS.lloadN X235.here hx rfl (hb hby at_152) rfl k) ?_
            show own_Go _ _ _ _ T235 (mkF m 153 _ [(.long x1), (.ref b20_so), (.ref b80)])
            obtain ⟨cq332, kq332, q332a, q332b, q332c⟩ := isOf hZ rfl fq235_0
            obtain ⟨_, _, ⟨T332, L332, k332, n332⟩, -, X332, ⟨Lc332, hQ332, l332, y332, z332⟩, st332⟩ := X235.virtualBack hx (y := (⟨"com/example/antientropy/antientropy/sds/NamedEntries", "heard", "(Ljava/lang/String;J)V"⟩ : MethodName)) (z := (⟨"com/example/antientropy/antientropy/sds/NamedEntries", "heard", "(Ljava/lang/String;J)V"⟩ : MethodName)) hown (mvT hZ (hw _ (List.mem_of_getElem? (i := 41) rfl))) (mvT hZ (hw _ (List.mem_of_getElem? (i := 42) rfl))) (notFace_of_selects (args := #[]) (mvT hZ (hw _ (List.mem_of_getElem? (i := 44) rfl)))) (mvT hZ (hw _ (List.mem_of_getElem? (i := 44) rfl))) (mvT hZ (hw _ (List.mem_of_getElem? (i := 43) rfl))) (by decide) (backOf (W := 0) (rm14 l Z a0 hw [] b80 b20_so x1 p162 x0 (0 : Int64) b20_bb r20_kb (own_by (own_chr v3)) cs b16_so b16_bb r16_kb (own_by (own_chr v2)) T235.heap n0 Z255 fq235_0 fq235_1 fq235_2 fq235_3 fq235_4 f242 f243 f244 f245 f238 f239 f240 f241 f237 ne83 ne84 ne81 ne82 (Ne.symm ne28) hcs gx106) hZ (hw _ (List.mem_of_getElem? (i := 45) rfl)) (hw _ (List.mem_of_getElem? (i := 36) rfl)) (by decide) (by decide)) q332a q332c (g := (mkF m 153 #[.val (.long x0), .second, .val (.long x1), .second, .val (.long x2), .second, .val (.long x3), .second, .val (.long x4), .second, .val (.int x5), .val (.int v1), .val (.int v2), .val (.int v3), .val (.int v4), .val (.int v5), .val (.int p10), .val (.int p15), .val (.ref b16_so), .val (.ref b20_so), .val (.ref b32_so), .val (.ref b52_so), .val (.ref b80), .unset, .unset, .unset, .unset, .unset, .unset] [(.long x1), (.ref b20_so), (.ref b80)])) rfl (by rw [hml]; rfl) (Steps.refl _) (argsL := [(.ref b20_so), (.long x1)]) (rest := []) (lenOf own_pd__Ljava_lang_String_J_V rfl) rfl (by show 2 * 0 + _ ≤ _; exact Nat.le_of_eq rfl) (hb hby at_153) (fun _ _ => ⟨rfl, rfl, (by decide : 13 + 0 ≤ _), (by decide : 28 + 0 ≤ _)⟩)
            dsimp only [Pt.U, Pt.locs, Pt.cells, Pt.slots] at X332 l332 y332 z332 st332 hQ332
            subst l332 y332 z332
            obtain ⟨r332_ls2, r332_lv2, r332_kl2, r332_rs2, rfl, NQ332, K332, fq332_0, fq332_1, fq332_2, fq332_3, fq332_4, fq332_5, fq332_6, fq332_7, fq332_8, hq332_0, hq332_1, hq332_2⟩ := hQ332
            have N333 := Fr.app N236 NQ332
            refine own_st (fun t k => st332.trans k) ?_
            have f334 := own_staK f237 K332 (allS ⟨_, fq235_0⟩ all0)
            have f335 := f238.keep K332
            have f336 := f239.keep K332 (ninS ne81 nin0)
            have f337 := f240.keep K332 (ninS ne81 nin0)
            have f338 := f241.keep K332 (ninS ne82 nin0)
            have f339 := f242.keep K332
            have f340 := f243.keep K332 (ninS ne83 nin0)
            have f341 := f244.keep K332 (ninS ne83 nin0)
            have f342 := f245.keep K332 (ninS ne84 nin0)
            have f343 := f246.keep K332
            have f344 := f247.keep K332 (ninS ne85 nin0)
            have f345 := f248.keep K332 (ninS ne85 nin0)
            have f346 := f249.keep K332 (ninS ne86 nin0)
            have f347 := f250.keep K332
            have f348 := f251.keep K332 (ninS ne87 nin0)
            have f349 := f252.keep K332 (ninS ne87 nin0)
            have f350 := f253.keep K332 (ninS ne88 nin0)
            have f351 := fq235_0.keep K332
            have Z352 : n0 ≤ T332.heap.size := Nat.le_trans Z255 K332.1
            have ne353 : r332_lv2 ≠ b16_so := own_orne hq332_1 (Ne.symm ne30) (Ne.symm hq16_0)
            have ne354 : r332_ls2 ≠ b16_bb := own_orne hq332_0 (Ne.symm ne29) hq16_0
            have ne355 : r332_lv2 ≠ b20_so := own_orne hq332_1 (Ne.symm hq20_0) ne29
            have ne356 : r332_ls2 ≠ b20_bb := own_orne hq332_0 hq20_0 ne30
            have ne357 : r332_ls2 ≠ b32_so := own_orne hq332_0 ne46 ne44
            have ne358 : r332_lv2 ≠ b32_so := own_orne hq332_1 ne47 ne45
            have ne359 : r332_ls2 ≠ b32_bb := own_orne hq332_0 ne50 ne48
            have ne360 : r332_lv2 ≠ b32_bb := own_orne hq332_1 ne51 ne49
            have ne361 : r332_ls2 ≠ b52_so := own_orne hq332_0 ne70 ne68
            have ne362 : r332_lv2 ≠ b52_so := own_orne hq332_1 ne71 ne69
            have ne363 : r332_ls2 ≠ b52_bb := own_orne hq332_0 ne76 ne74
            have ne364 : r332_lv2 ≠ b52_bb := own_orne hq332_1 ne77 ne75
            have ne365 : r332_ls2 ≠ b80 := own_orne hq332_0 ne83 ne81
            have ne366 : r332_lv2 ≠ b80 := own_orne hq332_1 ne84 ne82
            show own_Go _ _ _ _ T332 (mkF m 156 _ [])
            refine own_st (fun t k => XS.iload X332.here hx rfl (hb hby at_156) rfl k) ?_
            show own_Go _ _ _ _ T332 (mkF m 158 _ [(.int v1)])
            refine own_st (fun t k => XS.iconst X332.here hx rfl (hb hby at_158) k) ?_
            show own_Go _ _ _ _ T332 (mkF m 159 _ [(.int (3 : Int32)), (.int v1)])
            by_cases c367 : v1 < (3 : Int32)
            · skip
              refine own_st (fun t k => XS.icmpYes X332.here hx rfl (pc0 := 159) (pc' := 171) rfl (hb hby at_159) rfl (tlt c367).1 (by decide) (by decide) k) ?_
              show own_Go _ _ _ _ T332 (mkF m 171 _ [])
              refine own_st (fun t k => XS.iload X332.here hx rfl (hb hby at_171) rfl k) ?_
              show own_Go _ _ _ _ T332 (mkF m 173 _ [(.int p10)])
              have J398 : ∀ (Tj398 : State) (Lj398 : List Loc) (hj398 : Heap) (p417 : Int64), Stand p l e room_1 s m #[(.long x0), (.long x1), (.long x2), (.long x3), (.long x4), (.int x5)] below meth c Tj398 Lj398 13 28 → Tj398.heap = hj398 → Fr n0 Lj398 → n0 ≤ hj398.size → Sta Z hj398 "java/lang/String" "COMPACT_STRINGS" "Z" (.int cs) → Exa Z hj398 b16_so "java/lang/String" → Fld Z hj398 b16_so "java/lang/String" "value" "[B" (.ref b16_bb) → Fld Z hj398 b16_so "java/lang/String" "coder" "B" (.int (0 : Int32)) → Arv Z hj398 b16_bb r16_kb .byte (1 : Int32) [(.int (own_by (own_chr v2)))] (.int (0 : Int32)) → Exa Z hj398 b20_so "java/lang/String" → Fld Z hj398 b20_so "java/lang/String" "value" "[B" (.ref b20_bb) → Fld Z hj398 b20_so "java/lang/String" "coder" "B" (.int (0 : Int32)) → Arv Z hj398 b20_bb r20_kb .byte (1 : Int32) [(.int (own_by (own_chr v3)))] (.int (0 : Int32)) → Exa Z hj398 b32_so "java/lang/String" → Fld Z hj398 b32_so "java/lang/String" "value" "[B" (.ref b32_bb) → Fld Z hj398 b32_so "java/lang/String" "coder" "B" (.int (0 : Int32)) → Arv Z hj398 b32_bb r32_kb .byte (1 : Int32) [(.int (own_by (own_chr v4)))] (.int (0 : Int32)) → Exa Z hj398 b52_so "java/lang/String" → Fld Z hj398 b52_so "java/lang/String" "value" "[B" (.ref b52_bb) → Fld Z hj398 b52_so "java/lang/String" "coder" "B" (.int (0 : Int32)) → Arv Z hj398 b52_bb r52_kb .byte (1 : Int32) [(.int (own_by (own_chr v5)))] (.int (0 : Int32)) → Exa Z hj398 b80 "com/example/antientropy/antientropy/sds/NamedEntries" → Fld Z hj398 b80 "com/example/antientropy/antientropy/sds/NamedEntries" "bySelf" "J" (.long p417) → Fld Z hj398 b80 "com/example/antientropy/antientropy/sds/NamedEntries" "byLatest" "J" (.long x1) → Fld Z hj398 b80 "com/example/antientropy/antientropy/sds/NamedEntries" "byLatestOfTheRest" "J" (.long r332_rs2) → Fld Z hj398 b80 "com/example/antientropy/antientropy/sds/NamedEntries" "latestFrom" "Ljava/lang/String;" (.ref r332_ls2) → Exa Z hj398 r332_ls2 "java/lang/String" → Fld Z hj398 r332_ls2 "java/lang/String" "value" "[B" (.ref r332_lv2) → Fld Z hj398 r332_ls2 "java/lang/String" "coder" "B" (.int (0 : Int32)) → Arv Z hj398 r332_lv2 r332_kl2 .byte (1 : Int32) [(.int (own_by (own_chr v3)))] (.int (0 : Int32)) → p417 = (if p10 = (0 : Int32) then p162 else (if p15 = (0 : Int32) then x4 else p162)) → own_Go p.tables e below Pq Tj398 (mkF m 188 #[.val (.long x0), .second, .val (.long x1), .second, .val (.long x2), .second, .val (.long x3), .second, .val (.long x4), .second, .val (.int x5), .val (.int v1), .val (.int v2), .val (.int v3), .val (.int v4), .val (.int v5), .val (.int p10), .val (.int p15), .val (.ref b16_so), .val (.ref b20_so), .val (.ref b32_so), .val (.ref b52_so), .val (.ref b80), .unset, .unset, .unset, .unset, .unset, .unset] []) := by
                intro Tj398 Lj398 hj398 p417 Xj398 ej398 Nj398 Zj398 fj399 fj400 fj401 fj402 fj403 fj404 fj405 fj406 fj407 fj408 fj409 fj410 fj411 fj412 fj413 fj414 fj415 fj416 fj418 fj419 fj420 fj421 fj422 fj423 fj424 fj425 qp417
                show own_Go _ _ _ _ Tj398 (mkF m 188 _ [])
                refine own_st (fun t k => XS.aload Xj398.here hx rfl (hb hby at_188) rfl rfl k) ?_
                show own_Go _ _ _ _ Tj398 (mkF m 190 _ [(.ref b80)])
                refine own_st (fun t k => XS.aload Xj398.here hx rfl (hb hby at_190) rfl rfl k) ?_
                show own_Go _ _ _ _ Tj398 (mkF m 192 _ [(.ref b52_so), (.ref b80)])
                refine own_st (fun t k => XS.lload Xj398.here hx rfl (hb hby at_192) rfl k) ?_
                show own_Go _ _ _ _ Tj398 (mkF m 194 _ [(.long x3), (.ref b52_so), (.ref b80)])
                obtain ⟨cq426, kq426, q426a, q426b, q426c⟩ := isOf hZ ej398 fj416
                obtain ⟨_, _, ⟨T426, L426, k426, n426⟩, -, X426, ⟨Lc426, hQ426, l426, y426, z426⟩, st426⟩ := Xj398.virtualBack hx (y := (⟨"com/example/antientropy/antientropy/sds/NamedEntries", "isNamedTo", "(Ljava/lang/String;J)Z"⟩ : MethodName)) (z := (⟨"com/example/antientropy/antientropy/sds/NamedEntries", "isNamedTo", "(Ljava/lang/String;J)Z"⟩ : MethodName)) hown (mvT hZ (hw _ (List.mem_of_getElem? (i := 62) rfl))) (mvT hZ (hw _ (List.mem_of_getElem? (i := 63) rfl))) (notFace_of_selects (args := #[]) (mvT hZ (hw _ (List.mem_of_getElem? (i := 65) rfl)))) (mvT hZ (hw _ (List.mem_of_getElem? (i := 65) rfl))) (mvT hZ (hw _ (List.mem_of_getElem? (i := 64) rfl))) (by decide) (backOf (W := 0) (rm16 l Z a0 hw [] b80 b52_so x3 p417 x1 r332_rs2 b52_bb r52_kb (own_by (own_chr v5)) cs r332_ls2 r332_lv2 r332_kl2 (own_by (own_chr v3)) hj398 n0 Zj398 fj416 fj418 fj419 fj420 fj421 fj412 fj413 fj414 fj415 fj422 fj423 fj424 fj425 fj399 (Ne.symm ne361) hcs) hZ (hw _ (List.mem_of_getElem? (i := 66) rfl)) (hw _ (List.mem_of_getElem? (i := 36) rfl)) (by decide) (by decide)) q426a q426c (g := (mkF m 194 #[.val (.long x0), .second, .val (.long x1), .second, .val (.long x2), .second, .val (.long x3), .second, .val (.long x4), .second, .val (.int x5), .val (.int v1), .val (.int v2), .val (.int v3), .val (.int v4), .val (.int v5), .val (.int p10), .val (.int p15), .val (.ref b16_so), .val (.ref b20_so), .val (.ref b32_so), .val (.ref b52_so), .val (.ref b80), .unset, .unset, .unset, .unset, .unset, .unset] [(.long x3), (.ref b52_so), (.ref b80)])) rfl (by rw [hml]; rfl) (Steps.refl _) (argsL := [(.ref b52_so), (.long x3)]) (rest := []) (lenOf own_pd__Ljava_lang_String_J_Z rfl) rfl (by show 2 * 0 + _ ≤ _; exact Nat.le_of_eq rfl) (hb hby at_194) (fun _ _ => ⟨rfl, ej398, (by decide : 13 + 0 ≤ _), (by decide : 28 + 0 ≤ _)⟩)
                dsimp only [Pt.U, Pt.locs, Pt.cells, Pt.slots] at X426 l426 y426 z426 st426 hQ426
                subst l426 y426 z426
                obtain ⟨rfl, NQ426, eq426⟩ := hQ426
                have N427 := Fr.app Nj398 NQ426
                refine own_st (fun t k => st426.trans k) ?_
                show own_Go _ _ _ _ T426 (mkF m 197 _ [(.int (own_in1 x3 p417 x1 r332_rs2 (own_by (own_chr v5)) (own_by (own_chr v3))))])
                generalize hv428 : (own_in1 x3 p417 x1 r332_rs2 (own_by (own_chr v5)) (own_by (own_chr v3))) = v428
                refine own_st (fun t k => XS.istore X426.here hx rfl (hb hby at_197) rfl (l' := #[.val (.long x0), .second, .val (.long x1), .second, .val (.long x2), .second, .val (.long x3), .second, .val (.long x4), .second, .val (.int x5), .val (.int v1), .val (.int v2), .val (.int v3), .val (.int v4), .val (.int v5), .val (.int p10), .val (.int p15), .val (.ref b16_so), .val (.ref b20_so), .val (.ref b32_so), .val (.ref b52_so), .val (.ref b80), .val (.int v428), .unset, .unset, .unset, .unset, .unset]) rfl k) ?_
                show own_Go _ _ _ _ T426 (mkF m 199 #[.val (.long x0), .second, .val (.long x1), .second, .val (.long x2), .second, .val (.long x3), .second, .val (.long x4), .second, .val (.int x5), .val (.int v1), .val (.int v2), .val (.int v3), .val (.int v4), .val (.int v5), .val (.int p10), .val (.int p15), .val (.ref b16_so), .val (.ref b20_so), .val (.ref b32_so), .val (.ref b52_so), .val (.ref b80), .val (.int v428), .unset, .unset, .unset, .unset, .unset] [])
                refine own_st (fun t k => XS.iload X426.here hx rfl (hb hby at_199) rfl k) ?_
                show own_Go _ _ _ _ T426 (mkF m 201 _ [(.int p10)])
                have J432 : ∀ (Tj432 : State) (Lj432 : List Loc) (p433 : Int64), Stand p l e room_1 s m #[(.long x0), (.long x1), (.long x2), (.long x3), (.long x4), (.int x5)] below meth c Tj432 Lj432 13 28 → Tj432.heap = hj398 → Fr n0 Lj432 → p433 = (if p10 = (0 : Int32) then (0 : Int64) else x4) → own_Go p.tables e below Pq Tj432 (mkF m 210 #[.val (.long x0), .second, .val (.long x1), .second, .val (.long x2), .second, .val (.long x3), .second, .val (.long x4), .second, .val (.int x5), .val (.int v1), .val (.int v2), .val (.int v3), .val (.int v4), .val (.int v5), .val (.int p10), .val (.int p15), .val (.ref b16_so), .val (.ref b20_so), .val (.ref b32_so), .val (.ref b52_so), .val (.ref b80), .val (.int v428), .unset, .unset, .unset, .unset, .unset] [(.long p433)]) := by
                  intro Tj432 Lj432 p433 Xj432 ej432 Nj432 qp433
                  show own_Go _ _ _ _ Tj432 (mkF m 210 _ [(.long p433)])
                  refine own_st (fun t k => XS.lstore Xj432.here hx rfl (hb hby at_210) rfl (l' := #[.val (.long x0), .second, .val (.long x1), .second, .val (.long x2), .second, .val (.long x3), .second, .val (.long x4), .second, .val (.int x5), .val (.int v1), .val (.int v2), .val (.int v3), .val (.int v4), .val (.int v5), .val (.int p10), .val (.int p15), .val (.ref b16_so), .val (.ref b20_so), .val (.ref b32_so), .val (.ref b52_so), .val (.ref b80), .val (.int v428), .val (.long p433), .second, .unset, .unset, .unset]) rfl k) ?_
                  show own_Go _ _ _ _ Tj432 (mkF m 212 #[.val (.long x0), .second, .val (.long x1), .second, .val (.long x2), .second, .val (.long x3), .second, .val (.long x4), .second, .val (.int x5), .val (.int v1), .val (.int v2), .val (.int v3), .val (.int v4), .val (.int v5), .val (.int p10), .val (.int p15), .val (.ref b16_so), .val (.ref b20_so), .val (.ref b32_so), .val (.ref b52_so), .val (.ref b80), .val (.int v428), .val (.long p433), .second, .unset, .unset, .unset] [])
                  refine own_st (fun t k => XS.lconst Xj432.here hx rfl (hb hby at_212) k) ?_
                  show own_Go _ _ _ _ Tj432 (mkF m 213 _ [(.long (0 : Int64))])
                  refine own_st (fun t k => XS.lstore Xj432.here hx rfl (hb hby at_213) rfl (l' := #[.val (.long x0), .second, .val (.long x1), .second, .val (.long x2), .second, .val (.long x3), .second, .val (.long x4), .second, .val (.int x5), .val (.int v1), .val (.int v2), .val (.int v3), .val (.int v4), .val (.int v5), .val (.int p10), .val (.int p15), .val (.ref b16_so), .val (.ref b20_so), .val (.ref b32_so), .val (.ref b52_so), .val (.ref b80), .val (.int v428), .val (.long p433), .second, .val (.long (0 : Int64)), .second, .unset]) rfl k) ?_
                  show own_Go _ _ _ _ Tj432 (mkF m 215 #[.val (.long x0), .second, .val (.long x1), .second, .val (.long x2), .second, .val (.long x3), .second, .val (.long x4), .second, .val (.int x5), .val (.int v1), .val (.int v2), .val (.int v3), .val (.int v4), .val (.int v5), .val (.int p10), .val (.int p15), .val (.ref b16_so), .val (.ref b20_so), .val (.ref b32_so), .val (.ref b52_so), .val (.ref b80), .val (.int v428), .val (.long p433), .second, .val (.long (0 : Int64)), .second, .unset] [])
                  refine own_st (fun t k => XS.iload Xj432.here hx rfl (hb hby at_215) rfl k) ?_
                  show own_Go _ _ _ _ Tj432 (mkF m 217 _ [(.int v1)])
                  refine own_st (fun t k => XS.iconst Xj432.here hx rfl (hb hby at_217) k) ?_
                  show own_Go _ _ _ _ Tj432 (mkF m 218 _ [(.int (1 : Int32)), (.int v1)])
                  refine own_st (fun t k => XS.icmpNo Xj432.here hx rfl (hb hby at_218) rfl (flt c164).1 k) ?_
                  show own_Go _ _ _ _ Tj432 (mkF m 221 _ [])
                  refine own_st (fun t k => XS.iload Xj432.here hx rfl (hb hby at_221) rfl k) ?_
                  show own_Go _ _ _ _ Tj432 (mkF m 223 _ [(.int v2)])
                  refine own_st (fun t k => XS.iload Xj432.here hx rfl (hb hby at_223) rfl k) ?_
                  show own_Go _ _ _ _ Tj432 (mkF m 225 _ [(.int v5), (.int v2)])
                  have J437 : ∀ (Tj437 : State) (Lj437 : List Loc) (p438 : Int64), Stand p l e room_1 s m #[(.long x0), (.long x1), (.long x2), (.long x3), (.long x4), (.int x5)] below meth c Tj437 Lj437 13 28 → Tj437.heap = hj398 → Fr n0 Lj437 → p438 = (if v2 = v5 then (0 : Int64) else x0) → own_Go p.tables e below Pq Tj437 (mkF m 231 #[.val (.long x0), .second, .val (.long x1), .second, .val (.long x2), .second, .val (.long x3), .second, .val (.long x4), .second, .val (.int x5), .val (.int v1), .val (.int v2), .val (.int v3), .val (.int v4), .val (.int v5), .val (.int p10), .val (.int p15), .val (.ref b16_so), .val (.ref b20_so), .val (.ref b32_so), .val (.ref b52_so), .val (.ref b80), .val (.int v428), .val (.long p433), .second, .val (.long p438), .second, .unset] []) := by
                    intro Tj437 Lj437 p438 Xj437 ej437 Nj437 qp438
                    show own_Go _ _ _ _ Tj437 (mkF m 231 #[.val (.long x0), .second, .val (.long x1), .second, .val (.long x2), .second, .val (.long x3), .second, .val (.long x4), .second, .val (.int x5), .val (.int v1), .val (.int v2), .val (.int v3), .val (.int v4), .val (.int v5), .val (.int p10), .val (.int p15), .val (.ref b16_so), .val (.ref b20_so), .val (.ref b32_so), .val (.ref b52_so), .val (.ref b80), .val (.int v428), .val (.long p433), .second, .val (.long p438), .second, .unset] [])
                    refine own_st (fun t k => XS.iload Xj437.here hx rfl (hb hby at_231) rfl k) ?_
                    show own_Go _ _ _ _ Tj437 (mkF m 233 _ [(.int v1)])
                    refine own_st (fun t k => XS.iconst Xj437.here hx rfl (hb hby at_233) k) ?_
                    show own_Go _ _ _ _ Tj437 (mkF m 234 _ [(.int (2 : Int32)), (.int v1)])
                    refine own_st (fun t k => XS.icmpNo Xj437.here hx rfl (hb hby at_234) rfl (flt c256).1 k) ?_
                    show own_Go _ _ _ _ Tj437 (mkF m 237 _ [])
                    refine own_st (fun t k => XS.iload Xj437.here hx rfl (hb hby at_237) rfl k) ?_
                    show own_Go _ _ _ _ Tj437 (mkF m 239 _ [(.int v3)])
                    refine own_st (fun t k => XS.iload Xj437.here hx rfl (hb hby at_239) rfl k) ?_
                    show own_Go _ _ _ _ Tj437 (mkF m 241 _ [(.int v5), (.int v3)])
                    have J442 : ∀ (Tj442 : State) (Lj442 : List Loc) (p443 : Int64), Stand p l e room_1 s m #[(.long x0), (.long x1), (.long x2), (.long x3), (.long x4), (.int x5)] below meth c Tj442 Lj442 13 28 → Tj442.heap = hj398 → Fr n0 Lj442 → p443 = (if v3 = v5 then p438 else x1) → own_Go p.tables e below Pq Tj442 (mkF m 247 #[.val (.long x0), .second, .val (.long x1), .second, .val (.long x2), .second, .val (.long x3), .second, .val (.long x4), .second, .val (.int x5), .val (.int v1), .val (.int v2), .val (.int v3), .val (.int v4), .val (.int v5), .val (.int p10), .val (.int p15), .val (.ref b16_so), .val (.ref b20_so), .val (.ref b32_so), .val (.ref b52_so), .val (.ref b80), .val (.int v428), .val (.long p433), .second, .val (.long p443), .second, .unset] []) := by
                      intro Tj442 Lj442 p443 Xj442 ej442 Nj442 qp443
                      show own_Go _ _ _ _ Tj442 (mkF m 247 #[.val (.long x0), .second, .val (.long x1), .second, .val (.long x2), .second, .val (.long x3), .second, .val (.long x4), .second, .val (.int x5), .val (.int v1), .val (.int v2), .val (.int v3), .val (.int v4), .val (.int v5), .val (.int p10), .val (.int p15), .val (.ref b16_so), .val (.ref b20_so), .val (.ref b32_so), .val (.ref b52_so), .val (.ref b80), .val (.int v428), .val (.long p433), .second, .val (.long p443), .second, .unset] [])
                      refine own_st (fun t k => XS.iload Xj442.here hx rfl (hb hby at_247) rfl k) ?_
                      show own_Go _ _ _ _ Tj442 (mkF m 249 _ [(.int v1)])
                      refine own_st (fun t k => XS.iconst Xj442.here hx rfl (hb hby at_249) k) ?_
                      show own_Go _ _ _ _ Tj442 (mkF m 250 _ [(.int (3 : Int32)), (.int v1)])
                      refine own_st (fun t k => XS.icmpYes Xj442.here hx rfl (pc0 := 250) (pc' := 264) rfl (hb hby at_250) rfl (tlt c367).1 (by decide) (by decide) k) ?_
                      show own_Go _ _ _ _ Tj442 (mkF m 264 _ [])
                      refine own_st (fun t k => XS.lload Xj442.here hx rfl (hb hby at_264) rfl k) ?_
                      show own_Go _ _ _ _ Tj442 (mkF m 266 _ [(.long x3)])
                      refine own_st (fun t k => XS.lload Xj442.here hx rfl (hb hby at_266) rfl k) ?_
                      show own_Go _ _ _ _ Tj442 (mkF m 268 _ [(.long p433), (.long x3)])
                      refine own_st (fun t k => XS.lload Xj442.here hx rfl (hb hby at_268) rfl k) ?_
                      show own_Go _ _ _ _ Tj442 (mkF m 270 _ [(.long p443), (.long p433), (.long x3)])
                      obtain ⟨_, _, ⟨T444, L444, k444, n444⟩, -, X444, ⟨Lc444, hQ444, l444, y444, z444⟩, st444⟩ := Jvm.LawKit.callS Xj442 hx (y := (⟨"java/lang/Math", "max", "(JJ)J"⟩ : MethodName)) hown (mvT hZ (hw _ (List.mem_of_getElem? (i := 73) rfl))) (mvT hZ (hw _ (List.mem_of_getElem? (i := 70) rfl))) (mvT hZ (hw _ (List.mem_of_getElem? (i := 71) rfl))) (mvT hZ (hw _ (List.mem_of_getElem? (i := 72) rfl))) (by decide) (backOf (W := 2) (rm12 l Z a0 hw [] p433 p443 hj398 n0 Zj398 ) hZ (hw _ (List.mem_of_getElem? (i := 72) rfl)) (hw _ (List.mem_of_getElem? (i := 71) rfl)) (by decide) (by decide)) (g := (mkF m 270 #[.val (.long x0), .second, .val (.long x1), .second, .val (.long x2), .second, .val (.long x3), .second, .val (.long x4), .second, .val (.int x5), .val (.int v1), .val (.int v2), .val (.int v3), .val (.int v4), .val (.int v5), .val (.int p10), .val (.int p15), .val (.ref b16_so), .val (.ref b20_so), .val (.ref b32_so), .val (.ref b52_so), .val (.ref b80), .val (.int v428), .val (.long p433), .second, .val (.long p443), .second, .unset] [(.long p443), (.long p433), (.long x3)])) rfl (by rw [hml]; rfl) (argsL := [(.long p433), (.long p443)]) (rest := [(.long x3)]) (lenOf own_pd__JJ_J rfl) rfl (by show 2 * 0 + _ ≤ _; exact Nat.le_of_eq rfl) (hb hby at_270) (fun _ _ => ⟨rfl, ej442, (by decide : 13 + 0 ≤ _), (by decide : 28 + 0 ≤ _)⟩)
                      dsimp only [Pt.U, Pt.locs, Pt.cells, Pt.slots] at X444 l444 y444 z444 st444 hQ444
                      subst l444 y444 z444
                      obtain ⟨rfl, NQ444, eq444⟩ := hQ444
                      have N445 := Fr.app Nj442 NQ444
                      refine own_st st444 ?_
                      show own_Go _ _ _ _ T444 (mkF m 273 _ [(.long (own_max p433 p443)), (.long x3)])
                      refine own_st (fun t k => XS.lcmp X444.here hx rfl (hb hby at_273) rfl k) ?_
                      show own_Go _ _ _ _ T444 (mkF m 274 _ [(.int (lcmpW x3 (own_max p433 p443)))])
                      have J449 : ∀ (Tj449 : State) (Lj449 : List Loc) (p450 : Int32), Stand p l e room_1 s m #[(.long x0), (.long x1), (.long x2), (.long x3), (.long x4), (.int x5)] below meth c Tj449 Lj449 13 28 → Tj449.heap = hj398 → Fr n0 Lj449 → p450 = (if x3 < (own_max p433 p443) then (1 : Int32) else (0 : Int32)) → own_Go p.tables e below Pq Tj449 (mkF m 282 #[.val (.long x0), .second, .val (.long x1), .second, .val (.long x2), .second, .val (.long x3), .second, .val (.long x4), .second, .val (.int x5), .val (.int v1), .val (.int v2), .val (.int v3), .val (.int v4), .val (.int v5), .val (.int p10), .val (.int p15), .val (.ref b16_so), .val (.ref b20_so), .val (.ref b32_so), .val (.ref b52_so), .val (.ref b80), .val (.int v428), .val (.long p433), .second, .val (.long p443), .second, .unset] [(.int p450)]) := by
                        intro Tj449 Lj449 p450 Xj449 ej449 Nj449 qp450
                        show own_Go _ _ _ _ Tj449 (mkF m 282 _ [(.int p450)])
                        refine own_st (fun t k => XS.istore Xj449.here hx rfl (hb hby at_282) rfl (l' := #[.val (.long x0), .second, .val (.long x1), .second, .val (.long x2), .second, .val (.long x3), .second, .val (.long x4), .second, .val (.int x5), .val (.int v1), .val (.int v2), .val (.int v3), .val (.int v4), .val (.int v5), .val (.int p10), .val (.int p15), .val (.ref b16_so), .val (.ref b20_so), .val (.ref b32_so), .val (.ref b52_so), .val (.ref b80), .val (.int v428), .val (.long p433), .second, .val (.long p443), .second, .val (.int p450)]) rfl k) ?_
                        show own_Go _ _ _ _ Tj449 (mkF m 284 #[.val (.long x0), .second, .val (.long x1), .second, .val (.long x2), .second, .val (.long x3), .second, .val (.long x4), .second, .val (.int x5), .val (.int v1), .val (.int v2), .val (.int v3), .val (.int v4), .val (.int v5), .val (.int p10), .val (.int p15), .val (.ref b16_so), .val (.ref b20_so), .val (.ref b32_so), .val (.ref b52_so), .val (.ref b80), .val (.int v428), .val (.long p433), .second, .val (.long p443), .second, .val (.int p450)] [])
                        refine own_st (fun t k => XS.iload Xj449.here hx rfl (hb hby at_284) rfl k) ?_
                        show own_Go _ _ _ _ Tj449 (mkF m 286 _ [(.int v428)])
                        refine own_st (fun t k => XS.iload Xj449.here hx rfl (hb hby at_286) rfl k) ?_
                        show own_Go _ _ _ _ Tj449 (mkF m 288 _ [(.int p450), (.int v428)])
                        have J454 : ∀ (Tj454 : State) (Lj454 : List Loc) (p455 : Int32), Stand p l e room_1 s m #[(.long x0), (.long x1), (.long x2), (.long x3), (.long x4), (.int x5)] below meth c Tj454 Lj454 13 28 → Tj454.heap = hj398 → Fr n0 Lj454 → p455 = (if v428 = p450 then (1 : Int32) else (0 : Int32)) → own_Go p.tables e below Pq Tj454 (mkF m 296 #[.val (.long x0), .second, .val (.long x1), .second, .val (.long x2), .second, .val (.long x3), .second, .val (.long x4), .second, .val (.int x5), .val (.int v1), .val (.int v2), .val (.int v3), .val (.int v4), .val (.int v5), .val (.int p10), .val (.int p15), .val (.ref b16_so), .val (.ref b20_so), .val (.ref b32_so), .val (.ref b52_so), .val (.ref b80), .val (.int v428), .val (.long p433), .second, .val (.long p443), .second, .val (.int p450)] [(.int p455)]) := by
                          intro Tj454 Lj454 p455 Xj454 ej454 Nj454 qp455
                          show own_Go _ _ _ _ Tj454 (mkF m 296 _ [(.int p455)])
                          subst hPq
                          refine own_out Xj454 (v := some (.int (nar .boolean p455))) (fun h => by rw [Bd.returns] at h; cases h) Bd.notSynchronized (fun fs hr => retN Xj454 hx (t := .boolean) Bd.returns (by simp) (hb hby at_296) hr) (by decide) (by decide) ?_
                          show Q0 Z x0 x1 x2 x3 x4 x5 cs h0 n0 _ Tj454.heap _
                          rw [ej454]
                          exact ⟨congrArg (fun z => some (Value.int (nar .boolean z))) (own_law3 x0 x1 x2 x3 x4 x5 cs v1 v2 v3 v4 v5 p10 p15 r16_kb r20_kb r32_kb r52_kb p162 r332_ls2 r332_lv2 r332_kl2 r332_rs2 p417 v428 p433 p438 p443 p450 p455 hcs hv1 hv2 hv3 hv4 hv5 qp10 qp15 qp162 hq332_2 qp417 hv428 qp433 qp438 qp443 qp450 qp455 c164 c256 c367), Nj454⟩
                        by_cases c451 : v428 = p450
                        · skip
                          refine own_st (fun t k => XS.icmpNo Xj449.here hx rfl (hb hby at_288) rfl (teq c451).2 k) ?_
                          show own_Go _ _ _ _ Tj449 (mkF m 291 _ [])
                          refine own_st (fun t k => XS.iconst Xj449.here hx rfl (hb hby at_291) k) ?_
                          show own_Go _ _ _ _ Tj449 (mkF m 292 _ [(.int (1 : Int32))])
                          refine own_st (fun t k => XS.goto Xj449.here hx rfl (pc0 := 292) (pc' := 296) rfl (hb hby at_292) (by decide) (by decide) k) ?_
                          show own_Go _ _ _ _ Tj449 (mkF m 296 _ [(.int (1 : Int32))])
                          exact J454 Tj449 _ _ Xj449 ej449 Nj449 (by simp only [if_pos c451])
                        · skip
                          refine own_st (fun t k => XS.icmpYes Xj449.here hx rfl (pc0 := 288) (pc' := 295) rfl (hb hby at_288) rfl (feq c451).2 (by decide) (by decide) k) ?_
                          show own_Go _ _ _ _ Tj449 (mkF m 295 _ [])
                          refine own_st (fun t k => XS.iconst Xj449.here hx rfl (hb hby at_295) k) ?_
                          show own_Go _ _ _ _ Tj449 (mkF m 296 _ [(.int (0 : Int32))])
                          exact J454 Tj449 _ _ Xj449 ej449 Nj449 (by simp only [if_neg c451])
                      by_cases c446 : x3 < (own_max p433 p443)
                      · skip
                        refine own_st (fun t k => XS.ifNo X444.here hx rfl (hb hby at_274) rfl (own_lcF (cd := .ge) (not_not_intro c446)) k) ?_
                        show own_Go _ _ _ _ T444 (mkF m 277 _ [])
                        refine own_st (fun t k => XS.iconst X444.here hx rfl (hb hby at_277) k) ?_
                        show own_Go _ _ _ _ T444 (mkF m 278 _ [(.int (1 : Int32))])
                        refine own_st (fun t k => XS.goto X444.here hx rfl (pc0 := 278) (pc' := 282) rfl (hb hby at_278) (by decide) (by decide) k) ?_
                        show own_Go _ _ _ _ T444 (mkF m 282 _ [(.int (1 : Int32))])
                        exact J449 T444 _ _ X444 eq444 N445 (by simp only [if_pos c446])
                      · skip
                        refine own_st (fun t k => XS.ifYes X444.here hx rfl (pc0 := 274) (pc' := 281) rfl (hb hby at_274) rfl (own_lcT (cd := .ge) c446) (by decide) (by decide) k) ?_
                        show own_Go _ _ _ _ T444 (mkF m 281 _ [])
                        refine own_st (fun t k => XS.iconst X444.here hx rfl (hb hby at_281) k) ?_
                        show own_Go _ _ _ _ T444 (mkF m 282 _ [(.int (0 : Int32))])
                        exact J449 T444 _ _ X444 eq444 N445 (by simp only [if_neg c446])
                    by_cases c439 : v3 = v5
                    · skip
                      refine own_st (fun t k => XS.icmpYes Xj437.here hx rfl (pc0 := 241) (pc' := 247) rfl (hb hby at_241) rfl (teq c439).1 (by decide) (by decide) k) ?_
                      show own_Go _ _ _ _ Tj437 (mkF m 247 _ [])
                      exact J442 Tj437 _ _ Xj437 ej437 Nj437 (by simp only [if_pos c439])
                    · skip
                      refine own_st (fun t k => XS.icmpNo Xj437.here hx rfl (hb hby at_241) rfl (feq c439).1 k) ?_
                      show own_Go _ _ _ _ Tj437 (mkF m 244 _ [])
                      refine own_st (fun t k => XS.lloadN Xj437.here hx rfl (hb hby at_244) rfl k) ?_
                      show own_Go _ _ _ _ Tj437 (mkF m 245 _ [(.long x1)])
                      refine own_st (fun t k => XS.lstore Xj437.here hx rfl (hb hby at_245) rfl (l' := #[.val (.long x0), .second, .val (.long x1), .second, .val (.long x2), .second, .val (.long x3), .second, .val (.long x4), .second, .val (.int x5), .val (.int v1), .val (.int v2), .val (.int v3), .val (.int v4), .val (.int v5), .val (.int p10), .val (.int p15), .val (.ref b16_so), .val (.ref b20_so), .val (.ref b32_so), .val (.ref b52_so), .val (.ref b80), .val (.int v428), .val (.long p433), .second, .val (.long x1), .second, .unset]) rfl k) ?_
                      show own_Go _ _ _ _ Tj437 (mkF m 247 #[.val (.long x0), .second, .val (.long x1), .second, .val (.long x2), .second, .val (.long x3), .second, .val (.long x4), .second, .val (.int x5), .val (.int v1), .val (.int v2), .val (.int v3), .val (.int v4), .val (.int v5), .val (.int p10), .val (.int p15), .val (.ref b16_so), .val (.ref b20_so), .val (.ref b32_so), .val (.ref b52_so), .val (.ref b80), .val (.int v428), .val (.long p433), .second, .val (.long x1), .second, .unset] [])
                      exact J442 Tj437 _ _ Xj437 ej437 Nj437 (by simp only [if_neg c439])
                  by_cases c434 : v2 = v5
                  · skip
                    refine own_st (fun t k => XS.icmpYes Xj432.here hx rfl (pc0 := 225) (pc' := 231) rfl (hb hby at_225) rfl (teq c434).1 (by decide) (by decide) k) ?_
                    show own_Go _ _ _ _ Tj432 (mkF m 231 _ [])
                    exact J437 Tj432 _ _ Xj432 ej432 Nj432 (by simp only [if_pos c434])
                  · skip
                    refine own_st (fun t k => XS.icmpNo Xj432.here hx rfl (hb hby at_225) rfl (feq c434).1 k) ?_
                    show own_Go _ _ _ _ Tj432 (mkF m 228 _ [])
                    refine own_st (fun t k => XS.lloadN Xj432.here hx rfl (hb hby at_228) rfl k) ?_
                    show own_Go _ _ _ _ Tj432 (mkF m 229 _ [(.long x0)])
                    refine own_st (fun t k => XS.lstore Xj432.here hx rfl (hb hby at_229) rfl (l' := #[.val (.long x0), .second, .val (.long x1), .second, .val (.long x2), .second, .val (.long x3), .second, .val (.long x4), .second, .val (.int x5), .val (.int v1), .val (.int v2), .val (.int v3), .val (.int v4), .val (.int v5), .val (.int p10), .val (.int p15), .val (.ref b16_so), .val (.ref b20_so), .val (.ref b32_so), .val (.ref b52_so), .val (.ref b80), .val (.int v428), .val (.long p433), .second, .val (.long x0), .second, .unset]) rfl k) ?_
                    show own_Go _ _ _ _ Tj432 (mkF m 231 #[.val (.long x0), .second, .val (.long x1), .second, .val (.long x2), .second, .val (.long x3), .second, .val (.long x4), .second, .val (.int x5), .val (.int v1), .val (.int v2), .val (.int v3), .val (.int v4), .val (.int v5), .val (.int p10), .val (.int p15), .val (.ref b16_so), .val (.ref b20_so), .val (.ref b32_so), .val (.ref b52_so), .val (.ref b80), .val (.int v428), .val (.long p433), .second, .val (.long x0), .second, .unset] [])
                    exact J437 Tj432 _ _ Xj432 ej432 Nj432 (by simp only [if_neg c434])
                by_cases c429 : p10 = (0 : Int32)
                · skip
                  refine own_st (fun t k => XS.ifYes X426.here hx rfl (pc0 := 201) (pc' := 209) rfl (hb hby at_201) rfl ((if0 _ _).trans (teq c429).1) (by decide) (by decide) k) ?_
                  show own_Go _ _ _ _ T426 (mkF m 209 _ [])
                  refine own_st (fun t k => XS.lconst X426.here hx rfl (hb hby at_209) k) ?_
                  show own_Go _ _ _ _ T426 (mkF m 210 _ [(.long (0 : Int64))])
                  exact J432 T426 _ _ X426 eq426 N427 (by simp only [if_pos c429])
                · skip
                  refine own_st (fun t k => XS.ifNo X426.here hx rfl (hb hby at_201) rfl ((if0 _ _).trans (feq c429).1) k) ?_
                  show own_Go _ _ _ _ T426 (mkF m 204 _ [])
                  refine own_st (fun t k => XS.lload X426.here hx rfl (hb hby at_204) rfl k) ?_
                  show own_Go _ _ _ _ T426 (mkF m 206 _ [(.long x4)])
                  refine own_st (fun t k => XS.goto X426.here hx rfl (pc0 := 206) (pc' := 210) rfl (hb hby at_206) (by decide) (by decide) k) ?_
                  show own_Go _ _ _ _ T426 (mkF m 210 _ [(.long x4)])
                  exact J432 T426 _ _ X426 eq426 N427 (by simp only [if_neg c429])
              by_cases c368 : p10 = (0 : Int32)
              · skip
                refine own_st (fun t k => XS.ifYes X332.here hx rfl (pc0 := 173) (pc' := 188) rfl (hb hby at_173) rfl ((if0 _ _).trans (teq c368).1) (by decide) (by decide) k) ?_
                show own_Go _ _ _ _ T332 (mkF m 188 _ [])
                exact J398 T332 _ T332.heap _ X332 rfl N333 Z352 f334 f335 f336 f337 f338 f339 f340 f341 f342 f343 f344 f345 f346 f347 f348 f349 f350 fq332_0 fq332_1 fq332_2 fq332_3 fq332_4 fq332_5 fq332_6 fq332_7 fq332_8 (by simp only [if_pos c368])
              · skip
                refine own_st (fun t k => XS.ifNo X332.here hx rfl (hb hby at_173) rfl ((if0 _ _).trans (feq c368).1) k) ?_
                show own_Go _ _ _ _ T332 (mkF m 176 _ [])
                refine own_st (fun t k => XS.iload X332.here hx rfl (hb hby at_176) rfl k) ?_
                show own_Go _ _ _ _ T332 (mkF m 178 _ [(.int p15)])
                by_cases c370 : p15 = (0 : Int32)
                · skip
                  refine own_st (fun t k => XS.ifNo X332.here hx rfl (hb hby at_178) rfl ((if0 _ _).trans (teq c370).2) k) ?_
                  show own_Go _ _ _ _ T332 (mkF m 181 _ [])
                  refine own_st (fun t k => XS.aload X332.here hx rfl (hb hby at_181) rfl rfl k) ?_
                  show own_Go _ _ _ _ T332 (mkF m 183 _ [(.ref b80)])
                  refine own_st (fun t k => XS.lload X332.here hx rfl (hb hby at_183) rfl k) ?_
                  show own_Go _ _ _ _ T332 (mkF m 185 _ [(.long x4), (.ref b80)])
                  obtain ⟨cq371, kq371, q371a, q371b, q371c⟩ := isOf hZ rfl fq332_0
                  obtain ⟨_, _, ⟨T371, L371, k371, n371⟩, -, X371, ⟨Lc371, hQ371, l371, y371, z371⟩, st371⟩ := X332.virtualBack hx (y := (⟨"com/example/antientropy/antientropy/sds/NamedEntries", "sent", "(J)V"⟩ : MethodName)) (z := (⟨"com/example/antientropy/antientropy/sds/NamedEntries", "sent", "(J)V"⟩ : MethodName)) hown (mvT hZ (hw _ (List.mem_of_getElem? (i := 74) rfl))) (mvT hZ (hw _ (List.mem_of_getElem? (i := 75) rfl))) (notFace_of_selects (args := #[]) (mvT hZ (hw _ (List.mem_of_getElem? (i := 77) rfl)))) (mvT hZ (hw _ (List.mem_of_getElem? (i := 77) rfl))) (mvT hZ (hw _ (List.mem_of_getElem? (i := 76) rfl))) (by decide) (backOf (W := 0) (rm11 l Z a0 hw [] b80 x4 p162 x1 r332_rs2 (.ref r332_ls2) T332.heap n0 Z352 fq332_0 fq332_1 fq332_2 fq332_3 fq332_4 gx106) hZ (hw _ (List.mem_of_getElem? (i := 78) rfl)) (hw _ (List.mem_of_getElem? (i := 36) rfl)) (by decide) (by decide)) q371a q371c (g := (mkF m 185 #[.val (.long x0), .second, .val (.long x1), .second, .val (.long x2), .second, .val (.long x3), .second, .val (.long x4), .second, .val (.int x5), .val (.int v1), .val (.int v2), .val (.int v3), .val (.int v4), .val (.int v5), .val (.int p10), .val (.int p15), .val (.ref b16_so), .val (.ref b20_so), .val (.ref b32_so), .val (.ref b52_so), .val (.ref b80), .unset, .unset, .unset, .unset, .unset, .unset] [(.long x4), (.ref b80)])) rfl (by rw [hml]; rfl) (Steps.refl _) (argsL := [(.long x4)]) (rest := []) (lenOf own_pd__J_V rfl) rfl (by show 2 * 0 + _ ≤ _; exact Nat.le_of_eq rfl) (hb hby at_185) (fun _ _ => ⟨rfl, rfl, (by decide : 13 + 0 ≤ _), (by decide : 28 + 0 ≤ _)⟩)
                  dsimp only [Pt.U, Pt.locs, Pt.cells, Pt.slots] at X371 l371 y371 z371 st371 hQ371
                  subst l371 y371 z371
                  obtain ⟨rfl, NQ371, K371, fq371_0, fq371_1, fq371_2, fq371_3, fq371_4⟩ := hQ371
                  have N372 := Fr.app N333 NQ371
                  refine own_st (fun t k => st371.trans k) ?_
                  have f373 := own_staK f334 K371 (allS ⟨_, fq332_0⟩ all0)
                  have f374 := f335.keep K371
                  have f375 := f336.keep K371 (ninS ne81 nin0)
                  have f376 := f337.keep K371 (ninS ne81 nin0)
                  have f377 := f338.keep K371 (ninS ne82 nin0)
                  have f378 := f339.keep K371
                  have f379 := f340.keep K371 (ninS ne83 nin0)
                  have f380 := f341.keep K371 (ninS ne83 nin0)
                  have f381 := f342.keep K371 (ninS ne84 nin0)
                  have f382 := f343.keep K371
                  have f383 := f344.keep K371 (ninS ne85 nin0)
                  have f384 := f345.keep K371 (ninS ne85 nin0)
                  have f385 := f346.keep K371 (ninS ne86 nin0)
                  have f386 := f347.keep K371
                  have f387 := f348.keep K371 (ninS ne87 nin0)
                  have f388 := f349.keep K371 (ninS ne87 nin0)
                  have f389 := f350.keep K371 (ninS ne88 nin0)
                  have f390 := fq332_0.keep K371
                  have f391 := fq332_5.keep K371
                  have f392 := fq332_6.keep K371 (ninS ne365 nin0)
                  have f393 := fq332_7.keep K371 (ninS ne365 nin0)
                  have f394 := fq332_8.keep K371 (ninS ne366 nin0)
                  have Z395 : n0 ≤ T371.heap.size := Nat.le_trans Z352 K371.1
                  show own_Go _ _ _ _ T371 (mkF m 188 _ [])
                  exact J398 T371 _ T371.heap _ X371 rfl N372 Z395 f373 f374 f375 f376 f377 f378 f379 f380 f381 f382 f383 f384 f385 f386 f387 f388 f389 fq371_0 fq371_1 fq371_2 fq371_3 fq371_4 f391 f392 f393 f394 (by simp only [if_neg c368, if_pos c370])
                · skip
                  refine own_st (fun t k => XS.ifYes X332.here hx rfl (pc0 := 178) (pc' := 188) rfl (hb hby at_178) rfl ((if0 _ _).trans (feq c370).2) (by decide) (by decide) k) ?_
                  show own_Go _ _ _ _ T332 (mkF m 188 _ [])
                  exact J398 T332 _ T332.heap _ X332 rfl N333 Z352 f334 f335 f336 f337 f338 f339 f340 f341 f342 f343 f344 f345 f346 f347 f348 f349 f350 fq332_0 fq332_1 fq332_2 fq332_3 fq332_4 fq332_5 fq332_6 fq332_7 fq332_8 (by simp only [if_neg c368, if_neg c370])
            · skip
              refine own_st (fun t k => XS.icmpNo X332.here hx rfl (hb hby at_159) rfl (flt c367).1 k) ?_
              show own_Go _ _ _ _ T332 (mkF m 162 _ [])
              refine own_st (fun t k => XS.aload X332.here hx rfl (hb hby at_162) rfl rfl k) ?_
              show own_Go _ _ _ _ T332 (mkF m 164 _ [(.ref b80)])
              refine own_st (fun t k => XS.aload X332.here hx rfl (hb hby at_164) rfl rfl k) ?_
              show own_Go _ _ _ _ T332 (mkF m 166 _ [(.ref b32_so), (.ref b80)])
              refine own_st (fun t k => XS.lload X332.here hx rfl (hb hby at_166) rfl k) ?_
              show own_Go _ _ _ _ T332 (mkF m 168 _ [(.long x2), (.ref b32_so), (.ref b80)])
              obtain ⟨cq456, kq456, q456a, q456b, q456c⟩ := isOf hZ rfl fq332_0
              obtain ⟨_, _, ⟨T456, L456, k456, n456⟩, -, X456, ⟨Lc456, hQ456, l456, y456, z456⟩, st456⟩ := X332.virtualBack hx (y := (⟨"com/example/antientropy/antientropy/sds/NamedEntries", "heard", "(Ljava/lang/String;J)V"⟩ : MethodName)) (z := (⟨"com/example/antientropy/antientropy/sds/NamedEntries", "heard", "(Ljava/lang/String;J)V"⟩ : MethodName)) hown (mvT hZ (hw _ (List.mem_of_getElem? (i := 41) rfl))) (mvT hZ (hw _ (List.mem_of_getElem? (i := 42) rfl))) (notFace_of_selects (args := #[]) (mvT hZ (hw _ (List.mem_of_getElem? (i := 44) rfl)))) (mvT hZ (hw _ (List.mem_of_getElem? (i := 44) rfl))) (mvT hZ (hw _ (List.mem_of_getElem? (i := 43) rfl))) (by decide) (backOf (W := 0) (rm14 l Z a0 hw [] b80 b32_so x2 p162 x1 r332_rs2 b32_bb r32_kb (own_by (own_chr v4)) cs r332_ls2 r332_lv2 r332_kl2 (own_by (own_chr v3)) T332.heap n0 Z352 fq332_0 fq332_1 fq332_2 fq332_3 fq332_4 f343 f344 f345 f346 fq332_5 fq332_6 fq332_7 fq332_8 f334 ne85 ne86 ne365 ne366 (Ne.symm ne357) hcs gx106) hZ (hw _ (List.mem_of_getElem? (i := 45) rfl)) (hw _ (List.mem_of_getElem? (i := 36) rfl)) (by decide) (by decide)) q456a q456c (g := (mkF m 168 #[.val (.long x0), .second, .val (.long x1), .second, .val (.long x2), .second, .val (.long x3), .second, .val (.long x4), .second, .val (.int x5), .val (.int v1), .val (.int v2), .val (.int v3), .val (.int v4), .val (.int v5), .val (.int p10), .val (.int p15), .val (.ref b16_so), .val (.ref b20_so), .val (.ref b32_so), .val (.ref b52_so), .val (.ref b80), .unset, .unset, .unset, .unset, .unset, .unset] [(.long x2), (.ref b32_so), (.ref b80)])) rfl (by rw [hml]; rfl) (Steps.refl _) (argsL := [(.ref b32_so), (.long x2)]) (rest := []) (lenOf own_pd__Ljava_lang_String_J_V rfl) rfl (by show 2 * 0 + _ ≤ _; exact Nat.le_of_eq rfl) (hb hby at_168) (fun _ _ => ⟨rfl, rfl, (by decide : 13 + 0 ≤ _), (by decide : 28 + 0 ≤ _)⟩)
              dsimp only [Pt.U, Pt.locs, Pt.cells, Pt.slots] at X456 l456 y456 z456 st456 hQ456
              subst l456 y456 z456
              obtain ⟨r456_ls2, r456_lv2, r456_kl2, r456_rs2, rfl, NQ456, K456, fq456_0, fq456_1, fq456_2, fq456_3, fq456_4, fq456_5, fq456_6, fq456_7, fq456_8, hq456_0, hq456_1, hq456_2⟩ := hQ456
              have N457 := Fr.app N333 NQ456
              refine own_st (fun t k => st456.trans k) ?_
              have f458 := own_staK f334 K456 (allS ⟨_, fq332_0⟩ all0)
              have f459 := f335.keep K456
              have f460 := f336.keep K456 (ninS ne81 nin0)
              have f461 := f337.keep K456 (ninS ne81 nin0)
              have f462 := f338.keep K456 (ninS ne82 nin0)
              have f463 := f339.keep K456
              have f464 := f340.keep K456 (ninS ne83 nin0)
              have f465 := f341.keep K456 (ninS ne83 nin0)
              have f466 := f342.keep K456 (ninS ne84 nin0)
              have f467 := f343.keep K456
              have f468 := f344.keep K456 (ninS ne85 nin0)
              have f469 := f345.keep K456 (ninS ne85 nin0)
              have f470 := f346.keep K456 (ninS ne86 nin0)
              have f471 := f347.keep K456
              have f472 := f348.keep K456 (ninS ne87 nin0)
              have f473 := f349.keep K456 (ninS ne87 nin0)
              have f474 := f350.keep K456 (ninS ne88 nin0)
              have f475 := fq332_0.keep K456
              have f476 := fq332_5.keep K456
              have f477 := fq332_6.keep K456 (ninS ne365 nin0)
              have f478 := fq332_7.keep K456 (ninS ne365 nin0)
              have f479 := fq332_8.keep K456 (ninS ne366 nin0)
              have Z480 : n0 ≤ T456.heap.size := Nat.le_trans Z352 K456.1
              have ne481 : r456_lv2 ≠ b16_so := own_orne hq456_1 (Ne.symm ne48) ne353
              have ne482 : r456_ls2 ≠ b16_bb := own_orne hq456_0 (Ne.symm ne45) ne354
              have ne483 : r456_lv2 ≠ b20_so := own_orne hq456_1 (Ne.symm ne50) ne355
              have ne484 : r456_ls2 ≠ b20_bb := own_orne hq456_0 (Ne.symm ne47) ne356
              have ne485 : r456_lv2 ≠ b32_so := own_orne hq456_1 (Ne.symm hq32_0) ne358
              have ne486 : r456_ls2 ≠ b32_bb := own_orne hq456_0 hq32_0 ne359
              have ne487 : r456_ls2 ≠ b52_so := own_orne hq456_0 ne72 ne361
              have ne488 : r456_lv2 ≠ b52_so := own_orne hq456_1 ne73 ne362
              have ne489 : r456_ls2 ≠ b52_bb := own_orne hq456_0 ne78 ne363
              have ne490 : r456_lv2 ≠ b52_bb := own_orne hq456_1 ne79 ne364
              have ne491 : r456_ls2 ≠ b80 := own_orne hq456_0 ne85 ne365
              have ne492 : r456_lv2 ≠ b80 := own_orne hq456_1 ne86 ne366
              show own_Go _ _ _ _ T456 (mkF m 171 _ [])
              refine own_st (fun t k => XS.iload X456.here hx rfl (hb hby at_171) rfl k) ?_
              show own_Go _ _ _ _ T456 (mkF m 173 _ [(.int p10)])
              have J527 : ∀ (Tj527 : State) (Lj527 : List Loc) (hj527 : Heap) (p550 : Int64), Stand p l e room_1 s m #[(.long x0), (.long x1), (.long x2), (.long x3), (.long x4), (.int x5)] below meth c Tj527 Lj527 13 28 → Tj527.heap = hj527 → Fr n0 Lj527 → n0 ≤ hj527.size → Sta Z hj527 "java/lang/String" "COMPACT_STRINGS" "Z" (.int cs) → Exa Z hj527 b16_so "java/lang/String" → Fld Z hj527 b16_so "java/lang/String" "value" "[B" (.ref b16_bb) → Fld Z hj527 b16_so "java/lang/String" "coder" "B" (.int (0 : Int32)) → Arv Z hj527 b16_bb r16_kb .byte (1 : Int32) [(.int (own_by (own_chr v2)))] (.int (0 : Int32)) → Exa Z hj527 b20_so "java/lang/String" → Fld Z hj527 b20_so "java/lang/String" "value" "[B" (.ref b20_bb) → Fld Z hj527 b20_so "java/lang/String" "coder" "B" (.int (0 : Int32)) → Arv Z hj527 b20_bb r20_kb .byte (1 : Int32) [(.int (own_by (own_chr v3)))] (.int (0 : Int32)) → Exa Z hj527 b32_so "java/lang/String" → Fld Z hj527 b32_so "java/lang/String" "value" "[B" (.ref b32_bb) → Fld Z hj527 b32_so "java/lang/String" "coder" "B" (.int (0 : Int32)) → Arv Z hj527 b32_bb r32_kb .byte (1 : Int32) [(.int (own_by (own_chr v4)))] (.int (0 : Int32)) → Exa Z hj527 b52_so "java/lang/String" → Fld Z hj527 b52_so "java/lang/String" "value" "[B" (.ref b52_bb) → Fld Z hj527 b52_so "java/lang/String" "coder" "B" (.int (0 : Int32)) → Arv Z hj527 b52_bb r52_kb .byte (1 : Int32) [(.int (own_by (own_chr v5)))] (.int (0 : Int32)) → Exa Z hj527 b80 "com/example/antientropy/antientropy/sds/NamedEntries" → Exa Z hj527 r332_ls2 "java/lang/String" → Fld Z hj527 r332_ls2 "java/lang/String" "value" "[B" (.ref r332_lv2) → Fld Z hj527 r332_ls2 "java/lang/String" "coder" "B" (.int (0 : Int32)) → Arv Z hj527 r332_lv2 r332_kl2 .byte (1 : Int32) [(.int (own_by (own_chr v3)))] (.int (0 : Int32)) → Fld Z hj527 b80 "com/example/antientropy/antientropy/sds/NamedEntries" "bySelf" "J" (.long p550) → Fld Z hj527 b80 "com/example/antientropy/antientropy/sds/NamedEntries" "byLatest" "J" (.long x2) → Fld Z hj527 b80 "com/example/antientropy/antientropy/sds/NamedEntries" "byLatestOfTheRest" "J" (.long r456_rs2) → Fld Z hj527 b80 "com/example/antientropy/antientropy/sds/NamedEntries" "latestFrom" "Ljava/lang/String;" (.ref r456_ls2) → Exa Z hj527 r456_ls2 "java/lang/String" → Fld Z hj527 r456_ls2 "java/lang/String" "value" "[B" (.ref r456_lv2) → Fld Z hj527 r456_ls2 "java/lang/String" "coder" "B" (.int (0 : Int32)) → Arv Z hj527 r456_lv2 r456_kl2 .byte (1 : Int32) [(.int (own_by (own_chr v4)))] (.int (0 : Int32)) → p550 = (if p10 = (0 : Int32) then p162 else (if p15 = (0 : Int32) then x4 else p162)) → own_Go p.tables e below Pq Tj527 (mkF m 188 #[.val (.long x0), .second, .val (.long x1), .second, .val (.long x2), .second, .val (.long x3), .second, .val (.long x4), .second, .val (.int x5), .val (.int v1), .val (.int v2), .val (.int v3), .val (.int v4), .val (.int v5), .val (.int p10), .val (.int p15), .val (.ref b16_so), .val (.ref b20_so), .val (.ref b32_so), .val (.ref b52_so), .val (.ref b80), .unset, .unset, .unset, .unset, .unset, .unset] []) := by
                intro Tj527 Lj527 hj527 p550 Xj527 ej527 Nj527 Zj527 fj528 fj529 fj530 fj531 fj532 fj533 fj534 fj535 fj536 fj537 fj538 fj539 fj540 fj541 fj542 fj543 fj544 fj545 fj546 fj547 fj548 fj549 fj551 fj552 fj553 fj554 fj555 fj556 fj557 fj558 qp550
                show own_Go _ _ _ _ Tj527 (mkF m 188 _ [])
                refine own_st (fun t k => XS.aload Xj527.here hx rfl (hb hby at_188) rfl rfl k) ?_
                show own_Go _ _ _ _ Tj527 (mkF m 190 _ [(.ref b80)])
                refine own_st (fun t k => XS.aload Xj527.here hx rfl (hb hby at_190) rfl rfl k) ?_
                show own_Go _ _ _ _ Tj527 (mkF m 192 _ [(.ref b52_so), (.ref b80)])
                refine own_st (fun t k => XS.lload Xj527.here hx rfl (hb hby at_192) rfl k) ?_
                show own_Go _ _ _ _ Tj527 (mkF m 194 _ [(.long x3), (.ref b52_so), (.ref b80)])
                obtain ⟨cq559, kq559, q559a, q559b, q559c⟩ := isOf hZ ej527 fj545
                obtain ⟨_, _, ⟨T559, L559, k559, n559⟩, -, X559, ⟨Lc559, hQ559, l559, y559, z559⟩, st559⟩ := Xj527.virtualBack hx (y := (⟨"com/example/antientropy/antientropy/sds/NamedEntries", "isNamedTo", "(Ljava/lang/String;J)Z"⟩ : MethodName)) (z := (⟨"com/example/antientropy/antientropy/sds/NamedEntries", "isNamedTo", "(Ljava/lang/String;J)Z"⟩ : MethodName)) hown (mvT hZ (hw _ (List.mem_of_getElem? (i := 62) rfl))) (mvT hZ (hw _ (List.mem_of_getElem? (i := 63) rfl))) (notFace_of_selects (args := #[]) (mvT hZ (hw _ (List.mem_of_getElem? (i := 65) rfl)))) (mvT hZ (hw _ (List.mem_of_getElem? (i := 65) rfl))) (mvT hZ (hw _ (List.mem_of_getElem? (i := 64) rfl))) (by decide) (backOf (W := 0) (rm16 l Z a0 hw [] b80 b52_so x3 p550 x2 r456_rs2 b52_bb r52_kb (own_by (own_chr v5)) cs r456_ls2 r456_lv2 r456_kl2 (own_by (own_chr v4)) hj527 n0 Zj527 fj545 fj551 fj552 fj553 fj554 fj541 fj542 fj543 fj544 fj555 fj556 fj557 fj558 fj528 (Ne.symm ne487) hcs) hZ (hw _ (List.mem_of_getElem? (i := 66) rfl)) (hw _ (List.mem_of_getElem? (i := 36) rfl)) (by decide) (by decide)) q559a q559c (g := (mkF m 194 #[.val (.long x0), .second, .val (.long x1), .second, .val (.long x2), .second, .val (.long x3), .second, .val (.long x4), .second, .val (.int x5), .val (.int v1), .val (.int v2), .val (.int v3), .val (.int v4), .val (.int v5), .val (.int p10), .val (.int p15), .val (.ref b16_so), .val (.ref b20_so), .val (.ref b32_so), .val (.ref b52_so), .val (.ref b80), .unset, .unset, .unset, .unset, .unset, .unset] [(.long x3), (.ref b52_so), (.ref b80)])) rfl (by rw [hml]; rfl) (Steps.refl _) (argsL := [(.ref b52_so), (.long x3)]) (rest := []) (lenOf own_pd__Ljava_lang_String_J_Z rfl) rfl (by show 2 * 0 + _ ≤ _; exact Nat.le_of_eq rfl) (hb hby at_194) (fun _ _ => ⟨rfl, ej527, (by decide : 13 + 0 ≤ _), (by decide : 28 + 0 ≤ _)⟩)
                dsimp only [Pt.U, Pt.locs, Pt.cells, Pt.slots] at X559 l559 y559 z559 st559 hQ559
                subst l559 y559 z559
                obtain ⟨rfl, NQ559, eq559⟩ := hQ559
                have N560 := Fr.app Nj527 NQ559
                refine own_st (fun t k => st559.trans k) ?_
                show own_Go _ _ _ _ T559 (mkF m 197 _ [(.int (own_in1 x3 p550 x2 r456_rs2 (own_by (own_chr v5)) (own_by (own_chr v4))))])
                generalize hv561 : (own_in1 x3 p550 x2 r456_rs2 (own_by (own_chr v5)) (own_by (own_chr v4))) = v561
                refine own_st (fun t k => XS.istore X559.here hx rfl (hb hby at_197) rfl (l' := #[.val (.long x0), .second, .val (.long x1), .second, .val (.long x2), .second, .val (.long x3), .second, .val (.long x4), .second, .val (.int x5), .val (.int v1), .val (.int v2), .val (.int v3), .val (.int v4), .val (.int v5), .val (.int p10), .val (.int p15), .val (.ref b16_so), .val (.ref b20_so), .val (.ref b32_so), .val (.ref b52_so), .val (.ref b80), .val (.int v561), .unset, .unset, .unset, .unset, .unset]) rfl k) ?_
                show own_Go _ _ _ _ T559 (mkF m 199 #[.val (.long x0), .second, .val (.long x1), .second, .val (.long x2), .second, .val (.long x3), .second, .val (.long x4), .second, .val (.int x5), .val (.int v1), .val (.int v2), .val (.int v3), .val (.int v4), .val (.int v5), .val (.int p10), .val (.int p15), .val (.ref b16_so), .val (.ref b20_so), .val (.ref b32_so), .val (.ref b52_so), .val (.ref b80), .val (.int v561), .unset, .unset, .unset, .unset, .unset] [])
                refine own_st (fun t k => XS.iload X559.here hx rfl (hb hby at_199) rfl k) ?_
                show own_Go _ _ _ _ T559 (mkF m 201 _ [(.int p10)])
                have J565 : ∀ (Tj565 : State) (Lj565 : List Loc) (p566 : Int64), Stand p l e room_1 s m #[(.long x0), (.long x1), (.long x2), (.long x3), (.long x4), (.int x5)] below meth c Tj565 Lj565 13 28 → Tj565.heap = hj527 → Fr n0 Lj565 → p566 = (if p10 = (0 : Int32) then (0 : Int64) else x4) → own_Go p.tables e below Pq Tj565 (mkF m 210 #[.val (.long x0), .second, .val (.long x1), .second, .val (.long x2), .second, .val (.long x3), .second, .val (.long x4), .second, .val (.int x5), .val (.int v1), .val (.int v2), .val (.int v3), .val (.int v4), .val (.int v5), .val (.int p10), .val (.int p15), .val (.ref b16_so), .val (.ref b20_so), .val (.ref b32_so), .val (.ref b52_so), .val (.ref b80), .val (.int v561), .unset, .unset, .unset, .unset, .unset] [(.long p566)]) := by
                  intro Tj565 Lj565 p566 Xj565 ej565 Nj565 qp566
                  show own_Go _ _ _ _ Tj565 (mkF m 210 _ [(.long p566)])
                  refine own_st (fun t k => XS.lstore Xj565.here hx rfl (hb hby at_210) rfl (l' := #[.val (.long x0), .second, .val (.long x1), .second, .val (.long x2), .second, .val (.long x3), .second, .val (.long x4), .second, .val (.int x5), .val (.int v1), .val (.int v2), .val (.int v3), .val (.int v4), .val (.int v5), .val (.int p10), .val (.int p15), .val (.ref b16_so), .val (.ref b20_so), .val (.ref b32_so), .val (.ref b52_so), .val (.ref b80), .val (.int v561), .val (.long p566), .second, .unset, .unset, .unset]) rfl k) ?_
                  show own_Go _ _ _ _ Tj565 (mkF m 212 #[.val (.long x0), .second, .val (.long x1), .second, .val (.long x2), .second, .val (.long x3), .second, .val (.long x4), .second, .val (.int x5), .val (.int v1), .val (.int v2), .val (.int v3), .val (.int v4), .val (.int v5), .val (.int p10), .val (.int p15), .val (.ref b16_so), .val (.ref b20_so), .val (.ref b32_so), .val (.ref b52_so), .val (.ref b80), .val (.int v561), .val (.long p566), .second, .unset, .unset, .unset] [])
                  refine own_st (fun t k => XS.lconst Xj565.here hx rfl (hb hby at_212) k) ?_
                  show own_Go _ _ _ _ Tj565 (mkF m 213 _ [(.long (0 : Int64))])
                  refine own_st (fun t k => XS.lstore Xj565.here hx rfl (hb hby at_213) rfl (l' := #[.val (.long x0), .second, .val (.long x1), .second, .val (.long x2), .second, .val (.long x3), .second, .val (.long x4), .second, .val (.int x5), .val (.int v1), .val (.int v2), .val (.int v3), .val (.int v4), .val (.int v5), .val (.int p10), .val (.int p15), .val (.ref b16_so), .val (.ref b20_so), .val (.ref b32_so), .val (.ref b52_so), .val (.ref b80), .val (.int v561), .val (.long p566), .second, .val (.long (0 : Int64)), .second, .unset]) rfl k) ?_
                  show own_Go _ _ _ _ Tj565 (mkF m 215 #[.val (.long x0), .second, .val (.long x1), .second, .val (.long x2), .second, .val (.long x3), .second, .val (.long x4), .second, .val (.int x5), .val (.int v1), .val (.int v2), .val (.int v3), .val (.int v4), .val (.int v5), .val (.int p10), .val (.int p15), .val (.ref b16_so), .val (.ref b20_so), .val (.ref b32_so), .val (.ref b52_so), .val (.ref b80), .val (.int v561), .val (.long p566), .second, .val (.long (0 : Int64)), .second, .unset] [])
                  refine own_st (fun t k => XS.iload Xj565.here hx rfl (hb hby at_215) rfl k) ?_
                  show own_Go _ _ _ _ Tj565 (mkF m 217 _ [(.int v1)])
                  refine own_st (fun t k => XS.iconst Xj565.here hx rfl (hb hby at_217) k) ?_
                  show own_Go _ _ _ _ Tj565 (mkF m 218 _ [(.int (1 : Int32)), (.int v1)])
                  refine own_st (fun t k => XS.icmpNo Xj565.here hx rfl (hb hby at_218) rfl (flt c164).1 k) ?_
                  show own_Go _ _ _ _ Tj565 (mkF m 221 _ [])
                  refine own_st (fun t k => XS.iload Xj565.here hx rfl (hb hby at_221) rfl k) ?_
                  show own_Go _ _ _ _ Tj565 (mkF m 223 _ [(.int v2)])
                  refine own_st (fun t k => XS.iload Xj565.here hx rfl (hb hby at_223) rfl k) ?_
                  show own_Go _ _ _ _ Tj565 (mkF m 225 _ [(.int v5), (.int v2)])
                  have J570 : ∀ (Tj570 : State) (Lj570 : List Loc) (p571 : Int64), Stand p l e room_1 s m #[(.long x0), (.long x1), (.long x2), (.long x3), (.long x4), (.int x5)] below meth c Tj570 Lj570 13 28 → Tj570.heap = hj527 → Fr n0 Lj570 → p571 = (if v2 = v5 then (0 : Int64) else x0) → own_Go p.tables e below Pq Tj570 (mkF m 231 #[.val (.long x0), .second, .val (.long x1), .second, .val (.long x2), .second, .val (.long x3), .second, .val (.long x4), .second, .val (.int x5), .val (.int v1), .val (.int v2), .val (.int v3), .val (.int v4), .val (.int v5), .val (.int p10), .val (.int p15), .val (.ref b16_so), .val (.ref b20_so), .val (.ref b32_so), .val (.ref b52_so), .val (.ref b80), .val (.int v561), .val (.long p566), .second, .val (.long p571), .second, .unset] []) := by
                    intro Tj570 Lj570 p571 Xj570 ej570 Nj570 qp571
                    show own_Go _ _ _ _ Tj570 (mkF m 231 #[.val (.long x0), .second, .val (.long x1), .second, .val (.long x2), .second, .val (.long x3), .second, .val (.long x4), .second, .val (.int x5), .val (.int v1), .val (.int v2), .val (.int v3), .val (.int v4), .val (.int v5), .val (.int p10), .val (.int p15), .val (.ref b16_so), .val (.ref b20_so), .val (.ref b32_so), .val (.ref b52_so), .val (.ref b80), .val (.int v561), .val (.long p566), .second, .val (.long p571), .second, .unset] [])
                    refine own_st (fun t k => XS.iload Xj570.here hx rfl (hb hby at_231) rfl k) ?_
                    show own_Go _ _ _ _ Tj570 (mkF m 233 _ [(.int v1)])
                    refine own_st (fun t k => XS.iconst Xj570.here hx rfl (hb hby at_233) k) ?_
                    show own_Go _ _ _ _ Tj570 (mkF m 234 _ [(.int (2 : Int32)), (.int v1)])
                    refine own_st (fun t k => XS.icmpNo Xj570.here hx rfl (hb hby at_234) rfl (flt c256).1 k) ?_
                    show own_Go _ _ _ _ Tj570 (mkF m 237 _ [])
                    refine own_st (fun t k => XS.iload Xj570.here hx rfl (hb hby at_237) rfl k) ?_
                    show own_Go _ _ _ _ Tj570 (mkF m 239 _ [(.int v3)])
                    refine own_st (fun t k => XS.iload Xj570.here hx rfl (hb hby at_239) rfl k) ?_
                    show own_Go _ _ _ _ Tj570 (mkF m 241 _ [(.int v5), (.int v3)])
                    have J575 : ∀ (Tj575 : State) (Lj575 : List Loc) (p576 : Int64), Stand p l e room_1 s m #[(.long x0), (.long x1), (.long x2), (.long x3), (.long x4), (.int x5)] below meth c Tj575 Lj575 13 28 → Tj575.heap = hj527 → Fr n0 Lj575 → p576 = (if v3 = v5 then p571 else x1) → own_Go p.tables e below Pq Tj575 (mkF m 247 #[.val (.long x0), .second, .val (.long x1), .second, .val (.long x2), .second, .val (.long x3), .second, .val (.long x4), .second, .val (.int x5), .val (.int v1), .val (.int v2), .val (.int v3), .val (.int v4), .val (.int v5), .val (.int p10), .val (.int p15), .val (.ref b16_so), .val (.ref b20_so), .val (.ref b32_so), .val (.ref b52_so), .val (.ref b80), .val (.int v561), .val (.long p566), .second, .val (.long p576), .second, .unset] []) := by
                      intro Tj575 Lj575 p576 Xj575 ej575 Nj575 qp576
                      show own_Go _ _ _ _ Tj575 (mkF m 247 #[.val (.long x0), .second, .val (.long x1), .second, .val (.long x2), .second, .val (.long x3), .second, .val (.long x4), .second, .val (.int x5), .val (.int v1), .val (.int v2), .val (.int v3), .val (.int v4), .val (.int v5), .val (.int p10), .val (.int p15), .val (.ref b16_so), .val (.ref b20_so), .val (.ref b32_so), .val (.ref b52_so), .val (.ref b80), .val (.int v561), .val (.long p566), .second, .val (.long p576), .second, .unset] [])
                      refine own_st (fun t k => XS.iload Xj575.here hx rfl (hb hby at_247) rfl k) ?_
                      show own_Go _ _ _ _ Tj575 (mkF m 249 _ [(.int v1)])
                      refine own_st (fun t k => XS.iconst Xj575.here hx rfl (hb hby at_249) k) ?_
                      show own_Go _ _ _ _ Tj575 (mkF m 250 _ [(.int (3 : Int32)), (.int v1)])
                      refine own_st (fun t k => XS.icmpNo Xj575.here hx rfl (hb hby at_250) rfl (flt c367).1 k) ?_
                      show own_Go _ _ _ _ Tj575 (mkF m 253 _ [])
                      refine own_st (fun t k => XS.iload Xj575.here hx rfl (hb hby at_253) rfl k) ?_
                      show own_Go _ _ _ _ Tj575 (mkF m 255 _ [(.int v4)])
                      refine own_st (fun t k => XS.iload Xj575.here hx rfl (hb hby at_255) rfl k) ?_
                      show own_Go _ _ _ _ Tj575 (mkF m 257 _ [(.int v5), (.int v4)])
                      have J580 : ∀ (Tj580 : State) (Lj580 : List Loc) (p581 : Int64), Stand p l e room_1 s m #[(.long x0), (.long x1), (.long x2), (.long x3), (.long x4), (.int x5)] below meth c Tj580 Lj580 13 28 → Tj580.heap = hj527 → Fr n0 Lj580 → p581 = (if v4 = v5 then p576 else x2) → own_Go p.tables e below Pq Tj580 (mkF m 264 #[.val (.long x0), .second, .val (.long x1), .second, .val (.long x2), .second, .val (.long x3), .second, .val (.long x4), .second, .val (.int x5), .val (.int v1), .val (.int v2), .val (.int v3), .val (.int v4), .val (.int v5), .val (.int p10), .val (.int p15), .val (.ref b16_so), .val (.ref b20_so), .val (.ref b32_so), .val (.ref b52_so), .val (.ref b80), .val (.int v561), .val (.long p566), .second, .val (.long p581), .second, .unset] []) := by
                        intro Tj580 Lj580 p581 Xj580 ej580 Nj580 qp581
                        show own_Go _ _ _ _ Tj580 (mkF m 264 #[.val (.long x0), .second, .val (.long x1), .second, .val (.long x2), .second, .val (.long x3), .second, .val (.long x4), .second, .val (.int x5), .val (.int v1), .val (.int v2), .val (.int v3), .val (.int v4), .val (.int v5), .val (.int p10), .val (.int p15), .val (.ref b16_so), .val (.ref b20_so), .val (.ref b32_so), .val (.ref b52_so), .val (.ref b80), .val (.int v561), .val (.long p566), .second, .val (.long p581), .second, .unset] [])
                        refine own_st (fun t k => XS.lload Xj580.here hx rfl (hb hby at_264) rfl k) ?_
                        show own_Go _ _ _ _ Tj580 (mkF m 266 _ [(.long x3)])
                        refine own_st (fun t k => XS.lload Xj580.here hx rfl (hb hby at_266) rfl k) ?_
                        show own_Go _ _ _ _ Tj580 (mkF m 268 _ [(.long p566), (.long x3)])
                        refine own_st (fun t k => XS.lload Xj580.here hx rfl (hb hby at_268) rfl k) ?_
                        show own_Go _ _ _ _ Tj580 (mkF m 270 _ [(.long p581), (.long p566), (.long x3)])
                        obtain ⟨_, _, ⟨T582, L582, k582, n582⟩, -, X582, ⟨Lc582, hQ582, l582, y582, z582⟩, st582⟩ := Jvm.LawKit.callS Xj580 hx (y := (⟨"java/lang/Math", "max", "(JJ)J"⟩ : MethodName)) hown (mvT hZ (hw _ (List.mem_of_getElem? (i := 73) rfl))) (mvT hZ (hw _ (List.mem_of_getElem? (i := 70) rfl))) (mvT hZ (hw _ (List.mem_of_getElem? (i := 71) rfl))) (mvT hZ (hw _ (List.mem_of_getElem? (i := 72) rfl))) (by decide) (backOf (W := 2) (rm12 l Z a0 hw [] p566 p581 hj527 n0 Zj527 ) hZ (hw _ (List.mem_of_getElem? (i := 72) rfl)) (hw _ (List.mem_of_getElem? (i := 71) rfl)) (by decide) (by decide)) (g := (mkF m 270 #[.val (.long x0), .second, .val (.long x1), .second, .val (.long x2), .second, .val (.long x3), .second, .val (.long x4), .second, .val (.int x5), .val (.int v1), .val (.int v2), .val (.int v3), .val (.int v4), .val (.int v5), .val (.int p10), .val (.int p15), .val (.ref b16_so), .val (.ref b20_so), .val (.ref b32_so), .val (.ref b52_so), .val (.ref b80), .val (.int v561), .val (.long p566), .second, .val (.long p581), .second, .unset] [(.long p581), (.long p566), (.long x3)])) rfl (by rw [hml]; rfl) (argsL := [(.long p566), (.long p581)]) (rest := [(.long x3)]) (lenOf own_pd__JJ_J rfl) rfl (by show 2 * 0 + _ ≤ _; exact Nat.le_of_eq rfl) (hb hby at_270) (fun _ _ => ⟨rfl, ej580, (by decide : 13 + 0 ≤ _), (by decide : 28 + 0 ≤ _)⟩)
                        dsimp only [Pt.U, Pt.locs, Pt.cells, Pt.slots] at X582 l582 y582 z582 st582 hQ582
                        subst l582 y582 z582
                        obtain ⟨rfl, NQ582, eq582⟩ := hQ582
                        have N583 := Fr.app Nj580 NQ582
                        refine own_st st582 ?_
                        show own_Go _ _ _ _ T582 (mkF m 273 _ [(.long (own_max p566 p581)), (.long x3)])
                        refine own_st (fun t k => XS.lcmp X582.here hx rfl (hb hby at_273) rfl k) ?_
                        show own_Go _ _ _ _ T582 (mkF m 274 _ [(.int (lcmpW x3 (own_max p566 p581)))])
                        have J587 : ∀ (Tj587 : State) (Lj587 : List Loc) (p588 : Int32), Stand p l e room_1 s m #[(.long x0), (.long x1), (.long x2), (.long x3), (.long x4), (.int x5)] below meth c Tj587 Lj587 13 28 → Tj587.heap = hj527 → Fr n0 Lj587 → p588 = (if x3 < (own_max p566 p581) then (1 : Int32) else (0 : Int32)) → own_Go p.tables e below Pq Tj587 (mkF m 282 #[.val (.long x0), .second, .val (.long x1), .second, .val (.long x2), .second, .val (.long x3), .second, .val (.long x4), .second, .val (.int x5), .val (.int v1), .val (.int v2), .val (.int v3), .val (.int v4), .val (.int v5), .val (.int p10), .val (.int p15), .val (.ref b16_so), .val (.ref b20_so), .val (.ref b32_so), .val (.ref b52_so), .val (.ref b80), .val (.int v561), .val (.long p566), .second, .val (.long p581), .second, .unset] [(.int p588)]) := by
                          intro Tj587 Lj587 p588 Xj587 ej587 Nj587 qp588
                          show own_Go _ _ _ _ Tj587 (mkF m 282 _ [(.int p588)])
                          refine own_st (fun t k => XS.istore Xj587.here hx rfl (hb hby at_282) rfl (l' := #[.val (.long x0), .second, .val (.long x1), .second, .val (.long x2), .second, .val (.long x3), .second, .val (.long x4), .second, .val (.int x5), .val (.int v1), .val (.int v2), .val (.int v3), .val (.int v4), .val (.int v5), .val (.int p10), .val (.int p15), .val (.ref b16_so), .val (.ref b20_so), .val (.ref b32_so), .val (.ref b52_so), .val (.ref b80), .val (.int v561), .val (.long p566), .second, .val (.long p581), .second, .val (.int p588)]) rfl k) ?_
                          show own_Go _ _ _ _ Tj587 (mkF m 284 #[.val (.long x0), .second, .val (.long x1), .second, .val (.long x2), .second, .val (.long x3), .second, .val (.long x4), .second, .val (.int x5), .val (.int v1), .val (.int v2), .val (.int v3), .val (.int v4), .val (.int v5), .val (.int p10), .val (.int p15), .val (.ref b16_so), .val (.ref b20_so), .val (.ref b32_so), .val (.ref b52_so), .val (.ref b80), .val (.int v561), .val (.long p566), .second, .val (.long p581), .second, .val (.int p588)] [])
                          refine own_st (fun t k => XS.iload Xj587.here hx rfl (hb hby at_284) rfl k) ?_
                          show own_Go _ _ _ _ Tj587 (mkF m 286 _ [(.int v561)])
                          refine own_st (fun t k => XS.iload Xj587.here hx rfl (hb hby at_286) rfl k) ?_
                          show own_Go _ _ _ _ Tj587 (mkF m 288 _ [(.int p588), (.int v561)])
                          have J592 : ∀ (Tj592 : State) (Lj592 : List Loc) (p593 : Int32), Stand p l e room_1 s m #[(.long x0), (.long x1), (.long x2), (.long x3), (.long x4), (.int x5)] below meth c Tj592 Lj592 13 28 → Tj592.heap = hj527 → Fr n0 Lj592 → p593 = (if v561 = p588 then (1 : Int32) else (0 : Int32)) → own_Go p.tables e below Pq Tj592 (mkF m 296 #[.val (.long x0), .second, .val (.long x1), .second, .val (.long x2), .second, .val (.long x3), .second, .val (.long x4), .second, .val (.int x5), .val (.int v1), .val (.int v2), .val (.int v3), .val (.int v4), .val (.int v5), .val (.int p10), .val (.int p15), .val (.ref b16_so), .val (.ref b20_so), .val (.ref b32_so), .val (.ref b52_so), .val (.ref b80), .val (.int v561), .val (.long p566), .second, .val (.long p581), .second, .val (.int p588)] [(.int p593)]) := by
                            intro Tj592 Lj592 p593 Xj592 ej592 Nj592 qp593
                            show own_Go _ _ _ _ Tj592 (mkF m 296 _ [(.int p593)])
                            subst hPq
                            refine own_out Xj592 (v := some (.int (nar .boolean p593))) (fun h => by rw [Bd.returns] at h; cases h) Bd.notSynchronized (fun fs hr => retN Xj592 hx (t := .boolean) Bd.returns (by simp) (hb hby at_296) hr) (by decide) (by decide) ?_
                            show Q0 Z x0 x1 x2 x3 x4 x5 cs h0 n0 _ Tj592.heap _
                            rw [ej592]
                            exact ⟨congrArg (fun z => some (Value.int (nar .boolean z))) (own_law4 x0 x1 x2 x3 x4 x5 cs v1 v2 v3 v4 v5 p10 p15 r16_kb r20_kb r32_kb r52_kb p162 r332_ls2 r332_lv2 r332_kl2 r332_rs2 r456_ls2 r456_lv2 r456_kl2 r456_rs2 p550 v561 p566 p571 p576 p581 p588 p593 hcs hv1 hv2 hv3 hv4 hv5 qp10 qp15 qp162 hq332_2 hq456_2 qp550 hv561 qp566 qp571 qp576 qp581 qp588 qp593 c164 c256 c367), Nj592⟩
                          by_cases c589 : v561 = p588
                          · skip
                            refine own_st (fun t k => XS.icmpNo Xj587.here hx rfl (hb hby at_288) rfl (teq c589).2 k) ?_
                            show own_Go _ _ _ _ Tj587 (mkF m 291 _ [])
                            refine own_st (fun t k => XS.iconst Xj587.here hx rfl (hb hby at_291) k) ?_
                            show own_Go _ _ _ _ Tj587 (mkF m 292 _ [(.int (1 : Int32))])
                            refine own_st (fun t k => XS.goto Xj587.here hx rfl (pc0 := 292) (pc' := 296) rfl (hb hby at_292) (by decide) (by decide) k) ?_
                            show own_Go _ _ _ _ Tj587 (mkF m 296 _ [(.int (1 : Int32))])
                            exact J592 Tj587 _ _ Xj587 ej587 Nj587 (by simp only [if_pos c589])
                          · skip
                            refine own_st (fun t k => XS.icmpYes Xj587.here hx rfl (pc0 := 288) (pc' := 295) rfl (hb hby at_288) rfl (feq c589).2 (by decide) (by decide) k) ?_
                            show own_Go _ _ _ _ Tj587 (mkF m 295 _ [])
                            refine own_st (fun t k => XS.iconst Xj587.here hx rfl (hb hby at_295) k) ?_
                            show own_Go _ _ _ _ Tj587 (mkF m 296 _ [(.int (0 : Int32))])
                            exact J592 Tj587 _ _ Xj587 ej587 Nj587 (by simp only [if_neg c589])
                        by_cases c584 : x3 < (own_max p566 p581)
                        · skip
                          refine own_st (fun t k => XS.ifNo X582.here hx rfl (hb hby at_274) rfl (own_lcF (cd := .ge) (not_not_intro c584)) k) ?_
                          show own_Go _ _ _ _ T582 (mkF m 277 _ [])
                          refine own_st (fun t k => XS.iconst X582.here hx rfl (hb hby at_277) k) ?_
                          show own_Go _ _ _ _ T582 (mkF m 278 _ [(.int (1 : Int32))])
                          refine own_st (fun t k => XS.goto X582.here hx rfl (pc0 := 278) (pc' := 282) rfl (hb hby at_278) (by decide) (by decide) k) ?_
                          show own_Go _ _ _ _ T582 (mkF m 282 _ [(.int (1 : Int32))])
                          exact J587 T582 _ _ X582 eq582 N583 (by simp only [if_pos c584])
                        · skip
                          refine own_st (fun t k => XS.ifYes X582.here hx rfl (pc0 := 274) (pc' := 281) rfl (hb hby at_274) rfl (own_lcT (cd := .ge) c584) (by decide) (by decide) k) ?_
                          show own_Go _ _ _ _ T582 (mkF m 281 _ [])
                          refine own_st (fun t k => XS.iconst X582.here hx rfl (hb hby at_281) k) ?_
                          show own_Go _ _ _ _ T582 (mkF m 282 _ [(.int (0 : Int32))])
                          exact J587 T582 _ _ X582 eq582 N583 (by simp only [if_neg c584])
                      by_cases c577 : v4 = v5
                      · skip
                        refine own_st (fun t k => XS.icmpYes Xj575.here hx rfl (pc0 := 257) (pc' := 264) rfl (hb hby at_257) rfl (teq c577).1 (by decide) (by decide) k) ?_
                        show own_Go _ _ _ _ Tj575 (mkF m 264 _ [])
                        exact J580 Tj575 _ _ Xj575 ej575 Nj575 (by simp only [if_pos c577])
                      · skip
                        refine own_st (fun t k => XS.icmpNo Xj575.here hx rfl (hb hby at_257) rfl (feq c577).1 k) ?_
                        show own_Go _ _ _ _ Tj575 (mkF m 260 _ [])
                        refine own_st (fun t k => XS.lload Xj575.here hx rfl (hb hby at_260) rfl k) ?_
                        show own_Go _ _ _ _ Tj575 (mkF m 262 _ [(.long x2)])
                        refine own_st (fun t k => XS.lstore Xj575.here hx rfl (hb hby at_262) rfl (l' := #[.val (.long x0), .second, .val (.long x1), .second, .val (.long x2), .second, .val (.long x3), .second, .val (.long x4), .second, .val (.int x5), .val (.int v1), .val (.int v2), .val (.int v3), .val (.int v4), .val (.int v5), .val (.int p10), .val (.int p15), .val (.ref b16_so), .val (.ref b20_so), .val (.ref b32_so), .val (.ref b52_so), .val (.ref b80), .val (.int v561), .val (.long p566), .second, .val (.long x2), .second, .unset]) rfl k) ?_
                        show own_Go _ _ _ _ Tj575 (mkF m 264 #[.val (.long x0), .second, .val (.long x1), .second, .val (.long x2), .second, .val (.long x3), .second, .val (.long x4), .second, .val (.int x5), .val (.int v1), .val (.int v2), .val (.int v3), .val (.int v4), .val (.int v5), .val (.int p10), .val (.int p15), .val (.ref b16_so), .val (.ref b20_so), .val (.ref b32_so), .val (.ref b52_so), .val (.ref b80), .val (.int v561), .val (.long p566), .second, .val (.long x2), .second, .unset] [])
                        exact J580 Tj575 _ _ Xj575 ej575 Nj575 (by simp only [if_neg c577])
                    by_cases c572 : v3 = v5
                    · skip
                      refine own_st (fun t k => XS.icmpYes Xj570.here hx rfl (pc0 := 241) (pc' := 247) rfl (hb hby at_241) rfl (teq c572).1 (by decide) (by decide) k) ?_
                      show own_Go _ _ _ _ Tj570 (mkF m 247 _ [])
                      exact J575 Tj570 _ _ Xj570 ej570 Nj570 (by simp only [if_pos c572])
                    · skip
                      refine own_st (fun t k => XS.icmpNo Xj570.here hx rfl (hb hby at_241) rfl (feq c572).1 k) ?_
                      show own_Go _ _ _ _ Tj570 (mkF m 244 _ [])
                      refine own_st (fun t k => XS.lloadN Xj570.here hx rfl (hb hby at_244) rfl k) ?_
                      show own_Go _ _ _ _ Tj570 (mkF m 245 _ [(.long x1)])
                      refine own_st (fun t k => XS.lstore Xj570.here hx rfl (hb hby at_245) rfl (l' := #[.val (.long x0), .second, .val (.long x1), .second, .val (.long x2), .second, .val (.long x3), .second, .val (.long x4), .second, .val (.int x5), .val (.int v1), .val (.int v2), .val (.int v3), .val (.int v4), .val (.int v5), .val (.int p10), .val (.int p15), .val (.ref b16_so), .val (.ref b20_so), .val (.ref b32_so), .val (.ref b52_so), .val (.ref b80), .val (.int v561), .val (.long p566), .second, .val (.long x1), .second, .unset]) rfl k) ?_
                      show own_Go _ _ _ _ Tj570 (mkF m 247 #[.val (.long x0), .second, .val (.long x1), .second, .val (.long x2), .second, .val (.long x3), .second, .val (.long x4), .second, .val (.int x5), .val (.int v1), .val (.int v2), .val (.int v3), .val (.int v4), .val (.int v5), .val (.int p10), .val (.int p15), .val (.ref b16_so), .val (.ref b20_so), .val (.ref b32_so), .val (.ref b52_so), .val (.ref b80), .val (.int v561), .val (.long p566), .second, .val (.long x1), .second, .unset] [])
                      exact J575 Tj570 _ _ Xj570 ej570 Nj570 (by simp only [if_neg c572])
                  by_cases c567 : v2 = v5
                  · skip
                    refine own_st (fun t k => XS.icmpYes Xj565.here hx rfl (pc0 := 225) (pc' := 231) rfl (hb hby at_225) rfl (teq c567).1 (by decide) (by decide) k) ?_
                    show own_Go _ _ _ _ Tj565 (mkF m 231 _ [])
                    exact J570 Tj565 _ _ Xj565 ej565 Nj565 (by simp only [if_pos c567])
                  · skip
                    refine own_st (fun t k => XS.icmpNo Xj565.here hx rfl (hb hby at_225) rfl (feq c567).1 k) ?_
                    show own_Go _ _ _ _ Tj565 (mkF m 228 _ [])
                    refine own_st (fun t k => XS.lloadN Xj565.here hx rfl (hb hby at_228) rfl k) ?_
                    show own_Go _ _ _ _ Tj565 (mkF m 229 _ [(.long x0)])
                    refine own_st (fun t k => XS.lstore Xj565.here hx rfl (hb hby at_229) rfl (l' := #[.val (.long x0), .second, .val (.long x1), .second, .val (.long x2), .second, .val (.long x3), .second, .val (.long x4), .second, .val (.int x5), .val (.int v1), .val (.int v2), .val (.int v3), .val (.int v4), .val (.int v5), .val (.int p10), .val (.int p15), .val (.ref b16_so), .val (.ref b20_so), .val (.ref b32_so), .val (.ref b52_so), .val (.ref b80), .val (.int v561), .val (.long p566), .second, .val (.long x0), .second, .unset]) rfl k) ?_
                    show own_Go _ _ _ _ Tj565 (mkF m 231 #[.val (.long x0), .second, .val (.long x1), .second, .val (.long x2), .second, .val (.long x3), .second, .val (.long x4), .second, .val (.int x5), .val (.int v1), .val (.int v2), .val (.int v3), .val (.int v4), .val (.int v5), .val (.int p10), .val (.int p15), .val (.ref b16_so), .val (.ref b20_so), .val (.ref b32_so), .val (.ref b52_so), .val (.ref b80), .val (.int v561), .val (.long p566), .second, .val (.long x0), .second, .unset] [])
                    exact J570 Tj565 _ _ Xj565 ej565 Nj565 (by simp only [if_neg c567])
                by_cases c562 : p10 = (0 : Int32)
                · skip
                  refine own_st (fun t k => XS.ifYes X559.here hx rfl (pc0 := 201) (pc' := 209) rfl (hb hby at_201) rfl ((if0 _ _).trans (teq c562).1) (by decide) (by decide) k) ?_
                  show own_Go _ _ _ _ T559 (mkF m 209 _ [])
                  refine own_st (fun t k => XS.lconst X559.here hx rfl (hb hby at_209) k) ?_
                  show own_Go _ _ _ _ T559 (mkF m 210 _ [(.long (0 : Int64))])
                  exact J565 T559 _ _ X559 eq559 N560 (by simp only [if_pos c562])
                · skip
                  refine own_st (fun t k => XS.ifNo X559.here hx rfl (hb hby at_201) rfl ((if0 _ _).trans (feq c562).1) k) ?_
                  show own_Go _ _ _ _ T559 (mkF m 204 _ [])
                  refine own_st (fun t k => XS.lload X559.here hx rfl (hb hby at_204) rfl k) ?_
                  show own_Go _ _ _ _ T559 (mkF m 206 _ [(.long x4)])
                  refine own_st (fun t k => XS.goto X559.here hx rfl (pc0 := 206) (pc' := 210) rfl (hb hby at_206) (by decide) (by decide) k) ?_
                  show own_Go _ _ _ _ T559 (mkF m 210 _ [(.long x4)])
                  exact J565 T559 _ _ X559 eq559 N560 (by simp only [if_neg c562])
              by_cases c493 : p10 = (0 : Int32)
              · skip
                refine own_st (fun t k => XS.ifYes X456.here hx rfl (pc0 := 173) (pc' := 188) rfl (hb hby at_173) rfl ((if0 _ _).trans (teq c493).1) (by decide) (by decide) k) ?_
                show own_Go _ _ _ _ T456 (mkF m 188 _ [])
                exact J527 T456 _ T456.heap _ X456 rfl N457 Z480 f458 f459 f460 f461 f462 f463 f464 f465 f466 f467 f468 f469 f470 f471 f472 f473 f474 fq456_0 f476 f477 f478 f479 fq456_1 fq456_2 fq456_3 fq456_4 fq456_5 fq456_6 fq456_7 fq456_8 (by simp only [if_pos c493])
              · skip
                refine own_st (fun t k => XS.ifNo X456.here hx rfl (hb hby at_173) rfl ((if0 _ _).trans (feq c493).1) k) ?_
                show own_Go _ _ _ _ T456 (mkF m 176 _ [])
                refine own_st (fun t k => XS.iload X456.here hx rfl (hb hby at_176) rfl k) ?_
                show own_Go _ _ _ _ T456 (mkF m 178 _ [(.int p15)])
                by_cases c495 : p15 = (0 : Int32)
                · skip
                  refine own_st (fun t k => XS.ifNo X456.here hx rfl (hb hby at_178) rfl ((if0 _ _).trans (teq c495).2) k) ?_
                  show own_Go _ _ _ _ T456 (mkF m 181 _ [])
                  refine own_st (fun t k => XS.aload X456.here hx rfl (hb hby at_181) rfl rfl k) ?_
                  show own_Go _ _ _ _ T456 (mkF m 183 _ [(.ref b80)])
                  refine own_st (fun t k => XS.lload X456.here hx rfl (hb hby at_183) rfl k) ?_
                  show own_Go _ _ _ _ T456 (mkF m 185 _ [(.long x4), (.ref b80)])
                  obtain ⟨cq496, kq496, q496a, q496b, q496c⟩ := isOf hZ rfl fq456_0
                  obtain ⟨_, _, ⟨T496, L496, k496, n496⟩, -, X496, ⟨Lc496, hQ496, l496, y496, z496⟩, st496⟩ := X456.virtualBack hx (y := (⟨"com/example/antientropy/antientropy/sds/NamedEntries", "sent", "(J)V"⟩ : MethodName)) (z := (⟨"com/example/antientropy/antientropy/sds/NamedEntries", "sent", "(J)V"⟩ : MethodName)) hown (mvT hZ (hw _ (List.mem_of_getElem? (i := 74) rfl))) (mvT hZ (hw _ (List.mem_of_getElem? (i := 75) rfl))) (notFace_of_selects (args := #[]) (mvT hZ (hw _ (List.mem_of_getElem? (i := 77) rfl)))) (mvT hZ (hw _ (List.mem_of_getElem? (i := 77) rfl))) (mvT hZ (hw _ (List.mem_of_getElem? (i := 76) rfl))) (by decide) (backOf (W := 0) (rm11 l Z a0 hw [] b80 x4 p162 x2 r456_rs2 (.ref r456_ls2) T456.heap n0 Z480 fq456_0 fq456_1 fq456_2 fq456_3 fq456_4 gx106) hZ (hw _ (List.mem_of_getElem? (i := 78) rfl)) (hw _ (List.mem_of_getElem? (i := 36) rfl)) (by decide) (by decide)) q496a q496c (g := (mkF m 185 #[.val (.long x0), .second, .val (.long x1), .second, .val (.long x2), .second, .val (.long x3), .second, .val (.long x4), .second, .val (.int x5), .val (.int v1), .val (.int v2), .val (.int v3), .val (.int v4), .val (.int v5), .val (.int p10), .val (.int p15), .val (.ref b16_so), .val (.ref b20_so), .val (.ref b32_so), .val (.ref b52_so), .val (.ref b80), .unset, .unset, .unset, .unset, .unset, .unset] [(.long x4), (.ref b80)])) rfl (by rw [hml]; rfl) (Steps.refl _) (argsL := [(.long x4)]) (rest := []) (lenOf own_pd__J_V rfl) rfl (by show 2 * 0 + _ ≤ _; exact Nat.le_of_eq rfl) (hb hby at_185) (fun _ _ => ⟨rfl, rfl, (by decide : 13 + 0 ≤ _), (by decide : 28 + 0 ≤ _)⟩)
                  dsimp only [Pt.U, Pt.locs, Pt.cells, Pt.slots] at X496 l496 y496 z496 st496 hQ496
                  subst l496 y496 z496
                  obtain ⟨rfl, NQ496, K496, fq496_0, fq496_1, fq496_2, fq496_3, fq496_4⟩ := hQ496
                  have N497 := Fr.app N457 NQ496
                  refine own_st (fun t k => st496.trans k) ?_
                  have f498 := own_staK f458 K496 (allS ⟨_, fq456_0⟩ all0)
                  have f499 := f459.keep K496
                  have f500 := f460.keep K496 (ninS ne81 nin0)
                  have f501 := f461.keep K496 (ninS ne81 nin0)
                  have f502 := f462.keep K496 (ninS ne82 nin0)
                  have f503 := f463.keep K496
                  have f504 := f464.keep K496 (ninS ne83 nin0)
                  have f505 := f465.keep K496 (ninS ne83 nin0)
                  have f506 := f466.keep K496 (ninS ne84 nin0)
                  have f507 := f467.keep K496
                  have f508 := f468.keep K496 (ninS ne85 nin0)
                  have f509 := f469.keep K496 (ninS ne85 nin0)
                  have f510 := f470.keep K496 (ninS ne86 nin0)
                  have f511 := f471.keep K496
                  have f512 := f472.keep K496 (ninS ne87 nin0)
                  have f513 := f473.keep K496 (ninS ne87 nin0)
                  have f514 := f474.keep K496 (ninS ne88 nin0)
                  have f515 := fq456_0.keep K496
                  have f516 := f476.keep K496
                  have f517 := f477.keep K496 (ninS ne365 nin0)
                  have f518 := f478.keep K496 (ninS ne365 nin0)
                  have f519 := f479.keep K496 (ninS ne366 nin0)
                  have f520 := fq456_5.keep K496
                  have f521 := fq456_6.keep K496 (ninS ne491 nin0)
                  have f522 := fq456_7.keep K496 (ninS ne491 nin0)
                  have f523 := fq456_8.keep K496 (ninS ne492 nin0)
                  have Z524 : n0 ≤ T496.heap.size := Nat.le_trans Z480 K496.1
                  show own_Go _ _ _ _ T496 (mkF m 188 _ [])
                  exact J527 T496 _ T496.heap _ X496 rfl N497 Z524 f498 f499 f500 f501 f502 f503 f504 f505 f506 f507 f508 f509 f510 f511 f512 f513 f514 fq496_0 f516 f517 f518 f519 fq496_1 fq496_2 fq496_3 fq496_4 f520 f521 f522 f523 (by simp only [if_neg c493, if_pos c495])
                · skip
                  refine own_st (fun t k => XS.ifYes X456.here hx rfl (pc0 := 178) (pc' := 188) rfl (hb hby at_178) rfl ((if0 _ _).trans (feq c495).2) (by decide) (by decide) k) ?_
                  show own_Go _ _ _ _ T456 (mkF m 188 _ [])
                  exact J527 T456 _ T456.heap _ X456 rfl N457 Z480 f458 f459 f460 f461 f462 f463 f464 f465 f466 f467 f468 f469 f470 f471 f472 f473 f474 fq456_0 f476 f477 f478 f479 fq456_1 fq456_2 fq456_3 fq456_4 fq456_5 fq456_6 fq456_7 fq456_8 (by simp only [if_neg c493, if_neg c495])
      by_cases c114 : p10 = (0 : Int32)
      · skip
        refine own_st (fun t k => XS.ifYes X112.here hx rfl (pc0 := 113) (pc' := 128) rfl (hb hby at_113) rfl ((if0 _ _).trans (teq c114).1) (by decide) (by decide) k) ?_
        show own_Go _ _ _ _ T112 (mkF m 128 _ [])
        exact J140 T112 _ h80 _ X112 eq112 N113 Z107 f89 f90 f91 f92 f93 f94 f95 f96 f97 f98 f99 f100 f101 f102 f103 f104 f105 A80 f108 f109 f110 f111 (by simp only [if_pos c114])
      · skip
        refine own_st (fun t k => XS.ifNo X112.here hx rfl (hb hby at_113) rfl ((if0 _ _).trans (feq c114).1) k) ?_
        show own_Go _ _ _ _ T112 (mkF m 116 _ [])
        refine own_st (fun t k => XS.iload X112.here hx rfl (hb hby at_116) rfl k) ?_
        show own_Go _ _ _ _ T112 (mkF m 118 _ [(.int p15)])
        by_cases c116 : p15 = (0 : Int32)
        · skip
          refine own_st (fun t k => XS.ifYes X112.here hx rfl (pc0 := 118) (pc' := 128) rfl (hb hby at_118) rfl ((if0 _ _).trans (teq c116).1) (by decide) (by decide) k) ?_
          show own_Go _ _ _ _ T112 (mkF m 128 _ [])
          exact J140 T112 _ h80 _ X112 eq112 N113 Z107 f89 f90 f91 f92 f93 f94 f95 f96 f97 f98 f99 f100 f101 f102 f103 f104 f105 A80 f108 f109 f110 f111 (by simp only [if_neg c114, if_pos c116])
        · skip
          refine own_st (fun t k => XS.ifNo X112.here hx rfl (hb hby at_118) rfl ((if0 _ _).trans (feq c116).1) k) ?_
          show own_Go _ _ _ _ T112 (mkF m 121 _ [])
          refine own_st (fun t k => XS.aload X112.here hx rfl (hb hby at_121) rfl rfl k) ?_
          show own_Go _ _ _ _ T112 (mkF m 123 _ [(.ref b80)])
          refine own_st (fun t k => XS.lload X112.here hx rfl (hb hby at_123) rfl k) ?_
          show own_Go _ _ _ _ T112 (mkF m 125 _ [(.long x4), (.ref b80)])
          obtain ⟨cq118, kq118, q118a, q118b, q118c⟩ := isOf hZ eq112 A80
          obtain ⟨_, _, ⟨T118, L118, k118, n118⟩, -, X118, ⟨Lc118, hQ118, l118, y118, z118⟩, st118⟩ := X112.virtualBack hx (y := (⟨"com/example/antientropy/antientropy/sds/NamedEntries", "sent", "(J)V"⟩ : MethodName)) (z := (⟨"com/example/antientropy/antientropy/sds/NamedEntries", "sent", "(J)V"⟩ : MethodName)) hown (mvT hZ (hw _ (List.mem_of_getElem? (i := 74) rfl))) (mvT hZ (hw _ (List.mem_of_getElem? (i := 75) rfl))) (notFace_of_selects (args := #[]) (mvT hZ (hw _ (List.mem_of_getElem? (i := 77) rfl)))) (mvT hZ (hw _ (List.mem_of_getElem? (i := 77) rfl))) (mvT hZ (hw _ (List.mem_of_getElem? (i := 76) rfl))) (by decide) (backOf (W := 0) (rm11 l Z a0 hw [] b80 x4 (0 : Int64) (0 : Int64) (0 : Int64) (.null) h80 n0 Z107 A80 f111 f109 f110 f108 gx106) hZ (hw _ (List.mem_of_getElem? (i := 78) rfl)) (hw _ (List.mem_of_getElem? (i := 36) rfl)) (by decide) (by decide)) q118a q118c (g := (mkF m 125 #[.val (.long x0), .second, .val (.long x1), .second, .val (.long x2), .second, .val (.long x3), .second, .val (.long x4), .second, .val (.int x5), .val (.int v1), .val (.int v2), .val (.int v3), .val (.int v4), .val (.int v5), .val (.int p10), .val (.int p15), .val (.ref b16_so), .val (.ref b20_so), .val (.ref b32_so), .val (.ref b52_so), .val (.ref b80), .unset, .unset, .unset, .unset, .unset, .unset] [(.long x4), (.ref b80)])) rfl (by rw [hml]; rfl) (Steps.refl _) (argsL := [(.long x4)]) (rest := []) (lenOf own_pd__J_V rfl) rfl (by show 2 * 0 + _ ≤ _; exact Nat.le_of_eq rfl) (hb hby at_125) (fun _ _ => ⟨rfl, eq112, (by decide : 13 + 0 ≤ _), (by decide : 28 + 0 ≤ _)⟩)
          dsimp only [Pt.U, Pt.locs, Pt.cells, Pt.slots] at X118 l118 y118 z118 st118 hQ118
          subst l118 y118 z118
          obtain ⟨rfl, NQ118, K118, fq118_0, fq118_1, fq118_2, fq118_3, fq118_4⟩ := hQ118
          have N119 := Fr.app N113 NQ118
          refine own_st (fun t k => st118.trans k) ?_
          have f120 := own_staK f89 K118 (allS ⟨_, A80⟩ all0)
          have f121 := f90.keep K118
          have f122 := f91.keep K118 (ninS ne81 nin0)
          have f123 := f92.keep K118 (ninS ne81 nin0)
          have f124 := f93.keep K118 (ninS ne82 nin0)
          have f125 := f94.keep K118
          have f126 := f95.keep K118 (ninS ne83 nin0)
          have f127 := f96.keep K118 (ninS ne83 nin0)
          have f128 := f97.keep K118 (ninS ne84 nin0)
          have f129 := f98.keep K118
          have f130 := f99.keep K118 (ninS ne85 nin0)
          have f131 := f100.keep K118 (ninS ne85 nin0)
          have f132 := f101.keep K118 (ninS ne86 nin0)
          have f133 := f102.keep K118
          have f134 := f103.keep K118 (ninS ne87 nin0)
          have f135 := f104.keep K118 (ninS ne87 nin0)
          have f136 := f105.keep K118 (ninS ne88 nin0)
          have f137 := A80.keep K118
          have Z138 : n0 ≤ T118.heap.size := Nat.le_trans Z107 K118.1
          show own_Go _ _ _ _ T118 (mkF m 128 _ [])
          exact J140 T118 _ T118.heap _ X118 rfl N119 Z138 f120 f121 f122 f123 f124 f125 f126 f127 f128 f129 f130 f131 f132 f133 f134 f135 f136 fq118_0 fq118_4 fq118_2 fq118_3 fq118_1 (by simp only [if_neg c114, if_neg c116])
    by_cases c11 : ((x5 >>> ((11 : Int32) &&& 31)) &&& (1 : Int32)) = (0 : Int32)
    · skip
      refine own_st (fun t k => XS.ifYes Xj9.here hx rfl (pc0 := 64) (pc' := 71) rfl (hb hby at_64) rfl ((if0 _ _).trans (teq c11).1) (by decide) (by decide) k) ?_
      show own_Go _ _ _ _ Tj9 (mkF m 71 _ [])
      refine own_st (fun t k => XS.iconst Xj9.here hx rfl (hb hby at_71) k) ?_
      show own_Go _ _ _ _ Tj9 (mkF m 72 _ [(.int (0 : Int32))])
      exact J14 Tj9 _ _ (Xj9.mono (by decide) (by decide)) ej9 Nj9 (by simp only [if_pos c11])
    · skip
      refine own_st (fun t k => XS.ifNo Xj9.here hx rfl (hb hby at_64) rfl ((if0 _ _).trans (feq c11).1) k) ?_
      show own_Go _ _ _ _ Tj9 (mkF m 67 _ [])
      refine own_st (fun t k => XS.iconst Xj9.here hx rfl (hb hby at_67) k) ?_
      show own_Go _ _ _ _ Tj9 (mkF m 68 _ [(.int (1 : Int32))])
      refine own_st (fun t k => XS.goto Xj9.here hx rfl (pc0 := 68) (pc' := 72) rfl (hb hby at_68) (by decide) (by decide) k) ?_
      show own_Go _ _ _ _ Tj9 (mkF m 72 _ [(.int (1 : Int32))])
      exact J14 Tj9 _ _ (Xj9.mono (by decide) (by decide)) ej9 Nj9 (by simp only [if_neg c11])
  by_cases c6 : ((x5 >>> ((10 : Int32) &&& 31)) &&& (1 : Int32)) = (0 : Int32)
  · skip
    refine own_st (fun t k => XS.ifYes X0.here hx rfl (pc0 := 47) (pc' := 54) rfl (hb hby at_47) rfl ((if0 _ _).trans (teq c6).1) (by decide) (by decide) k) ?_
    show own_Go _ _ _ _ s₁ (mkF m 54 _ [])
    refine own_st (fun t k => XS.iconst X0.here hx rfl (hb hby at_54) k) ?_
    show own_Go _ _ _ _ s₁ (mkF m 55 _ [(.int (0 : Int32))])
    exact J9 s₁ _ _ X0 e0 N0 (by simp only [if_pos c6])
  · skip
    refine own_st (fun t k => XS.ifNo X0.here hx rfl (hb hby at_47) rfl ((if0 _ _).trans (feq c6).1) k) ?_
    show own_Go _ _ _ _ s₁ (mkF m 50 _ [])
    refine own_st (fun t k => XS.iconst X0.here hx rfl (hb hby at_50) k) ?_
    show own_Go _ _ _ _ s₁ (mkF m 51 _ [(.int (1 : Int32))])
    refine own_st (fun t k => XS.goto X0.here hx rfl (pc0 := 51) (pc' := 55) rfl (hb hby at_51) (by decide) (by decide) k) ?_
    show own_Go _ _ _ _ s₁ (mkF m 55 _ [(.int (1 : Int32))])
    exact J9 s₁ _ _ X0 e0 N0 (by simp only [if_neg c6])
set_option maxRecDepth 65536 in
set_option maxHeartbeats 4000000 in
theorem own_comes {Post : Tables → Env → Array Value → State → Outcome → State → Prop} (hpost : ∀ tb e args s v u, (limb_1_1.after args s (.returned v) u = true ∧ limb_1_2.after args s (.returned v) u = true ∧ True) → FrameEnd s (.returned v) u (Jvm.fieldLocs frame_1_writes args s ++ Jvm.arrayLocs frame_1_arrays args s ++ Jvm.staticLocs frame_1_statics s) 40 128 → Post tb e args s (.returned v) u) :
    ArmFor flags0 classFile x code maxLocals ret World_1 tables_1 room_1 Calls_1 rest_1 Pre_1 Post := by
  intro l hfl _ _ p e ha hc hk s m args below hf hA hF happ hP
  obtain ⟨hcalls, hrest, hpre⟩ := hP
  obtain ⟨-, -, -, hnamed, -, -, -, hat⟩ := (Spec.applies_iff hf).mp happ
  obtain ⟨hg, hn⟩ := and_e (Cond.before_iff.mp (show (Jvm.Cond.and given_1 narrow_1).before args s = true from hpre))
  obtain ⟨g0, r0⟩ := and_e hg
  obtain ⟨g1, r1⟩ := and_e r0
  obtain ⟨g2, r2⟩ := and_e r1
  obtain ⟨g3, r3⟩ := and_e r2
  obtain ⟨g4, r4⟩ := and_e r3
  obtain ⟨g5, r5⟩ := and_e r4
  obtain ⟨w0, w1, w2, w3, w4, w5, rfl⟩ : ∃ w0 w1 w2 w3 w4 w5 : Value, args = #[w0, w1, w2, w3, w4, w5] := by
    have hs : args.size = 6 := by simpa [Cond.value, given_1] using g0
    obtain ⟨L⟩ := args
    match L, hs with
    | [w0, w1, w2, w3, w4, w5], _ => exact ⟨w0, w1, w2, w3, w4, w5, rfl⟩
  have hw := fun d (hd : d ∈ tables_1) => atoms_spec (ws := Jvm.Cond.code x code maxLocals ret :: tables_1) hat d (List.mem_cons_of_mem _ hd)
  obtain ⟨hsets, hown0⟩ := atoms_of _ (rest_1_c_eq ▸ (show rest_1_c.before _ s = true from hrest))
  have z0 := hsets _ (List.mem_of_getElem? (i := 0) rfl)
  obtain ⟨cs, ecs⟩ := is_v (Cond.before_iff.mp (hsets _ (List.mem_of_getElem? (i := 1) rfl)))
  have z2 := not_v (Cond.before_iff.mp (hsets _ (List.mem_of_getElem? (i := 2) rfl)))
  have hcs : ¬ cs = 0 := fun q => by subst q; rw [eq_i ecs (Term.int_eval 0) rfl] at z2; cases z2
  have SC := Sta.start ecs (Or.inl z0)
  obtain ⟨i0, ei0⟩ := isL_v g1
  obtain rfl : w0 = (.long i0) := Option.some.inj ei0
  obtain ⟨i1, ei1⟩ := isL_v g2
  obtain rfl : w1 = (.long i1) := Option.some.inj ei1
  obtain ⟨i2, ei2⟩ := isL_v g3
  obtain rfl : w2 = (.long i2) := Option.some.inj ei2
  obtain ⟨i3, ei3⟩ := isL_v g4
  obtain rfl : w3 = (.long i3) := Option.some.inj ei3
  obtain ⟨i4, ei4⟩ := isL_v g5
  obtain rfl : w4 = (.long i4) := Option.some.inj ei4
  obtain ⟨i5, ei5⟩ := is_v r5
  obtain rfl : w5 = (.int i5) := Option.some.inj ei5
  obtain ⟨n, o, h1, h2, h3, _, L, rfl, ⟨rfl, N⟩, hq⟩ := rm0 l s _ hw tables_1 i0 i1 i2 i3 i4 i5 cs s.heap s.heap.size (Nat.le_refl _) SC hcs p e ha hc hk s m _ below hf ((Spec.applies_iff_loose hf).mp happ).1 ⟨rfl, State.Warmed39.refl s, rfl⟩ trivial
  refine ⟨n, _, h1, h2, h3, hpost _ _ _ _ _ _ ⟨Cond.after_iff.mpr rfl, Cond.after_iff.mpr (eq_i res_at (Term.int_eval (1)) rfl), trivial⟩ ⟨hq.1, hq.2.1, (hq.2.2.sift fun y hy => Or.inr (N y hy)).mono (by decide) (by decide)⟩⟩
theorem main_1_1 : Claimed_1_1 := own_comes fun _ _ _ _ _ _ h hF => ⟨h.1, hF⟩
theorem main_1_2 : Claimed_1_2 := own_comes fun _ _ _ _ _ _ h hF => ⟨h.2.1, hF⟩
end Jvm.Pilot.@@N@@
namespace Jvm.Pilot.@@N@@
open Jvm Jvm.ClassFile Sem Op Lib Jvm.Free Jvm.Stand Jvm.Pilot.@@N@@.Jvm.D
/-! MADE BY PROGRAM (witnessworld.py) out of the Statement's table words and the real class files: 21 classes; the members and pool entries that the words name. The judged class is class 1, her method 2. -/
namespace start1
open Jvm.ClassFile
def u (s : String) : CpInfo := .utf8 (stringToUtf16 s)
/-- a pool by its gaps: so many unusable entries, then the entry; so many at the end -/
def gap : Nat → List CpInfo → List CpInfo
  | 0, r => r
  | n + 1, r => .unusable :: gap n r
def poolList (es : List (Nat × CpInfo)) (last : Nat) : List CpInfo := es.foldr (fun e r => gap e.1 (e.2 :: r)) (gap last [])
def pool (es : List (Nat × CpInfo)) (last : Nat) : Array CpInfo := ⟨poolList es last⟩
def fileOf (pool : Array CpInfo) (this : Nat) (attrs : Array Attribute := #[]) (ms : Array MethodInfo := #[]) (fl : Nat := 33) (sup : Nat := 0) (ifs : Array Nat := #[]) (fds : Array FieldInfo := #[]) : ClassFile where
  minorVersion := 0
  majorVersion := 65
  constantPool := pool
  accessFlags := fl
  thisClass := this
  superClass := sup
  interfaces := ifs
  fields := fds
  methods := ms
  attributes := attrs
def plain (name : String) (sup : Option ClassId) : Class where
  name := name
  kind := .ordinary
  loader := none
  accessFlags := 33
  super := sup
  interfaces := #[]
  cf := none
  fields := #[]
  methods := #[]
  instanceTypes := #[]
  staticTypes := #[]
  resolved := #[]
  callSites := []
  init := .initialized
  statics := none
  mirror := none

def pool0 : Array CpInfo := pool [(5, u "<init>"), (0, u "()V"), (1, .class_ 10), (1, u "java/lang/Object")] 113

def k0c0 : Code := { maxStack := 0, maxLocals := 1, code := object_method_1_code, exceptionTable := #[], attributes := #[] }
def k0m0 : Method := { name := "<init>", desc := "()V", sig := { parameters := [], returnType := none }, accessFlags := 1, code := some k0c0 }
/-- java/lang/Object -/
def k0 : Class := { plain "java/lang/Object" none with
  accessFlags := 33
  interfaces := #[]
  cf := some (fileOf pool0 8 #[] #[{ accessFlags := 1, nameIndex := 5, descriptorIndex := 6, attributes := #[] }] 33 0 #[] #[])
  fields := #[]
  methods := #[k0m0]
  instanceTypes := #[]
  staticTypes := #[]
  resolved := Array.replicate 124 none
  statics := none }

def pool1 : Array CpInfo := pool [(2, .class_ 4), (0, .nameAndType 5 6), (0, u "java/lang/Object"), (0, u "<init>"), (0, u "()V"), (0, .class_ 8), (0, u "java/lang/String"), (0, .methodref 7 10), (0, .nameAndType 5 11), (0, u "([C)V"), (0, .methodref 13 14), (0, .class_ 15), (0, .nameAndType 16 17), (0, u "com/example/antientropy/antientropy/sds/NamedEntriesHeardPinLaw"), (0, u "name"), (0, u "(I)Ljava/lang/String;"), (0, .class_ 19), (0, u "com/example/antientropy/antientropy/sds/NamedEntries"), (0, .methodref 18 3), (0, .methodref 18 22), (0, .nameAndType 23 24), (0, u "sent"), (0, u "(J)V"), (0, .methodref 18 26), (0, .nameAndType 27 28), (0, u "heard"), (0, u "(Ljava/lang/String;J)V"), (0, .methodref 18 30), (0, .nameAndType 31 32), (0, u "isNamedTo"), (0, u "(Ljava/lang/String;J)Z"), (0, .methodref 34 35), (0, .class_ 36), (0, .nameAndType 37 38), (0, u "java/lang/Math"), (0, u "max"), (0, u "(JJ)J"), (2, u "law"), (0, u "(JJJJJI)Z")] 3

def k1m0 : Method := { name := "<init>", desc := "()V", sig := { parameters := [], returnType := none }, accessFlags := 1, code := none }
def k1c1 : Code := { maxStack := 5, maxLocals := 2, code := method_2_code, exceptionTable := #[], attributes := #[] }
def k1m1 : Method := { name := "name", desc := "(I)Ljava/lang/String;", sig := { parameters := [.int], returnType := some (.object "java/lang/String") }, accessFlags := 10, code := some k1c1 }
def k1c2 : Code := { maxStack := 6, maxLocals := 29, code := code, exceptionTable := #[], attributes := #[] }
def k1m2 : Method := { name := "law", desc := "(JJJJJI)Z", sig := { parameters := [.long, .long, .long, .long, .long, .int], returnType := some .boolean }, accessFlags := 9, code := some k1c2 }
/-- com/example/antientropy/antientropy/sds/NamedEntriesHeardPinLaw -/
def k1 : Class := { plain "com/example/antientropy/antientropy/sds/NamedEntriesHeardPinLaw" (some 0) with
  accessFlags := 49
  interfaces := #[]
  cf := some (fileOf pool1 13 #[] #[{ accessFlags := 1, nameIndex := 5, descriptorIndex := 6, attributes := #[] }, { accessFlags := 10, nameIndex := 16, descriptorIndex := 17, attributes := #[] }, { accessFlags := 9, nameIndex := 41, descriptorIndex := 42, attributes := #[] }] 49 2 #[] #[])
  fields := #[]
  methods := #[k1m0, k1m1, k1m2]
  instanceTypes := #[]
  staticTypes := #[]
  resolved := Array.replicate 46 none
  statics := none }

def pool2 : Array CpInfo := pool [(1, .class_ 2), (0, u "java/io/Serializable"), (0, .class_ 4), (0, u "java/lang/Object")] 2

/-- java/io/Serializable -/
def k2 : Class := { plain "java/io/Serializable" (some 0) with
  accessFlags := 1537
  interfaces := #[]
  cf := some (fileOf pool2 1 #[] #[] 1537 3 #[] #[])
  fields := #[]
  methods := #[]
  instanceTypes := #[]
  staticTypes := #[]
  resolved := Array.replicate 7 none
  statics := none }

def pool3 : Array CpInfo := pool [(1, .class_ 2), (0, u "java/lang/Comparable"), (0, .class_ 4), (0, u "java/lang/Object")] 7

/-- java/lang/Comparable -/
def k3 : Class := { plain "java/lang/Comparable" (some 0) with
  accessFlags := 1537
  interfaces := #[]
  cf := some (fileOf pool3 1 #[] #[] 1537 3 #[] #[])
  fields := #[]
  methods := #[]
  instanceTypes := #[]
  staticTypes := #[]
  resolved := Array.replicate 12 none
  statics := none }

def pool4 : Array CpInfo := pool [(2, .class_ 4), (1, u "java/lang/CharSequence"), (42, .class_ 48), (0, u "java/lang/CharSequence$1CodePointIterator"), (10, .class_ 60), (0, u "java/lang/CharSequence$1CharIterator"), (5, .class_ 67), (0, u "java/lang/Object")] 63

/-- java/lang/CharSequence -/
def k4 : Class := { plain "java/lang/CharSequence" (some 0) with
  accessFlags := 1537
  interfaces := #[]
  cf := some (fileOf pool4 2 #[.nestMembers #[47, 59]] #[] 1537 66 #[] #[])
  fields := #[]
  methods := #[]
  instanceTypes := #[]
  staticTypes := #[]
  resolved := Array.replicate 131 none
  statics := none }

def pool5 : Array CpInfo := pool [(1, .class_ 2), (0, u "java/lang/constant/Constable"), (0, .class_ 4), (0, u "java/lang/Object")] 6

/-- java/lang/constant/Constable -/
def k5 : Class := { plain "java/lang/constant/Constable" (some 0) with
  accessFlags := 1537
  interfaces := #[]
  cf := some (fileOf pool5 1 #[] #[] 1537 3 #[] #[])
  fields := #[]
  methods := #[]
  instanceTypes := #[]
  staticTypes := #[]
  resolved := Array.replicate 11 none
  statics := none }

def pool6 : Array CpInfo := pool [(1, .class_ 2), (0, u "java/lang/constant/ConstantDesc"), (0, .class_ 4), (0, u "java/lang/Object")] 32

/-- java/lang/constant/ConstantDesc -/
def k6 : Class := { plain "java/lang/constant/ConstantDesc" (some 0) with
  accessFlags := 1537
  interfaces := #[]
  cf := some (fileOf pool6 1 #[] #[] 1537 3 #[] #[])
  fields := #[]
  methods := #[]
  instanceTypes := #[]
  staticTypes := #[]
  resolved := Array.replicate 37 none
  statics := none }

def pool7 : Array CpInfo := pool [(1, .methodref 2 3), (0, .class_ 4), (0, .nameAndType 5 6), (0, u "java/lang/Object"), (0, u "<init>"), (0, u "()V"), (2, .fieldref 10 11), (0, .class_ 12), (0, .nameAndType 13 14), (0, u "java/lang/String"), (0, u "value"), (0, u "[B"), (0, .fieldref 10 16), (0, .nameAndType 17 18), (0, u "coder"), (0, u "B"), (2, u "hash"), (0, u "I"), (2, u "hashIsZero"), (0, u "Z"), (0, .methodref 10 28), (0, .nameAndType 5 29), (0, u "([CIILjava/lang/Void;)V"), (8, .fieldref 10 39), (0, .nameAndType 40 26), (0, u "COMPACT_STRINGS"), (1, .class_ 44), (1, u "java/lang/StringUTF16"), (0, u "compress"), (1, .methodref 42 48), (0, .nameAndType 49 50), (0, u "coderFromArrayLen"), (0, u "([BI)B"), (56, .class_ 109), (1, u "java/lang/StringLatin1"), (67, .methodref 42 178), (0, .nameAndType 45 179), (0, u "([CII)[B"), (361, .methodref 107 542), (0, .nameAndType 543 544), (0, u "equals"), (0, u "([B[B)Z"), (28, u "(Ljava/lang/Object;)Z"), (1, .class_ 576), (0, u "java/lang/CharSequence"), (22, u "CASE_INSENSITIVE_ORDER"), (0, u "Ljava/util/Comparator;"), (409, u "([C)V"), (90, u "serialPersistentFields"), (0, u "[Ljava/io/ObjectStreamField;"), (0, .class_ 1104), (0, u "java/lang/String$CaseInsensitiveComparator"), (1, .class_ 1107), (0, u "java/io/Serializable"), (0, .class_ 1109), (0, u "java/lang/Comparable"), (0, .class_ 1111), (0, u "java/lang/constant/Constable"), (0, .class_ 1113), (0, u "java/lang/constant/ConstantDesc"), (2, u "serialVersionUID"), (0, u "J"), (3, u "REPL"), (0, u "C"), (2, u "LATIN1"), (1, u "UTF16")] 323

def k7m0 : Method := { name := "<init>", desc := "()V", sig := { parameters := [], returnType := none }, accessFlags := 1, code := none }
def k7c1 : Code := { maxStack := 5, maxLocals := 2, code := jdk_42_method_3_code, exceptionTable := #[], attributes := #[] }
def k7m1 : Method := { name := "<init>", desc := "([C)V", sig := { parameters := [(.array .char)], returnType := none }, accessFlags := 1, code := some k7c1 }
def k7c2 : Code := { maxStack := 2, maxLocals := 3, code := jdk_42_method_66_code, exceptionTable := #[], attributes := #[] }
def k7m2 : Method := { name := "equals", desc := "(Ljava/lang/Object;)Z", sig := { parameters := [(.object "java/lang/Object")], returnType := some .boolean }, accessFlags := 1, code := some k7c2 }
def k7c3 : Code := { maxStack := 4, maxLocals := 6, code := jdk_42_method_149_code, exceptionTable := #[], attributes := #[] }
def k7m3 : Method := { name := "<init>", desc := "([CIILjava/lang/Void;)V", sig := { parameters := [(.array .char), .int, .int, (.object "java/lang/Void")], returnType := none }, accessFlags := 2, code := some k7c3 }
/-- java/lang/String -/
def k7 : Class := { plain "java/lang/String" (some 0) with
  accessFlags := 49
  interfaces := #[2, 3, 4, 5, 6]
  cf := some (fileOf pool7 10 #[.nestMembers #[1103]] #[{ accessFlags := 1, nameIndex := 5, descriptorIndex := 6, attributes := #[] }, { accessFlags := 1, nameIndex := 5, descriptorIndex := 1010, attributes := #[] }, { accessFlags := 1, nameIndex := 543, descriptorIndex := 573, attributes := #[] }, { accessFlags := 2, nameIndex := 5, descriptorIndex := 29, attributes := #[] }] 49 2 #[1106, 1108, 575, 1110, 1112] #[{ accessFlags := 18, nameIndex := 13, descriptorIndex := 14, attributes := #[] }, { accessFlags := 18, nameIndex := 17, descriptorIndex := 18, attributes := #[] }, { accessFlags := 2, nameIndex := 21, descriptorIndex := 22, attributes := #[] }, { accessFlags := 2, nameIndex := 25, descriptorIndex := 26, attributes := #[] }, { accessFlags := 26, nameIndex := 1116, descriptorIndex := 1117, attributes := #[] }, { accessFlags := 24, nameIndex := 40, descriptorIndex := 26, attributes := #[] }, { accessFlags := 26, nameIndex := 1101, descriptorIndex := 1102, attributes := #[] }, { accessFlags := 26, nameIndex := 1121, descriptorIndex := 1122, attributes := #[] }, { accessFlags := 25, nameIndex := 599, descriptorIndex := 600, attributes := #[] }, { accessFlags := 24, nameIndex := 1125, descriptorIndex := 18, attributes := #[] }, { accessFlags := 24, nameIndex := 1127, descriptorIndex := 18, attributes := #[] }])
  fields := #[{ name := "value", type := (.array .byte), accessFlags := 18, slot := 0, constantValue := 0 }, { name := "coder", type := .byte, accessFlags := 18, slot := 1, constantValue := 0 }, { name := "hash", type := .int, accessFlags := 2, slot := 2, constantValue := 0 }, { name := "hashIsZero", type := .boolean, accessFlags := 2, slot := 3, constantValue := 0 }, { name := "serialVersionUID", type := .long, accessFlags := 26, slot := 0, constantValue := 0 }, { name := "COMPACT_STRINGS", type := .boolean, accessFlags := 24, slot := 1, constantValue := 0 }, { name := "serialPersistentFields", type := (.array (.object "java/io/ObjectStreamField")), accessFlags := 26, slot := 2, constantValue := 0 }, { name := "REPL", type := .char, accessFlags := 26, slot := 3, constantValue := 0 }, { name := "CASE_INSENSITIVE_ORDER", type := (.object "java/util/Comparator"), accessFlags := 25, slot := 4, constantValue := 0 }, { name := "LATIN1", type := .byte, accessFlags := 24, slot := 5, constantValue := 0 }, { name := "UTF16", type := .byte, accessFlags := 24, slot := 6, constantValue := 0 }]
  methods := #[k7m0, k7m1, k7m2, k7m3]
  instanceTypes := #[(.array .byte), .byte, .int, .boolean]
  staticTypes := #[.long, .boolean, (.array (.object "java/io/ObjectStreamField")), .char, (.object "java/util/Comparator"), .byte, .byte]
  resolved := Array.replicate 1451 none
  statics := some 0 }

def pool8 : Array CpInfo := pool [(6, .class_ 8), (1, u "java/lang/Object"), (0, u "<init>"), (0, u "()V"), (1, .class_ 14), (1, u "java/lang/StringUTF16"), (31, u "$assertionsDisabled"), (0, u "Z"), (13, u "HI_BYTE_SHIFT"), (0, u "I"), (2, u "LO_BYTE_SHIFT"), (49, .methodref 12 116), (0, .nameAndType 117 118), (0, u "compress"), (0, u "([CI[BII)I"), (3, u "([CII)[B"), (138, u "coderFromArrayLen"), (0, u "([BI)B"), (106, .class_ 371), (1, u "java/lang/StringUTF16$LinesSpliterator"), (58, u "MAX_LENGTH"), (196, .class_ 628), (0, u "java/lang/StringUTF16$CodePointsSpliterator"), (0, .class_ 630), (0, u "java/lang/StringUTF16$CharsSpliterator")] 4

def k8m0 : Method := { name := "<init>", desc := "()V", sig := { parameters := [], returnType := none }, accessFlags := 0, code := none }
def k8c1 : Code := { maxStack := 2, maxLocals := 2, code := jdk_52_method_15_code, exceptionTable := #[], attributes := #[] }
def k8m1 : Method := { name := "coderFromArrayLen", desc := "([BI)B", sig := { parameters := [(.array .byte), .int], returnType := some .byte }, accessFlags := 8, code := some k8c1 }
def k8c2 : Code := { maxStack := 5, maxLocals := 6, code := jdk_52_method_16_code, exceptionTable := #[], attributes := #[] }
def k8m2 : Method := { name := "compress", desc := "([CII)[B", sig := { parameters := [(.array .char), .int, .int], returnType := some (.array .byte) }, accessFlags := 9, code := some k8c2 }
def k8c3 : Code := { maxStack := 3, maxLocals := 7, code := jdk_52_method_21_code, exceptionTable := #[], attributes := #[] }
def k8m3 : Method := { name := "compress", desc := "([CI[BII)I", sig := { parameters := [(.array .char), .int, (.array .byte), .int, .int], returnType := some .int }, accessFlags := 9, code := some k8c3 }
/-- java/lang/StringUTF16 -/
def k8 : Class := { plain "java/lang/StringUTF16" (some 0) with
  accessFlags := 48
  interfaces := #[]
  cf := some (fileOf pool8 12 #[.nestMembers #[627, 629, 369]] #[{ accessFlags := 0, nameIndex := 9, descriptorIndex := 10, attributes := #[] }, { accessFlags := 8, nameIndex := 261, descriptorIndex := 262, attributes := #[] }, { accessFlags := 9, nameIndex := 117, descriptorIndex := 122, attributes := #[] }, { accessFlags := 9, nameIndex := 117, descriptorIndex := 118, attributes := #[] }] 48 6 #[] #[{ accessFlags := 26, nameIndex := 61, descriptorIndex := 62, attributes := #[] }, { accessFlags := 26, nameIndex := 65, descriptorIndex := 62, attributes := #[] }, { accessFlags := 24, nameIndex := 430, descriptorIndex := 62, attributes := #[] }, { accessFlags := 4120, nameIndex := 46, descriptorIndex := 47, attributes := #[] }])
  fields := #[{ name := "HI_BYTE_SHIFT", type := .int, accessFlags := 26, slot := 0, constantValue := 0 }, { name := "LO_BYTE_SHIFT", type := .int, accessFlags := 26, slot := 1, constantValue := 0 }, { name := "MAX_LENGTH", type := .int, accessFlags := 24, slot := 2, constantValue := 0 }, { name := "$assertionsDisabled", type := .boolean, accessFlags := 4120, slot := 3, constantValue := 0 }]
  methods := #[k8m0, k8m1, k8m2, k8m3]
  instanceTypes := #[]
  staticTypes := #[.int, .int, .int, .boolean]
  resolved := Array.replicate 635 none
  statics := none }

def pool9 : Array CpInfo := pool [(1, .methodref 2 3), (0, .class_ 4), (0, .nameAndType 5 6), (0, u "java/lang/Object"), (0, u "<init>"), (0, u "()V"), (0, .fieldref 8 9), (0, .class_ 10), (0, .nameAndType 11 12), (0, u "com/example/antientropy/antientropy/sds/NamedEntries"), (0, u "bySelf"), (0, u "J"), (0, .fieldref 8 14), (0, .nameAndType 15 16), (0, u "latestFrom"), (0, u "Ljava/lang/String;"), (0, .methodref 18 19), (0, .class_ 20), (0, .nameAndType 21 22), (0, u "java/lang/String"), (0, u "equals"), (0, u "(Ljava/lang/Object;)Z"), (0, .fieldref 8 24), (0, .nameAndType 25 12), (0, u "byLatest"), (0, .fieldref 8 27), (0, .nameAndType 28 12), (0, u "byLatestOfTheRest"), (0, .methodref 30 31), (0, .class_ 32), (0, .nameAndType 33 34), (0, u "java/lang/Math"), (0, u "max"), (0, u "(JJ)J"), (2, u "sent"), (0, u "(J)V"), (0, u "heard"), (0, u "(Ljava/lang/String;J)V"), (1, u "isNamedTo"), (0, u "(Ljava/lang/String;J)Z")] 2

def k9c0 : Code := { maxStack := 1, maxLocals := 1, code := prog_17_method_1_code, exceptionTable := #[], attributes := #[] }
def k9m0 : Method := { name := "<init>", desc := "()V", sig := { parameters := [], returnType := none }, accessFlags := 0, code := some k9c0 }
def k9c1 : Code := { maxStack := 3, maxLocals := 3, code := prog_17_method_2_code, exceptionTable := #[], attributes := #[] }
def k9m1 : Method := { name := "sent", desc := "(J)V", sig := { parameters := [.long], returnType := none }, accessFlags := 0, code := some k9c1 }
def k9c2 : Code := { maxStack := 3, maxLocals := 4, code := prog_17_method_3_code, exceptionTable := #[], attributes := #[] }
def k9m2 : Method := { name := "heard", desc := "(Ljava/lang/String;J)V", sig := { parameters := [(.object "java/lang/String"), .long], returnType := none }, accessFlags := 0, code := some k9c2 }
def k9c3 : Code := { maxStack := 6, maxLocals := 6, code := prog_17_method_4_code, exceptionTable := #[], attributes := #[] }
def k9m3 : Method := { name := "isNamedTo", desc := "(Ljava/lang/String;J)Z", sig := { parameters := [(.object "java/lang/String"), .long], returnType := some .boolean }, accessFlags := 0, code := some k9c3 }
/-- com/example/antientropy/antientropy/sds/NamedEntries -/
def k9 : Class := { plain "com/example/antientropy/antientropy/sds/NamedEntries" (some 0) with
  accessFlags := 48
  interfaces := #[]
  cf := some (fileOf pool9 8 #[] #[{ accessFlags := 0, nameIndex := 5, descriptorIndex := 6, attributes := #[] }, { accessFlags := 0, nameIndex := 37, descriptorIndex := 38, attributes := #[] }, { accessFlags := 0, nameIndex := 39, descriptorIndex := 40, attributes := #[] }, { accessFlags := 0, nameIndex := 42, descriptorIndex := 43, attributes := #[] }] 48 2 #[] #[{ accessFlags := 2, nameIndex := 11, descriptorIndex := 12, attributes := #[] }, { accessFlags := 2, nameIndex := 25, descriptorIndex := 12, attributes := #[] }, { accessFlags := 2, nameIndex := 15, descriptorIndex := 16, attributes := #[] }, { accessFlags := 2, nameIndex := 28, descriptorIndex := 12, attributes := #[] }])
  fields := #[{ name := "bySelf", type := .long, accessFlags := 2, slot := 0, constantValue := 0 }, { name := "byLatest", type := .long, accessFlags := 2, slot := 1, constantValue := 0 }, { name := "latestFrom", type := (.object "java/lang/String"), accessFlags := 2, slot := 2, constantValue := 0 }, { name := "byLatestOfTheRest", type := .long, accessFlags := 2, slot := 3, constantValue := 0 }]
  methods := #[k9m0, k9m1, k9m2, k9m3]
  instanceTypes := #[.long, .long, (.object "java/lang/String"), .long]
  staticTypes := #[]
  resolved := Array.replicate 46 none
  statics := none }

def pool10 : Array CpInfo := pool [(4, .class_ 6), (1, u "java/lang/Object"), (0, u "<init>"), (0, u "()V"), (5, .class_ 16), (1, u "java/lang/StringLatin1"), (104, u "$assertionsDisabled"), (0, u "Z"), (98, .class_ 223), (1, u "java/lang/StringLatin1$LinesSpliterator"), (57, u "equals"), (0, u "([B[B)Z"), (107, .class_ 391), (0, u "java/lang/StringLatin1$CharsSpliterator")] 3

def k10m0 : Method := { name := "<init>", desc := "()V", sig := { parameters := [], returnType := none }, accessFlags := 0, code := none }
def k10c1 : Code := { maxStack := 3, maxLocals := 3, code := jdk_43_method_13_code, exceptionTable := #[], attributes := #[] }
def k10m1 : Method := { name := "equals", desc := "([B[B)Z", sig := { parameters := [(.array .byte), (.array .byte)], returnType := some .boolean }, accessFlags := 9, code := some k10c1 }
/-- java/lang/StringLatin1 -/
def k10 : Class := { plain "java/lang/StringLatin1" (some 0) with
  accessFlags := 48
  interfaces := #[]
  cf := some (fileOf pool10 14 #[.nestMembers #[390, 221]] #[{ accessFlags := 0, nameIndex := 7, descriptorIndex := 8, attributes := #[] }, { accessFlags := 9, nameIndex := 281, descriptorIndex := 282, attributes := #[] }] 48 4 #[] #[{ accessFlags := 4120, nameIndex := 121, descriptorIndex := 122, attributes := #[] }])
  fields := #[{ name := "$assertionsDisabled", type := .boolean, accessFlags := 4120, slot := 0, constantValue := 0 }]
  methods := #[k10m0, k10m1]
  instanceTypes := #[]
  staticTypes := #[.boolean]
  resolved := Array.replicate 395 none
  statics := none }

def pool11 : Array CpInfo := pool [(1, .class_ 2), (0, u "java/lang/Math"), (1, .class_ 6), (1, u "java/lang/Object"), (0, u "<init>"), (0, u "()V"), (89, .class_ 100), (1, u "java/lang/Math$RandomNumberGeneratorHolder"), (20, u "(JJ)J"), (50, u "negativeZeroFloatBits"), (0, u "J"), (2, u "negativeZeroDoubleBits"), (21, u "max"), (46, u "$assertionsDisabled"), (0, u "Z"), (91, u "twoToTheDoubleScaleDown"), (0, u "D"), (4, u "twoToTheDoubleScaleUp"), (9, u "E"), (3, u "PI"), (2, u "TAU"), (2, u "DEGREES_TO_RADIANS"), (0, u "RADIANS_TO_DEGREES")] 94

def k11m0 : Method := { name := "<init>", desc := "()V", sig := { parameters := [], returnType := none }, accessFlags := 2, code := none }
def k11c1 : Code := { maxStack := 4, maxLocals := 4, code := jdk_29_method_66_code, exceptionTable := #[], attributes := #[] }
def k11m1 : Method := { name := "max", desc := "(JJ)J", sig := { parameters := [.long, .long], returnType := some .long }, accessFlags := 9, code := some k11c1 }
/-- java/lang/Math -/
def k11 : Class := { plain "java/lang/Math" (some 0) with
  accessFlags := 49
  interfaces := #[]
  cf := some (fileOf pool11 1 #[.nestMembers #[98]] #[{ accessFlags := 2, nameIndex := 7, descriptorIndex := 8, attributes := #[] }, { accessFlags := 9, nameIndex := 198, descriptorIndex := 121, attributes := #[] }] 49 4 #[] #[{ accessFlags := 25, nameIndex := 354, descriptorIndex := 339, attributes := #[] }, { accessFlags := 25, nameIndex := 358, descriptorIndex := 339, attributes := #[] }, { accessFlags := 25, nameIndex := 361, descriptorIndex := 339, attributes := #[] }, { accessFlags := 26, nameIndex := 364, descriptorIndex := 339, attributes := #[] }, { accessFlags := 26, nameIndex := 365, descriptorIndex := 339, attributes := #[] }, { accessFlags := 26, nameIndex := 172, descriptorIndex := 173, attributes := #[] }, { accessFlags := 26, nameIndex := 176, descriptorIndex := 173, attributes := #[] }, { accessFlags := 8, nameIndex := 344, descriptorIndex := 339, attributes := #[] }, { accessFlags := 8, nameIndex := 338, descriptorIndex := 339, attributes := #[] }, { accessFlags := 4120, nameIndex := 245, descriptorIndex := 246, attributes := #[] }])
  fields := #[{ name := "E", type := .double, accessFlags := 25, slot := 0, constantValue := 0 }, { name := "PI", type := .double, accessFlags := 25, slot := 1, constantValue := 0 }, { name := "TAU", type := .double, accessFlags := 25, slot := 2, constantValue := 0 }, { name := "DEGREES_TO_RADIANS", type := .double, accessFlags := 26, slot := 3, constantValue := 0 }, { name := "RADIANS_TO_DEGREES", type := .double, accessFlags := 26, slot := 4, constantValue := 0 }, { name := "negativeZeroFloatBits", type := .long, accessFlags := 26, slot := 5, constantValue := 0 }, { name := "negativeZeroDoubleBits", type := .long, accessFlags := 26, slot := 6, constantValue := 0 }, { name := "twoToTheDoubleScaleUp", type := .double, accessFlags := 8, slot := 7, constantValue := 0 }, { name := "twoToTheDoubleScaleDown", type := .double, accessFlags := 8, slot := 8, constantValue := 0 }, { name := "$assertionsDisabled", type := .boolean, accessFlags := 4120, slot := 9, constantValue := 0 }]
  methods := #[k11m0, k11m1]
  instanceTypes := #[]
  staticTypes := #[.double, .double, .double, .double, .double, .long, .long, .double, .double, .boolean]
  resolved := Array.replicate 460 none
  statics := none }

def pool12 : Array CpInfo := pool [(2, .class_ 4), (1, u "java/lang/Object"), (0, u "<init>"), (0, u "()V"), (17, .class_ 26), (1, u "jdk/internal/util/Preconditions"), (28, .class_ 56), (0, u "jdk/internal/util/Preconditions$4"), (57, .class_ 115), (0, u "jdk/internal/util/Preconditions$1"), (7, u "SIOOBE_FORMATTER"), (0, u "Ljava/util/function/BiFunction;"), (0, .class_ 126), (0, u "jdk/internal/util/Preconditions$2"), (3, u "AIOOBE_FORMATTER"), (0, .class_ 132), (0, u "jdk/internal/util/Preconditions$3"), (3, u "IOOBE_FORMATTER")] 57

def k12m0 : Method := { name := "<init>", desc := "()V", sig := { parameters := [], returnType := none }, accessFlags := 1, code := none }
/-- jdk/internal/util/Preconditions -/
def k12 : Class := { plain "jdk/internal/util/Preconditions" (some 0) with
  accessFlags := 33
  interfaces := #[]
  cf := some (fileOf pool12 24 #[.nestMembers #[55, 131, 125, 114]] #[{ accessFlags := 1, nameIndex := 5, descriptorIndex := 6, attributes := #[] }] 33 2 #[] #[{ accessFlags := 25, nameIndex := 123, descriptorIndex := 124, attributes := #[] }, { accessFlags := 25, nameIndex := 130, descriptorIndex := 124, attributes := #[] }, { accessFlags := 25, nameIndex := 136, descriptorIndex := 124, attributes := #[] }])
  fields := #[{ name := "SIOOBE_FORMATTER", type := (.object "java/util/function/BiFunction"), accessFlags := 25, slot := 0, constantValue := 0 }, { name := "AIOOBE_FORMATTER", type := (.object "java/util/function/BiFunction"), accessFlags := 25, slot := 1, constantValue := 0 }, { name := "IOOBE_FORMATTER", type := (.object "java/util/function/BiFunction"), accessFlags := 25, slot := 2, constantValue := 0 }]
  methods := #[k12m0]
  instanceTypes := #[]
  staticTypes := #[(.object "java/util/function/BiFunction"), (.object "java/util/function/BiFunction"), (.object "java/util/function/BiFunction")]
  resolved := Array.replicate 194 none
  statics := some 1 }

def pool13 : Array CpInfo := pool [(9, u "<init>"), (6, .class_ 18), (1, u "java/lang/Object"), (0, u "()V"), (1, .class_ 23), (1, u "jdk/internal/util/ArraysSupport"), (0, u "LOG2_ARRAY_LONG_INDEX_SCALE"), (0, u "I"), (2, u "U"), (0, u "Ljdk/internal/misc/Unsafe;"), (8, u "BIG_ENDIAN"), (0, u "Z"), (8, u "LOG2_BYTE_BIT_SIZE"), (4, u "LOG2_ARRAY_INT_INDEX_SCALE"), (54, u "JLA"), (0, u "Ljdk/internal/access/JavaLangAccess;"), (11, u "LOG2_ARRAY_BOOLEAN_INDEX_SCALE"), (9, u "LOG2_ARRAY_BYTE_INDEX_SCALE"), (5, u "LOG2_ARRAY_CHAR_INDEX_SCALE"), (5, u "LOG2_ARRAY_SHORT_INDEX_SCALE"), (18, u "LOG2_ARRAY_FLOAT_INDEX_SCALE"), (24, u "LOG2_ARRAY_DOUBLE_INDEX_SCALE"), (89, u "T_BOOLEAN"), (2, u "T_CHAR"), (1, u "T_FLOAT"), (1, u "T_DOUBLE"), (1, u "T_BYTE"), (1, u "T_SHORT"), (1, u "T_INT"), (1, u "T_LONG"), (1, u "SOFT_MAX_ARRAY_LENGTH")] 83

def k13m0 : Method := { name := "<init>", desc := "()V", sig := { parameters := [], returnType := none }, accessFlags := 2, code := none }
/-- jdk/internal/util/ArraysSupport -/
def k13 : Class := { plain "jdk/internal/util/ArraysSupport" (some 0) with
  accessFlags := 33
  interfaces := #[]
  cf := some (fileOf pool13 21 #[] #[{ accessFlags := 2, nameIndex := 9, descriptorIndex := 19, attributes := #[] }] 33 16 #[] #[{ accessFlags := 24, nameIndex := 28, descriptorIndex := 29, attributes := #[] }, { accessFlags := 26, nameIndex := 38, descriptorIndex := 39, attributes := #[] }, { accessFlags := 25, nameIndex := 121, descriptorIndex := 25, attributes := #[] }, { accessFlags := 25, nameIndex := 131, descriptorIndex := 25, attributes := #[] }, { accessFlags := 25, nameIndex := 137, descriptorIndex := 25, attributes := #[] }, { accessFlags := 25, nameIndex := 143, descriptorIndex := 25, attributes := #[] }, { accessFlags := 25, nameIndex := 53, descriptorIndex := 25, attributes := #[] }, { accessFlags := 25, nameIndex := 24, descriptorIndex := 25, attributes := #[] }, { accessFlags := 25, nameIndex := 162, descriptorIndex := 25, attributes := #[] }, { accessFlags := 25, nameIndex := 187, descriptorIndex := 25, attributes := #[] }, { accessFlags := 26, nameIndex := 48, descriptorIndex := 25, attributes := #[] }, { accessFlags := 25, nameIndex := 277, descriptorIndex := 25, attributes := #[] }, { accessFlags := 25, nameIndex := 280, descriptorIndex := 25, attributes := #[] }, { accessFlags := 25, nameIndex := 282, descriptorIndex := 25, attributes := #[] }, { accessFlags := 25, nameIndex := 284, descriptorIndex := 25, attributes := #[] }, { accessFlags := 25, nameIndex := 286, descriptorIndex := 25, attributes := #[] }, { accessFlags := 25, nameIndex := 288, descriptorIndex := 25, attributes := #[] }, { accessFlags := 25, nameIndex := 290, descriptorIndex := 25, attributes := #[] }, { accessFlags := 25, nameIndex := 292, descriptorIndex := 25, attributes := #[] }, { accessFlags := 26, nameIndex := 108, descriptorIndex := 109, attributes := #[] }, { accessFlags := 25, nameIndex := 294, descriptorIndex := 25, attributes := #[] }])
  fields := #[{ name := "U", type := (.object "jdk/internal/misc/Unsafe"), accessFlags := 24, slot := 0, constantValue := 0 }, { name := "BIG_ENDIAN", type := .boolean, accessFlags := 26, slot := 1, constantValue := 0 }, { name := "LOG2_ARRAY_BOOLEAN_INDEX_SCALE", type := .int, accessFlags := 25, slot := 2, constantValue := 0 }, { name := "LOG2_ARRAY_BYTE_INDEX_SCALE", type := .int, accessFlags := 25, slot := 3, constantValue := 0 }, { name := "LOG2_ARRAY_CHAR_INDEX_SCALE", type := .int, accessFlags := 25, slot := 4, constantValue := 0 }, { name := "LOG2_ARRAY_SHORT_INDEX_SCALE", type := .int, accessFlags := 25, slot := 5, constantValue := 0 }, { name := "LOG2_ARRAY_INT_INDEX_SCALE", type := .int, accessFlags := 25, slot := 6, constantValue := 0 }, { name := "LOG2_ARRAY_LONG_INDEX_SCALE", type := .int, accessFlags := 25, slot := 7, constantValue := 0 }, { name := "LOG2_ARRAY_FLOAT_INDEX_SCALE", type := .int, accessFlags := 25, slot := 8, constantValue := 0 }, { name := "LOG2_ARRAY_DOUBLE_INDEX_SCALE", type := .int, accessFlags := 25, slot := 9, constantValue := 0 }, { name := "LOG2_BYTE_BIT_SIZE", type := .int, accessFlags := 26, slot := 10, constantValue := 0 }, { name := "T_BOOLEAN", type := .int, accessFlags := 25, slot := 11, constantValue := 0 }, { name := "T_CHAR", type := .int, accessFlags := 25, slot := 12, constantValue := 0 }, { name := "T_FLOAT", type := .int, accessFlags := 25, slot := 13, constantValue := 0 }, { name := "T_DOUBLE", type := .int, accessFlags := 25, slot := 14, constantValue := 0 }, { name := "T_BYTE", type := .int, accessFlags := 25, slot := 15, constantValue := 0 }, { name := "T_SHORT", type := .int, accessFlags := 25, slot := 16, constantValue := 0 }, { name := "T_INT", type := .int, accessFlags := 25, slot := 17, constantValue := 0 }, { name := "T_LONG", type := .int, accessFlags := 25, slot := 18, constantValue := 0 }, { name := "JLA", type := (.object "jdk/internal/access/JavaLangAccess"), accessFlags := 26, slot := 19, constantValue := 0 }, { name := "SOFT_MAX_ARRAY_LENGTH", type := .int, accessFlags := 25, slot := 20, constantValue := 0 }]
  methods := #[k13m0]
  instanceTypes := #[]
  staticTypes := #[(.object "jdk/internal/misc/Unsafe"), .boolean, .int, .int, .int, .int, .int, .int, .int, .int, .int, .int, .int, .int, .int, .int, .int, .int, .int, (.object "jdk/internal/access/JavaLangAccess"), .int]
  resolved := Array.replicate 378 none
  statics := none }

def pool14 : Array CpInfo := pool [(1, u "java/lang/Cloneable"), (0, .class_ 1), (0, u "java/lang/Object"), (0, .class_ 3)] 3

/-- java/lang/Cloneable -/
def k14 : Class := { plain "java/lang/Cloneable" (some 0) with
  accessFlags := 1537
  interfaces := #[]
  cf := some (fileOf pool14 2 #[] #[] 1537 4 #[] #[])
  fields := #[]
  methods := #[]
  instanceTypes := #[]
  staticTypes := #[]
  resolved := Array.replicate 8 none
  statics := none }

/-- the primitive byte -/
def k15 : Class := { plain "byte" none with kind := .primitive 'B', accessFlags := 0x411 }
/-- [B -/
def k16 : Class := { plain "[B" (some 0) with kind := .array 15 .byte, interfaces := #[14, 2], accessFlags := 1041 }

/-- the primitive char -/
def k17 : Class := { plain "char" none with kind := .primitive 'C', accessFlags := 0x411 }
/-- [C -/
def k18 : Class := { plain "[C" (some 0) with kind := .array 17 .char, interfaces := #[14, 2], accessFlags := 1041 }

/-- the primitive int -/
def k19 : Class := { plain "int" none with kind := .primitive 'I', accessFlags := 0x411 }
/-- [I -/
def k20 : Class := { plain "[I" (some 0) with kind := .array 19 .int, interfaces := #[14, 2], accessFlags := 1041 }

def heap : Heap := #[{ cls := 7, slots := #[.long 0, .int 1, .null, .int 0, .null, .int 0, .int 0], vm := .statics 7 },
  { cls := 12, slots := #[.null, .null, .null], vm := .statics 12 }]
def classes : Array Class := #[k0, k1, k2, k3, k4, k5, k6, k7, k8, k9, k10, k11, k12, k13, k14, k15, k16, k17, k18, k19, k20]
def interned : List (Array UInt16 × Addr) := []
def slotsUsed : Nat := 10
def theMethod : MethodId := ⟨1, 2⟩
def args0 : Array Value := #[.long 5, .long 5, .long 5, .long 5, .long 5, .int 5]
def aboutOver (below : List Frame) : State where
  vm := { classes := classes, interned := interned.toArray }
  heap := heap
  slotsUsed := slotsUsed
  threads := #[{ frames := .invoking theMethod args0 :: below }]
def below0 : List Frame := [.native { method := ⟨0, 0⟩, args := #[] }]
def about1 : State := aboutOver below0
def p0 : Program := .bare "" "" ""
def e0 : Env := launch0.env 0 0 0
theorem w_frames : about1.frames = Frame.invoking theMethod args0 :: below0 := rfl
set_option maxRecDepth 65536 in
theorem w_args : argsFit about1.vm theMethod args0 = true := by decide +kernel
set_option maxRecDepth 65536 in
theorem w_heap : heapFits about1 = true := by decide +kernel
set_option maxRecDepth 65536 in
theorem w_runnable : about1.curStatus? = some .runnable := by decide +kernel
set_option maxRecDepth 65536 in
theorem w_alone : about1.alone = true := by decide +kernel
set_option maxRecDepth 65536 in
theorem w_named : about1.methodNamed? x = some theMethod := by decide +kernel
set_option maxRecDepth 65536 in
theorem w_hears : about1.hears theMethod below0 = true := by decide +kernel
set_option maxRecDepth 65536 in
theorem w_ripe : about1.ripe theMethod args0 below0 = true := by decide +kernel
theorem w_running : about1.status = .running := rfl
set_option maxRecDepth 65536 in
theorem w_room : about1.hasRoom e0.platform room_1 = true :=
  launch0.hasRoom_least _ room_1 (by decide +kernel) (by decide +kernel) (by decide +kernel) (by decide +kernel) (by decide +kernel) (by decide +kernel)
theorem allAtoms_all (ts : List Jvm.Cond) (a : Array Jvm.Value) (st : Jvm.State) : (allAtoms ts).before a st = ts.all (fun c => c.before a st) := by
  induction ts with
  | nil => rfl
  | cons c t ih =>
    show (Jvm.Cond.and c (allAtoms t)).before a st = _
    rw [Jvm.Cond.before_and, ih, List.all_cons]
def words1 : List Jvm.Cond := Jvm.Cond.code x code maxLocals ret :: tables_1
/-- a 'code' word, met by the world's own term for the bytes: nothing is compared byte by byte -/
theorem code_word {y : MethodName} {bytes : ByteArray} {mx : Nat} {rt : Option FieldType} {a : Array Value} {s : State} {m : MethodId} {meth : Method} {c : Code} (h1 : s.methodNamed? y = some m) (h2 : s.vm.method? m = some meth) (h3 : meth.code = some c) (h4 : c.code = bytes)
    (h5 : (c.maxLocals == mx && c.exceptionTable.isEmpty && decide (c.maxStack ≤ mostOperands) && decide (meth.sig.returnType = rt) && !meth.locks && decide (parseMethodDescriptor y.desc = some meth.sig)) = true) : (Jvm.Cond.code y bytes mx rt).before a s = true := by
  simp only [Bool.and_eq_true, beq_iff_eq, Bool.not_eq_true', decide_eq_true_eq] at h5
  obtain ⟨⟨⟨⟨⟨g1, g2⟩, g3⟩, g4⟩, g5⟩, g6⟩ := h5
  simp [Cond.before, Cond.holds, Cond.value, h1, h2, h3, h4, g1, g2, g3, g4, g5, g6]
def isCode : Jvm.Cond → Bool
  | .code _ _ _ _ => true
  | _ => false
theorem all_split {L : List Jvm.Cond} {P : Jvm.Cond → Bool} (h1 : L.all (fun c => isCode c || P c) = true) (h2 : ∀ c ∈ L.filter isCode, P c = true) : L.all P = true := by
  refine List.all_eq_true.mpr fun c hc => ?_
  have h := List.all_eq_true.mp h1 c hc
  rcases Bool.eq_false_or_eq_true (isCode c) with hi | hi
  · exact h2 c (List.mem_filter.mpr ⟨hc, hi⟩)
  · simpa [hi] using h
set_option maxRecDepth 65536 in
theorem w_c0 : (Jvm.Cond.code x code maxLocals ret).before args0 about1 = true := code_word (m := ⟨1, 2⟩) (meth := k1m2) (c := k1c2) (by decide +kernel) rfl rfl rfl (by decide +kernel)
set_option maxRecDepth 65536 in
theorem w_c1 : (Jvm.Cond.code ({ cls := "com/example/antientropy/antientropy/sds/NamedEntriesHeardPinLaw", name := "name", desc := "(I)Ljava/lang/String;" } : Jvm.MethodName) method_2_code (2 : Nat) (Option.some (Jvm.ClassFile.FieldType.object "java/lang/String"))).before args0 about1 = true := code_word (m := ⟨1, 1⟩) (meth := k1m1) (c := k1c1) (by decide +kernel) rfl rfl rfl (by decide +kernel)
set_option maxRecDepth 65536 in
theorem w_c2 : (Jvm.Cond.code ({ cls := "java/lang/String", name := "<init>", desc := "([C)V" } : Jvm.MethodName) jdk_42_method_3_code (2 : Nat) (Option.none : Option Jvm.ClassFile.FieldType)).before args0 about1 = true := code_word (m := ⟨7, 1⟩) (meth := k7m1) (c := k7c1) (by decide +kernel) rfl rfl rfl (by decide +kernel)
set_option maxRecDepth 65536 in
theorem w_c3 : (Jvm.Cond.code ({ cls := "java/lang/String", name := "<init>", desc := "([CIILjava/lang/Void;)V" } : Jvm.MethodName) jdk_42_method_149_code (6 : Nat) (Option.none : Option Jvm.ClassFile.FieldType)).before args0 about1 = true := code_word (m := ⟨7, 3⟩) (meth := k7m3) (c := k7c3) (by decide +kernel) rfl rfl rfl (by decide +kernel)
set_option maxRecDepth 65536 in
theorem w_c4 : (Jvm.Cond.code ({ cls := "java/lang/Object", name := "<init>", desc := "()V" } : Jvm.MethodName) object_method_1_code (1 : Nat) (Option.none : Option Jvm.ClassFile.FieldType)).before args0 about1 = true := code_word (m := ⟨0, 0⟩) (meth := k0m0) (c := k0c0) (by decide +kernel) rfl rfl rfl (by decide +kernel)
set_option maxRecDepth 65536 in
theorem w_c5 : (Jvm.Cond.code ({ cls := "java/lang/StringUTF16", name := "compress", desc := "([CII)[B" } : Jvm.MethodName) jdk_52_method_16_code (6 : Nat) (Option.some (Jvm.ClassFile.FieldType.array Jvm.ClassFile.FieldType.byte))).before args0 about1 = true := code_word (m := ⟨8, 2⟩) (meth := k8m2) (c := k8c2) (by decide +kernel) rfl rfl rfl (by decide +kernel)
set_option maxRecDepth 65536 in
theorem w_c6 : (Jvm.Cond.code ({ cls := "java/lang/StringUTF16", name := "compress", desc := "([CI[BII)I" } : Jvm.MethodName) jdk_52_method_21_code (7 : Nat) (Option.some Jvm.ClassFile.FieldType.int)).before args0 about1 = true := code_word (m := ⟨8, 3⟩) (meth := k8m3) (c := k8c3) (by decide +kernel) rfl rfl rfl (by decide +kernel)
set_option maxRecDepth 65536 in
theorem w_c7 : (Jvm.Cond.code ({ cls := "java/lang/StringUTF16", name := "coderFromArrayLen", desc := "([BI)B" } : Jvm.MethodName) jdk_52_method_15_code (2 : Nat) (Option.some Jvm.ClassFile.FieldType.byte)).before args0 about1 = true := code_word (m := ⟨8, 1⟩) (meth := k8m1) (c := k8c1) (by decide +kernel) rfl rfl rfl (by decide +kernel)
set_option maxRecDepth 65536 in
theorem w_c8 : (Jvm.Cond.code ({ cls := "com/example/antientropy/antientropy/sds/NamedEntries", name := "<init>", desc := "()V" } : Jvm.MethodName) prog_17_method_1_code (1 : Nat) (Option.none : Option Jvm.ClassFile.FieldType)).before args0 about1 = true := code_word (m := ⟨9, 0⟩) (meth := k9m0) (c := k9c0) (by decide +kernel) rfl rfl rfl (by decide +kernel)
set_option maxRecDepth 65536 in
theorem w_c9 : (Jvm.Cond.code ({ cls := "com/example/antientropy/antientropy/sds/NamedEntries", name := "heard", desc := "(Ljava/lang/String;J)V" } : Jvm.MethodName) prog_17_method_3_code (4 : Nat) (Option.none : Option Jvm.ClassFile.FieldType)).before args0 about1 = true := code_word (m := ⟨9, 2⟩) (meth := k9m2) (c := k9c2) (by decide +kernel) rfl rfl rfl (by decide +kernel)
set_option maxRecDepth 65536 in
theorem w_c10 : (Jvm.Cond.code ({ cls := "java/lang/String", name := "equals", desc := "(Ljava/lang/Object;)Z" } : Jvm.MethodName) jdk_42_method_66_code (3 : Nat) (Option.some Jvm.ClassFile.FieldType.boolean)).before args0 about1 = true := code_word (m := ⟨7, 2⟩) (meth := k7m2) (c := k7c2) (by decide +kernel) rfl rfl rfl (by decide +kernel)
set_option maxRecDepth 65536 in
theorem w_c11 : (Jvm.Cond.code ({ cls := "java/lang/StringLatin1", name := "equals", desc := "([B[B)Z" } : Jvm.MethodName) jdk_43_method_13_code (3 : Nat) (Option.some Jvm.ClassFile.FieldType.boolean)).before args0 about1 = true := code_word (m := ⟨10, 1⟩) (meth := k10m1) (c := k10c1) (by decide +kernel) rfl rfl rfl (by decide +kernel)
set_option maxRecDepth 65536 in
theorem w_c12 : (Jvm.Cond.code ({ cls := "com/example/antientropy/antientropy/sds/NamedEntries", name := "isNamedTo", desc := "(Ljava/lang/String;J)Z" } : Jvm.MethodName) prog_17_method_4_code (6 : Nat) (Option.some Jvm.ClassFile.FieldType.boolean)).before args0 about1 = true := code_word (m := ⟨9, 3⟩) (meth := k9m3) (c := k9c3) (by decide +kernel) rfl rfl rfl (by decide +kernel)
set_option maxRecDepth 65536 in
theorem w_c13 : (Jvm.Cond.code ({ cls := "java/lang/Math", name := "max", desc := "(JJ)J" } : Jvm.MethodName) jdk_29_method_66_code (4 : Nat) (Option.some Jvm.ClassFile.FieldType.long)).before args0 about1 = true := code_word (m := ⟨11, 1⟩) (meth := k11m1) (c := k11c1) (by decide +kernel) rfl rfl rfl (by decide +kernel)
set_option maxRecDepth 65536 in
theorem w_c14 : (Jvm.Cond.code ({ cls := "com/example/antientropy/antientropy/sds/NamedEntries", name := "sent", desc := "(J)V" } : Jvm.MethodName) prog_17_method_2_code (3 : Nat) (Option.none : Option Jvm.ClassFile.FieldType)).before args0 about1 = true := code_word (m := ⟨9, 1⟩) (meth := k9m1) (c := k9c1) (by decide +kernel) rfl rfl rfl (by decide +kernel)
def codes1 : List Jvm.Cond := [Jvm.Cond.code x code maxLocals ret, Jvm.Cond.code ({ cls := "com/example/antientropy/antientropy/sds/NamedEntriesHeardPinLaw", name := "name", desc := "(I)Ljava/lang/String;" } : Jvm.MethodName) method_2_code (2 : Nat) (Option.some (Jvm.ClassFile.FieldType.object "java/lang/String")), Jvm.Cond.code ({ cls := "java/lang/String", name := "<init>", desc := "([C)V" } : Jvm.MethodName) jdk_42_method_3_code (2 : Nat) (Option.none : Option Jvm.ClassFile.FieldType), Jvm.Cond.code ({ cls := "java/lang/String", name := "<init>", desc := "([CIILjava/lang/Void;)V" } : Jvm.MethodName) jdk_42_method_149_code (6 : Nat) (Option.none : Option Jvm.ClassFile.FieldType), Jvm.Cond.code ({ cls := "java/lang/Object", name := "<init>", desc := "()V" } : Jvm.MethodName) object_method_1_code (1 : Nat) (Option.none : Option Jvm.ClassFile.FieldType), Jvm.Cond.code ({ cls := "java/lang/StringUTF16", name := "compress", desc := "([CII)[B" } : Jvm.MethodName) jdk_52_method_16_code (6 : Nat) (Option.some (Jvm.ClassFile.FieldType.array Jvm.ClassFile.FieldType.byte)), Jvm.Cond.code ({ cls := "java/lang/StringUTF16", name := "compress", desc := "([CI[BII)I" } : Jvm.MethodName) jdk_52_method_21_code (7 : Nat) (Option.some Jvm.ClassFile.FieldType.int), Jvm.Cond.code ({ cls := "java/lang/StringUTF16", name := "coderFromArrayLen", desc := "([BI)B" } : Jvm.MethodName) jdk_52_method_15_code (2 : Nat) (Option.some Jvm.ClassFile.FieldType.byte), Jvm.Cond.code ({ cls := "com/example/antientropy/antientropy/sds/NamedEntries", name := "<init>", desc := "()V" } : Jvm.MethodName) prog_17_method_1_code (1 : Nat) (Option.none : Option Jvm.ClassFile.FieldType), Jvm.Cond.code ({ cls := "com/example/antientropy/antientropy/sds/NamedEntries", name := "heard", desc := "(Ljava/lang/String;J)V" } : Jvm.MethodName) prog_17_method_3_code (4 : Nat) (Option.none : Option Jvm.ClassFile.FieldType), Jvm.Cond.code ({ cls := "java/lang/String", name := "equals", desc := "(Ljava/lang/Object;)Z" } : Jvm.MethodName) jdk_42_method_66_code (3 : Nat) (Option.some Jvm.ClassFile.FieldType.boolean), Jvm.Cond.code ({ cls := "java/lang/StringLatin1", name := "equals", desc := "([B[B)Z" } : Jvm.MethodName) jdk_43_method_13_code (3 : Nat) (Option.some Jvm.ClassFile.FieldType.boolean), Jvm.Cond.code ({ cls := "com/example/antientropy/antientropy/sds/NamedEntries", name := "isNamedTo", desc := "(Ljava/lang/String;J)Z" } : Jvm.MethodName) prog_17_method_4_code (6 : Nat) (Option.some Jvm.ClassFile.FieldType.boolean), Jvm.Cond.code ({ cls := "java/lang/Math", name := "max", desc := "(JJ)J" } : Jvm.MethodName) jdk_29_method_66_code (4 : Nat) (Option.some Jvm.ClassFile.FieldType.long), Jvm.Cond.code ({ cls := "com/example/antientropy/antientropy/sds/NamedEntries", name := "sent", desc := "(J)V" } : Jvm.MethodName) prog_17_method_2_code (3 : Nat) (Option.none : Option Jvm.ClassFile.FieldType)]
set_option maxRecDepth 65536 in
theorem codes_eq : words1.filter isCode = codes1 := rfl
theorem w_codes : ∀ c ∈ words1.filter isCode, c.before args0 about1 = true := by
  rw [codes_eq]
  intro c hc
  simp only [codes1, List.mem_cons, List.not_mem_nil, or_false] at hc
  rcases hc with rfl | rfl | rfl | rfl | rfl | rfl | rfl | rfl | rfl | rfl | rfl | rfl | rfl | rfl | rfl
  · exact w_c0
  · exact w_c1
  · exact w_c2
  · exact w_c3
  · exact w_c4
  · exact w_c5
  · exact w_c6
  · exact w_c7
  · exact w_c8
  · exact w_c9
  · exact w_c10
  · exact w_c11
  · exact w_c12
  · exact w_c13
  · exact w_c14
set_option maxRecDepth 65536 in
theorem w_t1 : (words1.take 24).all (fun c => isCode c || c.before args0 about1) = true := by decide +kernel
set_option maxRecDepth 65536 in
theorem w_t2 : ((words1.drop 24).take 24).all (fun c => isCode c || c.before args0 about1) = true := by decide +kernel
set_option maxRecDepth 65536 in
theorem w_t3 : (((words1.drop 24).drop 24).take 24).all (fun c => isCode c || c.before args0 about1) = true := by decide +kernel
set_option maxRecDepth 65536 in
theorem w_t4 : (((words1.drop 24).drop 24).drop 24).all (fun c => isCode c || c.before args0 about1) = true := by decide +kernel
theorem w_tables : (allAtoms (Jvm.Cond.code x code maxLocals ret :: tables_1)).before args0 about1 = true := by
  rw [allAtoms_all]
  show words1.all (fun c => c.before args0 about1) = true
  refine all_split ?_ w_codes
  rw [← List.take_append_drop 24 words1, List.all_append, w_t1, ← List.take_append_drop 24 (words1.drop 24), List.all_append, w_t2, ← List.take_append_drop 24 ((words1.drop 24).drop 24), List.all_append, w_t3, w_t4]
  rfl
set_option maxRecDepth 65536 in
theorem w_rest : rest_1_c.before args0 about1 = true := by decide +kernel
set_option maxRecDepth 65536 in
theorem w_case : (Jvm.Cond.and given_1 narrow_1).before args0 about1 = true := by decide +kernel
theorem w_applies : (headSpec (Jvm.Cond.code x code maxLocals ret :: tables_1) room_1).applies x e0.platform about1 = true :=
  (Spec.applies_iff w_frames).mpr ⟨w_running, w_runnable, w_alone, w_named, w_hears, w_ripe, w_room, w_tables⟩
theorem atStart : AtStart classFile x code maxLocals ret World_1 tables_1 room_1 Calls_1 rest_1 Pre_1 launch0 p0 e0 about1 theMethod args0 below0 :=
  ⟨lists_1, trivial, launch0.admits_env _ _ _, launch0.least_env, fairChoices_fair.cas, fairChoices_fair.clock, w_frames, w_args, w_heap, w_applies, trivial, w_rest, w_case⟩
end start1
theorem witness_1 : WitnessClaimed_1 := ⟨start1.p0, start1.e0, start1.about1, start1.theMethod, start1.args0, start1.below0, start1.atStart⟩
end Jvm.Pilot.@@N@@
