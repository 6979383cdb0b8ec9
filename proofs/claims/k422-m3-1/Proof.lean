import JvmDerived
import JvmDerived.Pilot.@@N@@Statement
import JvmDerived.Pilot.@@N@@Code
set_option linter.unusedVariables false
set_option linter.unusedSimpArgs false
@@BLOCK:NumsL.lean.txt@@
@@BLOCK:LamKit.lean.txt@@
namespace Jvm.Pilot.@@N@@
open Jvm Jvm.ClassFile Sem Op Lib Jvm.Free Jvm.Stand Jvm.LawKit Jvm.RoadKit Bundle Jvm.Pilot.@@N@@.Jvm.D
/-- from here the run comes to a state of which P holds -/
def own_Go (tb : Tables) (e : Env) (below : List Frame) (P : State → Prop) (T : State) (g : JFrame) : Prop := ∃ t, Steps tb e below (T.setTop g) t ∧ P t
theorem own_st {tb : Tables} {e : Env} {below : List Frame} {P : State → Prop} {T T' : State} {g g' : JFrame} (h : ∀ t, Steps tb e below (T'.setTop g') t → Steps tb e below (T.setTop g) t) (k : own_Go tb e below P T' g') : own_Go tb e below P T g := by
  obtain ⟨t, a, b⟩ := k; exact ⟨t, h t a, b⟩
/-- what the end of a body must be -/
def own_P (s : State) (below : List Frame) (Q : Option Value → Heap → List Loc → Prop) (C S : Nat) (t : State) : Prop := t.status = .running ∧ ∃ o, Ended t below o ∧ ∃ v L, o = .returned v ∧ Q v t.heap L ∧ FrameEnd s o t L C S
/-- .. of a body that may have interned -/
def own_PW (s : State) (below : List Frame) (Q : Option Value → Heap → List Loc → Prop) (C S : Nat) (t : State) : Prop := t.status = .running ∧ ∃ o, Ended t below o ∧ ∃ v L, o = .returned v ∧ Q v t.heap L ∧ ReturnedEndW s o t L C S
section own
variable {p : Program} {l : Launch} {e : Env} {R : Room} {s : State} {m : MethodId} {args : Array Value} {below : List Frame} {meth : Method} {c : Code} {T : State} {locs : List Loc} {cells slots : Nat} {Qo : Option Value → Heap → List Loc → Prop} {C' S' : Nat}
theorem own_out (X : Stand p l e R s m args below meth c T locs cells slots) {v : Option Value} {g : JFrame} (hv : meth.sig.returnType = none → v = none) (hlocks : meth.locks = false)
    (hst : ∀ fs, (∀ (f : JFrame) (acts : List Action), f.method = m → f.locked = none → f.entered = [] → (doReturn e (T.setTop f) acts v).1 = T.setFrames fs) → Steps p.tables e below (T.setTop g) (T.setFrames fs))
    (hc : cells ≤ C') (hs : slots ≤ S') (hq : Qo v T.heap locs) : own_Go p.tables e below (own_P s below Qo C' S') T g := by
  obtain ⟨fs, hr, hrun, hended, hW, hsame⟩ := X.leave (v := v) hv hlocks
  exact ⟨_, hst fs hr, hrun, _, hended, _, _, rfl, hq, ⟨_, rfl⟩, hW, hsame.mono hc hs⟩
theorem own_outW {vm0 : Vm} (X : Stand p l e R (s.setVm vm0) m args below meth c T locs cells slots) {k0 : Nat} (hS : s.Since vm0 k0) (hk : k0 ≤ T.heap.size) {v : Option Value} {g : JFrame} (hv : meth.sig.returnType = none → v = none) (hlocks : meth.locks = false)
    (hst : ∀ fs, (∀ (f : JFrame) (acts : List Action), f.method = m → f.locked = none → f.entered = [] → (doReturn e (T.setTop f) acts v).1 = T.setFrames fs) → Steps p.tables e below (T.setTop g) (T.setFrames fs))
    (hc : cells ≤ C') (hs : slots ≤ S') (hq : Qo v T.heap locs) : own_Go p.tables e below (own_PW s below Qo C' S') T g := by
  obtain ⟨fs, hr, hrun, hended, hW⟩ := X.leaveW hS hk (v := v) hv hlocks
  exact ⟨_, hst fs hr, hrun, _, hended, _, _, rfl, hq, hW.1, hW.2.1, hW.2.2.1, hW.2.2.2.mono hc hs⟩
theorem own_retI (X : Stand p l e R s m args below meth c T locs cells slots) (hx : p.tables.exec = Jvm.exec) {pc : Nat} {Ls : Array Slot} {z : Int32} {rest : List Value} (hret : meth.sig.returnType = some .int) (hd : decode c.code pc = .ok (.ireturn, 1)) (fs : List Frame)
    (hl : ∀ (f : JFrame) (acts : List Action), f.method = m → f.locked = none → f.entered = [] → (doReturn e (T.setTop f) acts (some (.int z))).1 = T.setFrames fs) : Steps p.tables e below (T.setTop (mkF m pc Ls (.int z :: rest))) (T.setFrames fs) :=
  retOut X hx hret rfl (Or.inl ⟨rfl, Or.inl rfl, _, rfl⟩) hd hl
theorem own_retZ (X : Stand p l e R s m args below meth c T locs cells slots) (hx : p.tables.exec = Jvm.exec) {pc : Nat} {Ls : Array Slot} {z : Int32} {rest : List Value} (hret : meth.sig.returnType = some .boolean) (hd : decode c.code pc = .ok (.ireturn, 1)) (hb : z = 0 ∨ z = 1) (fs : List Frame)
    (hl : ∀ (f : JFrame) (acts : List Action), f.method = m → f.locked = none → f.entered = [] → (doReturn e (T.setTop f) acts (some (.int z))).1 = T.setFrames fs) : Steps p.tables e below (T.setTop (mkF m pc Ls (.int z :: rest))) (T.setFrames fs) := by
  have e1 : nar .boolean z = z := by rcases hb with rfl | rfl <;> decide
  exact retN X hx hret (Or.inl rfl) hd (by rw [e1]; exact hl)
theorem own_retJ (X : Stand p l e R s m args below meth c T locs cells slots) (hx : p.tables.exec = Jvm.exec) {pc : Nat} {Ls : Array Slot} {z : Int64} {rest : List Value} (hret : meth.sig.returnType = some .long) (hd : decode c.code pc = .ok (.lreturn, 1)) (fs : List Frame)
    (hl : ∀ (f : JFrame) (acts : List Action), f.method = m → f.locked = none → f.entered = [] → (doReturn e (T.setTop f) acts (some (.long z))).1 = T.setFrames fs) : Steps p.tables e below (T.setTop (mkF m pc Ls (.long z :: rest))) (T.setFrames fs) :=
  retOut X hx hret rfl (Or.inr (Or.inl ⟨rfl, rfl, _, rfl⟩)) hd hl
theorem own_retD (X : Stand p l e R s m args below meth c T locs cells slots) (hx : p.tables.exec = Jvm.exec) {pc : Nat} {Ls : Array Slot} {z : UInt64} {rest : List Value} (hret : meth.sig.returnType = some .double) (hd : decode c.code pc = .ok (.dreturn, 1)) (fs : List Frame)
    (hl : ∀ (f : JFrame) (acts : List Action), f.method = m → f.locked = none → f.entered = [] → (doReturn e (T.setTop f) acts (some (.double z))).1 = T.setFrames fs) : Steps p.tables e below (T.setTop (mkF m pc Ls (.double z :: rest))) (T.setFrames fs) :=
  retOut X hx hret rfl (Or.inr (Or.inr (Or.inl ⟨rfl, rfl, _, rfl⟩))) hd hl
theorem own_retR (X : Stand p l e R s m args below meth c T locs cells slots) (hx : p.tables.exec = Jvm.exec) {pc : Nat} {Ls : Array Slot} {w : Value} {t : FieldType} {rest : List Value} (hret : meth.sig.returnType = some t) (ht : t.isReference = true) (hw : w.isRef = true) (hn : narrow t w = w) (hd : decode c.code pc = .ok (.areturn, 1)) (fs : List Frame)
    (hl : ∀ (f : JFrame) (acts : List Action), f.method = m → f.locked = none → f.entered = [] → (doReturn e (T.setTop f) acts (some w)).1 = T.setFrames fs) : Steps p.tables e below (T.setTop (mkF m pc Ls (w :: rest))) (T.setFrames fs) :=
  retOut X hx hret hn (Or.inr (Or.inr (Or.inr (Or.inr ⟨rfl, ht, hw⟩)))) hd hl
end own
/-- a private method is the one that is picked -/
theorem own_selp {s : State} {args : Array Value} {y : MethodName} {n : Nat} (hi : (Jvm.Cond.instantiable y.cls n).before args s = true) (hp : s.PrivateAt y) (hm : (Jvm.Cond.instanceMethod y).before args s = true) (hy : y.cls ≠ "java/lang/invoke/MethodHandle" ∧ y.cls ≠ "java/lang/invoke/VarHandle") : (Jvm.Cond.selects y.cls y y).before args s = true := by
  obtain ⟨c, k, h1, h2, -, h4, -⟩ := Cond.instantiable_spec hi
  exact selects_self_of_private h1 h2 (Bool.or_eq_false_iff.mp h4).1 hp hm hy
theorem own_staK {Z : State} {h h' : Heap} {C n d : String} {v : Value} {ws : List Addr} (F : Sta Z h C n d v) (K : Keep h h' ws) (q : ∀ x ∈ ws, ∃ D, Exa Z h x D) : Sta Z h' C n d v := by
  obtain ⟨cf, i, k, f, st, cell, h1, h2, h3, h4, h5, h6, h7⟩ := F
  refine ⟨cf, i, k, f, st, cell, h1, h2, h3, h4, K.2.1 st cell h5 (fun hm => ?_), h6, h7⟩
  obtain ⟨D, c', k', e1, -, -, e4, -⟩ := q st hm
  cases h5.symm.trans e1
  rw [h6] at e4; cases e4
/-- a reference or null -/
theorem own_refOf {w : Value} (h : w.isRef = true) (c : ¬ w = Value.null) : ∃ a, w = .ref a := (ref_cases h).resolve_left c
theorem own_nW {t : FieldType} {w : Value} (ht : t.isReference = true) (h : w.isRef = true) : narrow t w = w := by
  rcases ref_cases h with rfl | ⟨a, rfl⟩ <;> cases t <;> first | rfl | simp [FieldType.isReference] at ht
theorem own_fW {t : FieldType} {w : Value} (ht : t.isReference = true) (h : w.isRef = true) : fits t w = true := by
  rcases ref_cases h with rfl | ⟨a, rfl⟩ <;> cases t <;> first | rfl | simp [FieldType.isReference] at ht
theorem own_nb {z : Int32} (h : z = 0 ∨ z = 1) : narrow .boolean (.int z) = .int z := by rcases h with rfl | rfl <;> rfl
theorem own_fb {z : Int32} (h : z = 0 ∨ z = 1) : fits .boolean (.int z) = true := by rcases h with rfl | rfl <;> rfl
/-- lcmp and a branch, in one -/
def own_lcv : ClassFile.Cond → Int64 → Int64 → Prop
  | .lt, x, y => x < y | .ge, x, y => ¬ x < y | .gt, x, y => y < x | .le, x, y => ¬ y < x | .eq, x, y => x = y | .ne, x, y => ¬ x = y
theorem own_lcT {cd : ClassFile.Cond} {x y : Int64} (h : own_lcv cd x y) : ifCond.holds cd (lcmpW x y) = true := by
  rw [if0]
  cases cd
  · exact (teq ((lw_eq x y).mpr h)).1
  · exact (feq (fun q => h ((lw_eq x y).mp q))).2
  · exact (tlt ((lw_lt x y).mpr h)).1
  · exact (flt (fun q => h ((lw_lt x y).mp q))).2.1
  · exact (tlt ((lw_gt x y).mpr h)).2.2.1
  · exact (flt (fun q => h ((lw_gt x y).mp q))).2.2.2
theorem own_lcF {cd : ClassFile.Cond} {x y : Int64} (h : ¬ own_lcv cd x y) : ifCond.holds cd (lcmpW x y) = false := by
  rw [if0]
  cases cd
  · exact (feq (fun q => h ((lw_eq x y).mp q))).1
  · exact (teq (Classical.byContradiction fun q => h (fun r => q ((lw_eq x y).mpr r)))).2
  · exact (flt (fun q => h ((lw_lt x y).mp q))).1
  · exact (tlt (Classical.byContradiction fun q => h (fun r => q ((lw_lt x y).mpr r)))).2.1
  · exact (flt (fun q => h ((lw_gt x y).mp q))).2.2.1
  · exact (tlt (Classical.byContradiction fun q => h (fun r => q ((lw_gt x y).mpr r)))).2.2.2

abbrev own_DT := List (Nat × Instr × Nat)
abbrev own_L (cb : ByteArray) (D : own_DT) : Prop := ∀ q ∈ D, decode cb q.1 = .ok q.2
/-- what a body knows of its code -/
def own_B (p : Program) (c : Code) (ml : Nat) (D : own_DT) : Prop := p.tables.exec = Jvm.exec ∧ c.maxLocals = ml ∧ own_L c.code D
theorem own_B.x {p : Program} {c : Code} {ml : Nat} {D : own_DT} (B : own_B p c ml D) : p.tables.exec = Jvm.exec := B.1
theorem own_B.m {p : Program} {c : Code} {ml k : Nat} {D : own_DT} (B : own_B p c ml D) (h : k = ml) : k = c.maxLocals := h.trans B.2.1.symm
theorem own_B.d {p : Program} {c : Code} {ml : Nat} {D : own_DT} (B : own_B p c ml D) (i : Nat) {pc n : Nat} {ins : Instr} (h : D[i]? = some (pc, ins, n)) : decode c.code pc = .ok (ins, n) := B.2.2 (pc, ins, n) (List.mem_of_getElem? h)
theorem own_mkB {p : Program} {c : Code} {ml : Nat} {D : own_DT} {cb : ByteArray} (hx : p.tables.exec = Jvm.exec) (hby : c.code = cb) (hm : c.maxLocals = ml) (h : own_L cb D) : own_B p c ml D := ⟨hx, hm, by rw [hby]; exact h⟩
abbrev own_T (a0 : Array Value) (Z : State) : Prop := ∀ (i : Nat) {d : Jvm.Cond}, tables_1[i]? = some d → d.before a0 Z = true
/-- a contract -/
abbrev own_M (l : Launch) (Z : State) (y : MethodName) (cb : ByteArray) (ml : Nat) (ret : Option FieldType) (R : Room) (args : Array Value) (h0 : Heap) (Q : Option Value → Heap → List Loc → Prop) : Prop :=
  MetFree l y (head1 [Jvm.Cond.code y cb ml ret] R) (fun a U => a = args ∧ Z.Warmed39 U.vm ∧ U.heap = h0) (fun _ _ _ _ _ => True) (fun _ U o U' => ∃ v L, o = .returned v ∧ Q v U'.heap L ∧ FrameEnd U o U' L R.cells R.slots)
/-- how a body begins -/
theorem own_open {l : Launch} {Z : State} {y : MethodName} {cb : ByteArray} {ml : Nat} {ret : Option FieldType} {R : Room} {args : Array Value} {h0 : Heap} {Q : Option Value → Heap → List Loc → Prop} {D : own_DT} (own : String) (Ls : Array Slot) (pn : plainFor y = true) (DL : own_L cb D) (ho : y.cls = own) (hef : ∀ m, entryFrame m args ml = mkF m 0 Ls [])
    (k : ∀ p e s m below meth c s₁, BodyLoose p l y (head1 [Jvm.Cond.code y cb ml ret] R) cb ml ret e s m args below meth c s₁ → own_B p c ml D → Z.Warmed39 s.vm → s.vm.findClass own = some m.cls → Stand p l e R s m args below meth c s₁ [] 0 0 → s₁.heap = h0 → ∀ Pq, Pq = own_P s below Q R.cells R.slots → own_Go p.tables e below Pq s₁ (mkF m 0 Ls [])) : own_M l Z y cb ml ret R args h0 Q := by
  subst ho
  refine MetFree.of_bodySF pn hisR ?_
  intro p e s m args below meth c s₁ Bd hml0 hP hK
  obtain ⟨rfl, hZ, hh⟩ := hP
  have e0 : s₁.heap = h0 := by rw [← hh, Bd.state]; rfl
  obtain ⟨t, k1, k2, o, k3, k4⟩ := k p e s m below meth c s₁ Bd (own_mkB Bd.exec Bd.bytes hml0 DL) hZ (findClass_of_methodNamed Bd.named) (Stand.of_body Bd) e0 _ rfl
  exact ⟨t, o, castTop (hef m) k1, k2, k3, k4⟩
section own_o
variable {p : Program} {l : Launch} {e : Env} {R : Room} {s : State} {m : MethodId} {args : Array Value} {below : List Frame} {meth : Method} {c : Code} {T : State} {locs : List Loc} {cells slots : Nat} {Qo : Option Value → Heap → List Loc → Prop} {C' S' : Nat} {P : State → Prop} {pc : Nat} {Ls : Array Slot} {S : List Value} {ml : Nat} {D : own_DT} {y : MethodName} {Sp : Spec} {ml : Nat} {D : own_DT} {mL : Nat} {s1 : State} {z : Int32}
/-- how a body ends -/
theorem own_oV (X : Stand p l e R s m args below meth c T locs cells slots) (B : own_B p c ml D) (Bd : BodyLoose p l y Sp cb mL none e s m args below meth c s1) (ix : Nat) (hd : D[ix]? = some (pc, .return_, 1)) (hP : P = own_P s below Qo C' S') (hq : Qo none T.heap locs) (hc : cells ≤ C' := by decide) (hs : slots ≤ S' := by decide) : own_Go p.tables e below P T (mkF m pc Ls []) := by
  subst hP
  exact own_out X (v := none) (fun _ => rfl) Bd.notSynchronized (fun fs hr => X.returnOut B.x Bd.returns (B.d ix hd) hr) hc hs hq
theorem own_oI (X : Stand p l e R s m args below meth c T locs cells slots) (B : own_B p c ml D) (Bd : BodyLoose p l y Sp cb mL (some .int) e s m args below meth c s1) (ix : Nat) (hd : D[ix]? = some (pc, .ireturn, 1)) (hP : P = own_P s below Qo C' S') (hq : Qo (some (.int z)) T.heap locs) (hc : cells ≤ C' := by decide) (hs : slots ≤ S' := by decide) : own_Go p.tables e below P T (mkF m pc Ls (.int z :: S)) := by
  subst hP
  exact own_out X (v := some (.int z)) (fun h => by rw [Bd.returns] at h; cases h) Bd.notSynchronized (own_retI X B.x Bd.returns (B.d ix hd)) hc hs hq
theorem own_oZ (X : Stand p l e R s m args below meth c T locs cells slots) (B : own_B p c ml D) (Bd : BodyLoose p l y Sp cb mL (some .boolean) e s m args below meth c s1) (ix : Nat) (hd : D[ix]? = some (pc, .ireturn, 1)) (hP : P = own_P s below Qo C' S') (hq : Qo (some (.int z)) T.heap locs) (hz : z = 0 ∨ z = 1 := by decide) (hc : cells ≤ C' := by decide) (hs : slots ≤ S' := by decide) : own_Go p.tables e below P T (mkF m pc Ls (.int z :: S)) := by
  subst hP
  exact own_out X (v := some (.int z)) (fun h => by rw [Bd.returns] at h; cases h) Bd.notSynchronized (own_retZ X B.x Bd.returns (B.d ix hd) hz) hc hs hq
end own_o
theorem own_nl {a b c : Nat} (h : a < b) (k : b ≤ c) : a ≠ c := Nat.ne_of_lt (Nat.lt_of_lt_of_le h k)
theorem own_mI {α : Type} {L : List α} {a : α} {Q : Prop} (i : Nat) (h : L[i]? = some a) : a ∈ L ∨ Q := Or.inl (List.mem_of_getElem? h)
abbrev sU : Slot := .unset
section own_w2
variable {p : Program} {l : Launch} {e : Env} {R : Room} {s : State} {m : MethodId} {args : Array Value} {below : List Frame} {meth : Method} {c : Code} {T : State} {locs : List Loc} {cells slots : Nat} {P : State → Prop} {pc : Nat} {Ls L' : Array Slot} {S : List Value} {ml : Nat} {D : own_DT}
theorem SiN (X : Stand p l e R s m args below meth c T locs cells slots) (B : own_B p c ml D) {k : Fin 4} {v : Int32} (ix : Nat) (hd : D[ix]? = some (pc, .iload_n k, 1)) (hl : Ls[k.val]? = some (.val (.int v))) (q : own_Go p.tables e below P T (mkF m (pc + 1) Ls (.int v :: S))) : own_Go p.tables e below P T (mkF m pc Ls S) := own_st (fun t k' => XS.iloadN X.here B.x rfl (B.d ix hd) hl  k') q
theorem SaN (X : Stand p l e R s m args below meth c T locs cells slots) (B : own_B p c ml D) {k : Fin 4} {v : Value} (ix : Nat) (hd : D[ix]? = some (pc, .aload_n k, 1)) (hl : Ls[k.val]? = some (.val v)) (hv : v.isRef = true) (q : own_Go p.tables e below P T (mkF m (pc + 1) Ls (v :: S))) : own_Go p.tables e below P T (mkF m pc Ls S) := own_st (fun t k' => XS.aloadN X.here B.x rfl (B.d ix hd) hl hv k') q
theorem SisN (L' : Array Slot) (X : Stand p l e R s m args below meth c T locs cells slots) (B : own_B p c ml D) {k : Fin 4} {v : Int32} (ix : Nat) (hd : D[ix]? = some (pc, .istore_n k, 1)) (hl : storeLocals Ls k.val (.int v) = some L') (q : own_Go p.tables e below P T (mkF m (pc + 1) L' S)) : own_Go p.tables e below P T (mkF m pc Ls (.int v :: S)) := own_st (fun t k' => XS.istoreN X.here B.x rfl (B.d ix hd) rfl hl k') q
theorem SasN (L' : Array Slot) (X : Stand p l e R s m args below meth c T locs cells slots) (B : own_B p c ml D) {k : Fin 4} {v : Value} (ix : Nat) (hd : D[ix]? = some (pc, .astore_n k, 1)) (hv : v.isRef = true) (hl : storeLocals Ls k.val v = some L') (q : own_Go p.tables e below P T (mkF m (pc + 1) L' S)) : own_Go p.tables e below P T (mkF m pc Ls (v :: S)) := own_st (fun t k' => XS.astoreN X.here B.x rfl (B.d ix hd) rfl hv hl k') q
theorem Si (X : Stand p l e R s m args below meth c T locs cells slots) (B : own_B p c ml D) {k : Nat} {v : Int32} (ix : Nat) (hd : D[ix]? = some (pc, .iload k, 2)) (hl : Ls[k]? = some (.val (.int v))) (q : own_Go p.tables e below P T (mkF m (pc + 2) Ls (.int v :: S))) : own_Go p.tables e below P T (mkF m pc Ls S) := own_st (fun t k' => XS.iload X.here B.x rfl (B.d ix hd) hl  k') q
theorem Sa (X : Stand p l e R s m args below meth c T locs cells slots) (B : own_B p c ml D) {k : Nat} {v : Value} (ix : Nat) (hd : D[ix]? = some (pc, .aload k, 2)) (hl : Ls[k]? = some (.val v)) (hv : v.isRef = true) (q : own_Go p.tables e below P T (mkF m (pc + 2) Ls (v :: S))) : own_Go p.tables e below P T (mkF m pc Ls S) := own_st (fun t k' => XS.aload X.here B.x rfl (B.d ix hd) hl hv k') q
theorem Sis (L' : Array Slot) (X : Stand p l e R s m args below meth c T locs cells slots) (B : own_B p c ml D) {k : Nat} {v : Int32} (ix : Nat) (hd : D[ix]? = some (pc, .istore k, 2)) (hl : storeLocals Ls k (.int v) = some L') (q : own_Go p.tables e below P T (mkF m (pc + 2) L' S)) : own_Go p.tables e below P T (mkF m pc Ls (.int v :: S)) := own_st (fun t k' => XS.istore X.here B.x rfl (B.d ix hd) rfl hl k') q
theorem Sas (L' : Array Slot) (X : Stand p l e R s m args below meth c T locs cells slots) (B : own_B p c ml D) {k : Nat} {v : Value} (ix : Nat) (hd : D[ix]? = some (pc, .astore k, 2)) (hv : v.isRef = true) (hl : storeLocals Ls k v = some L') (q : own_Go p.tables e below P T (mkF m (pc + 2) L' S)) : own_Go p.tables e below P T (mkF m pc Ls (v :: S)) := own_st (fun t k' => XS.astore X.here B.x rfl (B.d ix hd) rfl hv hl k') q
theorem Sc (v : Int32) (X : Stand p l e R s m args below meth c T locs cells slots) (B : own_B p c ml D) {i : Int} (ix : Nat) (hd : D[ix]? = some (pc, .iconst i, 1)) (hv : Int32.ofInt i = v) (q : own_Go p.tables e below P T (mkF m (pc + 1) Ls (.int v :: S))) : own_Go p.tables e below P T (mkF m pc Ls S) := by
  subst hv; exact own_st (fun t k' => XS.iconst X.here B.x rfl (B.d ix hd) k') q
theorem Sg (pc0 pc1 : Nat) (X : Stand p l e R s m args below meth c T locs cells slots) (B : own_B p c ml D) {o : Int} (ix : Nat) (hd : D[ix]? = some (pc, .goto o, 3)) (q : own_Go p.tables e below P T (mkF m pc1 Ls S)) (ho : 0 ≤ (pc0 : Int) + o := by decide) (hp : ((pc0 : Int) + o).toNat = pc1 := by decide) (hpc : pc = pc0 := by rfl) : own_Go p.tables e below P T (mkF m pc Ls S) := own_st (fun t k' => XS.goto X.here B.x rfl hpc (B.d ix hd) ho hp k') q
theorem Sfy (pc0 pc1 : Nat) (X : Stand p l e R s m args below meth c T locs cells slots) (B : own_B p c ml D) {cd : ClassFile.Cond} {x : Int32} {o : Int} (ix : Nat) (hd : D[ix]? = some (pc, .ifCond cd o, 3)) (hc : ifCond.holds cd x = true) (q : own_Go p.tables e below P T (mkF m pc1 Ls S)) (ho : 0 ≤ (pc0 : Int) + o := by decide) (hp : ((pc0 : Int) + o).toNat = pc1 := by decide) (hpc : pc = pc0 := by rfl) : own_Go p.tables e below P T (mkF m pc Ls (.int x :: S)) := own_st (fun t k' => XS.ifYes X.here B.x rfl hpc (B.d ix hd) rfl hc ho hp k') q
theorem Sfn (X : Stand p l e R s m args below meth c T locs cells slots) (B : own_B p c ml D) {cd : ClassFile.Cond} {x : Int32} {o : Int} (ix : Nat) (hd : D[ix]? = some (pc, .ifCond cd o, 3)) (hc : ifCond.holds cd x = false) (q : own_Go p.tables e below P T (mkF m (pc + 3) Ls S)) : own_Go p.tables e below P T (mkF m pc Ls (.int x :: S)) := own_st (fun t k' => XS.ifNo X.here B.x rfl (B.d ix hd) rfl hc k') q
theorem Scy (pc0 pc1 : Nat) (X : Stand p l e R s m args below meth c T locs cells slots) (B : own_B p c ml D) {cd : ClassFile.Cond} {x y : Int32} {o : Int} (ix : Nat) (hd : D[ix]? = some (pc, .if_icmp cd o, 3)) (hc : if_icmp.holds cd x y = true) (q : own_Go p.tables e below P T (mkF m pc1 Ls S)) (ho : 0 ≤ (pc0 : Int) + o := by decide) (hp : ((pc0 : Int) + o).toNat = pc1 := by decide) (hpc : pc = pc0 := by rfl) : own_Go p.tables e below P T (mkF m pc Ls (.int y :: .int x :: S)) := own_st (fun t k' => XS.icmpYes X.here B.x rfl hpc (B.d ix hd) rfl hc ho hp k') q
theorem Scn (X : Stand p l e R s m args below meth c T locs cells slots) (B : own_B p c ml D) {cd : ClassFile.Cond} {x y : Int32} {o : Int} (ix : Nat) (hd : D[ix]? = some (pc, .if_icmp cd o, 3)) (hc : if_icmp.holds cd x y = false) (q : own_Go p.tables e below P T (mkF m (pc + 3) Ls S)) : own_Go p.tables e below P T (mkF m pc Ls (.int y :: .int x :: S)) := own_st (fun t k' => XS.icmpNo X.here B.x rfl (B.d ix hd) rfl hc k') q
end own_w2
section own_k
variable {p : Program} {l : Launch} {e : Env} {R : Room} {s : State} {m : MethodId} {args : Array Value} {below : List Frame} {meth : Method} {c : Code} {T : State} {locs : List Loc} {cells slots : Nat} {P : State → Prop} {pc : Nat} {Ls : Array Slot} {S rest argsL : List Value} {bytes : ByteArray} {ml : Nat} {D : own_DT} {Z : State} {a0 : Array Value} {h : Heap} {own C : String} {index count maxL wt : Nat} {ret : Option FieldType} {rm : Room} {Q : Option Value → Heap → List Loc → Prop} {y x z : MethodName} {sig : MethodDescriptor} {b : Addr}
/-- a static call, and on from behind it -/
theorem Kst (vv : Option Value) (X : Stand p l e R s m args below meth c T locs cells slots) (B : own_B p c ml D) (hZ : Z.Warmed39 s.vm) (hown : s.vm.findClass own = some m.cls)
    (w1 : (Cond.methodLink own index y).before a0 Z = true) (w2 : (Cond.static y).before a0 Z = true) (w3 : (Cond.initialized y.cls).before a0 Z = true) (w4 : (Cond.code y bytes maxL ret).before a0 Z = true)
    (hM : own_M l Z y bytes maxL ret rm (argsL.toArray) h Q)
    (eT : T.heap = h) (hpd : parseMethodDescriptor y.desc = some sig) (ix : Nat) (hd : D[ix]? = some (pc, .invokestatic index, 3)) (hs : S = argsL.reverse ++ rest) (hwt : (rest.map fun v => v.category).sum = wt) (hv : ∀ v h' L, Q v h' L → v = vv)
    (k : ∀ T' L, Stand p l e R s m args below meth c T' (locs ++ L) (cells + rm.cells) (slots + rm.slots) → Q vv T'.heap L → own_Go p.tables e below P T' (mkF m (pc + 3) Ls (vv.toList ++ rest)))
    (hml : Ls.size = ml := by rfl) (hn : argsL.length = sig.parameters.length := by rfl) (hy : y.cls ≠ "java/lang/invoke/MethodHandle" ∧ y.cls ≠ "java/lang/invoke/VarHandle" := by decide) (hf : rm.frames + 1 ≤ R.frames := by decide) (hl : wt + (maxL + 11) + rm.locals ≤ R.locals := by decide) (hc : cells + rm.cells ≤ R.cells := by decide) (hsl : slots + rm.slots ≤ R.slots := by decide) : own_Go p.tables e below P T (mkF m pc Ls S) := by
  subst hs
  obtain ⟨v, vm1, ⟨T', L', k', n'⟩, -, X', ⟨Lc, hQ, l1, y1, z1⟩, st⟩ := Jvm.LawKit.callS X B.x (y := y) hown (mvT hZ w1) (mvT hZ w2) (mvT hZ w3) (mvT hZ w4) hy (backOf (W := wt) hM hZ w4 w3 hf hl) (g := mkF m pc Ls _) rfl (B.m hml) (argsL := argsL) (rest := rest) (fun s' q => by rw [hpd] at q; cases q; exact hn) rfl (by rw [hwt]; exact Nat.le_of_eq (by show 2 * 0 + wt = wt; omega)) (B.d ix hd) (fun _ _ => ⟨rfl, eT, hc, hsl⟩)
  dsimp only [Pt.U, Pt.locs, Pt.cells, Pt.slots] at X' l1 y1 z1 st hQ
  subst l1 y1 z1
  obtain rfl := hv _ _ _ hQ
  exact own_st st (k _ _ X' hQ)
/-- a constructor -/
theorem Ksp (vv : Option Value) (X : Stand p l e R s m args below meth c T locs cells slots) (B : own_B p c ml D) (hZ : Z.Warmed39 s.vm) (hown : s.vm.findClass own = some m.cls)
    (w1 : (Cond.methodLink own index y).before a0 Z = true) (w2 : (Cond.instanceMethod y).before a0 Z = true) (w3 : (Cond.initialized y.cls).before a0 Z = true) (w4 : (Cond.code y bytes maxL none).before a0 Z = true)
    (hM : own_M l Z y bytes maxL none rm ((.ref b :: argsL).toArray) h Q)
    (eT : T.heap = h) (hpd : parseMethodDescriptor y.desc = some sig) (ix : Nat) (hd : D[ix]? = some (pc, .invokespecial index, 3)) (hs : S = argsL.reverse ++ .ref b :: rest) (hwt : (rest.map fun v => v.category).sum = wt) (hv : ∀ v h' L, Q v h' L → v = vv)
    (k : ∀ T' L, Stand p l e R s m args below meth c T' (locs ++ L) (cells + rm.cells) (slots + rm.slots) → Q vv T'.heap L → own_Go p.tables e below P T' (mkF m (pc + 3) Ls (vv.toList ++ rest)))
    (hml : Ls.size = ml := by rfl) (hn : argsL.length = sig.parameters.length := by rfl) (hy1 : y.name = "<init>" := by rfl) (hy : y.cls ≠ "java/lang/invoke/MethodHandle" ∧ y.cls ≠ "java/lang/invoke/VarHandle" := by decide) (hf : rm.frames + 1 ≤ R.frames := by decide) (hl : wt + (maxL + 11) + rm.locals ≤ R.locals := by decide) (hc : cells + rm.cells ≤ R.cells := by decide) (hsl : slots + rm.slots ≤ R.slots := by decide) : own_Go p.tables e below P T (mkF m pc Ls S) := by
  subst hs
  obtain ⟨v, vm1, ⟨T', L', k', n'⟩, -, X', ⟨Lc, hQ, l1, y1, z1⟩, st⟩ := X.specialBack B.x (y := y) hy1 hown (mvT hZ w1) (mvT hZ w2) (mvT hZ w4) hy (backOf (W := wt) hM hZ w4 w3 hf hl) (g := mkF m pc Ls _) rfl (B.m hml) (Steps.refl _) (a := b) (argsL := argsL) (rest := rest) (fun s' q => by rw [hpd] at q; cases q; exact hn) rfl (by rw [hwt]; exact Nat.le_of_eq (by show 2 * 0 + wt = wt; omega)) (B.d ix hd) (fun _ _ => ⟨rfl, eT, hc, hsl⟩)
  dsimp only [Pt.U, Pt.locs, Pt.cells, Pt.slots] at X' l1 y1 z1 st hQ
  subst l1 y1 z1
  obtain rfl := hv _ _ _ hQ
  exact own_st (fun t q => st.trans q) (k _ _ X' hQ)
/-- a method of the receiver's class -/
theorem Kvi (vv : Option Value) (X : Stand p l e R s m args below meth c T locs cells slots) (B : own_B p c ml D) (hZ : Z.Warmed39 s.vm) (hown : s.vm.findClass own = some m.cls)
    (w1 : (Cond.methodLink own index y).before a0 Z = true) (w2 : (Cond.declares y).before a0 Z = true) (w5 : (Cond.selects C y y).before a0 Z = true) (w6 : (Cond.instanceMethod y).before a0 Z = true) (w3 : (Cond.initialized y.cls).before a0 Z = true) (w4 : (Cond.code y bytes maxL ret).before a0 Z = true)
    (hM : own_M l Z y bytes maxL ret rm ((.ref b :: argsL).toArray) h Q)
    (eT : T.heap = h) (E : Exa Z h b C) (hpd : parseMethodDescriptor y.desc = some sig) (ix : Nat) (hd : D[ix]? = some (pc, .invokevirtual index, 3)) (hs : S = argsL.reverse ++ .ref b :: rest) (hwt : (rest.map fun v => v.category).sum = wt) (hv : ∀ v h' L, Q v h' L → v = vv)
    (k : ∀ T' L, Stand p l e R s m args below meth c T' (locs ++ L) (cells + rm.cells) (slots + rm.slots) → Q vv T'.heap L → own_Go p.tables e below P T' (mkF m (pc + 3) Ls (vv.toList ++ rest)))
    (hml : Ls.size = ml := by rfl) (hn : argsL.length = sig.parameters.length := by rfl) (hy : y.cls ≠ "java/lang/invoke/MethodHandle" ∧ y.cls ≠ "java/lang/invoke/VarHandle" := by decide) (hf : rm.frames + 1 ≤ R.frames := by decide) (hl : wt + (maxL + 11) + rm.locals ≤ R.locals := by decide) (hc : cells + rm.cells ≤ R.cells := by decide) (hsl : slots + rm.slots ≤ R.slots := by decide) : own_Go p.tables e below P T (mkF m pc Ls S) := by
  subst hs
  obtain ⟨cq, kq, q1, q2, q3⟩ := isOf hZ eT E
  obtain ⟨v, vm1, ⟨T', L', k', n'⟩, -, X', ⟨Lc, hQ, l1, y1, z1⟩, st⟩ := X.virtualBack B.x (y := y) (z := y) hown (mvT hZ w1) (mvT hZ w2) (notFace_of_selects (args := #[]) (mvT hZ w5)) (mvT hZ w5) (mvT hZ w6) hy (backOf (W := wt) hM hZ w4 w3 hf hl) q1 q3 (g := mkF m pc Ls _) rfl (B.m hml) (Steps.refl _) (argsL := argsL) (rest := rest) (fun s' q => by rw [hpd] at q; cases q; exact hn) rfl (by rw [hwt]; exact Nat.le_of_eq (by show 2 * 0 + wt = wt; omega)) (B.d ix hd) (fun _ _ => ⟨rfl, eT, hc, hsl⟩)
  dsimp only [Pt.U, Pt.locs, Pt.cells, Pt.slots] at X' l1 y1 z1 st hQ
  subst l1 y1 z1
  obtain rfl := hv _ _ _ hQ
  exact own_st (fun t q => st.trans q) (k _ _ X' hQ)
/-- .. of one of its superclasses -/
theorem Kup (vv : Option Value) {owner : String} (X : Stand p l e R s m args below meth c T locs cells slots) (B : own_B p c ml D) (hZ : Z.Warmed39 s.vm) (hown : s.vm.findClass own = some m.cls)
    (w1 : (Cond.methodLink own index x).before a0 Z = true) (w2 : (Cond.sameMethod x.cls owner x.name x.desc).before a0 Z = true) (w7 : (Cond.declares ⟨owner, x.name, x.desc⟩).before a0 Z = true) (w5 : (Cond.selects C x z).before a0 Z = true) (w6 : (Cond.instanceMethod z).before a0 Z = true) (w3 : (Cond.initialized z.cls).before a0 Z = true) (w4 : (Cond.code z bytes maxL ret).before a0 Z = true)
    (hM : own_M l Z z bytes maxL ret rm ((.ref b :: argsL).toArray) h Q)
    (eT : T.heap = h) (E : Exa Z h b C) (hpd : parseMethodDescriptor x.desc = some sig) (ix : Nat) (hd : D[ix]? = some (pc, .invokevirtual index, 3)) (hs : S = argsL.reverse ++ .ref b :: rest) (hwt : (rest.map fun v => v.category).sum = wt) (hv : ∀ v h' L, Q v h' L → v = vv)
    (k : ∀ T' L, Stand p l e R s m args below meth c T' (locs ++ L) (cells + rm.cells) (slots + rm.slots) → Q vv T'.heap L → own_Go p.tables e below P T' (mkF m (pc + 3) Ls (vv.toList ++ rest)))
    (hml : Ls.size = ml := by rfl) (hn : argsL.length = sig.parameters.length := by rfl) (hy : owner ≠ "java/lang/invoke/MethodHandle" ∧ owner ≠ "java/lang/invoke/VarHandle" := by decide) (hf : rm.frames + 1 ≤ R.frames := by decide) (hl : wt + (maxL + 11) + rm.locals ≤ R.locals := by decide) (hc : cells + rm.cells ≤ R.cells := by decide) (hsl : slots + rm.slots ≤ R.slots := by decide) : own_Go p.tables e below P T (mkF m pc Ls S) := by
  subst hs
  obtain ⟨cq, kq, q1, q2, q3⟩ := isOf hZ eT E
  obtain ⟨v, vm1, ⟨T', L', k', n'⟩, -, X', ⟨Lc, hQ, l1, y1, z1⟩, st⟩ := X.virtualBackUp B.x (x := x) (y := z) hown (mvT hZ w1) (mvT hZ w2) (mvT hZ w7) hy (mvT hZ w5) (mvT hZ w6) (backOf (W := wt) hM hZ w4 w3 hf hl) q1 q3 (g := mkF m pc Ls _) rfl (B.m hml) (Steps.refl _) (argsL := argsL) (rest := rest) (fun s' q => by rw [hpd] at q; cases q; exact hn) rfl (by rw [hwt]; exact Nat.le_of_eq (by show 2 * 0 + wt = wt; omega)) (B.d ix hd) (fun _ _ => ⟨rfl, eT, hc, hsl⟩)
  dsimp only [Pt.U, Pt.locs, Pt.cells, Pt.slots] at X' l1 y1 z1 st hQ
  subst l1 y1 z1
  obtain rfl := hv _ _ _ hQ
  exact own_st (fun t q => st.trans q) (k _ _ X' hQ)
/-- an interface's method -/
theorem Kin (vv : Option Value) (X : Stand p l e R s m args below meth c T locs cells slots) (B : own_B p c ml D) (hZ : Z.Warmed39 s.vm) (hown : s.vm.findClass own = some m.cls)
    (w1 : (Cond.methodLink own index x).before a0 Z = true) (w2 : (Cond.declares x).before a0 Z = true) (w7 : (Cond.interfaceMethod x.cls x.cls x.name x.desc).before args s = true) (w5 : (Cond.selects C x z).before a0 Z = true) (w6 : (Cond.instanceMethod z).before a0 Z = true) (w8 : (Cond.publicMethod z).before a0 Z = true) (w9 : (Cond.unhidden C x.name x.desc).before a0 Z = true) (w10 : (Cond.castable C x.cls).before a0 Z = true) (w3 : (Cond.initialized z.cls).before a0 Z = true) (w4 : (Cond.code z bytes maxL ret).before a0 Z = true)
    (hM : own_M l Z z bytes maxL ret rm ((.ref b :: argsL).toArray) h Q)
    (eT : T.heap = h) (E : Exa Z h b C) (hpd : parseMethodDescriptor x.desc = some sig) (ix : Nat) (hd : D[ix]? = some (pc, .invokeinterface index count, 5)) (hs : S = argsL.reverse ++ .ref b :: rest) (hwt : (rest.map fun v => v.category).sum = wt) (hv : ∀ v h' L, Q v h' L → v = vv)
    (k : ∀ T' L, Stand p l e R s m args below meth c T' (locs ++ L) (cells + rm.cells) (slots + rm.slots) → Q vv T'.heap L → own_Go p.tables e below P T' (mkF m (pc + 5) Ls (vv.toList ++ rest)))
    (hml : Ls.size = ml := by rfl) (hn : argsL.length = sig.parameters.length := by rfl) (hy : x.cls ≠ "java/lang/invoke/MethodHandle" ∧ x.cls ≠ "java/lang/invoke/VarHandle" := by decide) (hf : rm.frames + 1 ≤ R.frames := by decide) (hl : wt + (maxL + 11) + rm.locals ≤ R.locals := by decide) (hc : cells + rm.cells ≤ R.cells := by decide) (hsl : slots + rm.slots ≤ R.slots := by decide) : own_Go p.tables e below P T (mkF m pc Ls S) := by
  subst hs
  obtain ⟨cq, kq, q1, q2, q3⟩ := isOf hZ eT E
  obtain ⟨v, vm1, ⟨T', L', k', n'⟩, -, X', ⟨Lc, hQ, l1, y1, z1⟩, st⟩ := X.interfaceBack B.x (xi := x) (y := z) hown (mvT hZ w1) (mvT hZ w2) w7 (mvT hZ w5) (mvT hZ w6) (mvT hZ w8) (mvT hZ w9) (mvT hZ w10) hy (backOf (W := wt) hM hZ w4 w3 hf hl) q1 q2 q3 (g := mkF m pc Ls _) rfl (B.m hml) (Steps.refl _) (argsL := argsL) (rest := rest) (fun s' q => by rw [hpd] at q; cases q; exact hn) rfl (by rw [hwt]; exact Nat.le_of_eq (by show 2 * 0 + wt = wt; omega)) (B.d ix hd) (fun _ _ => ⟨rfl, eT, hc, hsl⟩)
  dsimp only [Pt.U, Pt.locs, Pt.cells, Pt.slots] at X' l1 y1 z1 st hQ
  subst l1 y1 z1
  obtain rfl := hv _ _ _ hQ
  exact own_st (fun t q => st.trans q) (k _ _ X' hQ)
/-- a private method -/
theorem Kpr (vv : Option Value) (X : Stand p l e R s m args below meth c T locs cells slots) (B : own_B p c ml D) (hZ : Z.Warmed39 s.vm) (hown : s.vm.findClass own = some m.cls)
    (w1 : (Cond.methodLink own index y).before a0 Z = true) (w2 : (Cond.instanceMethod y).before a0 Z = true) (w5 : (Cond.selects y.cls y y).before args s = true) (w6 : (Cond.privateMethod y).before a0 Z = true) (w3 : (Cond.initialized y.cls).before a0 Z = true) (w4 : (Cond.code y bytes maxL ret).before a0 Z = true)
    (hM : own_M l Z y bytes maxL ret rm ((.ref b :: argsL).toArray) h Q)
    (eT : T.heap = h) (E : Exa Z h b C) (hpd : parseMethodDescriptor y.desc = some sig) (ix : Nat) (hd : D[ix]? = some (pc, .invokevirtual index, 3)) (hs : S = argsL.reverse ++ .ref b :: rest) (hwt : (rest.map fun v => v.category).sum = wt) (hv : ∀ v h' L, Q v h' L → v = vv)
    (k : ∀ T' L, Stand p l e R s m args below meth c T' (locs ++ L) (cells + rm.cells) (slots + rm.slots) → Q vv T'.heap L → own_Go p.tables e below P T' (mkF m (pc + 3) Ls (vv.toList ++ rest)))
    (hml : Ls.size = ml := by rfl) (hn : argsL.length = sig.parameters.length := by rfl) (hy : y.cls ≠ "java/lang/invoke/MethodHandle" ∧ y.cls ≠ "java/lang/invoke/VarHandle" := by decide) (hf : rm.frames + 1 ≤ R.frames := by decide) (hl : wt + (maxL + 11) + rm.locals ≤ R.locals := by decide) (hc : cells + rm.cells ≤ R.cells := by decide) (hsl : slots + rm.slots ≤ R.slots := by decide) : own_Go p.tables e below P T (mkF m pc Ls S) := by
  subst hs
  obtain ⟨cq, q1, q2⟩ := E.cell
  obtain ⟨v, vm1, ⟨T', L', k', n'⟩, -, X', ⟨Lc, hQ, l1, y1, z1⟩, st⟩ := X.privateBack B.x (y := y) hown (mvT hZ w1) (mvT hZ w2) w5 (Cond.privateMethod_at (mvP hZ w6 (args := #[]))) (mvT hZ w4) hy (backOf (W := wt) hM hZ w4 w3 hf hl) (g := mkF m pc Ls _) rfl (B.m hml) (Steps.refl _) (a := b) (by rw [eT]; exact q1) q2 (argsL := argsL) (rest := rest) (fun s' q => by rw [hpd] at q; cases q; exact hn) rfl (by rw [hwt]; exact Nat.le_of_eq (by show 2 * 0 + wt = wt; omega)) (B.d ix hd) (fun _ _ => ⟨rfl, eT, hc, hsl⟩)
  dsimp only [Pt.U, Pt.locs, Pt.cells, Pt.slots] at X' l1 y1 z1 st hQ
  subst l1 y1 z1
  obtain rfl := hv _ _ _ hQ
  exact own_st (fun t q => st.trans q) (k _ _ X' hQ)
/-- getfield -/
theorem Kgf {R0 O n d : String} {v : Value} (X : Stand p l e R s m args below meth c T locs cells slots) (B : own_B p c ml D) (hZ : Z.Warmed39 s.vm) (hown : s.vm.findClass own = some m.cls) (w : (Cond.fieldLink own index R0 n d).before a0 Z = true) (via : Via Z R0 O n d) (eT : T.heap = h) (F : Fld Z h b O n d v) (ix : Nat) (hd : D[ix]? = some (pc, .getfield index, 3))
    (k : ∀ T', Stand p l e R s m args below meth c T' locs cells slots → T'.heap = h → own_Go p.tables e below P T' (mkF m (pc + 3) Ls (v :: S))) : own_Go p.tables e below P T (mkF m pc Ls (.ref b :: S)) := by
  obtain ⟨T', X', e', st⟩ := getF X B.x hZ hown (host := "") (Or.inl w) via eT F (g := mkF m pc Ls (.ref b :: S)) rfl rfl (B.d ix hd)
  exact own_st st (k T' X' e')
end own_k
abbrev sI (x : Int32) : Slot := .val (.int x)
abbrev sJ (x : Int64) : Slot := .val (.long x)
abbrev sR (x : Addr) : Slot := .val (.ref x)
abbrev kLW : String := "com/example/tidemark/tidemark/core/ColourProfileRetainShownPinLaw"
abbrev kAR : String := "com/example/tidemark/tidemark/core/ArgumentRules"
abbrev kCP : String := "com/example/tidemark/tidemark/core/ColourProfile"
abbrev kDV : String := "com/example/tidemark/tidemark/core/DistinctValues"
abbrev kSW : String := "com/example/tidemark/tidemark/core/Sweep"
abbrev kST : String := "com/example/tidemark/tidemark/core/Stretches"
abbrev kTB : String := "com/example/tidemark/tidemark/core/TaskBounds"
abbrev kTC : String := "com/example/tidemark/tidemark/core/TaskColours"
abbrev kDQ : String := "java/util/DualPivotQuicksort"
abbrev kOI : String := "java/util/OptionalInt"
abbrev ym1 : MethodName := ⟨kAR, "requireNonNegative", "(Ljava/lang/String;I)V"⟩
abbrev ym2 : MethodName := ⟨kTB, "<init>", "(I)V"⟩
abbrev ym3 : MethodName := ⟨kTB, "set", "([I[IIII)V"⟩
abbrev ym4 : MethodName := ⟨kTB, "setEnd", "(III)V"⟩
abbrev ym5 : MethodName := ⟨kTB, "setOrigin", "(III)V"⟩
abbrev ym6 : MethodName := ⟨kTB, "count", "()I"⟩
abbrev ym7 : MethodName := ⟨kTB, "originMax", "(I)I"⟩
abbrev ym8 : MethodName := ⟨kTB, "endMin", "(I)I"⟩
abbrev ym9 : MethodName := ⟨kTC, "<init>", "(I)V"⟩
abbrev ym10 : MethodName := ⟨kTC, "set", "(III)V"⟩
abbrev ym11 : MethodName := ⟨kTC, "min", "(I)I"⟩
abbrev ym12 : MethodName := ⟨kTC, "isFixed", "(I)Z"⟩
abbrev ym13 : MethodName := ⟨kSW, "event", "(II)J"⟩
abbrev ym14 : MethodName := ⟨kSW, "point", "(J)I"⟩
abbrev ym15 : MethodName := ⟨kSW, "task", "(J)I"⟩
abbrev ym16 : MethodName := ⟨kSW, "<init>", "(I)V"⟩
abbrev ym17 : MethodName := ⟨kSW, "clear", "()V"⟩
abbrev ym18 : MethodName := ⟨kSW, "add", "(III)V"⟩
abbrev ym19 : MethodName := ⟨"java/lang/Math", "max", "(II)I"⟩
abbrev ym20 : MethodName := ⟨kST, "<init>", "(I)V"⟩
abbrev ym21 : MethodName := ⟨kCP, "<init>", "(II)V"⟩
abbrev ym22 : MethodName := ⟨kST, "clear", "()V"⟩
abbrev ym23 : MethodName := ⟨kST, "add", "(II)I"⟩
abbrev ym24 : MethodName := ⟨kDV, "count", "()I"⟩
abbrev ym25 : MethodName := ⟨kDV, "enter", "(I)V"⟩
abbrev ym26 : MethodName := ⟨kDV, "leave", "(I)V"⟩
abbrev ym27 : MethodName := ⟨"java/util/Arrays", "rangeCheck", "(III)V"⟩
abbrev ym28 : MethodName := ⟨kDQ, "insertionSort", "([III)V"⟩
abbrev ym29 : MethodName := ⟨kDQ, "sort", "(Ljava/util/DualPivotQuicksort$Sorter;[IIII)V"⟩
abbrev ym30 : MethodName := ⟨kDQ, "sort", "([IIII)V"⟩
abbrev ym31 : MethodName := ⟨"java/util/Arrays", "sort", "([I)V"⟩
abbrev ym32 : MethodName := ⟨"java/util/Arrays", "sort", "([III)V"⟩
abbrev ym33 : MethodName := ⟨kDQ, "insertionSort", "([JII)V"⟩
abbrev ym34 : MethodName := ⟨kDQ, "sort", "(Ljava/util/DualPivotQuicksort$Sorter;[JIII)V"⟩
abbrev ym35 : MethodName := ⟨kDQ, "sort", "([JIII)V"⟩
abbrev ym36 : MethodName := ⟨"java/util/Arrays", "sort", "([JII)V"⟩
abbrev ym37 : MethodName := ⟨"java/lang/Math", "min", "(II)I"⟩
abbrev ym38 : MethodName := ⟨"java/util/Arrays", "copyOf", "([II)[I"⟩
abbrev ym39 : MethodName := ⟨"java/util/Arrays", "binarySearch0", "([IIII)I"⟩
abbrev ym40 : MethodName := ⟨"java/util/Arrays", "binarySearch", "([II)I"⟩
abbrev ym41 : MethodName := ⟨kDV, "<init>", "([I)V"⟩
abbrev ym42 : MethodName := ⟨kDV, "copyValues", "([II)V"⟩
abbrev ym43 : MethodName := ⟨"java/lang/Math", "multiplyExact", "(II)I"⟩
abbrev ym44 : MethodName := ⟨kCP, "add", "(II)I"⟩
abbrev ym45 : MethodName := ⟨kCP, "layFull", "(Lcom/example/tidemark/tidemark/core/DistinctValues;II)Z"⟩
abbrev ym46 : MethodName := ⟨kCP, "lambda$build$0", "(Lcom/example/tidemark/tidemark/core/DistinctValues;II)Z"⟩
abbrev ym47 : MethodName := ⟨kSW, "next", "(II)I"⟩
abbrev ym48 : MethodName := ⟨kOI, "empty", "()Ljava/util/OptionalInt;"⟩
abbrev ym49 : MethodName := ⟨"com/example/tidemark/tidemark/core/Sweep$Tally", "enter", "(I)V"⟩
abbrev ym50 : MethodName := ⟨"com/example/tidemark/tidemark/core/Sweep$Tally", "leave", "(I)V"⟩
abbrev ym51 : MethodName := ⟨kSW, "walk", "(Lcom/example/tidemark/tidemark/core/Sweep$Tally;Lcom/example/tidemark/tidemark/core/Sweep$Visitor;)Ljava/util/OptionalInt;"⟩
abbrev ym52 : MethodName := ⟨kOI, "isEmpty", "()Z"⟩
abbrev ym53 : MethodName := ⟨kCP, "clear", "()V"⟩
abbrev ym54 : MethodName := ⟨kCP, "build", "(Lcom/example/tidemark/tidemark/core/TaskBounds;Lcom/example/tidemark/tidemark/core/TaskColours;)Z"⟩
abbrev ym55 : MethodName := ⟨kCP, "retainShown", "(I[II)I"⟩
abbrev ym56 : MethodName := ⟨kLW, "pick", "(IIIII)I"⟩
abbrev qc1 : ByteArray := prog_15_method_2_code
abbrev qc2 : ByteArray := prog_44_method_1_code
abbrev qc3 : ByteArray := prog_44_method_24_code
abbrev qc4 : ByteArray := prog_44_method_6_code
abbrev qc5 : ByteArray := prog_44_method_4_code
abbrev qc6 : ByteArray := prog_44_method_2_code
abbrev qc7 : ByteArray := prog_44_method_9_code
abbrev qc8 : ByteArray := prog_44_method_12_code
abbrev qc9 : ByteArray := prog_45_method_1_code
abbrev qc10 : ByteArray := prog_45_method_3_code
abbrev qc11 : ByteArray := prog_45_method_4_code
abbrev qc12 : ByteArray := prog_45_method_8_code
abbrev qc13 : ByteArray := prog_40_method_8_code
abbrev qc14 : ByteArray := prog_40_method_9_code
abbrev qc15 : ByteArray := prog_40_method_10_code
abbrev qc16 : ByteArray := prog_40_method_1_code
abbrev qc17 : ByteArray := prog_40_method_2_code
abbrev qc18 : ByteArray := prog_40_method_3_code
abbrev qc19 : ByteArray := jdk_29_method_65_code
abbrev qc20 : ByteArray := prog_38_method_1_code
abbrev qc21 : ByteArray := prog_17_method_1_code
abbrev qc22 : ByteArray := prog_38_method_2_code
abbrev qc23 : ByteArray := prog_38_method_3_code
abbrev qc24 : ByteArray := prog_28_method_4_code
abbrev qc25 : ByteArray := prog_28_method_2_code
abbrev qc26 : ByteArray := prog_28_method_3_code
abbrev qc27 : ByteArray := jdk_65_method_30_code
abbrev qc28 : ByteArray := jdk_2529_method_6_code
abbrev qc29 : ByteArray := jdk_2529_method_4_code
abbrev qc30 : ByteArray := jdk_2529_method_3_code
abbrev qc31 : ByteArray := jdk_65_method_2_code
abbrev qc32 : ByteArray := jdk_65_method_3_code
abbrev qc33 : ByteArray := jdk_2529_method_15_code
abbrev qc34 : ByteArray := jdk_2529_method_13_code
abbrev qc35 : ByteArray := jdk_2529_method_12_code
abbrev qc36 : ByteArray := jdk_65_method_5_code
abbrev qc37 : ByteArray := jdk_29_method_69_code
abbrev qc38 : ByteArray := jdk_65_method_123_code
abbrev qc39 : ByteArray := jdk_65_method_59_code
abbrev qc40 : ByteArray := jdk_65_method_57_code
abbrev qc41 : ByteArray := prog_28_method_1_code
abbrev qc42 : ByteArray := prog_28_method_5_code
abbrev qc43 : ByteArray := jdk_29_method_28_code
abbrev qc44 : ByteArray := prog_17_method_3_code
abbrev qc45 : ByteArray := prog_17_method_9_code
abbrev qc46 : ByteArray := prog_40_method_5_code
abbrev qc47 : ByteArray := jdk_2649_method_2_code
abbrev qc48 : ByteArray := prog_40_method_4_code
abbrev qc49 : ByteArray := jdk_2649_method_7_code
abbrev qc50 : ByteArray := prog_17_method_2_code
abbrev qc51 : ByteArray := prog_17_method_8_code
abbrev qc52 : ByteArray := method_2_code
theorem dd {cb : ByteArray} {l : List (Nat × Instr × Nat)} (L : ∀ q ∈ l, decode cb q.1 = .ok q.2) (i : Nat) {pc ln : Nat} {ins : Instr} (h : l[i]? = some (pc, ins, ln)) : decode cb pc = .ok (ins, ln) := L (pc, ins, ln) (List.mem_of_getElem? h)
abbrev dl1 : own_DT := [(0, .iload_n 1, 1), (1, .ifCond .ge 18, 3), (19, .return_, 1)]
theorem DL1 : own_L qc1 dl1 := by decide +kernel
abbrev dl2 : own_DT := [(0, .aload_n 0, 1), (1, .invokespecial 1, 3), (4, .ldc 7, 2), (6, .iload_n 1, 1), (7, .invokestatic 9, 3), (10, .aload_n 0, 1), (11, .iload_n 1, 1), (12, .newarray .int, 2), (14, .putfield 15, 3), (17, .aload_n 0, 1), (18, .iload_n 1, 1), (19, .newarray .int, 2), (21, .putfield 21, 3), (24, .aload_n 0, 1), (25, .iload_n 1, 1), (26, .newarray .int, 2), (28, .putfield 24, 3), (31, .aload_n 0, 1), (32, .iload_n 1, 1), (33, .newarray .int, 2), (35, .putfield 27, 3), (38, .aload_n 0, 1), (39, .iload_n 1, 1), (40, .newarray .int, 2), (42, .putfield 30, 3), (45, .aload_n 0, 1), (46, .iload_n 1, 1), (47, .newarray .int, 2), (49, .putfield 33, 3), (52, .aload_n 0, 1), (53, .iload_n 1, 1), (54, .newarray .int, 2), (56, .putfield 36, 3), (59, .aload_n 0, 1), (60, .iload_n 1, 1), (61, .newarray .int, 2), (63, .putfield 39, 3), (66, .return_, 1)]
theorem DL2 : own_L qc2 dl2 := by decide +kernel
abbrev dl3 : own_DT := [(0, .iload_n 3, 1), (1, .iload 4, 2), (3, .if_icmp .le 19, 3), (22, .aload_n 0, 1), (23, .iload_n 2, 1), (24, .iload_n 3, 1), (25, .iastore, 1), (26, .aload_n 1, 1), (27, .iload_n 2, 1), (28, .iload 4, 2), (30, .iastore, 1), (31, .return_, 1)]
theorem DL3 : own_L qc3 dl3 := by decide +kernel
abbrev dl4 : own_DT := [(0, .aload_n 0, 1), (1, .getfield 30, 3), (4, .aload_n 0, 1), (5, .getfield 33, 3), (8, .iload_n 1, 1), (9, .iload_n 2, 1), (10, .iload_n 3, 1), (11, .invokestatic 55, 3), (14, .return_, 1)]
theorem DL4 : own_L qc4 dl4 := by decide +kernel
abbrev dl5 : own_DT := [(0, .aload_n 0, 1), (1, .getfield 15, 3), (4, .aload_n 0, 1), (5, .getfield 21, 3), (8, .iload_n 1, 1), (9, .iload_n 2, 1), (10, .iload_n 3, 1), (11, .invokestatic 55, 3), (14, .return_, 1)]
theorem DL5 : own_L qc5 dl5 := by decide +kernel
abbrev dl6 : own_DT := [(0, .aload_n 0, 1), (1, .getfield 15, 3), (4, .arraylength, 1), (5, .ireturn, 1)]
theorem DL6 : own_L qc6 dl6 := by decide +kernel
abbrev dl7 : own_DT := [(0, .aload_n 0, 1), (1, .getfield 21, 3), (4, .iload_n 1, 1), (5, .iaload, 1), (6, .ireturn, 1)]
theorem DL7 : own_L qc7 dl7 := by decide +kernel
abbrev dl8 : own_DT := [(0, .aload_n 0, 1), (1, .getfield 30, 3), (4, .iload_n 1, 1), (5, .iaload, 1), (6, .ireturn, 1)]
theorem DL8 : own_L qc8 dl8 := by decide +kernel
abbrev dl9 : own_DT := [(0, .aload_n 0, 1), (1, .invokespecial 1, 3), (4, .ldc 7, 2), (6, .iload_n 1, 1), (7, .invokestatic 9, 3), (10, .aload_n 0, 1), (11, .iload_n 1, 1), (12, .newarray .int, 2), (14, .putfield 15, 3), (17, .aload_n 0, 1), (18, .iload_n 1, 1), (19, .newarray .int, 2), (21, .putfield 21, 3), (24, .aload_n 0, 1), (25, .iload_n 1, 1), (26, .anewarray 24, 3), (29, .putfield 25, 3), (32, .return_, 1)]
theorem DL9 : own_L qc9 dl9 := by decide +kernel
abbrev dl10 : own_DT := [(0, .iload_n 2, 1), (1, .iload_n 3, 1), (2, .if_icmp .le 18, 3), (20, .aload_n 0, 1), (21, .getfield 15, 3), (24, .iload_n 1, 1), (25, .iload_n 2, 1), (26, .iastore, 1), (27, .aload_n 0, 1), (28, .getfield 21, 3), (31, .iload_n 1, 1), (32, .iload_n 3, 1), (33, .iastore, 1), (34, .aload_n 0, 1), (35, .getfield 25, 3), (38, .iload_n 1, 1), (39, .aconst_null, 1), (40, .aastore, 1), (41, .return_, 1)]
theorem DL10 : own_L qc10 dl10 := by decide +kernel
abbrev dl11 : own_DT := [(0, .aload_n 0, 1), (1, .getfield 15, 3), (4, .iload_n 1, 1), (5, .iaload, 1), (6, .ireturn, 1)]
theorem DL11 : own_L qc11 dl11 := by decide +kernel
abbrev dl12 : own_DT := [(0, .aload_n 0, 1), (1, .getfield 15, 3), (4, .iload_n 1, 1), (5, .iaload, 1), (6, .aload_n 0, 1), (7, .getfield 21, 3), (10, .iload_n 1, 1), (11, .iaload, 1), (12, .if_icmp .ne 7, 3), (15, .iconst 1, 1), (16, .goto 4, 3), (20, .ireturn, 1)]
theorem DL12 : own_L qc12 dl12 := by decide +kernel
abbrev dl13 : own_DT := [(0, .iload_n 0, 1), (1, .i2l, 1), (2, .bipush 32, 2), (4, .lshl, 1), (5, .iload_n 1, 1), (6, .i2l, 1), (7, .lor, 1), (8, .lreturn, 1)]
theorem DL13 : own_L qc13 dl13 := by decide +kernel
abbrev dl14 : own_DT := [(0, .lload_n 0, 1), (1, .bipush 32, 2), (3, .lshr, 1), (4, .l2i, 1), (5, .ireturn, 1)]
theorem DL14 : own_L qc14 dl14 := by decide +kernel
abbrev dl15 : own_DT := [(0, .lload_n 0, 1), (1, .l2i, 1), (2, .ireturn, 1)]
theorem DL15 : own_L qc15 dl15 := by decide +kernel
abbrev dl16 : own_DT := [(0, .aload_n 0, 1), (1, .invokespecial 1, 3), (4, .aload_n 0, 1), (5, .iload_n 1, 1), (6, .newarray .long, 2), (8, .putfield 7, 3), (11, .aload_n 0, 1), (12, .iload_n 1, 1), (13, .newarray .long, 2), (15, .putfield 13, 3), (18, .return_, 1)]
theorem DL16 : own_L qc16 dl16 := by decide +kernel
abbrev dl17 : own_DT := [(0, .aload_n 0, 1), (1, .iconst 0, 1), (2, .putfield 16, 3), (5, .aload_n 0, 1), (6, .iconst 0, 1), (7, .putfield 20, 3), (10, .return_, 1)]
theorem DL17 : own_L qc17 dl17 := by decide +kernel
abbrev dl18 : own_DT := [(0, .aload_n 0, 1), (1, .getfield 16, 3), (4, .aload_n 0, 1), (5, .getfield 7, 3), (8, .arraylength, 1), (9, .if_icmp .ne 41, 3), (50, .aload_n 0, 1), (51, .iconst 0, 1), (52, .putfield 20, 3), (55, .aload_n 0, 1), (56, .getfield 7, 3), (59, .aload_n 0, 1), (60, .getfield 16, 3), (63, .iload_n 2, 1), (64, .iload_n 1, 1), (65, .invokestatic 36, 3), (68, .lastore, 1), (69, .aload_n 0, 1), (70, .getfield 13, 3), (73, .aload_n 0, 1), (74, .getfield 16, 3), (77, .iload_n 3, 1), (78, .iload_n 1, 1), (79, .invokestatic 36, 3), (82, .lastore, 1), (83, .aload_n 0, 1), (84, .dup, 1), (85, .getfield 16, 3), (88, .iconst 1, 1), (89, .iadd, 1), (90, .putfield 16, 3), (93, .return_, 1)]
theorem DL18 : own_L qc18 dl18 := by decide +kernel
abbrev dl19 : own_DT := [(0, .iload_n 0, 1), (1, .iload_n 1, 1), (2, .if_icmp .lt 7, 3), (5, .iload_n 0, 1), (6, .goto 4, 3), (9, .iload_n 1, 1), (10, .ireturn, 1)]
theorem DL19 : own_L qc19 dl19 := by decide +kernel
abbrev dl20 : own_DT := [(0, .aload_n 0, 1), (1, .invokespecial 1, 3), (4, .aload_n 0, 1), (5, .iload_n 1, 1), (6, .newarray .int, 2), (8, .putfield 7, 3), (11, .aload_n 0, 1), (12, .iload_n 1, 1), (13, .newarray .int, 2), (15, .putfield 13, 3), (18, .return_, 1)]
theorem DL20 : own_L qc20 dl20 := by decide +kernel
abbrev dl21 : own_DT := [(0, .aload_n 0, 1), (1, .iconst 1, 1), (2, .iconst 2, 1), (3, .iload_n 1, 1), (4, .imul, 1), (5, .invokestatic 1, 3), (8, .invokespecial 7, 3), (11, .aload_n 0, 1), (12, .iconst 0, 1), (13, .newarray .int, 2), (15, .putfield 13, 3), (18, .aload_n 0, 1), (19, .iload_n 2, 1), (20, .putfield 19, 3), (23, .aload_n 0, 1), (24, .new 23, 3), (27, .dup, 1), (28, .iload_n 1, 1), (29, .invokespecial 25, 3), (32, .putfield 26, 3), (35, .return_, 1)]
theorem DL21 : own_L qc21 dl21 := by decide +kernel
abbrev dl22 : own_DT := [(0, .aload_n 0, 1), (1, .iconst 0, 1), (2, .putfield 16, 3), (5, .return_, 1)]
theorem DL22 : own_L qc22 dl22 := by decide +kernel
abbrev dl23 : own_DT := [(0, .aload_n 0, 1), (1, .getfield 7, 3), (4, .aload_n 0, 1), (5, .getfield 16, 3), (8, .iload_n 1, 1), (9, .iastore, 1), (10, .aload_n 0, 1), (11, .getfield 13, 3), (14, .aload_n 0, 1), (15, .getfield 16, 3), (18, .iload_n 2, 1), (19, .iastore, 1), (20, .aload_n 0, 1), (21, .dup, 1), (22, .getfield 16, 3), (25, .dup_x1, 1), (26, .iconst 1, 1), (27, .iadd, 1), (28, .putfield 16, 3), (31, .ireturn, 1)]
theorem DL23 : own_L qc23 dl23 := by decide +kernel
abbrev dl24 : own_DT := [(0, .aload_n 0, 1), (1, .getfield 47, 3), (4, .ireturn, 1)]
theorem DL24 : own_L qc24 dl24 := by decide +kernel
abbrev dl25 : own_DT := [(0, .aload_n 0, 1), (1, .getfield 28, 3), (4, .iload_n 1, 1), (5, .iaload, 1), (6, .istore_n 2, 1), (7, .aload_n 0, 1), (8, .getfield 38, 3), (11, .iload_n 2, 1), (12, .dup2, 1), (13, .iaload, 1), (14, .iload_n 1, 1), (15, .ixor, 1), (16, .iastore, 1), (17, .aload_n 0, 1), (18, .getfield 35, 3), (21, .iload_n 2, 1), (22, .dup2, 1), (23, .iaload, 1), (24, .dup_x2, 1), (25, .iconst 1, 1), (26, .iadd, 1), (27, .iastore, 1), (28, .ifCond .ne 33, 3), (31, .aload_n 0, 1), (32, .getfield 41, 3), (35, .aload_n 0, 1), (36, .getfield 47, 3), (39, .iload_n 2, 1), (40, .iastore, 1), (41, .aload_n 0, 1), (42, .getfield 44, 3), (45, .iload_n 2, 1), (46, .aload_n 0, 1), (47, .getfield 47, 3), (50, .iastore, 1), (51, .aload_n 0, 1), (52, .dup, 1), (53, .getfield 47, 3), (56, .iconst 1, 1), (57, .iadd, 1), (58, .putfield 47, 3), (61, .return_, 1)]
theorem DL25 : own_L qc25 dl25 := by decide +kernel
abbrev dl26 : own_DT := [(0, .aload_n 0, 1), (1, .getfield 28, 3), (4, .iload_n 1, 1), (5, .iaload, 1), (6, .istore_n 2, 1), (7, .aload_n 0, 1), (8, .getfield 38, 3), (11, .iload_n 2, 1), (12, .dup2, 1), (13, .iaload, 1), (14, .iload_n 1, 1), (15, .ixor, 1), (16, .iastore, 1), (17, .aload_n 0, 1), (18, .getfield 35, 3), (21, .iload_n 2, 1), (22, .dup2, 1), (23, .iaload, 1), (24, .iconst 1, 1), (25, .isub, 1), (26, .dup_x2, 1), (27, .iastore, 1), (28, .ifCond .ne 47, 3), (31, .aload_n 0, 1), (32, .dup, 1), (33, .getfield 47, 3), (36, .iconst 1, 1), (37, .isub, 1), (38, .putfield 47, 3), (41, .aload_n 0, 1), (42, .getfield 41, 3), (45, .aload_n 0, 1), (46, .getfield 47, 3), (49, .iaload, 1), (50, .istore_n 3, 1), (51, .aload_n 0, 1), (52, .getfield 41, 3), (55, .aload_n 0, 1), (56, .getfield 44, 3), (59, .iload_n 2, 1), (60, .iaload, 1), (61, .iload_n 3, 1), (62, .iastore, 1), (63, .aload_n 0, 1), (64, .getfield 44, 3), (67, .iload_n 3, 1), (68, .aload_n 0, 1), (69, .getfield 44, 3), (72, .iload_n 2, 1), (73, .iaload, 1), (74, .iastore, 1), (75, .return_, 1)]
theorem DL26 : own_L qc26 dl26 := by decide +kernel
abbrev dl27 : own_DT := [(0, .iload_n 1, 1), (1, .iload_n 2, 1), (2, .if_icmp .le 44, 3), (46, .iload_n 1, 1), (47, .ifCond .ge 12, 3), (59, .iload_n 2, 1), (60, .iload_n 0, 1), (61, .if_icmp .le 12, 3), (73, .return_, 1)]
theorem DL27 : own_L qc27 dl27 := by decide +kernel
abbrev dl28 : own_DT := [(0, .iload_n 1, 1), (1, .istore 4, 2), (3, .iinc 4 1, 3), (6, .iload 4, 2), (8, .iload_n 2, 1), (9, .if_icmp .ge 58, 3), (12, .aload_n 0, 1), (13, .iload 4, 2), (15, .dup, 1), (16, .istore_n 3, 1), (17, .iaload, 1), (18, .istore 5, 2), (20, .iload 5, 2), (22, .aload_n 0, 1), (23, .iload_n 3, 1), (24, .iconst 1, 1), (25, .isub, 1), (26, .iaload, 1), (27, .if_icmp .ge 37, 3), (30, .iinc 3 (-1), 3), (33, .iload_n 3, 1), (34, .iload_n 1, 1), (35, .if_icmp .lt 22, 3), (38, .iload 5, 2), (40, .aload_n 0, 1), (41, .iload_n 3, 1), (42, .iaload, 1), (43, .if_icmp .ge 14, 3), (46, .aload_n 0, 1), (47, .iload_n 3, 1), (48, .iconst 1, 1), (49, .iadd, 1), (50, .aload_n 0, 1), (51, .iload_n 3, 1), (52, .iaload, 1), (53, .iastore, 1), (54, .goto (-24), 3), (57, .aload_n 0, 1), (58, .iload_n 3, 1), (59, .iconst 1, 1), (60, .iadd, 1), (61, .iload 5, 2), (63, .iastore, 1), (64, .goto (-61), 3), (67, .return_, 1)]
theorem DL28 : own_L qc28 dl28 := by decide +kernel
abbrev dl29 : own_DT := [(0, .iload 4, 2), (2, .iconst 1, 1), (3, .isub, 1), (4, .istore 5, 2), (6, .iload 4, 2), (8, .iload_n 3, 1), (9, .isub, 1), (10, .istore 6, 2), (12, .iload 6, 2), (14, .bipush 65, 2), (16, .iload_n 2, 1), (17, .iadd, 1), (18, .if_icmp .ge 28, 3), (21, .iload_n 2, 1), (22, .iconst 1, 1), (23, .iand, 1), (24, .ifCond .le 22, 3), (46, .iload 6, 2), (48, .bipush 44, 2), (50, .if_icmp .ge 11, 3), (53, .aload_n 1, 1), (54, .iload_n 3, 1), (55, .iload 4, 2), (57, .invokestatic 34, 3), (60, .return_, 1)]
theorem DL29 : own_L qc29 dl29 := by decide +kernel
abbrev dl30 : own_DT := [(0, .iload_n 3, 1), (1, .iload_n 2, 1), (2, .isub, 1), (3, .istore 4, 2), (5, .iload_n 1, 1), (6, .iconst 1, 1), (7, .if_icmp .le 61, 3), (68, .aconst_null, 1), (69, .aload_n 0, 1), (70, .iconst 0, 1), (71, .iload_n 2, 1), (72, .iload_n 3, 1), (73, .invokestatic 26, 3), (76, .return_, 1)]
theorem DL30 : own_L qc30 dl30 := by decide +kernel
abbrev dl31 : own_DT := [(0, .aload_n 0, 1), (1, .iconst 0, 1), (2, .iconst 0, 1), (3, .aload_n 0, 1), (4, .arraylength, 1), (5, .invokestatic 7, 3), (8, .return_, 1)]
theorem DL31 : own_L qc31 dl31 := by decide +kernel
abbrev dl32 : own_DT := [(0, .aload_n 0, 1), (1, .arraylength, 1), (2, .iload_n 1, 1), (3, .iload_n 2, 1), (4, .invokestatic 13, 3), (7, .aload_n 0, 1), (8, .iconst 0, 1), (9, .iload_n 1, 1), (10, .iload_n 2, 1), (11, .invokestatic 7, 3), (14, .return_, 1)]
theorem DL32 : own_L qc32 dl32 := by decide +kernel
abbrev dl33 : own_DT := [(0, .iload_n 1, 1), (1, .istore 4, 2), (3, .iinc 4 1, 3), (6, .iload 4, 2), (8, .iload_n 2, 1), (9, .if_icmp .ge 60, 3), (12, .aload_n 0, 1), (13, .iload 4, 2), (15, .dup, 1), (16, .istore_n 3, 1), (17, .laload, 1), (18, .lstore 5, 2), (20, .lload 5, 2), (22, .aload_n 0, 1), (23, .iload_n 3, 1), (24, .iconst 1, 1), (25, .isub, 1), (26, .laload, 1), (27, .lcmp, 1), (28, .ifCond .ge 38, 3), (31, .iinc 3 (-1), 3), (34, .iload_n 3, 1), (35, .iload_n 1, 1), (36, .if_icmp .lt 23, 3), (39, .lload 5, 2), (41, .aload_n 0, 1), (42, .iload_n 3, 1), (43, .laload, 1), (44, .lcmp, 1), (45, .ifCond .ge 14, 3), (48, .aload_n 0, 1), (49, .iload_n 3, 1), (50, .iconst 1, 1), (51, .iadd, 1), (52, .aload_n 0, 1), (53, .iload_n 3, 1), (54, .laload, 1), (55, .lastore, 1), (56, .goto (-25), 3), (59, .aload_n 0, 1), (60, .iload_n 3, 1), (61, .iconst 1, 1), (62, .iadd, 1), (63, .lload 5, 2), (65, .lastore, 1), (66, .goto (-63), 3), (69, .return_, 1)]
theorem DL33 : own_L qc33 dl33 := by decide +kernel
abbrev dl34 : own_DT := [(0, .iload 4, 2), (2, .iconst 1, 1), (3, .isub, 1), (4, .istore 5, 2), (6, .iload 4, 2), (8, .iload_n 3, 1), (9, .isub, 1), (10, .istore 6, 2), (12, .iload 6, 2), (14, .bipush 65, 2), (16, .iload_n 2, 1), (17, .iadd, 1), (18, .if_icmp .ge 28, 3), (21, .iload_n 2, 1), (22, .iconst 1, 1), (23, .iand, 1), (24, .ifCond .le 22, 3), (46, .iload 6, 2), (48, .bipush 44, 2), (50, .if_icmp .ge 11, 3), (53, .aload_n 1, 1), (54, .iload_n 3, 1), (55, .iload 4, 2), (57, .invokestatic 105, 3), (60, .return_, 1)]
theorem DL34 : own_L qc34 dl34 := by decide +kernel
abbrev dl35 : own_DT := [(0, .iload_n 3, 1), (1, .iload_n 2, 1), (2, .isub, 1), (3, .istore 4, 2), (5, .iload_n 1, 1), (6, .iconst 1, 1), (7, .if_icmp .le 61, 3), (68, .aconst_null, 1), (69, .aload_n 0, 1), (70, .iconst 0, 1), (71, .iload_n 2, 1), (72, .iload_n 3, 1), (73, .invokestatic 99, 3), (76, .return_, 1)]
theorem DL35 : own_L qc35 dl35 := by decide +kernel
abbrev dl36 : own_DT := [(0, .aload_n 0, 1), (1, .arraylength, 1), (2, .iload_n 1, 1), (3, .iload_n 2, 1), (4, .invokestatic 13, 3), (7, .aload_n 0, 1), (8, .iconst 0, 1), (9, .iload_n 1, 1), (10, .iload_n 2, 1), (11, .invokestatic 19, 3), (14, .return_, 1)]
theorem DL36 : own_L qc36 dl36 := by decide +kernel
abbrev dl37 : own_DT := [(0, .iload_n 0, 1), (1, .iload_n 1, 1), (2, .if_icmp .gt 7, 3), (5, .iload_n 0, 1), (6, .goto 4, 3), (9, .iload_n 1, 1), (10, .ireturn, 1)]
theorem DL37 : own_L qc37 dl37 := by decide +kernel
abbrev dl38 : own_DT := [(0, .iload_n 1, 1), (1, .aload_n 0, 1), (2, .arraylength, 1), (3, .if_icmp .ne 11, 3), (6, .aload_n 0, 1), (7, .invokevirtual 316, 3), (10, .checkcast 317, 3), (13, .areturn, 1), (14, .iload_n 1, 1), (15, .newarray .int, 2), (17, .astore_n 2, 1), (18, .aload_n 0, 1), (19, .iconst 0, 1), (20, .aload_n 2, 1), (21, .iconst 0, 1), (22, .aload_n 0, 1), (23, .arraylength, 1), (24, .iload_n 1, 1), (25, .invokestatic 304, 3), (28, .invokestatic 150, 3), (31, .aload_n 2, 1), (32, .areturn, 1)]
theorem DL38 : own_L qc38 dl38 := by decide +kernel
abbrev dl39 : own_DT := [(0, .iload_n 1, 1), (1, .istore 4, 2), (3, .iload_n 2, 1), (4, .iconst 1, 1), (5, .isub, 1), (6, .istore 5, 2), (8, .iload 4, 2), (10, .iload 5, 2), (12, .if_icmp .gt 54, 3), (15, .iload 4, 2), (17, .iload 5, 2), (19, .iadd, 1), (20, .iconst 1, 1), (21, .iushr, 1), (22, .istore 6, 2), (24, .aload_n 0, 1), (25, .iload 6, 2), (27, .iaload, 1), (28, .istore 7, 2), (30, .iload 7, 2), (32, .iload_n 3, 1), (33, .if_icmp .ge 12, 3), (36, .iload 6, 2), (38, .iconst 1, 1), (39, .iadd, 1), (40, .istore 4, 2), (42, .goto 21, 3), (45, .iload 7, 2), (47, .iload_n 3, 1), (48, .if_icmp .le 12, 3), (51, .iload 6, 2), (53, .iconst 1, 1), (54, .isub, 1), (55, .istore 5, 2), (57, .goto 6, 3), (60, .iload 6, 2), (62, .ireturn, 1), (63, .goto (-55), 3)]
theorem DL39 : own_L qc39 dl39 := by decide +kernel
abbrev dl40 : own_DT := [(0, .aload_n 0, 1), (1, .iconst 0, 1), (2, .aload_n 0, 1), (3, .arraylength, 1), (4, .iload_n 1, 1), (5, .invokestatic 209, 3), (8, .ireturn, 1)]
theorem DL40 : own_L qc40 dl40 := by decide +kernel
abbrev dl41 : own_DT := [(0, .aload_n 0, 1), (1, .invokespecial 1, 3), (4, .aload_n 1, 1), (5, .invokevirtual 7, 3), (8, .checkcast 8, 3), (11, .astore_n 2, 1), (12, .aload_n 2, 1), (13, .invokestatic 13, 3), (16, .iconst 0, 1), (17, .istore_n 3, 1), (18, .aload_n 2, 1), (19, .astore 4, 2), (21, .aload 4, 2), (23, .arraylength, 1), (24, .istore 5, 2), (26, .iconst 0, 1), (27, .istore 6, 2), (29, .iload 6, 2), (31, .iload 5, 2), (33, .if_icmp .ge 38, 3), (36, .aload 4, 2), (38, .iload 6, 2), (40, .iaload, 1), (41, .istore 7, 2), (43, .iload_n 3, 1), (44, .ifCond .eq 13, 3), (47, .aload_n 2, 1), (48, .iload_n 3, 1), (49, .iconst 1, 1), (50, .isub, 1), (51, .iaload, 1), (52, .iload 7, 2), (54, .if_icmp .eq 11, 3), (57, .aload_n 2, 1), (58, .iload_n 3, 1), (59, .iload 7, 2), (61, .iastore, 1), (62, .iinc 3 1, 3), (65, .iinc 6 1, 3), (68, .goto (-39), 3), (71, .aload_n 0, 1), (72, .aload_n 2, 1), (73, .iload_n 3, 1), (74, .invokestatic 19, 3), (77, .putfield 23, 3), (80, .aload_n 0, 1), (81, .aload_n 1, 1), (82, .arraylength, 1), (83, .newarray .int, 2), (85, .putfield 28, 3), (88, .iconst 0, 1), (89, .istore 4, 2), (91, .iload 4, 2), (93, .aload_n 1, 1), (94, .arraylength, 1), (95, .if_icmp .ge 27, 3), (98, .aload_n 0, 1), (99, .getfield 28, 3), (102, .iload 4, 2), (104, .aload_n 0, 1), (105, .getfield 23, 3), (108, .aload_n 1, 1), (109, .iload 4, 2), (111, .iaload, 1), (112, .invokestatic 31, 3), (115, .iastore, 1), (116, .iinc 4 1, 3), (119, .goto (-28), 3), (122, .aload_n 0, 1), (123, .iload_n 3, 1), (124, .newarray .int, 2), (126, .putfield 35, 3), (129, .aload_n 0, 1), (130, .iload_n 3, 1), (131, .newarray .int, 2), (133, .putfield 38, 3), (136, .aload_n 0, 1), (137, .iload_n 3, 1), (138, .newarray .int, 2), (140, .putfield 41, 3), (143, .aload_n 0, 1), (144, .iload_n 3, 1), (145, .newarray .int, 2), (147, .putfield 44, 3), (150, .return_, 1)]
theorem DL41 : own_L qc41 dl41 := by decide +kernel
abbrev dl42 : own_DT := [(0, .iconst 0, 1), (1, .istore_n 3, 1), (2, .iload_n 3, 1), (3, .aload_n 0, 1), (4, .getfield 47, 3), (7, .if_icmp .ge 20, 3), (10, .aload_n 1, 1), (11, .iload_n 2, 1), (12, .iload_n 3, 1), (13, .iadd, 1), (14, .aload_n 0, 1), (15, .getfield 41, 3), (18, .iload_n 3, 1), (19, .iaload, 1), (20, .iastore, 1), (21, .iinc 3 1, 3), (24, .goto (-22), 3), (27, .aload_n 1, 1), (28, .iload_n 2, 1), (29, .iload_n 2, 1), (30, .aload_n 0, 1), (31, .getfield 47, 3), (34, .iadd, 1), (35, .invokestatic 51, 3), (38, .iload_n 2, 1), (39, .istore_n 3, 1), (40, .iload_n 3, 1), (41, .iload_n 2, 1), (42, .aload_n 0, 1), (43, .getfield 47, 3), (46, .iadd, 1), (47, .if_icmp .ge 20, 3), (50, .aload_n 1, 1), (51, .iload_n 3, 1), (52, .aload_n 0, 1), (53, .getfield 23, 3), (56, .aload_n 1, 1), (57, .iload_n 3, 1), (58, .iaload, 1), (59, .iaload, 1), (60, .iastore, 1), (61, .iinc 3 1, 3), (64, .goto (-24), 3), (67, .return_, 1)]
theorem DL42 : own_L qc42 dl42 := by decide +kernel
abbrev dl43 : own_DT := [(0, .iload_n 0, 1), (1, .i2l, 1), (2, .iload_n 1, 1), (3, .i2l, 1), (4, .lmul, 1), (5, .lstore_n 2, 1), (6, .lload_n 2, 1), (7, .l2i, 1), (8, .i2l, 1), (9, .lload_n 2, 1), (10, .lcmp, 1), (11, .ifCond .eq 13, 3), (24, .lload_n 2, 1), (25, .l2i, 1), (26, .ireturn, 1)]
theorem DL43 : own_L qc43 dl43 := by decide +kernel
abbrev dl44 : own_DT := [(0, .aload_n 1, 1), (1, .invokevirtual 80, 3), (4, .aload_n 0, 1), (5, .getfield 19, 3), (8, .if_icmp .ne 71, 3), (11, .aload_n 0, 1), (12, .iload_n 2, 1), (13, .iload_n 3, 1), (14, .invokevirtual 81, 3), (17, .aload_n 0, 1), (18, .getfield 19, 3), (21, .invokestatic 83, 3), (24, .istore 4, 2), (26, .aload_n 0, 1), (27, .getfield 13, 3), (30, .arraylength, 1), (31, .iload 4, 2), (33, .aload_n 0, 1), (34, .getfield 19, 3), (37, .iadd, 1), (38, .if_icmp .ge 31, 3), (41, .aload_n 0, 1), (42, .aload_n 0, 1), (43, .getfield 13, 3), (46, .iload 4, 2), (48, .aload_n 0, 1), (49, .getfield 19, 3), (52, .iadd, 1), (53, .iconst 2, 1), (54, .aload_n 0, 1), (55, .getfield 13, 3), (58, .arraylength, 1), (59, .imul, 1), (60, .invokestatic 1, 3), (63, .invokestatic 86, 3), (66, .putfield 13, 3), (69, .aload_n 1, 1), (70, .aload_n 0, 1), (71, .getfield 13, 3), (74, .iload 4, 2), (76, .invokevirtual 92, 3), (79, .aload_n 1, 1), (80, .invokevirtual 80, 3), (83, .aload_n 0, 1), (84, .getfield 19, 3), (87, .if_icmp .le 7, 3), (94, .iconst 0, 1), (95, .ireturn, 1)]
theorem DL44 : own_L qc44 dl44 := by decide +kernel
abbrev dl45 : own_DT := [(0, .aload_n 0, 1), (1, .aload_n 1, 1), (2, .iload_n 2, 1), (3, .iload_n 3, 1), (4, .invokevirtual 134, 3), (7, .ireturn, 1)]
theorem DL45 : own_L qc45 dl45 := by decide +kernel
abbrev dl46 : own_DT := [(0, .aload_n 0, 1), (1, .getfield 13, 3), (4, .iload_n 2, 1), (5, .laload, 1), (6, .invokestatic 47, 3), (9, .istore_n 3, 1), (10, .iload_n 1, 1), (11, .aload_n 0, 1), (12, .getfield 16, 3), (15, .if_icmp .ge 17, 3), (18, .iload_n 3, 1), (19, .aload_n 0, 1), (20, .getfield 7, 3), (23, .iload_n 1, 1), (24, .laload, 1), (25, .invokestatic 47, 3), (28, .invokestatic 79, 3), (31, .istore_n 3, 1), (32, .iload_n 3, 1), (33, .ireturn, 1)]
theorem DL46 : own_L qc46 dl46 := by decide +kernel
abbrev dl47 : own_DT := [(0, .getstatic 17, 3), (3, .areturn, 1)]
theorem DL47 : own_L qc47 dl47 := by decide +kernel
abbrev dl48 : own_DT := [(0, .aload_n 0, 1), (1, .getfield 20, 3), (4, .ifCond .ne 32, 3), (7, .aload_n 0, 1), (8, .getfield 7, 3), (11, .iconst 0, 1), (12, .aload_n 0, 1), (13, .getfield 16, 3), (16, .invokestatic 40, 3), (19, .aload_n 0, 1), (20, .getfield 13, 3), (23, .iconst 0, 1), (24, .aload_n 0, 1), (25, .getfield 16, 3), (28, .invokestatic 40, 3), (31, .aload_n 0, 1), (32, .iconst 1, 1), (33, .putfield 20, 3), (36, .iconst 0, 1), (37, .istore_n 3, 1), (38, .iconst 0, 1), (39, .istore 4, 2), (41, .iload 4, 2), (43, .aload_n 0, 1), (44, .getfield 16, 3), (47, .if_icmp .ge 137, 3), (50, .aload_n 0, 1), (51, .iload_n 3, 1), (52, .iload 4, 2), (54, .invokevirtual 44, 3), (57, .istore 5, 2), (59, .iload_n 3, 1), (60, .aload_n 0, 1), (61, .getfield 16, 3), (64, .if_icmp .ge 38, 3), (67, .aload_n 0, 1), (68, .getfield 7, 3), (71, .iload_n 3, 1), (72, .laload, 1), (73, .invokestatic 47, 3), (76, .iload 5, 2), (78, .if_icmp .ne 24, 3), (81, .aload_n 1, 1), (82, .aload_n 0, 1), (83, .getfield 7, 3), (86, .iload_n 3, 1), (87, .laload, 1), (88, .invokestatic 51, 3), (91, .invokeinterface 54 2, 5), (96, .iinc 3 1, 3), (99, .goto (-40), 3), (102, .iload 4, 2), (104, .aload_n 0, 1), (105, .getfield 16, 3), (108, .if_icmp .ge 40, 3), (111, .aload_n 0, 1), (112, .getfield 13, 3), (115, .iload 4, 2), (117, .laload, 1), (118, .invokestatic 47, 3), (121, .iload 5, 2), (123, .if_icmp .ne 25, 3), (126, .aload_n 1, 1), (127, .aload_n 0, 1), (128, .getfield 13, 3), (131, .iload 4, 2), (133, .laload, 1), (134, .invokestatic 51, 3), (137, .invokeinterface 60 2, 5), (142, .iinc 4 1, 3), (145, .goto (-43), 3), (148, .iload 4, 2), (150, .aload_n 0, 1), (151, .getfield 16, 3), (154, .if_icmp .ge 27, 3), (157, .aload_n 2, 1), (158, .iload 5, 2), (160, .aload_n 0, 1), (161, .iload_n 3, 1), (162, .iload 4, 2), (164, .invokevirtual 44, 3), (167, .invokeinterface 63 3, 5), (172, .ifCond .eq 9, 3), (181, .goto (-140), 3), (184, .invokestatic 75, 3), (187, .areturn, 1)]
theorem DL48 : own_L qc48 dl48 := by decide +kernel
abbrev dl49 : own_DT := [(0, .aload_n 0, 1), (1, .getfield 7, 3), (4, .ifCond .ne 7, 3), (7, .iconst 1, 1), (8, .goto 4, 3), (12, .ireturn, 1)]
theorem DL49 : own_L qc49 dl49 := by decide +kernel
abbrev dl50 : own_DT := [(0, .aload_n 1, 1), (1, .invokevirtual 30, 3), (4, .newarray .int, 2), (6, .astore_n 3, 1), (7, .aload_n 0, 1), (8, .getfield 26, 3), (11, .invokevirtual 36, 3), (14, .iconst 0, 1), (15, .istore 4, 2), (17, .iload 4, 2), (19, .aload_n 1, 1), (20, .invokevirtual 30, 3), (23, .if_icmp .ge 64, 3), (26, .aload_n 3, 1), (27, .iload 4, 2), (29, .aload_n 2, 1), (30, .iload 4, 2), (32, .invokevirtual 40, 3), (35, .iastore, 1), (36, .aload_n 1, 1), (37, .iload 4, 2), (39, .invokevirtual 46, 3), (42, .istore 5, 2), (44, .aload_n 1, 1), (45, .iload 4, 2), (47, .invokevirtual 49, 3), (50, .istore 6, 2), (52, .aload_n 2, 1), (53, .iload 4, 2), (55, .invokevirtual 52, 3), (58, .ifCond .eq 23, 3), (61, .iload 5, 2), (63, .iload 6, 2), (65, .if_icmp .ge 16, 3), (68, .aload_n 0, 1), (69, .getfield 26, 3), (72, .iload 4, 2), (74, .iload 5, 2), (76, .iload 6, 2), (78, .invokevirtual 56, 3), (81, .iinc 4 1, 3), (84, .goto (-67), 3), (87, .aload_n 0, 1), (88, .invokevirtual 60, 3), (91, .new 61, 3), (94, .dup, 1), (95, .aload_n 3, 1), (96, .invokespecial 63, 3), (99, .astore 4, 2), (101, .aload_n 0, 1), (102, .getfield 26, 3), (105, .aload 4, 2), (107, .aload_n 0, 1), (108, .aload 4, 2), (110, .invokedynamic 66, 5), (115, .invokevirtual 70, 3), (118, .invokevirtual 74, 3), (121, .ireturn, 1)]
theorem DL50 : own_L qc50 dl50 := by decide +kernel
abbrev dl51 : own_DT := [(0, .iload_n 1, 1), (1, .aload_n 0, 1), (2, .getfield 19, 3), (5, .imul, 1), (6, .istore 4, 2), (8, .iload 4, 2), (10, .aload_n 0, 1), (11, .getfield 19, 3), (14, .iadd, 1), (15, .istore 5, 2), (17, .iconst 0, 1), (18, .istore 6, 2), (20, .iconst 0, 1), (21, .istore 7, 2), (23, .iload 7, 2), (25, .iload_n 3, 1), (26, .if_icmp .ge 68, 3), (29, .iload 4, 2), (31, .iload 5, 2), (33, .if_icmp .ge 23, 3), (36, .aload_n 0, 1), (37, .getfield 13, 3), (40, .iload 4, 2), (42, .iaload, 1), (43, .aload_n 2, 1), (44, .iload 7, 2), (46, .iaload, 1), (47, .if_icmp .ge 9, 3), (50, .iinc 4 1, 3), (53, .goto (-24), 3), (56, .iload 4, 2), (58, .iload 5, 2), (60, .if_icmp .ge 28, 3), (63, .aload_n 0, 1), (64, .getfield 13, 3), (67, .iload 4, 2), (69, .iaload, 1), (70, .aload_n 2, 1), (71, .iload 7, 2), (73, .iaload, 1), (74, .if_icmp .ne 14, 3), (77, .aload_n 2, 1), (78, .iload 6, 2), (80, .iinc 6 1, 3), (83, .aload_n 2, 1), (84, .iload 7, 2), (86, .iaload, 1), (87, .iastore, 1), (88, .iinc 7 1, 3), (91, .goto (-68), 3), (94, .iload 6, 2), (96, .ireturn, 1)]
theorem DL51 : own_L qc51 dl51 := by decide +kernel
abbrev dl52 : own_DT := [(0, .iload_n 0, 1), (1, .ifCond .ne 5, 3), (4, .iload_n 1, 1), (5, .ireturn, 1), (6, .iload_n 0, 1), (7, .iconst 1, 1), (8, .if_icmp .ne 5, 3), (11, .iload_n 2, 1), (12, .ireturn, 1), (13, .iload_n 0, 1), (14, .iconst 2, 1), (15, .if_icmp .ne 5, 3), (18, .iload_n 3, 1), (19, .ireturn, 1), (20, .iload 4, 2), (22, .ireturn, 1)]
theorem DL52 : own_L qc52 dl52 := by decide +kernel
theorem own_sA {Z : State} {a0 : Array Value} (hw : own_T a0 Z) : ∀ a ∈ Bundle.stringAtoms, a.before a0 Z = true := by
  intro d hd
  simp only [Bundle.stringAtoms, List.mem_cons, List.not_mem_nil, or_false] at hd
  rcases hd with rfl | rfl | rfl | rfl | rfl | rfl | rfl
  · exact (hw 10 rfl)
  · exact (hw 11 rfl)
  · exact (hw 12 rfl)
  · exact (hw 13 rfl)
  · exact (hw 14 rfl)
  · exact (hw 15 rfl)
  · exact (hw 16 rfl)
theorem own_pd__Ljava_lang_String_I_V : parseMethodDescriptor "(Ljava/lang/String;I)V" = some ⟨[(.object "java/lang/String"), .int], none⟩ := by decide +kernel
theorem own_pd___I_IIII_V : parseMethodDescriptor "([I[IIII)V" = some ⟨[(.array .int), (.array .int), .int, .int, .int], none⟩ := by decide +kernel
theorem own_pd__II_J : parseMethodDescriptor "(II)J" = some ⟨[.int, .int], some .long⟩ := by decide +kernel
theorem own_pd__II_I : parseMethodDescriptor "(II)I" = some ⟨[.int, .int], some .int⟩ := by decide +kernel
theorem own_pd__I_V : parseMethodDescriptor "(I)V" = some ⟨[.int], none⟩ := by decide +kernel
theorem own_pd___III_V : parseMethodDescriptor "([III)V" = some ⟨[(.array .int), .int, .int], none⟩ := by decide +kernel
theorem own_pd__Ljava_util_DualPivotQuicksort_Sorter__IIII_V : parseMethodDescriptor "(Ljava/util/DualPivotQuicksort$Sorter;[IIII)V" = some ⟨[(.object "java/util/DualPivotQuicksort$Sorter"), (.array .int), .int, .int, .int], none⟩ := by decide +kernel
theorem own_pd___IIII_V : parseMethodDescriptor "([IIII)V" = some ⟨[(.array .int), .int, .int, .int], none⟩ := by decide +kernel
theorem own_pd__III_V : parseMethodDescriptor "(III)V" = some ⟨[.int, .int, .int], none⟩ := by decide +kernel
theorem own_pd___JII_V : parseMethodDescriptor "([JII)V" = some ⟨[(.array .long), .int, .int], none⟩ := by decide +kernel
theorem own_pd__Ljava_util_DualPivotQuicksort_Sorter__JIII_V : parseMethodDescriptor "(Ljava/util/DualPivotQuicksort$Sorter;[JIII)V" = some ⟨[(.object "java/util/DualPivotQuicksort$Sorter"), (.array .long), .int, .int, .int], none⟩ := by decide +kernel
theorem own_pd___JIII_V : parseMethodDescriptor "([JIII)V" = some ⟨[(.array .long), .int, .int, .int], none⟩ := by decide +kernel
theorem own_pd___IIII_I : parseMethodDescriptor "([IIII)I" = some ⟨[(.array .int), .int, .int, .int], some .int⟩ := by decide +kernel
theorem own_pd___I_V : parseMethodDescriptor "([I)V" = some ⟨[(.array .int)], none⟩ := by decide +kernel
theorem own_pd___II_I : parseMethodDescriptor "([II)I" = some ⟨[(.array .int), .int], some .int⟩ := by decide +kernel
theorem own_pd___II__I : parseMethodDescriptor "([II)[I" = some ⟨[(.array .int), .int], some (.array .int)⟩ := by decide +kernel
theorem own_pd___I : parseMethodDescriptor "()I" = some ⟨[], some .int⟩ := by decide +kernel
theorem own_pd___II_V : parseMethodDescriptor "([II)V" = some ⟨[(.array .int), .int], none⟩ := by decide +kernel
theorem own_pd__Lcom_example_tidemark_tidemark_core_DistinctValues_II_Z : parseMethodDescriptor "(Lcom/example/tidemark/tidemark/core/DistinctValues;II)Z" = some ⟨[(.object "com/example/tidemark/tidemark/core/DistinctValues"), .int, .int], some .boolean⟩ := by decide +kernel
theorem own_pd__J_I : parseMethodDescriptor "(J)I" = some ⟨[.long], some .int⟩ := by decide +kernel
theorem own_pd___Ljava_util_OptionalInt_ : parseMethodDescriptor "()Ljava/util/OptionalInt;" = some ⟨[], some (.object "java/util/OptionalInt")⟩ := by decide +kernel
theorem own_pd___V : parseMethodDescriptor "()V" = some ⟨[], none⟩ := by decide +kernel
theorem own_pd__I_I : parseMethodDescriptor "(I)I" = some ⟨[.int], some .int⟩ := by decide +kernel
theorem own_pd__I_Z : parseMethodDescriptor "(I)Z" = some ⟨[.int], some .boolean⟩ := by decide +kernel
theorem own_pd__Lcom_example_tidemark_tidemark_core_Sweep_Tally_Lcom_example_tidemark_tidemark_core_Sweep_Visitor__Ljava_util_OptionalInt_ : parseMethodDescriptor "(Lcom/example/tidemark/tidemark/core/Sweep$Tally;Lcom/example/tidemark/tidemark/core/Sweep$Visitor;)Ljava/util/OptionalInt;" = some ⟨[(.object "com/example/tidemark/tidemark/core/Sweep$Tally"), (.object "com/example/tidemark/tidemark/core/Sweep$Visitor")], some (.object "java/util/OptionalInt")⟩ := by decide +kernel
theorem own_pd___Z : parseMethodDescriptor "()Z" = some ⟨[], some .boolean⟩ := by decide +kernel
theorem own_pd__II_V : parseMethodDescriptor "(II)V" = some ⟨[.int, .int], none⟩ := by decide +kernel
theorem own_pd__Lcom_example_tidemark_tidemark_core_TaskBounds_Lcom_example_tidemark_tidemark_core_TaskColours__Z : parseMethodDescriptor "(Lcom/example/tidemark/tidemark/core/TaskBounds;Lcom/example/tidemark/tidemark/core/TaskColours;)Z" = some ⟨[(.object "com/example/tidemark/tidemark/core/TaskBounds"), (.object "com/example/tidemark/tidemark/core/TaskColours")], some .boolean⟩ := by decide +kernel
theorem own_pd__IIIII_I : parseMethodDescriptor "(IIIII)I" = some ⟨[.int, .int, .int, .int, .int], some .int⟩ := by decide +kernel
theorem own_pd__I_II_I : parseMethodDescriptor "(I[II)I" = some ⟨[.int, (.array .int), .int], some .int⟩ := by decide +kernel
def own_updI (g : Nat → Int32) (j : Nat) (x : Int32) : Nat → Int32 := fun i => if i = j then x else g i
def own_updJ (g : Nat → Int64) (j : Nat) (x : Int64) : Nat → Int64 := fun i => if i = j then x else g i
theorem own_lt {c : Cell} {j : Int32} (q : ¬ (j < 0 ∨ c.slots.size ≤ j.toNatClampNeg)) : j.toNatClampNeg < c.slots.size := Nat.lt_of_not_le fun y => q (Or.inr y)
/-- an array of her own kind, its content as a function -/
def own_AI (Z : State) (h : Heap) (a : Addr) (k : ClassId) (z : Int32) (g : Nat → Int32) : Prop := ∃ c : Cell, Arr Z h a c .int ∧ c.cls = k ∧ c.slots.size = z.toNatClampNeg ∧ ¬ z < 0 ∧ ∀ i, i < c.slots.size → c.slots[i]? = some (.int (g i))
section own_AI
variable {Z : State} {h h' : Heap} {a b : Addr} {k : ClassId} {z j : Int32} {g : Nat → Int32} {sl : Nat} {v : Value} {ws : List Addr}
theorem own_AI.lt (F : own_AI Z h a k z g) : a < h.size := by obtain ⟨c, A, -⟩ := F; exact A.lt
theorem own_AI.ext (F : own_AI Z h a k z g) (E : Ext h h') : own_AI Z h' a k z g := by obtain ⟨c, A, r⟩ := F; exact ⟨c, A.ext E, r⟩
theorem own_AI.other (F : own_AI Z h b k z g) (W : Wr h h' a sl v) (q : b ≠ a) : own_AI Z h' b k z g := by obtain ⟨c, A, r⟩ := F; exact ⟨c, A.other W q, r⟩
theorem own_AI.keep (F : own_AI Z h a k z g) (K : Keep h h' ws) (q : a ∉ ws) : own_AI Z h' a k z g := by obtain ⟨c, A, r⟩ := F; exact ⟨c, ⟨K.2.1 a c A.1 q, A.2⟩, r⟩
theorem own_AI.new (A : Arr Z h a (newA k .int z) .int) (q : ¬ z < 0) : own_AI Z h a k z (fun _ => 0) := by
  obtain ⟨c, r1, r2, r3, r4, r5, -⟩ := Arv.new A q
  exact ⟨c, r1, r2, r3, r4, fun i hi => by rw [r5 i hi]; rfl⟩
theorem own_AI.set {x : Int32} (F : own_AI Z h a k z g) (W : Wr h h' a j.toNatClampNeg (.int x)) : own_AI Z h' a k z (own_updI g j.toNatClampNeg x) := by
  obtain ⟨c, r1, r2, r3, r4, r5⟩ := F
  refine ⟨_, r1.same W, r2, by rw [sz_set]; exact r3, r4, fun i hi => ?_⟩
  rw [sz_set] at hi
  unfold own_updI
  by_cases u : i = j.toNatClampNeg
  · subst u; simp [Cell.setSlot, hi]
  · rw [if_neg u]; have := r5 i hi; simp only [Cell.setSlot] at this ⊢; rw [Array.getElem?_setIfInBounds_ne (Ne.symm u)]; exact this
theorem own_fitI {c : Cell} (A : Arr Z h a c .int) (H : ∀ i, i < c.slots.size → c.slots[i]? = some (.int (g i))) : FitC Z c := fitC_of A fun i hi v hv => by rw [H i hi] at hv; cases hv; rfl
theorem own_AI.clone {c : Cell} (H : ∀ i, i < c.slots.size → c.slots[i]? = some (.int (g i))) (q : c.cls = k) (S : c.slots.size = z.toNatClampNeg) (N : ¬ z < 0) (A : Arr Z h' b (cloneOf c) .int) : own_AI Z h' b k z g := ⟨_, A, q, S, N, H⟩
end own_AI

/-- an array of her own kind, its content as a function -/
def own_AJ (Z : State) (h : Heap) (a : Addr) (k : ClassId) (z : Int32) (g : Nat → Int64) : Prop := ∃ c : Cell, Arr Z h a c .long ∧ c.cls = k ∧ c.slots.size = z.toNatClampNeg ∧ ¬ z < 0 ∧ ∀ i, i < c.slots.size → c.slots[i]? = some (.long (g i))
section own_AJ
variable {Z : State} {h h' : Heap} {a b : Addr} {k : ClassId} {z j : Int32} {g : Nat → Int64} {sl : Nat} {v : Value} {ws : List Addr}
theorem own_AJ.lt (F : own_AJ Z h a k z g) : a < h.size := by obtain ⟨c, A, -⟩ := F; exact A.lt
theorem own_AJ.ext (F : own_AJ Z h a k z g) (E : Ext h h') : own_AJ Z h' a k z g := by obtain ⟨c, A, r⟩ := F; exact ⟨c, A.ext E, r⟩
theorem own_AJ.other (F : own_AJ Z h b k z g) (W : Wr h h' a sl v) (q : b ≠ a) : own_AJ Z h' b k z g := by obtain ⟨c, A, r⟩ := F; exact ⟨c, A.other W q, r⟩
theorem own_AJ.keep (F : own_AJ Z h a k z g) (K : Keep h h' ws) (q : a ∉ ws) : own_AJ Z h' a k z g := by obtain ⟨c, A, r⟩ := F; exact ⟨c, ⟨K.2.1 a c A.1 q, A.2⟩, r⟩
theorem own_AJ.new (A : Arr Z h a (newA k .long z) .long) (q : ¬ z < 0) : own_AJ Z h a k z (fun _ => 0) := by
  obtain ⟨c, r1, r2, r3, r4, r5, -⟩ := Arv.new A q
  exact ⟨c, r1, r2, r3, r4, fun i hi => by rw [r5 i hi]; rfl⟩
theorem own_AJ.set {x : Int64} (F : own_AJ Z h a k z g) (W : Wr h h' a j.toNatClampNeg (.long x)) : own_AJ Z h' a k z (own_updJ g j.toNatClampNeg x) := by
  obtain ⟨c, r1, r2, r3, r4, r5⟩ := F
  refine ⟨_, r1.same W, r2, by rw [sz_set]; exact r3, r4, fun i hi => ?_⟩
  rw [sz_set] at hi
  unfold own_updJ
  by_cases u : i = j.toNatClampNeg
  · subst u; simp [Cell.setSlot, hi]
  · rw [if_neg u]; have := r5 i hi; simp only [Cell.setSlot] at this ⊢; rw [Array.getElem?_setIfInBounds_ne (Ne.symm u)]; exact this
theorem own_fitJ {c : Cell} (A : Arr Z h a c .long) (H : ∀ i, i < c.slots.size → c.slots[i]? = some (.long (g i))) : FitC Z c := fitC_of A fun i hi v hv => by rw [H i hi] at hv; cases hv; rfl
theorem own_AJ.clone {c : Cell} (H : ∀ i, i < c.slots.size → c.slots[i]? = some (.long (g i))) (q : c.cls = k) (S : c.slots.size = z.toNatClampNeg) (N : ¬ z < 0) (A : Arr Z h' b (cloneOf c) .long) : own_AJ Z h' b k z g := ⟨_, A, q, S, N, H⟩
end own_AJ

section own_k2
variable {p : Program} {l : Launch} {e : Env} {R : Room} {s : State} {m : MethodId} {args : Array Value} {below : List Frame} {meth : Method} {c : Code} {T : State} {locs : List Loc} {cells slots : Nat} {P : State → Prop} {pc : Nat} {Ls : Array Slot} {S : List Value} {ml : Nat} {D : own_DT} {Z : State} {a0 : Array Value} {h : Heap} {b : Addr} {k : ClassId} {z j : Int32}
theorem Kil {g : Nat → Int32} (n : Nat) (X : Stand p l e R s m args below meth c T locs cells slots) (B : own_B p c ml D) (hZ : Z.Warmed39 s.vm) (eT : T.heap = h) (F : own_AI Z h b k z g) (hj : ¬ j < 0 ∧ j < z) (hn : j.toNatClampNeg = n) (ix : Nat) (hd : D[ix]? = some (pc, .iaload, 1)) (q : own_Go p.tables e below P T (mkF m (pc + 1) Ls (.int (g n) :: S))) : own_Go p.tables e below P T (mkF m pc Ls (.int j :: .ref b :: S)) := by
  subst hn
  obtain ⟨cc, A, -, S1, -, H⟩ := F
  exact own_st (fun t k => X.iaload B.x (j := j) (v := .int (g j.toNatClampNeg)) (by rw [eT]; exact A.1) (State.isArrayOf_alike hZ.alike A.2.1) A.2.2 (inb_of S1 hj) (H _ (own_lt (inb_of S1 hj))) (g := mkF m pc Ls (.int j :: .ref b :: S)) rfl rfl (B.d ix hd) _ k) q
theorem Kjl {g : Nat → Int64} (n : Nat) (X : Stand p l e R s m args below meth c T locs cells slots) (B : own_B p c ml D) (hZ : Z.Warmed39 s.vm) (eT : T.heap = h) (F : own_AJ Z h b k z g) (hj : ¬ j < 0 ∧ j < z) (hn : j.toNatClampNeg = n) (ix : Nat) (hd : D[ix]? = some (pc, .laload, 1)) (q : own_Go p.tables e below P T (mkF m (pc + 1) Ls (.long (g n) :: S))) : own_Go p.tables e below P T (mkF m pc Ls (.int j :: .ref b :: S)) := by
  subst hn
  obtain ⟨cc, A, -, S1, -, H⟩ := F
  exact own_st (fun t k => X.laload B.x (j := j) (v := .long (g j.toNatClampNeg)) (by rw [eT]; exact A.1) (State.isArrayOf_alike hZ.alike A.2.1) A.2.2 (inb_of S1 hj) (H _ (own_lt (inb_of S1 hj))) (g := mkF m pc Ls (.int j :: .ref b :: S)) rfl rfl (B.d ix hd) _ k) q
theorem Kis {g : Nat → Int32} {x : Int32} (n : Nat) (X : Stand p l e R s m args below meth c T locs cells slots) (B : own_B p c ml D) (hZ : Z.Warmed39 s.vm) (eT : T.heap = h) (F : own_AI Z h b k z g) (hj : ¬ j < 0 ∧ j < z) (hn : j.toNatClampNeg = n) (ix : Nat) (hd : D[ix]? = some (pc, .iastore, 1))
    (q : ∀ T' h', Stand p l e R s m args below meth c T' (locs ++ [⟨b, j.toNatClampNeg⟩]) cells slots → T'.heap = h' → Wr h h' b j.toNatClampNeg (.int x) → own_AI Z h' b k z (own_updI g n x) → own_Go p.tables e below P T' (mkF m (pc + 1) Ls S)) : own_Go p.tables e below P T (mkF m pc Ls (.int x :: .int j :: .ref b :: S)) := by
  subst hn
  obtain ⟨cc, A, q1, S1, N1, H⟩ := id F
  obtain ⟨T', h', X', e', W, st⟩ := stI X B.x hZ eT A (j := j) (inb_of S1 hj) (g := mkF m pc Ls (.int x :: .int j :: .ref b :: S)) rfl rfl (B.d ix hd)
  exact own_st st (q T' h' X' e' W (own_AI.set F W))
theorem Kjs {g : Nat → Int64} {x : Int64} (n : Nat) (X : Stand p l e R s m args below meth c T locs cells slots) (B : own_B p c ml D) (hZ : Z.Warmed39 s.vm) (eT : T.heap = h) (F : own_AJ Z h b k z g) (hj : ¬ j < 0 ∧ j < z) (hn : j.toNatClampNeg = n) (ix : Nat) (hd : D[ix]? = some (pc, .lastore, 1))
    (q : ∀ T' h', Stand p l e R s m args below meth c T' (locs ++ [⟨b, j.toNatClampNeg⟩]) cells slots → T'.heap = h' → Wr h h' b j.toNatClampNeg (.long x) → own_AJ Z h' b k z (own_updJ g n x) → own_Go p.tables e below P T' (mkF m (pc + 1) Ls S)) : own_Go p.tables e below P T (mkF m pc Ls (.long x :: .int j :: .ref b :: S)) := by
  subst hn
  obtain ⟨cc, A, q1, S1, N1, H⟩ := id F
  obtain ⟨T', h', X', e', W, st⟩ := stJ X B.x hZ eT A (j := j) (inb_of S1 hj) (g := mkF m pc Ls (.long x :: .int j :: .ref b :: S)) rfl rfl (B.d ix hd)
  exact own_st st (q T' h' X' e' W (own_AJ.set F W))
theorem Kpf {own R0 O n d C : String} {index kk : Nat} {v old : Value} (ty : FieldType) (X : Stand p l e R s m args below meth c T locs cells slots) (B : own_B p c ml D) (hZ : Z.Warmed39 s.vm) (hown : s.vm.findClass own = some m.cls) (w : (Cond.fieldLink own index R0 n d).before a0 Z = true) (via : Via Z R0 O n d) (eT : T.heap = h) (F : Fld Z h b O n d old) (E : Exa Z h b C)
    (L : (Cond.lays C O n d).before a0 Z = true ∨ ((Cond.laysFinal C O n d).before a0 Z = true ∧ own = O ∧ meth.name = "<init>")) (wi : (Cond.instantiable C kk).before a0 Z = true) (ix : Nat) (hd : D[ix]? = some (pc, .putfield index, 3))
    (q : ∀ T' h', Stand p l e R s m args below meth c T' (locs ++ [⟨b, RoadKit.slotOf Z O n d⟩]) cells slots → T'.heap = h' → Wr h h' b (RoadKit.slotOf Z O n d) v → Fld Z h' b O n d v → own_Go p.tables e below P T' (mkF m (pc + 3) Ls S)) (hty : parseFieldDescriptor d = some ty := by decide) (hn : narrow ty v = v := by rfl) (hf : fits ty v = true := by rfl) : own_Go p.tables e below P T (mkF m pc Ls (v :: .ref b :: S)) := by
  obtain ⟨T', h', X', e', W, st⟩ := putF X B.x hZ hown (host := "") (Or.inl w) via eT F E L wi hty hn hf (g := mkF m pc Ls (v :: .ref b :: S)) rfl rfl (B.d ix hd)
  exact own_st st (q T' h' X' e' W (F.same W))
end own_k2
theorem own_irr (x : Int32) : ¬ x < x := by rw [Int32.lt_iff_toInt_lt]; omega
theorem own_pn1 : plainName "com/example/tidemark/tidemark/core/ArgumentRules" = true := by first | (simp [plainName, overriddenIn]; done) | decide +kernel
theorem own_ef1 (m : MethodId) (w0 : Value) (x1 : Int32) (h_w0 : w0.isRef = true) : entryFrame m #[w0, .int x1] 2 = mkF m 0 #[.val w0, sI x1] [] := by
  rcases ref_cases h_w0 with rfl | ⟨_, rfl⟩ <;> first | (simp [entryFrame, mkF, argsToLocals, Value.category]; done) | rfl
def Q1 (Z : State) (w0 : Value) (x1 : Int32) (h0 : Heap) (n0 : Nat) (v : Option Value) (h : Heap) (L : List Loc) : Prop := v = none ∧ Fr n0 L ∧ h = h0
set_option maxRecDepth 65536 in
set_option maxHeartbeats 4000000 in
theorem rm1 {l : Launch} {Z : State} {a0 : Array Value} (hw : own_T a0 Z) (w0 : Value) (x1 : Int32) (h0 : Heap) (n0 : Nat) (Z0 : n0 ≤ h0.size) (h_w0 : w0.isRef = true) (hnn : ¬ x1 < (0 : Int32)) :
    own_M l Z ym1 prog_15_method_2_code 2 none ⟨0, 0, 0, 0⟩ #[w0, .int x1] h0 (Q1 Z w0 x1 h0 n0) := by
  refine own_open kAR #[.val w0, sI x1] (plainFor_of_name own_pn1) DL1 rfl (fun m => own_ef1 m w0 x1 h_w0) fun p e s m below meth c s₁ Bd B hZ hown X0 e0 Pq hPq => ?_
  have hx := B.x
  have N0 := Fr.nil n0
  refine SiN X0 B 0 rfl rfl ?_
  refine Sfy 1 19 X0 B 1 rfl ((if0 _ _).trans (flt hnn).2.1) ?_
  refine own_oV X0 B Bd 2 rfl hPq ?_
  rw [e0]
  exact ⟨rfl, N0, rfl⟩
theorem own_pn2 : plainName "com/example/tidemark/tidemark/core/TaskBounds" = true := by first | (simp [plainName, overriddenIn]; done) | decide +kernel
theorem own_ef2 (m : MethodId) (a : Addr) : entryFrame m #[.ref a, .int 3] 2 = mkF m 0 #[sR a, sI 3] [] := by first | (simp [entryFrame, mkF, argsToLocals, Value.category]; done) | rfl
def Q2 (Z : State) (a : Addr) (u0 u1 : Value) (u2 u3 : Value) (u4 u5 : Value) (u6 u7 : Value) (h0 : Heap) (n0 : Nat) (v : Option Value) (h : Heap) (L : List Loc) : Prop := ∃ (k_om k_oM : ClassId) (k_en k_eM : ClassId) (k_hm k_hM : ClassId) (om oM : Addr) (en eM : Addr) (hm hM : Addr), v = none ∧ Fr n0 L ∧ Keep h0 h [a] ∧ n0 ≤ om ∧ h0.size ≤ om ∧ n0 ≤ oM ∧ h0.size ≤ oM ∧ n0 ≤ en ∧ h0.size ≤ en ∧ n0 ≤ eM ∧ h0.size ≤ eM ∧ n0 ≤ hm ∧ h0.size ≤ hm ∧ n0 ≤ hM ∧ h0.size ≤ hM ∧ Exa Z h a kTB ∧ Fld Z h a kTB "originMin" "[I" (.ref om) ∧ Fld Z h a kTB "originMax" "[I" (.ref oM) ∧ Fld Z h a kTB "endMin" "[I" (.ref en) ∧ Fld Z h a kTB "endMax" "[I" (.ref eM) ∧ Fld Z h a kTB "heightMin" "[I" (.ref hm) ∧ Fld Z h a kTB "heightMax" "[I" (.ref hM) ∧ own_AI Z h om k_om 3 (fun _ => 0) ∧ own_AI Z h oM k_oM 3 (fun _ => 0) ∧ own_AI Z h en k_en 3 (fun _ => 0) ∧ own_AI Z h eM k_eM 3 (fun _ => 0) ∧ own_AI Z h hm k_hm 3 (fun _ => 0) ∧ own_AI Z h hM k_hM 3 (fun _ => 0) ∧ om ≠ oM ∧ om ≠ en ∧ om ≠ eM ∧ om ≠ hm ∧ om ≠ hM ∧ oM ≠ en ∧ oM ≠ eM ∧ oM ≠ hm ∧ oM ≠ hM ∧ en ≠ eM ∧ en ≠ hm ∧ en ≠ hM ∧ eM ≠ hm ∧ eM ≠ hM ∧ hm ≠ hM
set_option maxRecDepth 65536 in
set_option maxHeartbeats 4000000 in
theorem rm2 {l : Launch} {Z : State} {a0 : Array Value} (hw : own_T a0 Z) (a : Addr) (u0 u1 : Value) (u2 u3 : Value) (u4 u5 : Value) (u6 u7 : Value) (h0 : Heap) (n0 : Nat) (Z0 : n0 ≤ h0.size) (F0 : Exa Z h0 a kTB) (F1 : Fld Z h0 a kTB "originMin" "[I" u0) (F2 : Fld Z h0 a kTB "originMax" "[I" u1) (F3 : Fld Z h0 a kTB "durationMin" "[I" u2) (F4 : Fld Z h0 a kTB "durationMax" "[I" u3) (F5 : Fld Z h0 a kTB "endMin" "[I" u4) (F6 : Fld Z h0 a kTB "endMax" "[I" u5) (F7 : Fld Z h0 a kTB "heightMin" "[I" u6) (F8 : Fld Z h0 a kTB "heightMax" "[I" u7) (g_a : n0 ≤ a) :
    MetFree l ym2 (head1 [Jvm.Cond.code ym2 prog_44_method_1_code 2 none] (⟨1, 10, 68, 13⟩ : Room)) (fun aW U => aW = #[.ref a, .int 3] ∧ Z.Warmed39 U.vm ∧ U.heap = h0) (fun _ _ _ _ _ => True) (fun _ U o U' => ∃ v L, o = .returned v ∧ Q2 Z a u0 u1 u2 u3 u4 u5 u6 u7 h0 n0 v U'.heap L ∧ ReturnedEndW U o U' L (⟨1, 10, 68, 13⟩ : Room).cells (⟨1, 10, 68, 13⟩ : Room).slots) := by
  refine MetFree.of_bodySF (plainFor_of_name own_pn2) hisR ?_
  intro p e s m args below meth c s₁ Bd hml0 hP hK
  obtain ⟨rfl, hZ, hh⟩ := hP
  have hx := Bd.exec
  have hby := Bd.bytes
  have hml : c.maxLocals = 2 := hml0
  have B := own_mkB hx hby hml DL2
  have hown : s.vm.findClass kTB = some m.cls := findClass_of_methodNamed Bd.named
  have hnm := (name_of_methodNamed Bd.named Bd.method).1
  have X0 : Stand p l e (⟨1, 10, 68, 13⟩ : Room) s m #[.ref a, .int 3] below meth c s₁ [] 0 0 := Stand.of_body Bd
  have e0 : s₁.heap = h0 := by rw [← hh, Bd.state]; rfl
  have N0 := Fr.nil n0
  have X0 : Stand p l e (⟨1, 10, 68, 13⟩ : Room) (s.setVm s.vm) m #[.ref a, .int 3] below meth c s₁ [] 0 0 := X0
  have hS : s.Since s.vm 0 := (State.WarmedH.refl s).since 0
  have hk : 0 ≤ h0.size := Nat.zero_le _
  have hZ : Z.Warmed39 (s.setVm s.vm).vm := hZ
  have hown : (s.setVm s.vm).vm.findClass kTB = some m.cls := hown
  have K0 : Keep h0 h0 [a] := Keep.refl _ _
  obtain ⟨Pq, hPq⟩ : ∃ P, P = own_PW s below (fun v h L => Q2 Z a u0 u1 u2 u3 u4 u5 u6 u7 h0 n0 v h L) (⟨1, 10, 68, 13⟩ : Room).cells (⟨1, 10, 68, 13⟩ : Room).slots := ⟨_, rfl⟩
  suffices hgo : own_Go p.tables e below Pq s₁ (mkF m 0 #[sR a, sI 3] []) by
    subst hPq
    obtain ⟨t, k1, k2, o, k3, k4⟩ := hgo
    exact ⟨t, o, castTop (own_ef2 m a) k1, k2, k3, k4⟩
  show own_Go _ _ _ _ s₁ (mkF m 0 #[sR a, sI 3] [])
  refine SaN X0 B 0 rfl rfl rfl ?_
  obtain ⟨T1, X1, e1, st1⟩ := initO X0 hx hZ hown (hw 6 rfl) (hw 7 rfl) (hw 8 rfl) e0 (g := (mkF m 1 #[sR a, sI 3] [.ref a])) rfl (by rw [hml]; rfl) rfl (B.d 1 rfl) (by decide) (W := 0) (by show 2 * 0 + _ ≤ _; exact Nat.le_of_eq rfl) (by decide)
  refine own_st st1 ?_
  show own_Go _ _ _ _ T1 (mkF m 4 _ [])
  obtain ⟨b2, T2, h2, k2, X2, e2, E2, hS, hk, hZ, hown, st2⟩ := ldcS X1 hx hZ hown (hw 9 rfl) (own_sA hw) e1 hS hk (g := (mkF m 4 #[sR a, sI 3] [])) rfl (B.d 2 rfl) (n := 40) (by decide) (by decide) (by decide) (by decide)
  refine own_st st2 ?_
  have Z3 : n0 ≤ h2.size := Nat.le_trans Z0 E2.1
  have K4 : Keep h0 h2 [a] := K0.ext E2
  show own_Go _ _ _ _ T2 (mkF m 6 _ [.ref b2])
  refine SiN X2 B 3 rfl rfl ?_
  refine Kst (wt := 0) (y := ym1) none X2 B hZ hown (hw 17 rfl) (hw 18 rfl) (hw 19 rfl) (hw 20 rfl) (rm1 hw (.ref b2) 3 h2 n0 Z3 rfl (by decide)) e2 own_pd__Ljava_lang_String_I_V 4 rfl rfl rfl (fun _ _ _ q => q.1) fun T5 Lc5 X5 hQ5 => ?_
  obtain ⟨-, NQ5, eq5⟩ := hQ5
  have N6 := Fr.app N0 NQ5
  show own_Go _ _ _ _ T5 (mkF m 10 _ [])
  refine SaN X5 B 5 rfl rfl rfl ?_
  refine SiN X5 B 6 rfl rfl ?_
  obtain ⟨T7, h7, k7, X7, e7, E7, A7, st7⟩ := newP X5 hx hZ (hw 21 rfl) eq5 (g := (mkF m 12 #[sR a, sI 3] [.int 3, .ref a])) rfl (B.d 7 rfl) rfl (by decide) (cap := 3) (by decide) (by decide) (by decide) (by decide)
  obtain ⟨b7, g7⟩ : ∃ z, z = h2.size := ⟨_, rfl⟩
  rw [← g7] at A7 st7
  refine own_st st7 ?_
  have ne8 : a ≠ b7 := own_nl (F0.ext E2).lt (Nat.le_of_eq g7.symm)
  have gx9 : n0 ≤ b7 := Nat.le_trans Z3 (Nat.le_of_eq g7.symm)
  have Z10 : n0 ≤ h7.size := Nat.le_trans Z3 E7.1
  have hk := Nat.le_trans hk E7.1
  have sz12 : h0.size ≤ b7 := Nat.le_trans K4.1 (Nat.le_of_eq g7.symm)
  have K11 := K4.ext E7
  have V7 : own_AI Z h7 b7 k7 3 (fun _ => (0 : Int32)) := own_AI.new A7 (by decide)
  show own_Go _ _ _ _ T7 (mkF m 14 _ [.ref b7, .ref a])
  have f14 := ((F0.ext E2).ext E7)
  have f15 := ((F1.ext E2).ext E7)
  refine Kpf (.array .int) X7 B hZ hown (hw 22 rfl) Via.refl e7 f15 f14 (Or.inr ⟨(hw 23 rfl), rfl, hnm⟩) (hw 1 rfl) 8 rfl fun T13 h13 X13 e13 W13 f16 => ?_
  have N17 := Fr.snoc X13 N6 g_a
  have Z18 : n0 ≤ h13.size := Nat.le_trans Z10 (Nat.le_of_eq W13.size.symm)
  have hk := Nat.le_trans hk (Nat.le_of_eq W13.size.symm)
  have K19 := K11.wr W13 (own_mI 0 rfl)
  refine SaN X13 B 9 rfl rfl rfl ?_
  refine SiN X13 B 10 rfl rfl ?_
  obtain ⟨T20, h20, k20, X20, e20, E20, A20, st20⟩ := newP X13 hx hZ (hw 21 rfl) e13 (g := (mkF m 19 #[sR a, sI 3] [.int 3, .ref a])) rfl (B.d 11 rfl) rfl (by decide) (cap := 3) (by decide) (by decide) (by decide) (by decide)
  obtain ⟨b20, g20⟩ : ∃ z, z = h13.size := ⟨_, rfl⟩
  rw [← g20] at A20 st20
  refine own_st st20 ?_
  have ne21 : a ≠ b20 := own_nl (f14.wr W13).lt (Nat.le_of_eq g20.symm)
  have ne22 : b7 ≠ b20 := own_nl (V7.other W13 (Ne.symm ne8)).lt (Nat.le_of_eq g20.symm)
  have gx23 : n0 ≤ b20 := Nat.le_trans Z18 (Nat.le_of_eq g20.symm)
  have Z24 : n0 ≤ h20.size := Nat.le_trans Z18 E20.1
  have hk := Nat.le_trans hk E20.1
  have sz26 : h0.size ≤ b20 := Nat.le_trans K19.1 (Nat.le_of_eq g20.symm)
  have K25 := K19.ext E20
  have V20 : own_AI Z h20 b20 k20 3 (fun _ => (0 : Int32)) := own_AI.new A20 (by decide)
  show own_Go _ _ _ _ T20 (mkF m 21 _ [.ref b20, .ref a])
  have f28 := ((f14.wr W13).ext E20)
  have f29 := ((((F2.ext E2).ext E7).other W13 (Or.inr (slot_ne (Or.inr (hw 25 rfl)) (Or.inr (hw 23 rfl)) (by decide) (t := (.array .int)) (t' := (.array .int)) (by decide) (by decide)))).ext E20)
  refine Kpf (.array .int) X20 B hZ hown (hw 24 rfl) Via.refl e20 f29 f28 (Or.inr ⟨(hw 25 rfl), rfl, hnm⟩) (hw 1 rfl) 12 rfl fun T27 h27 X27 e27 W27 f30 => ?_
  have N31 := Fr.snoc X27 N17 g_a
  have Z32 : n0 ≤ h27.size := Nat.le_trans Z24 (Nat.le_of_eq W27.size.symm)
  have hk := Nat.le_trans hk (Nat.le_of_eq W27.size.symm)
  have K33 := K25.wr W27 (own_mI 0 rfl)
  refine SaN X27 B 13 rfl rfl rfl ?_
  refine SiN X27 B 14 rfl rfl ?_
  obtain ⟨T34, h34, k34, X34, e34, E34, A34, st34⟩ := newP X27 hx hZ (hw 21 rfl) e27 (g := (mkF m 26 #[sR a, sI 3] [.int 3, .ref a])) rfl (B.d 15 rfl) rfl (by decide) (cap := 3) (by decide) (by decide) (by decide) (by decide)
  obtain ⟨b34, g34⟩ : ∃ z, z = h27.size := ⟨_, rfl⟩
  rw [← g34] at A34 st34
  refine own_st st34 ?_
  have Z39 : n0 ≤ h34.size := Nat.le_trans Z32 E34.1
  have hk := Nat.le_trans hk E34.1
  have K40 := K33.ext E34
  show own_Go _ _ _ _ T34 (mkF m 28 _ [.ref b34, .ref a])
  have f43 := ((f28.wr W27).ext E34)
  have f44 := ((((((F3.ext E2).ext E7).other W13 (Or.inr (slot_ne (Or.inr (hw 27 rfl)) (Or.inr (hw 23 rfl)) (by decide) (t := (.array .int)) (t' := (.array .int)) (by decide) (by decide)))).ext E20).other W27 (Or.inr (slot_ne (Or.inr (hw 27 rfl)) (Or.inr (hw 25 rfl)) (by decide) (t := (.array .int)) (t' := (.array .int)) (by decide) (by decide)))).ext E34)
  refine Kpf (.array .int) X34 B hZ hown (hw 26 rfl) Via.refl e34 f44 f43 (Or.inr ⟨(hw 27 rfl), rfl, hnm⟩) (hw 1 rfl) 16 rfl fun T42 h42 X42 e42 W42 f45 => ?_
  have N46 := Fr.snoc X42 N31 g_a
  have Z47 : n0 ≤ h42.size := Nat.le_trans Z39 (Nat.le_of_eq W42.size.symm)
  have hk := Nat.le_trans hk (Nat.le_of_eq W42.size.symm)
  have K48 := K40.wr W42 (own_mI 0 rfl)
  refine SaN X42 B 17 rfl rfl rfl ?_
  refine SiN X42 B 18 rfl rfl ?_
  obtain ⟨T49, h49, k49, X49, e49, E49, A49, st49⟩ := newP X42 hx hZ (hw 21 rfl) e42 (g := (mkF m 33 #[sR a, sI 3] [.int 3, .ref a])) rfl (B.d 19 rfl) rfl (by decide) (cap := 3) (by decide) (by decide) (by decide) (by decide)
  obtain ⟨b49, g49⟩ : ∃ z, z = h42.size := ⟨_, rfl⟩
  rw [← g49] at A49 st49
  refine own_st st49 ?_
  have Z55 : n0 ≤ h49.size := Nat.le_trans Z47 E49.1
  have hk := Nat.le_trans hk E49.1
  have K56 := K48.ext E49
  show own_Go _ _ _ _ T49 (mkF m 35 _ [.ref b49, .ref a])
  have f59 := ((f43.wr W42).ext E49)
  have f60 := ((((((((F4.ext E2).ext E7).other W13 (Or.inr (slot_ne (Or.inr (hw 29 rfl)) (Or.inr (hw 23 rfl)) (by decide) (t := (.array .int)) (t' := (.array .int)) (by decide) (by decide)))).ext E20).other W27 (Or.inr (slot_ne (Or.inr (hw 29 rfl)) (Or.inr (hw 25 rfl)) (by decide) (t := (.array .int)) (t' := (.array .int)) (by decide) (by decide)))).ext E34).other W42 (Or.inr (slot_ne (Or.inr (hw 29 rfl)) (Or.inr (hw 27 rfl)) (by decide) (t := (.array .int)) (t' := (.array .int)) (by decide) (by decide)))).ext E49)
  refine Kpf (.array .int) X49 B hZ hown (hw 28 rfl) Via.refl e49 f60 f59 (Or.inr ⟨(hw 29 rfl), rfl, hnm⟩) (hw 1 rfl) 20 rfl fun T58 h58 X58 e58 W58 f61 => ?_
  have N62 := Fr.snoc X58 N46 g_a
  have Z63 : n0 ≤ h58.size := Nat.le_trans Z55 (Nat.le_of_eq W58.size.symm)
  have hk := Nat.le_trans hk (Nat.le_of_eq W58.size.symm)
  have K64 := K56.wr W58 (own_mI 0 rfl)
  refine SaN X58 B 21 rfl rfl rfl ?_
  refine SiN X58 B 22 rfl rfl ?_
  obtain ⟨T65, h65, k65, X65, e65, E65, A65, st65⟩ := newP X58 hx hZ (hw 21 rfl) e58 (g := (mkF m 40 #[sR a, sI 3] [.int 3, .ref a])) rfl (B.d 23 rfl) rfl (by decide) (cap := 3) (by decide) (by decide) (by decide) (by decide)
  obtain ⟨b65, g65⟩ : ∃ z, z = h58.size := ⟨_, rfl⟩
  rw [← g65] at A65 st65
  refine own_st st65 ?_
  have ne66 : a ≠ b65 := own_nl (f59.wr W58).lt (Nat.le_of_eq g65.symm)
  have ne67 : b7 ≠ b65 := own_nl (((((((V7.other W13 (Ne.symm ne8)).ext E20).other W27 (Ne.symm ne8)).ext E34).other W42 (Ne.symm ne8)).ext E49).other W58 (Ne.symm ne8)).lt (Nat.le_of_eq g65.symm)
  have ne68 : b20 ≠ b65 := own_nl (((((V20.other W27 (Ne.symm ne21)).ext E34).other W42 (Ne.symm ne21)).ext E49).other W58 (Ne.symm ne21)).lt (Nat.le_of_eq g65.symm)
  have gx71 : n0 ≤ b65 := Nat.le_trans Z63 (Nat.le_of_eq g65.symm)
  have Z72 : n0 ≤ h65.size := Nat.le_trans Z63 E65.1
  have hk := Nat.le_trans hk E65.1
  have sz74 : h0.size ≤ b65 := Nat.le_trans K64.1 (Nat.le_of_eq g65.symm)
  have K73 := K64.ext E65
  have V65 : own_AI Z h65 b65 k65 3 (fun _ => (0 : Int32)) := own_AI.new A65 (by decide)
  show own_Go _ _ _ _ T65 (mkF m 42 _ [.ref b65, .ref a])
  have f76 := ((f59.wr W58).ext E65)
  have f77 := ((((((((((F5.ext E2).ext E7).other W13 (Or.inr (slot_ne (Or.inr (hw 31 rfl)) (Or.inr (hw 23 rfl)) (by decide) (t := (.array .int)) (t' := (.array .int)) (by decide) (by decide)))).ext E20).other W27 (Or.inr (slot_ne (Or.inr (hw 31 rfl)) (Or.inr (hw 25 rfl)) (by decide) (t := (.array .int)) (t' := (.array .int)) (by decide) (by decide)))).ext E34).other W42 (Or.inr (slot_ne (Or.inr (hw 31 rfl)) (Or.inr (hw 27 rfl)) (by decide) (t := (.array .int)) (t' := (.array .int)) (by decide) (by decide)))).ext E49).other W58 (Or.inr (slot_ne (Or.inr (hw 31 rfl)) (Or.inr (hw 29 rfl)) (by decide) (t := (.array .int)) (t' := (.array .int)) (by decide) (by decide)))).ext E65)
  refine Kpf (.array .int) X65 B hZ hown (hw 30 rfl) Via.refl e65 f77 f76 (Or.inr ⟨(hw 31 rfl), rfl, hnm⟩) (hw 1 rfl) 24 rfl fun T75 h75 X75 e75 W75 f78 => ?_
  have N79 := Fr.snoc X75 N62 g_a
  have Z80 : n0 ≤ h75.size := Nat.le_trans Z72 (Nat.le_of_eq W75.size.symm)
  have hk := Nat.le_trans hk (Nat.le_of_eq W75.size.symm)
  have K81 := K73.wr W75 (own_mI 0 rfl)
  refine SaN X75 B 25 rfl rfl rfl ?_
  refine SiN X75 B 26 rfl rfl ?_
  obtain ⟨T82, h82, k82, X82, e82, E82, A82, st82⟩ := newP X75 hx hZ (hw 21 rfl) e75 (g := (mkF m 47 #[sR a, sI 3] [.int 3, .ref a])) rfl (B.d 27 rfl) rfl (by decide) (cap := 3) (by decide) (by decide) (by decide) (by decide)
  obtain ⟨b82, g82⟩ : ∃ z, z = h75.size := ⟨_, rfl⟩
  rw [← g82] at A82 st82
  refine own_st st82 ?_
  have ne83 : a ≠ b82 := own_nl (f76.wr W75).lt (Nat.le_of_eq g82.symm)
  have ne84 : b7 ≠ b82 := own_nl (((((((((V7.other W13 (Ne.symm ne8)).ext E20).other W27 (Ne.symm ne8)).ext E34).other W42 (Ne.symm ne8)).ext E49).other W58 (Ne.symm ne8)).ext E65).other W75 (Ne.symm ne8)).lt (Nat.le_of_eq g82.symm)
  have ne85 : b20 ≠ b82 := own_nl (((((((V20.other W27 (Ne.symm ne21)).ext E34).other W42 (Ne.symm ne21)).ext E49).other W58 (Ne.symm ne21)).ext E65).other W75 (Ne.symm ne21)).lt (Nat.le_of_eq g82.symm)
  have ne88 : b65 ≠ b82 := own_nl (V65.other W75 (Ne.symm ne66)).lt (Nat.le_of_eq g82.symm)
  have gx89 : n0 ≤ b82 := Nat.le_trans Z80 (Nat.le_of_eq g82.symm)
  have Z90 : n0 ≤ h82.size := Nat.le_trans Z80 E82.1
  have hk := Nat.le_trans hk E82.1
  have sz92 : h0.size ≤ b82 := Nat.le_trans K81.1 (Nat.le_of_eq g82.symm)
  have K91 := K81.ext E82
  have V82 : own_AI Z h82 b82 k82 3 (fun _ => (0 : Int32)) := own_AI.new A82 (by decide)
  show own_Go _ _ _ _ T82 (mkF m 49 _ [.ref b82, .ref a])
  have f94 := ((f76.wr W75).ext E82)
  have f95 := ((((((((((((F6.ext E2).ext E7).other W13 (Or.inr (slot_ne (Or.inr (hw 33 rfl)) (Or.inr (hw 23 rfl)) (by decide) (t := (.array .int)) (t' := (.array .int)) (by decide) (by decide)))).ext E20).other W27 (Or.inr (slot_ne (Or.inr (hw 33 rfl)) (Or.inr (hw 25 rfl)) (by decide) (t := (.array .int)) (t' := (.array .int)) (by decide) (by decide)))).ext E34).other W42 (Or.inr (slot_ne (Or.inr (hw 33 rfl)) (Or.inr (hw 27 rfl)) (by decide) (t := (.array .int)) (t' := (.array .int)) (by decide) (by decide)))).ext E49).other W58 (Or.inr (slot_ne (Or.inr (hw 33 rfl)) (Or.inr (hw 29 rfl)) (by decide) (t := (.array .int)) (t' := (.array .int)) (by decide) (by decide)))).ext E65).other W75 (Or.inr (slot_ne (Or.inr (hw 33 rfl)) (Or.inr (hw 31 rfl)) (by decide) (t := (.array .int)) (t' := (.array .int)) (by decide) (by decide)))).ext E82)
  refine Kpf (.array .int) X82 B hZ hown (hw 32 rfl) Via.refl e82 f95 f94 (Or.inr ⟨(hw 33 rfl), rfl, hnm⟩) (hw 1 rfl) 28 rfl fun T93 h93 X93 e93 W93 f96 => ?_
  have N97 := Fr.snoc X93 N79 g_a
  have Z98 : n0 ≤ h93.size := Nat.le_trans Z90 (Nat.le_of_eq W93.size.symm)
  have hk := Nat.le_trans hk (Nat.le_of_eq W93.size.symm)
  have K99 := K91.wr W93 (own_mI 0 rfl)
  refine SaN X93 B 29 rfl rfl rfl ?_
  refine SiN X93 B 30 rfl rfl ?_
  obtain ⟨T100, h100, k100, X100, e100, E100, A100, st100⟩ := newP X93 hx hZ (hw 21 rfl) e93 (g := (mkF m 54 #[sR a, sI 3] [.int 3, .ref a])) rfl (B.d 31 rfl) rfl (by decide) (cap := 3) (by decide) (by decide) (by decide) (by decide)
  obtain ⟨b100, g100⟩ : ∃ z, z = h93.size := ⟨_, rfl⟩
  rw [← g100] at A100 st100
  refine own_st st100 ?_
  have ne101 : a ≠ b100 := own_nl (f94.wr W93).lt (Nat.le_of_eq g100.symm)
  have ne102 : b7 ≠ b100 := own_nl (((((((((((V7.other W13 (Ne.symm ne8)).ext E20).other W27 (Ne.symm ne8)).ext E34).other W42 (Ne.symm ne8)).ext E49).other W58 (Ne.symm ne8)).ext E65).other W75 (Ne.symm ne8)).ext E82).other W93 (Ne.symm ne8)).lt (Nat.le_of_eq g100.symm)
  have ne103 : b20 ≠ b100 := own_nl (((((((((V20.other W27 (Ne.symm ne21)).ext E34).other W42 (Ne.symm ne21)).ext E49).other W58 (Ne.symm ne21)).ext E65).other W75 (Ne.symm ne21)).ext E82).other W93 (Ne.symm ne21)).lt (Nat.le_of_eq g100.symm)
  have ne106 : b65 ≠ b100 := own_nl (((V65.other W75 (Ne.symm ne66)).ext E82).other W93 (Ne.symm ne66)).lt (Nat.le_of_eq g100.symm)
  have ne107 : b82 ≠ b100 := own_nl (V82.other W93 (Ne.symm ne83)).lt (Nat.le_of_eq g100.symm)
  have gx108 : n0 ≤ b100 := Nat.le_trans Z98 (Nat.le_of_eq g100.symm)
  have Z109 : n0 ≤ h100.size := Nat.le_trans Z98 E100.1
  have hk := Nat.le_trans hk E100.1
  have sz111 : h0.size ≤ b100 := Nat.le_trans K99.1 (Nat.le_of_eq g100.symm)
  have K110 := K99.ext E100
  have V100 : own_AI Z h100 b100 k100 3 (fun _ => (0 : Int32)) := own_AI.new A100 (by decide)
  show own_Go _ _ _ _ T100 (mkF m 56 _ [.ref b100, .ref a])
  have f113 := ((f94.wr W93).ext E100)
  have f114 := ((((((((((((((F7.ext E2).ext E7).other W13 (Or.inr (slot_ne (Or.inr (hw 35 rfl)) (Or.inr (hw 23 rfl)) (by decide) (t := (.array .int)) (t' := (.array .int)) (by decide) (by decide)))).ext E20).other W27 (Or.inr (slot_ne (Or.inr (hw 35 rfl)) (Or.inr (hw 25 rfl)) (by decide) (t := (.array .int)) (t' := (.array .int)) (by decide) (by decide)))).ext E34).other W42 (Or.inr (slot_ne (Or.inr (hw 35 rfl)) (Or.inr (hw 27 rfl)) (by decide) (t := (.array .int)) (t' := (.array .int)) (by decide) (by decide)))).ext E49).other W58 (Or.inr (slot_ne (Or.inr (hw 35 rfl)) (Or.inr (hw 29 rfl)) (by decide) (t := (.array .int)) (t' := (.array .int)) (by decide) (by decide)))).ext E65).other W75 (Or.inr (slot_ne (Or.inr (hw 35 rfl)) (Or.inr (hw 31 rfl)) (by decide) (t := (.array .int)) (t' := (.array .int)) (by decide) (by decide)))).ext E82).other W93 (Or.inr (slot_ne (Or.inr (hw 35 rfl)) (Or.inr (hw 33 rfl)) (by decide) (t := (.array .int)) (t' := (.array .int)) (by decide) (by decide)))).ext E100)
  refine Kpf (.array .int) X100 B hZ hown (hw 34 rfl) Via.refl e100 f114 f113 (Or.inr ⟨(hw 35 rfl), rfl, hnm⟩) (hw 1 rfl) 32 rfl fun T112 h112 X112 e112 W112 f115 => ?_
  have N116 := Fr.snoc X112 N97 g_a
  have Z117 : n0 ≤ h112.size := Nat.le_trans Z109 (Nat.le_of_eq W112.size.symm)
  have hk := Nat.le_trans hk (Nat.le_of_eq W112.size.symm)
  have K118 := K110.wr W112 (own_mI 0 rfl)
  refine SaN X112 B 33 rfl rfl rfl ?_
  refine SiN X112 B 34 rfl rfl ?_
  obtain ⟨T119, h119, k119, X119, e119, E119, A119, st119⟩ := newP X112 hx hZ (hw 21 rfl) e112 (g := (mkF m 61 #[sR a, sI 3] [.int 3, .ref a])) rfl (B.d 35 rfl) rfl (by decide) (cap := 3) (by decide) (by decide) (by decide) (by decide)
  obtain ⟨b119, g119⟩ : ∃ z, z = h112.size := ⟨_, rfl⟩
  rw [← g119] at A119 st119
  refine own_st st119 ?_
  have ne120 : a ≠ b119 := own_nl (f113.wr W112).lt (Nat.le_of_eq g119.symm)
  have ne121 : b7 ≠ b119 := own_nl (((((((((((((V7.other W13 (Ne.symm ne8)).ext E20).other W27 (Ne.symm ne8)).ext E34).other W42 (Ne.symm ne8)).ext E49).other W58 (Ne.symm ne8)).ext E65).other W75 (Ne.symm ne8)).ext E82).other W93 (Ne.symm ne8)).ext E100).other W112 (Ne.symm ne8)).lt (Nat.le_of_eq g119.symm)
  have ne122 : b20 ≠ b119 := own_nl (((((((((((V20.other W27 (Ne.symm ne21)).ext E34).other W42 (Ne.symm ne21)).ext E49).other W58 (Ne.symm ne21)).ext E65).other W75 (Ne.symm ne21)).ext E82).other W93 (Ne.symm ne21)).ext E100).other W112 (Ne.symm ne21)).lt (Nat.le_of_eq g119.symm)
  have ne125 : b65 ≠ b119 := own_nl (((((V65.other W75 (Ne.symm ne66)).ext E82).other W93 (Ne.symm ne66)).ext E100).other W112 (Ne.symm ne66)).lt (Nat.le_of_eq g119.symm)
  have ne126 : b82 ≠ b119 := own_nl (((V82.other W93 (Ne.symm ne83)).ext E100).other W112 (Ne.symm ne83)).lt (Nat.le_of_eq g119.symm)
  have ne127 : b100 ≠ b119 := own_nl (V100.other W112 (Ne.symm ne101)).lt (Nat.le_of_eq g119.symm)
  have gx128 : n0 ≤ b119 := Nat.le_trans Z117 (Nat.le_of_eq g119.symm)
  have hk := Nat.le_trans hk E119.1
  have sz131 : h0.size ≤ b119 := Nat.le_trans K118.1 (Nat.le_of_eq g119.symm)
  have K130 := K118.ext E119
  have V119 : own_AI Z h119 b119 k119 3 (fun _ => (0 : Int32)) := own_AI.new A119 (by decide)
  show own_Go _ _ _ _ T119 (mkF m 63 _ [.ref b119, .ref a])
  have f133 := ((f113.wr W112).ext E119)
  have f134 := ((((((((((((((((F8.ext E2).ext E7).other W13 (Or.inr (slot_ne (Or.inr (hw 37 rfl)) (Or.inr (hw 23 rfl)) (by decide) (t := (.array .int)) (t' := (.array .int)) (by decide) (by decide)))).ext E20).other W27 (Or.inr (slot_ne (Or.inr (hw 37 rfl)) (Or.inr (hw 25 rfl)) (by decide) (t := (.array .int)) (t' := (.array .int)) (by decide) (by decide)))).ext E34).other W42 (Or.inr (slot_ne (Or.inr (hw 37 rfl)) (Or.inr (hw 27 rfl)) (by decide) (t := (.array .int)) (t' := (.array .int)) (by decide) (by decide)))).ext E49).other W58 (Or.inr (slot_ne (Or.inr (hw 37 rfl)) (Or.inr (hw 29 rfl)) (by decide) (t := (.array .int)) (t' := (.array .int)) (by decide) (by decide)))).ext E65).other W75 (Or.inr (slot_ne (Or.inr (hw 37 rfl)) (Or.inr (hw 31 rfl)) (by decide) (t := (.array .int)) (t' := (.array .int)) (by decide) (by decide)))).ext E82).other W93 (Or.inr (slot_ne (Or.inr (hw 37 rfl)) (Or.inr (hw 33 rfl)) (by decide) (t := (.array .int)) (t' := (.array .int)) (by decide) (by decide)))).ext E100).other W112 (Or.inr (slot_ne (Or.inr (hw 37 rfl)) (Or.inr (hw 35 rfl)) (by decide) (t := (.array .int)) (t' := (.array .int)) (by decide) (by decide)))).ext E119)
  refine Kpf (.array .int) X119 B hZ hown (hw 36 rfl) Via.refl e119 f134 f133 (Or.inr ⟨(hw 37 rfl), rfl, hnm⟩) (hw 1 rfl) 36 rfl fun T132 h132 X132 e132 W132 f135 => ?_
  have N136 := Fr.snoc X132 N116 g_a
  have hk := Nat.le_trans hk (Nat.le_of_eq W132.size.symm)
  have K138 := K130.wr W132 (own_mI 0 rfl)
  subst hPq
  refine own_outW X132 hS (by rw [e132]; exact hk) (v := none) (fun _ => rfl) Bd.notSynchronized (fun fs hr => X132.returnOut hx Bd.returns (B.d 37 rfl) hr) (by decide) (by decide) ?_
  show Q2 Z a u0 u1 u2 u3 u4 u5 u6 u7 h0 n0 _ T132.heap _
  rw [e132]
  exact ⟨k7, k20, k65, k82, k100, k119, b7, b20, b65, b82, b100, b119, rfl, N136, K138, gx9, sz12, gx23, sz26, gx71, sz74, gx89, sz92, gx108, sz111, gx128, sz131, (f133.wr W132), ((((((((((((((f16.ext E20).other W27 (Or.inr (slot_ne (Or.inr (hw 23 rfl)) (Or.inr (hw 25 rfl)) (by decide) (t := (.array .int)) (t' := (.array .int)) (by decide) (by decide)))).ext E34).other W42 (Or.inr (slot_ne (Or.inr (hw 23 rfl)) (Or.inr (hw 27 rfl)) (by decide) (t := (.array .int)) (t' := (.array .int)) (by decide) (by decide)))).ext E49).other W58 (Or.inr (slot_ne (Or.inr (hw 23 rfl)) (Or.inr (hw 29 rfl)) (by decide) (t := (.array .int)) (t' := (.array .int)) (by decide) (by decide)))).ext E65).other W75 (Or.inr (slot_ne (Or.inr (hw 23 rfl)) (Or.inr (hw 31 rfl)) (by decide) (t := (.array .int)) (t' := (.array .int)) (by decide) (by decide)))).ext E82).other W93 (Or.inr (slot_ne (Or.inr (hw 23 rfl)) (Or.inr (hw 33 rfl)) (by decide) (t := (.array .int)) (t' := (.array .int)) (by decide) (by decide)))).ext E100).other W112 (Or.inr (slot_ne (Or.inr (hw 23 rfl)) (Or.inr (hw 35 rfl)) (by decide) (t := (.array .int)) (t' := (.array .int)) (by decide) (by decide)))).ext E119).other W132 (Or.inr (slot_ne (Or.inr (hw 23 rfl)) (Or.inr (hw 37 rfl)) (by decide) (t := (.array .int)) (t' := (.array .int)) (by decide) (by decide)))), ((((((((((((f30.ext E34).other W42 (Or.inr (slot_ne (Or.inr (hw 25 rfl)) (Or.inr (hw 27 rfl)) (by decide) (t := (.array .int)) (t' := (.array .int)) (by decide) (by decide)))).ext E49).other W58 (Or.inr (slot_ne (Or.inr (hw 25 rfl)) (Or.inr (hw 29 rfl)) (by decide) (t := (.array .int)) (t' := (.array .int)) (by decide) (by decide)))).ext E65).other W75 (Or.inr (slot_ne (Or.inr (hw 25 rfl)) (Or.inr (hw 31 rfl)) (by decide) (t := (.array .int)) (t' := (.array .int)) (by decide) (by decide)))).ext E82).other W93 (Or.inr (slot_ne (Or.inr (hw 25 rfl)) (Or.inr (hw 33 rfl)) (by decide) (t := (.array .int)) (t' := (.array .int)) (by decide) (by decide)))).ext E100).other W112 (Or.inr (slot_ne (Or.inr (hw 25 rfl)) (Or.inr (hw 35 rfl)) (by decide) (t := (.array .int)) (t' := (.array .int)) (by decide) (by decide)))).ext E119).other W132 (Or.inr (slot_ne (Or.inr (hw 25 rfl)) (Or.inr (hw 37 rfl)) (by decide) (t := (.array .int)) (t' := (.array .int)) (by decide) (by decide)))), ((((((f78.ext E82).other W93 (Or.inr (slot_ne (Or.inr (hw 31 rfl)) (Or.inr (hw 33 rfl)) (by decide) (t := (.array .int)) (t' := (.array .int)) (by decide) (by decide)))).ext E100).other W112 (Or.inr (slot_ne (Or.inr (hw 31 rfl)) (Or.inr (hw 35 rfl)) (by decide) (t := (.array .int)) (t' := (.array .int)) (by decide) (by decide)))).ext E119).other W132 (Or.inr (slot_ne (Or.inr (hw 31 rfl)) (Or.inr (hw 37 rfl)) (by decide) (t := (.array .int)) (t' := (.array .int)) (by decide) (by decide)))), ((((f96.ext E100).other W112 (Or.inr (slot_ne (Or.inr (hw 33 rfl)) (Or.inr (hw 35 rfl)) (by decide) (t := (.array .int)) (t' := (.array .int)) (by decide) (by decide)))).ext E119).other W132 (Or.inr (slot_ne (Or.inr (hw 33 rfl)) (Or.inr (hw 37 rfl)) (by decide) (t := (.array .int)) (t' := (.array .int)) (by decide) (by decide)))), ((f115.ext E119).other W132 (Or.inr (slot_ne (Or.inr (hw 35 rfl)) (Or.inr (hw 37 rfl)) (by decide) (t := (.array .int)) (t' := (.array .int)) (by decide) (by decide)))), f135, (((((((((((((((V7.other W13 (Ne.symm ne8)).ext E20).other W27 (Ne.symm ne8)).ext E34).other W42 (Ne.symm ne8)).ext E49).other W58 (Ne.symm ne8)).ext E65).other W75 (Ne.symm ne8)).ext E82).other W93 (Ne.symm ne8)).ext E100).other W112 (Ne.symm ne8)).ext E119).other W132 (Ne.symm ne8)), (((((((((((((V20.other W27 (Ne.symm ne21)).ext E34).other W42 (Ne.symm ne21)).ext E49).other W58 (Ne.symm ne21)).ext E65).other W75 (Ne.symm ne21)).ext E82).other W93 (Ne.symm ne21)).ext E100).other W112 (Ne.symm ne21)).ext E119).other W132 (Ne.symm ne21)), (((((((V65.other W75 (Ne.symm ne66)).ext E82).other W93 (Ne.symm ne66)).ext E100).other W112 (Ne.symm ne66)).ext E119).other W132 (Ne.symm ne66)), (((((V82.other W93 (Ne.symm ne83)).ext E100).other W112 (Ne.symm ne83)).ext E119).other W132 (Ne.symm ne83)), (((V100.other W112 (Ne.symm ne101)).ext E119).other W132 (Ne.symm ne101)), (V119.other W132 (Ne.symm ne120)), ne22, ne67, ne84, ne102, ne121, ne68, ne85, ne103, ne122, ne88, ne106, ne125, ne107, ne126, ne127⟩
theorem own_ef3 (m : MethodId) (m1 m2 : Addr) (xi x x : Int32) : entryFrame m #[.ref m1, .ref m2, .int xi, .int x, .int x] 5 = mkF m 0 #[sR m1, sR m2, sI xi, sI x, sI x] [] := by first | (simp [entryFrame, mkF, argsToLocals, Value.category]; done) | rfl
def Q3 (Z : State) (xi x : Int32) (m1 m2 : Addr) (ka kb : ClassId) (gA gB : Nat → Int32) (h0 : Heap) (n0 : Nat) (v : Option Value) (h : Heap) (L : List Loc) : Prop := v = none ∧ Fr n0 L ∧ Keep h0 h [m1, m2] ∧ own_AI Z h m1 ka 3 (own_updI gA xi.toNatClampNeg x) ∧ own_AI Z h m2 kb 3 (own_updI gB xi.toNatClampNeg x)
set_option maxRecDepth 65536 in
set_option maxHeartbeats 4000000 in
theorem rm3 {l : Launch} {Z : State} {a0 : Array Value} (hw : own_T a0 Z) (xi x : Int32) (m1 m2 : Addr) (ka kb : ClassId) (gA gB : Nat → Int32) (h0 : Heap) (n0 : Nat) (Z0 : n0 ≤ h0.size) (F0 : own_AI Z h0 m1 ka 3 gA) (F1 : own_AI Z h0 m2 kb 3 gB) (na1 : m1 ≠ m2) (hi : ¬ xi < 0 ∧ xi < (3 : Int32)) (g_m1 : n0 ≤ m1) (g_m2 : n0 ≤ m2) :
    own_M l Z ym3 prog_44_method_24_code 5 none ⟨0, 0, 0, 0⟩ #[.ref m1, .ref m2, .int xi, .int x, .int x] h0 (Q3 Z xi x m1 m2 ka kb gA gB h0 n0) := by
  refine own_open kTB #[sR m1, sR m2, sI xi, sI x, sI x] (plainFor_of_name own_pn2) DL3 rfl (fun m => own_ef3 m m1 m2 xi x x) fun p e s m below meth c s₁ Bd B hZ hown X0 e0 Pq hPq => ?_
  have hx := B.x
  have N0 := Fr.nil n0
  have K0 : Keep h0 h0 [m1, m2] := Keep.refl _ _
  refine SiN X0 B 0 rfl rfl ?_
  refine Si X0 B 1 rfl rfl ?_
  refine Scy 3 22 X0 B 2 rfl (flt (own_irr x)).2.2.2 ?_
  refine SaN X0 B 3 rfl rfl rfl ?_
  refine SiN X0 B 4 rfl rfl ?_
  refine SiN X0 B 5 rfl rfl ?_
  refine Kis _ X0 B hZ e0 F0 hi rfl 6 rfl fun T1 h1 X1 e1 W1 f2 => ?_
  have N3 := Fr.snoc X1 N0 g_m1
  have K5 := K0.wr W1 (own_mI 0 rfl)
  refine SaN X1 B 7 rfl rfl rfl ?_
  refine SiN X1 B 8 rfl rfl ?_
  refine Si X1 B 9 rfl rfl ?_
  have f7 := (F1.other W1 (Ne.symm na1))
  refine Kis _ X1 B hZ e1 f7 hi rfl 10 rfl fun T6 h6 X6 e6 W6 f8 => ?_
  have N9 := Fr.snoc X6 N3 g_m2
  have K11 := K5.wr W6 (own_mI 1 rfl)
  refine own_oV X6 B Bd 11 rfl hPq ?_
  rw [e6]
  exact ⟨rfl, N9, K11, (f2.other W6 na1), f8⟩
theorem own_ef4 (m : MethodId) (a : Addr) (xi x x : Int32) : entryFrame m #[.ref a, .int xi, .int x, .int x] 4 = mkF m 0 #[sR a, sI xi, sI x, sI x] [] := by first | (simp [entryFrame, mkF, argsToLocals, Value.category]; done) | rfl
def Q4 (Z : State) (a : Addr) (xi x : Int32) (m1 m2 : Addr) (ka kb : ClassId) (gA gB : Nat → Int32) (h0 : Heap) (n0 : Nat) (v : Option Value) (h : Heap) (L : List Loc) : Prop := v = none ∧ Fr n0 L ∧ Keep h0 h [m1, m2] ∧ own_AI Z h m1 ka 3 (own_updI gA xi.toNatClampNeg x) ∧ own_AI Z h m2 kb 3 (own_updI gB xi.toNatClampNeg x)
set_option maxRecDepth 65536 in
set_option maxHeartbeats 4000000 in
theorem rm4 {l : Launch} {Z : State} {a0 : Array Value} (hw : own_T a0 Z) (a : Addr) (xi x : Int32) (m1 m2 : Addr) (ka kb : ClassId) (gA gB : Nat → Int32) (h0 : Heap) (n0 : Nat) (Z0 : n0 ≤ h0.size) (F0 : Exa Z h0 a kTB) (F1 : Fld Z h0 a kTB "endMin" "[I" (.ref m1)) (F2 : Fld Z h0 a kTB "endMax" "[I" (.ref m2)) (F3 : own_AI Z h0 m1 ka 3 gA) (F4 : own_AI Z h0 m2 kb 3 gB) (na1 : m1 ≠ m2) (na2 : m1 ≠ a) (na3 : m2 ≠ a) (hi : ¬ xi < 0 ∧ xi < (3 : Int32)) (g_m1 : n0 ≤ m1) (g_m2 : n0 ≤ m2) :
    own_M l Z ym4 prog_44_method_6_code 4 none ⟨1, 0, 0, 16⟩ #[.ref a, .int xi, .int x, .int x] h0 (Q4 Z a xi x m1 m2 ka kb gA gB h0 n0) := by
  refine own_open kTB #[sR a, sI xi, sI x, sI x] (plainFor_of_name own_pn2) DL4 rfl (fun m => own_ef4 m a xi x x) fun p e s m below meth c s₁ Bd B hZ hown X0 e0 Pq hPq => ?_
  have hx := B.x
  have N0 := Fr.nil n0
  have K0 : Keep h0 h0 [m1, m2] := Keep.refl _ _
  refine SaN X0 B 0 rfl rfl rfl ?_
  refine Kgf X0 B hZ hown (hw 30 rfl) Via.refl e0 F1 1 rfl fun T1 X1 e1 => ?_
  refine SaN X1 B 2 rfl rfl rfl ?_
  refine Kgf X1 B hZ hown (hw 32 rfl) Via.refl e1 F2 3 rfl fun T2 X2 e2 => ?_
  refine SiN X2 B 4 rfl rfl ?_
  refine SiN X2 B 5 rfl rfl ?_
  refine SiN X2 B 6 rfl rfl ?_
  refine Kst (wt := 0) (y := ym3) none X2 B hZ hown (hw 43 rfl) (hw 44 rfl) (hw 2 rfl) (hw 45 rfl) (rm3 hw xi x m1 m2 ka kb gA gB h0 n0 Z0 F3 F4 na1 hi g_m1 g_m2) e2 own_pd___I_IIII_V 7 rfl rfl rfl (fun _ _ _ q => q.1) fun T3 Lc3 X3 hQ3 => ?_
  obtain ⟨-, NQ3, K3, fq3_0, fq3_1⟩ := hQ3
  have N4 := Fr.app N0 NQ3
  have K6 := K0.trans K3 (allS (own_mI 0 rfl) (allS (own_mI 1 rfl) all0))
  show own_Go _ _ _ _ T3 (mkF m 14 _ [])
  refine own_oV X3 B Bd 8 rfl hPq ?_
  exact ⟨rfl, N4, K6, fq3_0, fq3_1⟩
theorem own_ef5 (m : MethodId) (a : Addr) (xi x x : Int32) : entryFrame m #[.ref a, .int xi, .int x, .int x] 4 = mkF m 0 #[sR a, sI xi, sI x, sI x] [] := by first | (simp [entryFrame, mkF, argsToLocals, Value.category]; done) | rfl
def Q5 (Z : State) (a : Addr) (xi x : Int32) (m1 m2 : Addr) (ka kb : ClassId) (gA gB : Nat → Int32) (h0 : Heap) (n0 : Nat) (v : Option Value) (h : Heap) (L : List Loc) : Prop := v = none ∧ Fr n0 L ∧ Keep h0 h [m1, m2] ∧ own_AI Z h m1 ka 3 (own_updI gA xi.toNatClampNeg x) ∧ own_AI Z h m2 kb 3 (own_updI gB xi.toNatClampNeg x)
set_option maxRecDepth 65536 in
set_option maxHeartbeats 4000000 in
theorem rm5 {l : Launch} {Z : State} {a0 : Array Value} (hw : own_T a0 Z) (a : Addr) (xi x : Int32) (m1 m2 : Addr) (ka kb : ClassId) (gA gB : Nat → Int32) (h0 : Heap) (n0 : Nat) (Z0 : n0 ≤ h0.size) (F0 : Exa Z h0 a kTB) (F1 : Fld Z h0 a kTB "originMin" "[I" (.ref m1)) (F2 : Fld Z h0 a kTB "originMax" "[I" (.ref m2)) (F3 : own_AI Z h0 m1 ka 3 gA) (F4 : own_AI Z h0 m2 kb 3 gB) (na1 : m1 ≠ m2) (na2 : m1 ≠ a) (na3 : m2 ≠ a) (hi : ¬ xi < 0 ∧ xi < (3 : Int32)) (g_m1 : n0 ≤ m1) (g_m2 : n0 ≤ m2) :
    own_M l Z ym5 prog_44_method_4_code 4 none ⟨1, 0, 0, 16⟩ #[.ref a, .int xi, .int x, .int x] h0 (Q5 Z a xi x m1 m2 ka kb gA gB h0 n0) := by
  refine own_open kTB #[sR a, sI xi, sI x, sI x] (plainFor_of_name own_pn2) DL5 rfl (fun m => own_ef5 m a xi x x) fun p e s m below meth c s₁ Bd B hZ hown X0 e0 Pq hPq => ?_
  have hx := B.x
  have N0 := Fr.nil n0
  have K0 : Keep h0 h0 [m1, m2] := Keep.refl _ _
  refine SaN X0 B 0 rfl rfl rfl ?_
  refine Kgf X0 B hZ hown (hw 22 rfl) Via.refl e0 F1 1 rfl fun T1 X1 e1 => ?_
  refine SaN X1 B 2 rfl rfl rfl ?_
  refine Kgf X1 B hZ hown (hw 24 rfl) Via.refl e1 F2 3 rfl fun T2 X2 e2 => ?_
  refine SiN X2 B 4 rfl rfl ?_
  refine SiN X2 B 5 rfl rfl ?_
  refine SiN X2 B 6 rfl rfl ?_
  refine Kst (wt := 0) (y := ym3) none X2 B hZ hown (hw 43 rfl) (hw 44 rfl) (hw 2 rfl) (hw 45 rfl) (rm3 hw xi x m1 m2 ka kb gA gB h0 n0 Z0 F3 F4 na1 hi g_m1 g_m2) e2 own_pd___I_IIII_V 7 rfl rfl rfl (fun _ _ _ q => q.1) fun T3 Lc3 X3 hQ3 => ?_
  obtain ⟨-, NQ3, K3, fq3_0, fq3_1⟩ := hQ3
  have N4 := Fr.app N0 NQ3
  have K6 := K0.trans K3 (allS (own_mI 0 rfl) (allS (own_mI 1 rfl) all0))
  show own_Go _ _ _ _ T3 (mkF m 14 _ [])
  refine own_oV X3 B Bd 8 rfl hPq ?_
  exact ⟨rfl, N4, K6, fq3_0, fq3_1⟩
theorem own_ef6 (m : MethodId) (a : Addr) : entryFrame m #[.ref a] 1 = mkF m 0 #[sR a] [] := by first | (simp [entryFrame, mkF, argsToLocals, Value.category]; done) | rfl
def Q6 (Z : State) (a m1 : Addr) (ka : ClassId) (gA : Nat → Int32) (h0 : Heap) (n0 : Nat) (v : Option Value) (h : Heap) (L : List Loc) : Prop := v = some (.int 3) ∧ Fr n0 L ∧ h = h0
set_option maxRecDepth 65536 in
set_option maxHeartbeats 4000000 in
theorem rm6 {l : Launch} {Z : State} {a0 : Array Value} (hw : own_T a0 Z) (a m1 : Addr) (ka : ClassId) (gA : Nat → Int32) (h0 : Heap) (n0 : Nat) (Z0 : n0 ≤ h0.size) (F0 : Exa Z h0 a kTB) (F1 : Fld Z h0 a kTB "originMin" "[I" (.ref m1)) (F2 : own_AI Z h0 m1 ka 3 gA) :
    own_M l Z ym6 prog_44_method_2_code 1 (some .int) ⟨0, 0, 0, 0⟩ #[.ref a] h0 (Q6 Z a m1 ka gA h0 n0) := by
  refine own_open kTB #[sR a] (plainFor_of_name own_pn2) DL6 rfl (fun m => own_ef6 m a) fun p e s m below meth c s₁ Bd B hZ hown X0 e0 Pq hPq => ?_
  have hx := B.x
  have N0 := Fr.nil n0
  refine SaN X0 B 0 rfl rfl rfl ?_
  refine Kgf X0 B hZ hown (hw 22 rfl) Via.refl e0 F1 1 rfl fun T1 X1 e1 => ?_
  obtain ⟨c2, Ar2, q2, S2, N2, H2⟩ := id F2
  refine own_st (fun t k => X1.arraylength hx (by rw [e1]; exact Ar2.1) (State.isArrayOf_alike hZ.alike Ar2.2.1) (g := (mkF m 4 #[sR a] [.ref m1])) rfl rfl (B.d 2 rfl) _ k) ?_
  rw [len_of S2 N2]
  show own_Go _ _ _ _ T1 (mkF m 5 _ [.int 3])
  refine own_oI X1 B Bd 3 rfl hPq ?_
  rw [e1]
  exact ⟨rfl, N0, rfl⟩
theorem own_ef7 (m : MethodId) (a : Addr) (x0 : Int32) : entryFrame m #[.ref a, .int x0] 2 = mkF m 0 #[sR a, sI x0] [] := by first | (simp [entryFrame, mkF, argsToLocals, Value.category]; done) | rfl
def Q7 (Z : State) (a : Addr) (x0 : Int32) (m1 : Addr) (ka : ClassId) (gA : Nat → Int32) (h0 : Heap) (n0 : Nat) (v : Option Value) (h : Heap) (L : List Loc) : Prop := v = some (.int (gA x0.toNatClampNeg)) ∧ Fr n0 L ∧ h = h0
set_option maxRecDepth 65536 in
set_option maxHeartbeats 4000000 in
theorem rm7 {l : Launch} {Z : State} {a0 : Array Value} (hw : own_T a0 Z) (a : Addr) (x0 : Int32) (m1 : Addr) (ka : ClassId) (gA : Nat → Int32) (h0 : Heap) (n0 : Nat) (Z0 : n0 ≤ h0.size) (F0 : Exa Z h0 a kTB) (F1 : Fld Z h0 a kTB "originMax" "[I" (.ref m1)) (F2 : own_AI Z h0 m1 ka 3 gA) (hi : ¬ x0 < 0 ∧ x0 < (3 : Int32)) :
    own_M l Z ym7 prog_44_method_9_code 2 (some .int) ⟨0, 0, 0, 0⟩ #[.ref a, .int x0] h0 (Q7 Z a x0 m1 ka gA h0 n0) := by
  refine own_open kTB #[sR a, sI x0] (plainFor_of_name own_pn2) DL7 rfl (fun m => own_ef7 m a x0) fun p e s m below meth c s₁ Bd B hZ hown X0 e0 Pq hPq => ?_
  have hx := B.x
  have N0 := Fr.nil n0
  refine SaN X0 B 0 rfl rfl rfl ?_
  refine Kgf X0 B hZ hown (hw 24 rfl) Via.refl e0 F1 1 rfl fun T1 X1 e1 => ?_
  refine SiN X1 B 2 rfl rfl ?_
  refine Kil _ X1 B hZ e1 F2 hi rfl 3 rfl ?_
  refine own_oI X1 B Bd 4 rfl hPq ?_
  rw [e1]
  exact ⟨rfl, N0, rfl⟩
theorem own_ef8 (m : MethodId) (a : Addr) (x0 : Int32) : entryFrame m #[.ref a, .int x0] 2 = mkF m 0 #[sR a, sI x0] [] := by first | (simp [entryFrame, mkF, argsToLocals, Value.category]; done) | rfl
def Q8 (Z : State) (a : Addr) (x0 : Int32) (m1 : Addr) (ka : ClassId) (gA : Nat → Int32) (h0 : Heap) (n0 : Nat) (v : Option Value) (h : Heap) (L : List Loc) : Prop := v = some (.int (gA x0.toNatClampNeg)) ∧ Fr n0 L ∧ h = h0
set_option maxRecDepth 65536 in
set_option maxHeartbeats 4000000 in
theorem rm8 {l : Launch} {Z : State} {a0 : Array Value} (hw : own_T a0 Z) (a : Addr) (x0 : Int32) (m1 : Addr) (ka : ClassId) (gA : Nat → Int32) (h0 : Heap) (n0 : Nat) (Z0 : n0 ≤ h0.size) (F0 : Exa Z h0 a kTB) (F1 : Fld Z h0 a kTB "endMin" "[I" (.ref m1)) (F2 : own_AI Z h0 m1 ka 3 gA) (hi : ¬ x0 < 0 ∧ x0 < (3 : Int32)) :
    own_M l Z ym8 prog_44_method_12_code 2 (some .int) ⟨0, 0, 0, 0⟩ #[.ref a, .int x0] h0 (Q8 Z a x0 m1 ka gA h0 n0) := by
  refine own_open kTB #[sR a, sI x0] (plainFor_of_name own_pn2) DL8 rfl (fun m => own_ef8 m a x0) fun p e s m below meth c s₁ Bd B hZ hown X0 e0 Pq hPq => ?_
  have hx := B.x
  have N0 := Fr.nil n0
  refine SaN X0 B 0 rfl rfl rfl ?_
  refine Kgf X0 B hZ hown (hw 30 rfl) Via.refl e0 F1 1 rfl fun T1 X1 e1 => ?_
  refine SiN X1 B 2 rfl rfl ?_
  refine Kil _ X1 B hZ e1 F2 hi rfl 3 rfl ?_
  refine own_oI X1 B Bd 4 rfl hPq ?_
  rw [e1]
  exact ⟨rfl, N0, rfl⟩
def own_AR (Z : State) (h : Heap) (a : Addr) (k : ClassId) (z : Int32) : Prop := ∃ c : Cell, Arr Z h a c (.array .int) ∧ c.cls = k ∧ c.slots.size = z.toNatClampNeg ∧ ¬ z < 0
section own_AR
variable {Z : State} {h h' : Heap} {a b : Addr} {k : ClassId} {z j : Int32} {sl : Nat} {v : Value} {ws : List Addr}
theorem own_AR.lt (F : own_AR Z h a k z) : a < h.size := by obtain ⟨c, A, -⟩ := F; exact A.lt
theorem own_AR.ext (F : own_AR Z h a k z) (E : Ext h h') : own_AR Z h' a k z := by obtain ⟨c, A, r⟩ := F; exact ⟨c, A.ext E, r⟩
theorem own_AR.other (F : own_AR Z h b k z) (W : Wr h h' a sl v) (q : b ≠ a) : own_AR Z h' b k z := by obtain ⟨c, A, r⟩ := F; exact ⟨c, A.other W q, r⟩
theorem own_AR.keep (F : own_AR Z h a k z) (K : Keep h h' ws) (q : a ∉ ws) : own_AR Z h' a k z := by obtain ⟨c, A, r⟩ := F; exact ⟨c, ⟨K.2.1 a c A.1 q, A.2⟩, r⟩
theorem own_AR.new (A : Arr Z h a (newA k (.array .int) z) (.array .int)) (q : ¬ z < 0) : own_AR Z h a k z := ⟨_, A, rfl, by simp [newA], q⟩
theorem own_AR.set (F : own_AR Z h a k z) (W : Wr h h' a sl v) : own_AR Z h' a k z := by
  obtain ⟨c, r1, r2, r3, r4⟩ := F
  exact ⟨_, r1.same W, r2, by rw [sz_set]; exact r3, r4⟩
end own_AR
theorem own_pn9 : plainName "com/example/tidemark/tidemark/core/TaskColours" = true := by first | (simp [plainName, overriddenIn]; done) | decide +kernel
theorem own_ef9 (m : MethodId) (a : Addr) : entryFrame m #[.ref a, .int 3] 2 = mkF m 0 #[sR a, sI 3] [] := by first | (simp [entryFrame, mkF, argsToLocals, Value.category]; done) | rfl
def Q9 (Z : State) (a : Addr) (u0 u1 u2 : Value) (h0 : Heap) (n0 : Nat) (v : Option Value) (h : Heap) (L : List Loc) : Prop := ∃ (k_cmi k_cma k_cre : ClassId) (cmi cma cre : Addr), v = none ∧ Fr n0 L ∧ Keep h0 h [a] ∧ n0 ≤ cmi ∧ h0.size ≤ cmi ∧ n0 ≤ cma ∧ h0.size ≤ cma ∧ n0 ≤ cre ∧ h0.size ≤ cre ∧ Exa Z h a kTC ∧ Fld Z h a kTC "min" "[I" (.ref cmi) ∧ Fld Z h a kTC "max" "[I" (.ref cma) ∧ Fld Z h a kTC "remaining" "[[I" (.ref cre) ∧ own_AI Z h cmi k_cmi 3 (fun _ => 0) ∧ own_AI Z h cma k_cma 3 (fun _ => 0) ∧ own_AR Z h cre k_cre (3 : Int32) ∧ cmi ≠ cma ∧ cmi ≠ cre ∧ cma ≠ cre
set_option maxRecDepth 65536 in
set_option maxHeartbeats 4000000 in
theorem rm9 {l : Launch} {Z : State} {a0 : Array Value} (hw : own_T a0 Z) (a : Addr) (u0 u1 u2 : Value) (h0 : Heap) (n0 : Nat) (Z0 : n0 ≤ h0.size) (F0 : Exa Z h0 a kTC) (F1 : Fld Z h0 a kTC "min" "[I" u0) (F2 : Fld Z h0 a kTC "max" "[I" u1) (F3 : Fld Z h0 a kTC "remaining" "[[I" u2) (g_a : n0 ≤ a) :
    MetFree l ym9 (head1 [Jvm.Cond.code ym9 prog_45_method_1_code 2 none] (⟨1, 5, 53, 13⟩ : Room)) (fun aW U => aW = #[.ref a, .int 3] ∧ Z.Warmed39 U.vm ∧ U.heap = h0) (fun _ _ _ _ _ => True) (fun _ U o U' => ∃ v L, o = .returned v ∧ Q9 Z a u0 u1 u2 h0 n0 v U'.heap L ∧ ReturnedEndW U o U' L (⟨1, 5, 53, 13⟩ : Room).cells (⟨1, 5, 53, 13⟩ : Room).slots) := by
  refine MetFree.of_bodySF (plainFor_of_name own_pn9) hisR ?_
  intro p e s m args below meth c s₁ Bd hml0 hP hK
  obtain ⟨rfl, hZ, hh⟩ := hP
  have hx := Bd.exec
  have hby := Bd.bytes
  have hml : c.maxLocals = 2 := hml0
  have B := own_mkB hx hby hml DL9
  have hown : s.vm.findClass kTC = some m.cls := findClass_of_methodNamed Bd.named
  have hnm := (name_of_methodNamed Bd.named Bd.method).1
  have X0 : Stand p l e (⟨1, 5, 53, 13⟩ : Room) s m #[.ref a, .int 3] below meth c s₁ [] 0 0 := Stand.of_body Bd
  have e0 : s₁.heap = h0 := by rw [← hh, Bd.state]; rfl
  have N0 := Fr.nil n0
  have X0 : Stand p l e (⟨1, 5, 53, 13⟩ : Room) (s.setVm s.vm) m #[.ref a, .int 3] below meth c s₁ [] 0 0 := X0
  have hS : s.Since s.vm 0 := (State.WarmedH.refl s).since 0
  have hk : 0 ≤ h0.size := Nat.zero_le _
  have hZ : Z.Warmed39 (s.setVm s.vm).vm := hZ
  have hown : (s.setVm s.vm).vm.findClass kTC = some m.cls := hown
  have K0 : Keep h0 h0 [a] := Keep.refl _ _
  obtain ⟨Pq, hPq⟩ : ∃ P, P = own_PW s below (fun v h L => Q9 Z a u0 u1 u2 h0 n0 v h L) (⟨1, 5, 53, 13⟩ : Room).cells (⟨1, 5, 53, 13⟩ : Room).slots := ⟨_, rfl⟩
  suffices hgo : own_Go p.tables e below Pq s₁ (mkF m 0 #[sR a, sI 3] []) by
    subst hPq
    obtain ⟨t, k1, k2, o, k3, k4⟩ := hgo
    exact ⟨t, o, castTop (own_ef9 m a) k1, k2, k3, k4⟩
  show own_Go _ _ _ _ s₁ (mkF m 0 #[sR a, sI 3] [])
  refine SaN X0 B 0 rfl rfl rfl ?_
  obtain ⟨T1, X1, e1, st1⟩ := initO X0 hx hZ hown (hw 57 rfl) (hw 7 rfl) (hw 8 rfl) e0 (g := (mkF m 1 #[sR a, sI 3] [.ref a])) rfl (by rw [hml]; rfl) rfl (B.d 1 rfl) (by decide) (W := 0) (by show 2 * 0 + _ ≤ _; exact Nat.le_of_eq rfl) (by decide)
  refine own_st st1 ?_
  show own_Go _ _ _ _ T1 (mkF m 4 _ [])
  obtain ⟨b2, T2, h2, k2, X2, e2, E2, hS, hk, hZ, hown, st2⟩ := ldcS X1 hx hZ hown (hw 58 rfl) (own_sA hw) e1 hS hk (g := (mkF m 4 #[sR a, sI 3] [])) rfl (B.d 2 rfl) (n := 40) (by decide) (by decide) (by decide) (by decide)
  refine own_st st2 ?_
  have Z3 : n0 ≤ h2.size := Nat.le_trans Z0 E2.1
  have K4 : Keep h0 h2 [a] := K0.ext E2
  show own_Go _ _ _ _ T2 (mkF m 6 _ [.ref b2])
  refine SiN X2 B 3 rfl rfl ?_
  refine Kst (wt := 0) (y := ym1) none X2 B hZ hown (hw 59 rfl) (hw 18 rfl) (hw 19 rfl) (hw 20 rfl) (rm1 hw (.ref b2) 3 h2 n0 Z3 rfl (by decide)) e2 own_pd__Ljava_lang_String_I_V 4 rfl rfl rfl (fun _ _ _ q => q.1) fun T5 Lc5 X5 hQ5 => ?_
  obtain ⟨-, NQ5, eq5⟩ := hQ5
  have N6 := Fr.app N0 NQ5
  show own_Go _ _ _ _ T5 (mkF m 10 _ [])
  refine SaN X5 B 5 rfl rfl rfl ?_
  refine SiN X5 B 6 rfl rfl ?_
  obtain ⟨T7, h7, k7, X7, e7, E7, A7, st7⟩ := newP X5 hx hZ (hw 21 rfl) eq5 (g := (mkF m 12 #[sR a, sI 3] [.int 3, .ref a])) rfl (B.d 7 rfl) rfl (by decide) (cap := 3) (by decide) (by decide) (by decide) (by decide)
  obtain ⟨b7, g7⟩ : ∃ z, z = h2.size := ⟨_, rfl⟩
  rw [← g7] at A7 st7
  refine own_st st7 ?_
  have ne8 : a ≠ b7 := own_nl (F0.ext E2).lt (Nat.le_of_eq g7.symm)
  have gx9 : n0 ≤ b7 := Nat.le_trans Z3 (Nat.le_of_eq g7.symm)
  have Z10 : n0 ≤ h7.size := Nat.le_trans Z3 E7.1
  have hk := Nat.le_trans hk E7.1
  have sz12 : h0.size ≤ b7 := Nat.le_trans K4.1 (Nat.le_of_eq g7.symm)
  have K11 := K4.ext E7
  have V7 : own_AI Z h7 b7 k7 3 (fun _ => (0 : Int32)) := own_AI.new A7 (by decide)
  show own_Go _ _ _ _ T7 (mkF m 14 _ [.ref b7, .ref a])
  have f14 := ((F0.ext E2).ext E7)
  have f15 := ((F1.ext E2).ext E7)
  refine Kpf (.array .int) X7 B hZ hown (hw 60 rfl) Via.refl e7 f15 f14 (Or.inr ⟨(hw 61 rfl), rfl, hnm⟩) (hw 52 rfl) 8 rfl fun T13 h13 X13 e13 W13 f16 => ?_
  have N17 := Fr.snoc X13 N6 g_a
  have Z18 : n0 ≤ h13.size := Nat.le_trans Z10 (Nat.le_of_eq W13.size.symm)
  have hk := Nat.le_trans hk (Nat.le_of_eq W13.size.symm)
  have K19 := K11.wr W13 (own_mI 0 rfl)
  refine SaN X13 B 9 rfl rfl rfl ?_
  refine SiN X13 B 10 rfl rfl ?_
  obtain ⟨T20, h20, k20, X20, e20, E20, A20, st20⟩ := newP X13 hx hZ (hw 21 rfl) e13 (g := (mkF m 19 #[sR a, sI 3] [.int 3, .ref a])) rfl (B.d 11 rfl) rfl (by decide) (cap := 3) (by decide) (by decide) (by decide) (by decide)
  obtain ⟨b20, g20⟩ : ∃ z, z = h13.size := ⟨_, rfl⟩
  rw [← g20] at A20 st20
  refine own_st st20 ?_
  have ne21 : a ≠ b20 := own_nl (f14.wr W13).lt (Nat.le_of_eq g20.symm)
  have ne22 : b7 ≠ b20 := own_nl (V7.other W13 (Ne.symm ne8)).lt (Nat.le_of_eq g20.symm)
  have gx23 : n0 ≤ b20 := Nat.le_trans Z18 (Nat.le_of_eq g20.symm)
  have Z24 : n0 ≤ h20.size := Nat.le_trans Z18 E20.1
  have hk := Nat.le_trans hk E20.1
  have sz26 : h0.size ≤ b20 := Nat.le_trans K19.1 (Nat.le_of_eq g20.symm)
  have K25 := K19.ext E20
  have V20 : own_AI Z h20 b20 k20 3 (fun _ => (0 : Int32)) := own_AI.new A20 (by decide)
  show own_Go _ _ _ _ T20 (mkF m 21 _ [.ref b20, .ref a])
  have f28 := ((f14.wr W13).ext E20)
  have f29 := ((((F2.ext E2).ext E7).other W13 (Or.inr (slot_ne (Or.inr (hw 63 rfl)) (Or.inr (hw 61 rfl)) (by decide) (t := (.array .int)) (t' := (.array .int)) (by decide) (by decide)))).ext E20)
  refine Kpf (.array .int) X20 B hZ hown (hw 62 rfl) Via.refl e20 f29 f28 (Or.inr ⟨(hw 63 rfl), rfl, hnm⟩) (hw 52 rfl) 12 rfl fun T27 h27 X27 e27 W27 f30 => ?_
  have N31 := Fr.snoc X27 N17 g_a
  have Z32 : n0 ≤ h27.size := Nat.le_trans Z24 (Nat.le_of_eq W27.size.symm)
  have hk := Nat.le_trans hk (Nat.le_of_eq W27.size.symm)
  have K33 := K25.wr W27 (own_mI 0 rfl)
  refine SaN X27 B 13 rfl rfl rfl ?_
  refine SiN X27 B 14 rfl rfl ?_
  obtain ⟨T34, h34, k34, X34, e34, E34, A34, -, -, st34⟩ := newRA X27 hx hZ hown (C := "[I") (ty := .int) (by decide) (hw 64 rfl) (hw 65 rfl) e27 (g := (mkF m 26 #[sR a, sI 3] [.int 3, .ref a])) rfl (B.d 15 rfl) rfl (by decide) (cap := 3) (by decide) (by decide) (by decide) (by decide) (ad := "[[I") (by decide)
  obtain ⟨b34, g34⟩ : ∃ z, z = h27.size := ⟨_, rfl⟩
  rw [← g34] at A34 st34
  refine own_st st34 ?_
  have ne35 : a ≠ b34 := own_nl (f28.wr W27).lt (Nat.le_of_eq g34.symm)
  have ne36 : b7 ≠ b34 := own_nl (((V7.other W13 (Ne.symm ne8)).ext E20).other W27 (Ne.symm ne8)).lt (Nat.le_of_eq g34.symm)
  have ne37 : b20 ≠ b34 := own_nl (V20.other W27 (Ne.symm ne21)).lt (Nat.le_of_eq g34.symm)
  have gx38 : n0 ≤ b34 := Nat.le_trans Z32 (Nat.le_of_eq g34.symm)
  have hk := Nat.le_trans hk E34.1
  have sz41 : h0.size ≤ b34 := Nat.le_trans K33.1 (Nat.le_of_eq g34.symm)
  have K40 := K33.ext E34
  have V34 : own_AR Z h34 b34 k34 (3 : Int32) := own_AR.new A34 (by decide)
  show own_Go _ _ _ _ T34 (mkF m 29 _ [.ref b34, .ref a])
  have f43 := ((f28.wr W27).ext E34)
  have f44 := ((((((F3.ext E2).ext E7).other W13 (Or.inr (slot_ne (Or.inr (hw 67 rfl)) (Or.inr (hw 61 rfl)) (by decide) (t := (.array (.array .int))) (t' := (.array .int)) (by decide) (by decide)))).ext E20).other W27 (Or.inr (slot_ne (Or.inr (hw 67 rfl)) (Or.inr (hw 63 rfl)) (by decide) (t := (.array (.array .int))) (t' := (.array .int)) (by decide) (by decide)))).ext E34)
  refine Kpf (.array (.array .int)) X34 B hZ hown (hw 66 rfl) Via.refl e34 f44 f43 (Or.inr ⟨(hw 67 rfl), rfl, hnm⟩) (hw 52 rfl) 16 rfl fun T42 h42 X42 e42 W42 f45 => ?_
  have N46 := Fr.snoc X42 N31 g_a
  have hk := Nat.le_trans hk (Nat.le_of_eq W42.size.symm)
  have K48 := K40.wr W42 (own_mI 0 rfl)
  subst hPq
  refine own_outW X42 hS (by rw [e42]; exact hk) (v := none) (fun _ => rfl) Bd.notSynchronized (fun fs hr => X42.returnOut hx Bd.returns (B.d 17 rfl) hr) (by decide) (by decide) ?_
  show Q9 Z a u0 u1 u2 h0 n0 _ T42.heap _
  rw [e42]
  exact ⟨k7, k20, k34, b7, b20, b34, rfl, N46, K48, gx9, sz12, gx23, sz26, gx38, sz41, (f43.wr W42), ((((f16.ext E20).other W27 (Or.inr (slot_ne (Or.inr (hw 61 rfl)) (Or.inr (hw 63 rfl)) (by decide) (t := (.array .int)) (t' := (.array .int)) (by decide) (by decide)))).ext E34).other W42 (Or.inr (slot_ne (Or.inr (hw 61 rfl)) (Or.inr (hw 67 rfl)) (by decide) (t := (.array .int)) (t' := (.array (.array .int))) (by decide) (by decide)))), ((f30.ext E34).other W42 (Or.inr (slot_ne (Or.inr (hw 63 rfl)) (Or.inr (hw 67 rfl)) (by decide) (t := (.array .int)) (t' := (.array (.array .int))) (by decide) (by decide)))), f45, (((((V7.other W13 (Ne.symm ne8)).ext E20).other W27 (Ne.symm ne8)).ext E34).other W42 (Ne.symm ne8)), (((V20.other W27 (Ne.symm ne21)).ext E34).other W42 (Ne.symm ne21)), (V34.other W42 (Ne.symm ne35)), ne22, ne36, ne37⟩
theorem own_ef10 (m : MethodId) (a : Addr) (xi x x : Int32) : entryFrame m #[.ref a, .int xi, .int x, .int x] 4 = mkF m 0 #[sR a, sI xi, sI x, sI x] [] := by first | (simp [entryFrame, mkF, argsToLocals, Value.category]; done) | rfl
def Q10 (Z : State) (a : Addr) (xi x : Int32) (cmi cma cre : Addr) (ka kb kr : ClassId) (gA gB : Nat → Int32) (h0 : Heap) (n0 : Nat) (v : Option Value) (h : Heap) (L : List Loc) : Prop := v = none ∧ Fr n0 L ∧ Keep h0 h [cmi, cma, cre] ∧ own_AI Z h cmi ka 3 (own_updI gA xi.toNatClampNeg x) ∧ own_AI Z h cma kb 3 (own_updI gB xi.toNatClampNeg x) ∧ own_AR Z h cre kr (3 : Int32)
set_option maxRecDepth 65536 in
set_option maxHeartbeats 4000000 in
theorem rm10 {l : Launch} {Z : State} {a0 : Array Value} (hw : own_T a0 Z) (a : Addr) (xi x : Int32) (cmi cma cre : Addr) (ka kb kr : ClassId) (gA gB : Nat → Int32) (h0 : Heap) (n0 : Nat) (Z0 : n0 ≤ h0.size) (F0 : Exa Z h0 a kTC) (F1 : Fld Z h0 a kTC "min" "[I" (.ref cmi)) (F2 : Fld Z h0 a kTC "max" "[I" (.ref cma)) (F3 : Fld Z h0 a kTC "remaining" "[[I" (.ref cre)) (F4 : own_AI Z h0 cmi ka 3 gA) (F5 : own_AI Z h0 cma kb 3 gB) (F6 : own_AR Z h0 cre kr (3 : Int32)) (na_a_cmi : a ≠ cmi) (na_a_cma : a ≠ cma) (na_a_cre : a ≠ cre) (na_cmi_cma : cmi ≠ cma) (na_cmi_cre : cmi ≠ cre) (na_cma_cre : cma ≠ cre) (hi : ¬ xi < 0 ∧ xi < (3 : Int32)) (g_cmi : n0 ≤ cmi) (g_cma : n0 ≤ cma) (g_cre : n0 ≤ cre) :
    own_M l Z ym10 prog_45_method_3_code 4 none ⟨0, 0, 0, 0⟩ #[.ref a, .int xi, .int x, .int x] h0 (Q10 Z a xi x cmi cma cre ka kb kr gA gB h0 n0) := by
  refine own_open kTC #[sR a, sI xi, sI x, sI x] (plainFor_of_name own_pn9) DL10 rfl (fun m => own_ef10 m a xi x x) fun p e s m below meth c s₁ Bd B hZ hown X0 e0 Pq hPq => ?_
  have hx := B.x
  have N0 := Fr.nil n0
  have K0 : Keep h0 h0 [cmi, cma, cre] := Keep.refl _ _
  refine SiN X0 B 0 rfl rfl ?_
  refine SiN X0 B 1 rfl rfl ?_
  refine Scy 2 20 X0 B 2 rfl (flt (own_irr x)).2.2.2 ?_
  refine SaN X0 B 3 rfl rfl rfl ?_
  refine Kgf X0 B hZ hown (hw 60 rfl) Via.refl e0 F1 4 rfl fun T1 X1 e1 => ?_
  refine SiN X1 B 5 rfl rfl ?_
  refine SiN X1 B 6 rfl rfl ?_
  refine Kis _ X1 B hZ e1 F4 hi rfl 7 rfl fun T2 h2 X2 e2 W2 f3 => ?_
  have N4 := Fr.snoc X2 N0 g_cmi
  have K6 := K0.wr W2 (own_mI 0 rfl)
  refine SaN X2 B 8 rfl rfl rfl ?_
  have f8 := (F2.other W2 (Or.inl na_a_cmi))
  refine Kgf X2 B hZ hown (hw 62 rfl) Via.refl e2 f8 9 rfl fun T7 X7 e7 => ?_
  refine SiN X7 B 10 rfl rfl ?_
  refine SiN X7 B 11 rfl rfl ?_
  have f10 := (F5.other W2 (Ne.symm na_cmi_cma))
  refine Kis _ X7 B hZ e7 f10 hi rfl 12 rfl fun T9 h9 X9 e9 W9 f11 => ?_
  have N12 := Fr.snoc X9 N4 g_cma
  have K14 := K6.wr W9 (own_mI 1 rfl)
  refine SaN X9 B 13 rfl rfl rfl ?_
  have f16 := ((F3.other W2 (Or.inl na_a_cmi)).other W9 (Or.inl na_a_cma))
  refine Kgf X9 B hZ hown (hw 66 rfl) Via.refl e9 f16 14 rfl fun T15 X15 e15 => ?_
  refine SiN X15 B 15 rfl rfl ?_
  refine own_st (fun t k => XS.aconstNull X15.here hx rfl (B.d 16 rfl) k) ?_
  have f18 := ((F6.other W2 (Ne.symm na_cmi_cre)).other W9 (Ne.symm na_cma_cre))
  obtain ⟨c17, Ar17, q17, S17, N17⟩ := id f18
  obtain ⟨T17, h17, X17, e17, W17, st17⟩ := stR X15 hx hZ e15 Ar17 (j := xi) (inb_of S17 hi) rfl (Or.inl rfl) (g := (mkF m 40 #[sR a, sI xi, sI x, sI x] [.null, .int xi, .ref cre])) rfl rfl (B.d 17 rfl)
  refine own_st st17 ?_
  have f19 : own_AR Z h17 cre kr (3 : Int32) := own_AR.set f18 W17
  have N20 := Fr.snoc X17 N12 g_cre
  have K22 := K14.wr W17 (own_mI 2 rfl)
  show own_Go _ _ _ _ T17 (mkF m 41 _ [])
  refine own_oV X17 B Bd 18 rfl hPq ?_
  rw [e17]
  exact ⟨rfl, N20, K22, ((f3.other W9 na_cmi_cma).other W17 na_cmi_cre), (f11.other W17 na_cma_cre), f19⟩
theorem own_ef11 (m : MethodId) (a : Addr) (xi : Int32) : entryFrame m #[.ref a, .int xi] 2 = mkF m 0 #[sR a, sI xi] [] := by first | (simp [entryFrame, mkF, argsToLocals, Value.category]; done) | rfl
def Q11 (Z : State) (a : Addr) (xi : Int32) (cmi : Addr) (ka : ClassId) (gA : Nat → Int32) (h0 : Heap) (n0 : Nat) (v : Option Value) (h : Heap) (L : List Loc) : Prop := v = some (.int (gA xi.toNatClampNeg)) ∧ Fr n0 L ∧ h = h0
set_option maxRecDepth 65536 in
set_option maxHeartbeats 4000000 in
theorem rm11 {l : Launch} {Z : State} {a0 : Array Value} (hw : own_T a0 Z) (a : Addr) (xi : Int32) (cmi : Addr) (ka : ClassId) (gA : Nat → Int32) (h0 : Heap) (n0 : Nat) (Z0 : n0 ≤ h0.size) (F0 : Exa Z h0 a kTC) (F1 : Fld Z h0 a kTC "min" "[I" (.ref cmi)) (F2 : own_AI Z h0 cmi ka 3 gA) (hi : ¬ xi < 0 ∧ xi < (3 : Int32)) :
    own_M l Z ym11 prog_45_method_4_code 2 (some .int) ⟨0, 0, 0, 0⟩ #[.ref a, .int xi] h0 (Q11 Z a xi cmi ka gA h0 n0) := by
  refine own_open kTC #[sR a, sI xi] (plainFor_of_name own_pn9) DL11 rfl (fun m => own_ef11 m a xi) fun p e s m below meth c s₁ Bd B hZ hown X0 e0 Pq hPq => ?_
  have hx := B.x
  have N0 := Fr.nil n0
  refine SaN X0 B 0 rfl rfl rfl ?_
  refine Kgf X0 B hZ hown (hw 60 rfl) Via.refl e0 F1 1 rfl fun T1 X1 e1 => ?_
  refine SiN X1 B 2 rfl rfl ?_
  refine Kil _ X1 B hZ e1 F2 hi rfl 3 rfl ?_
  refine own_oI X1 B Bd 4 rfl hPq ?_
  rw [e1]
  exact ⟨rfl, N0, rfl⟩
theorem own_ef12 (m : MethodId) (a : Addr) (xi : Int32) : entryFrame m #[.ref a, .int xi] 2 = mkF m 0 #[sR a, sI xi] [] := by first | (simp [entryFrame, mkF, argsToLocals, Value.category]; done) | rfl
def Q12 (Z : State) (a : Addr) (xi : Int32) (cmi cma : Addr) (ka kb : ClassId) (gA : Nat → Int32) (h0 : Heap) (n0 : Nat) (v : Option Value) (h : Heap) (L : List Loc) : Prop := v = some (.int 1) ∧ Fr n0 L ∧ h = h0
set_option maxRecDepth 65536 in
set_option maxHeartbeats 4000000 in
theorem rm12 {l : Launch} {Z : State} {a0 : Array Value} (hw : own_T a0 Z) (a : Addr) (xi : Int32) (cmi cma : Addr) (ka kb : ClassId) (gA : Nat → Int32) (h0 : Heap) (n0 : Nat) (Z0 : n0 ≤ h0.size) (F0 : Exa Z h0 a kTC) (F1 : Fld Z h0 a kTC "min" "[I" (.ref cmi)) (F2 : Fld Z h0 a kTC "max" "[I" (.ref cma)) (F3 : own_AI Z h0 cmi ka 3 gA) (F4 : own_AI Z h0 cma kb 3 gA) (hi : ¬ xi < 0 ∧ xi < (3 : Int32)) :
    own_M l Z ym12 prog_45_method_8_code 2 (some .boolean) ⟨0, 0, 0, 0⟩ #[.ref a, .int xi] h0 (Q12 Z a xi cmi cma ka kb gA h0 n0) := by
  refine own_open kTC #[sR a, sI xi] (plainFor_of_name own_pn9) DL12 rfl (fun m => own_ef12 m a xi) fun p e s m below meth c s₁ Bd B hZ hown X0 e0 Pq hPq => ?_
  have hx := B.x
  have N0 := Fr.nil n0
  refine SaN X0 B 0 rfl rfl rfl ?_
  refine Kgf X0 B hZ hown (hw 60 rfl) Via.refl e0 F1 1 rfl fun T1 X1 e1 => ?_
  refine SiN X1 B 2 rfl rfl ?_
  refine Kil _ X1 B hZ e1 F3 hi rfl 3 rfl ?_
  refine SaN X1 B 4 rfl rfl rfl ?_
  refine Kgf X1 B hZ hown (hw 62 rfl) Via.refl e1 F2 5 rfl fun T3 X3 e3 => ?_
  refine SiN X3 B 6 rfl rfl ?_
  refine Kil _ X3 B hZ e3 F4 hi rfl 7 rfl ?_
  refine Scn X3 B 8 rfl (teq rfl).2 ?_
  refine Sc 1 X3 B 9 rfl rfl ?_
  refine Sg 16 20 X3 B 10 rfl ?_
  refine own_oZ X3 B Bd 11 rfl hPq ?_
  rw [e3]
  exact ⟨rfl, N0, rfl⟩
def own_sev (x0 x1 : Int32) : Int64 := ((x0.toInt64 <<< ((32 : Int32) &&& 0x3f).toInt64) ||| x1.toInt64)
theorem own_pn13 : plainName "com/example/tidemark/tidemark/core/Sweep" = true := by first | (simp [plainName, overriddenIn]; done) | decide +kernel
theorem own_ef13 (m : MethodId) (x0 x1 : Int32) : entryFrame m #[.int x0, .int x1] 2 = mkF m 0 #[sI x0, sI x1] [] := by first | (simp [entryFrame, mkF, argsToLocals, Value.category]; done) | rfl
def Q13 (Z : State) (x0 x1 : Int32) (h0 : Heap) (n0 : Nat) (v : Option Value) (h : Heap) (L : List Loc) : Prop := v = some (.long (own_sev x0 x1)) ∧ Fr n0 L ∧ h = h0
set_option maxRecDepth 65536 in
set_option maxHeartbeats 4000000 in
theorem rm13 {l : Launch} {Z : State} {a0 : Array Value} (hw : own_T a0 Z) (x0 x1 : Int32) (h0 : Heap) (n0 : Nat) (Z0 : n0 ≤ h0.size) :
    own_M l Z ym13 prog_40_method_8_code 2 (some .long) ⟨0, 0, 0, 0⟩ #[.int x0, .int x1] h0 (Q13 Z x0 x1 h0 n0) := by
  refine own_open kSW #[sI x0, sI x1] (plainFor_of_name own_pn13) DL13 rfl (fun m => own_ef13 m x0 x1) fun p e s m below meth c s₁ Bd B hZ hown X0 e0 Pq hPq => ?_
  have hx := B.x
  have N0 := Fr.nil n0
  refine SiN X0 B 0 rfl rfl ?_
  refine own_st (fun t k => XS.i2l X0.here hx rfl (B.d 1 rfl) rfl k) ?_
  refine own_st (fun t k => XS.bipush X0.here hx rfl (B.d 2 rfl) k) ?_
  refine own_st (fun t k => XS.lshl X0.here hx rfl (B.d 3 rfl) rfl k) ?_
  refine SiN X0 B 4 rfl rfl ?_
  refine own_st (fun t k => XS.i2l X0.here hx rfl (B.d 5 rfl) rfl k) ?_
  refine own_st (fun t k => XS.lor X0.here hx rfl (B.d 6 rfl) rfl k) ?_
  show own_Go _ _ _ _ s₁ (mkF m 8 _ [(.long ((x0.toInt64 <<< ((32 : Int32) &&& 0x3f).toInt64) ||| x1.toInt64))])
  subst hPq
  refine own_out X0 (v := some (.long ((x0.toInt64 <<< ((32 : Int32) &&& 0x3f).toInt64) ||| x1.toInt64))) (fun h => by rw [Bd.returns] at h; cases h) Bd.notSynchronized (own_retJ X0 hx Bd.returns (B.d 7 rfl)) (by decide) (by decide) ?_
  show Q13 Z x0 x1 h0 n0 _ s₁.heap _
  rw [e0]
  exact ⟨by subst_vars; rfl, N0, rfl⟩
def own_pt (x0 : Int64) : Int32 := (x0 >>> ((32 : Int32) &&& 0x3f).toInt64).toInt32
theorem own_ef14 (m : MethodId) (x0 : Int64) : entryFrame m #[.long x0] 2 = mkF m 0 #[sJ x0, .second] [] := by first | (simp [entryFrame, mkF, argsToLocals, Value.category]; done) | rfl
def Q14 (Z : State) (x0 : Int64) (h0 : Heap) (n0 : Nat) (v : Option Value) (h : Heap) (L : List Loc) : Prop := v = some (.int (own_pt x0)) ∧ Fr n0 L ∧ h = h0
set_option maxRecDepth 65536 in
set_option maxHeartbeats 4000000 in
theorem rm14 {l : Launch} {Z : State} {a0 : Array Value} (hw : own_T a0 Z) (x0 : Int64) (h0 : Heap) (n0 : Nat) (Z0 : n0 ≤ h0.size) :
    own_M l Z ym14 prog_40_method_9_code 2 (some .int) ⟨0, 0, 0, 0⟩ #[.long x0] h0 (Q14 Z x0 h0 n0) := by
  refine own_open kSW #[sJ x0, .second] (plainFor_of_name own_pn13) DL14 rfl (fun m => own_ef14 m x0) fun p e s m below meth c s₁ Bd B hZ hown X0 e0 Pq hPq => ?_
  have hx := B.x
  have N0 := Fr.nil n0
  refine own_st (fun t k => XS.lloadN X0.here hx rfl (B.d 0 rfl) rfl k) ?_
  refine own_st (fun t k => XS.bipush X0.here hx rfl (B.d 1 rfl) k) ?_
  refine own_st (fun t k => XS.lshr X0.here hx rfl (B.d 2 rfl) rfl k) ?_
  refine own_st (fun t k => XS.l2i X0.here hx rfl (B.d 3 rfl) rfl k) ?_
  refine own_oI X0 B Bd 4 rfl hPq ?_
  rw [e0]
  exact ⟨by subst_vars; rfl, N0, rfl⟩
def own_tk (x0 : Int64) : Int32 := x0.toInt32
theorem own_ef15 (m : MethodId) (x0 : Int64) : entryFrame m #[.long x0] 2 = mkF m 0 #[sJ x0, .second] [] := by first | (simp [entryFrame, mkF, argsToLocals, Value.category]; done) | rfl
def Q15 (Z : State) (x0 : Int64) (h0 : Heap) (n0 : Nat) (v : Option Value) (h : Heap) (L : List Loc) : Prop := v = some (.int (own_tk x0)) ∧ Fr n0 L ∧ h = h0
set_option maxRecDepth 65536 in
set_option maxHeartbeats 4000000 in
theorem rm15 {l : Launch} {Z : State} {a0 : Array Value} (hw : own_T a0 Z) (x0 : Int64) (h0 : Heap) (n0 : Nat) (Z0 : n0 ≤ h0.size) :
    own_M l Z ym15 prog_40_method_10_code 2 (some .int) ⟨0, 0, 0, 0⟩ #[.long x0] h0 (Q15 Z x0 h0 n0) := by
  refine own_open kSW #[sJ x0, .second] (plainFor_of_name own_pn13) DL15 rfl (fun m => own_ef15 m x0) fun p e s m below meth c s₁ Bd B hZ hown X0 e0 Pq hPq => ?_
  have hx := B.x
  have N0 := Fr.nil n0
  refine own_st (fun t k => XS.lloadN X0.here hx rfl (B.d 0 rfl) rfl k) ?_
  refine own_st (fun t k => XS.l2i X0.here hx rfl (B.d 1 rfl) rfl k) ?_
  refine own_oI X0 B Bd 2 rfl hPq ?_
  rw [e0]
  exact ⟨by subst_vars; rfl, N0, rfl⟩
theorem own_ef16 (m : MethodId) (a : Addr) : entryFrame m #[.ref a, .int 3] 2 = mkF m 0 #[sR a, sI 3] [] := by first | (simp [entryFrame, mkF, argsToLocals, Value.category]; done) | rfl
def Q16 (Z : State) (a : Addr) (u0 u1 : Value) (h0 : Heap) (n0 : Nat) (v : Option Value) (h : Heap) (L : List Loc) : Prop := ∃ (k_so k_se : ClassId) (so se : Addr), v = none ∧ Fr n0 L ∧ Keep h0 h [a] ∧ n0 ≤ so ∧ h0.size ≤ so ∧ n0 ≤ se ∧ h0.size ≤ se ∧ Exa Z h a kSW ∧ Fld Z h a kSW "origins" "[J" (.ref so) ∧ Fld Z h a kSW "ends" "[J" (.ref se) ∧ Fld Z h a kSW "count" "I" (.int 0) ∧ Fld Z h a kSW "sorted" "Z" (.int 0) ∧ own_AJ Z h so k_so (3 : Int32) (fun _ => 0) ∧ own_AJ Z h se k_se (3 : Int32) (fun _ => 0) ∧ so ≠ se
set_option maxRecDepth 65536 in
set_option maxHeartbeats 4000000 in
theorem rm16 {l : Launch} {Z : State} {a0 : Array Value} (hw : own_T a0 Z) (a : Addr) (u0 u1 : Value) (h0 : Heap) (n0 : Nat) (Z0 : n0 ≤ h0.size) (F0 : Exa Z h0 a kSW) (F1 : Fld Z h0 a kSW "origins" "[J" u0) (F2 : Fld Z h0 a kSW "ends" "[J" u1) (F3 : Fld Z h0 a kSW "count" "I" (.int 0)) (F4 : Fld Z h0 a kSW "sorted" "Z" (.int 0)) (g_a : n0 ≤ a) :
    own_M l Z ym16 prog_40_method_1_code 2 none ⟨1, 2, 6, 12⟩ #[.ref a, .int 3] h0 (Q16 Z a u0 u1 h0 n0) := by
  refine own_open kSW #[sR a, sI 3] (plainFor_of_name own_pn13) DL16 rfl (fun m => own_ef16 m a) fun p e s m below meth c s₁ Bd B hZ hown X0 e0 Pq hPq => ?_
  have hx := B.x
  have hml := B.2.1
  have N0 := Fr.nil n0
  have K0 : Keep h0 h0 [a] := Keep.refl _ _
  refine SaN X0 B 0 rfl rfl rfl ?_
  obtain ⟨T1, X1, e1, st1⟩ := initO X0 hx hZ hown (hw 103 rfl) (hw 7 rfl) (hw 8 rfl) e0 (g := (mkF m 1 #[sR a, sI 3] [.ref a])) rfl (by rw [hml]; rfl) rfl (B.d 1 rfl) (by decide) (W := 0) (by show 2 * 0 + _ ≤ _; exact Nat.le_of_eq rfl) (by decide)
  refine own_st st1 ?_
  show own_Go _ _ _ _ T1 (mkF m 4 _ [])
  refine SaN X1 B 2 rfl rfl rfl ?_
  refine SiN X1 B 3 rfl rfl ?_
  obtain ⟨T2, h2, k2, X2, e2, E2, A2, st2⟩ := newP X1 hx hZ (hw 104 rfl) e1 (g := (mkF m 6 #[sR a, sI 3] [.int 3, .ref a])) rfl (B.d 4 rfl) rfl (by decide) (cap := 3) (by decide) (by decide) (by decide) (by decide)
  obtain ⟨b2, g2⟩ : ∃ z, z = h0.size := ⟨_, rfl⟩
  rw [← g2] at A2 st2
  refine own_st st2 ?_
  have ne3 : a ≠ b2 := own_nl F0.lt (Nat.le_of_eq g2.symm)
  have gx4 : n0 ≤ b2 := Nat.le_trans Z0 (Nat.le_of_eq g2.symm)
  have Z5 : n0 ≤ h2.size := Nat.le_trans Z0 E2.1
  have sz7 : h0.size ≤ b2 := Nat.le_trans K0.1 (Nat.le_of_eq g2.symm)
  have K6 := K0.ext E2
  have V2 : own_AJ Z h2 b2 k2 (3 : Int32) (fun _ => (0 : Int64)) := own_AJ.new A2 (by decide)
  show own_Go _ _ _ _ T2 (mkF m 8 _ [.ref b2, .ref a])
  have f9 := (F0.ext E2)
  have f10 := (F1.ext E2)
  refine Kpf (.array .long) X2 B hZ hown (hw 105 rfl) Via.refl e2 f10 f9 (Or.inl (hw 106 rfl)) (hw 98 rfl) 5 rfl fun T8 h8 X8 e8 W8 f11 => ?_
  have N12 := Fr.snoc X8 N0 g_a
  have Z13 : n0 ≤ h8.size := Nat.le_trans Z5 (Nat.le_of_eq W8.size.symm)
  have K14 := K6.wr W8 (own_mI 0 rfl)
  refine SaN X8 B 6 rfl rfl rfl ?_
  refine SiN X8 B 7 rfl rfl ?_
  obtain ⟨T15, h15, k15, X15, e15, E15, A15, st15⟩ := newP X8 hx hZ (hw 104 rfl) e8 (g := (mkF m 13 #[sR a, sI 3] [.int 3, .ref a])) rfl (B.d 8 rfl) rfl (by decide) (cap := 3) (by decide) (by decide) (by decide) (by decide)
  obtain ⟨b15, g15⟩ : ∃ z, z = h8.size := ⟨_, rfl⟩
  rw [← g15] at A15 st15
  refine own_st st15 ?_
  have ne16 : a ≠ b15 := own_nl (f9.wr W8).lt (Nat.le_of_eq g15.symm)
  have ne17 : b2 ≠ b15 := own_nl (V2.other W8 (Ne.symm ne3)).lt (Nat.le_of_eq g15.symm)
  have gx18 : n0 ≤ b15 := Nat.le_trans Z13 (Nat.le_of_eq g15.symm)
  have sz21 : h0.size ≤ b15 := Nat.le_trans K14.1 (Nat.le_of_eq g15.symm)
  have K20 := K14.ext E15
  have V15 : own_AJ Z h15 b15 k15 (3 : Int32) (fun _ => (0 : Int64)) := own_AJ.new A15 (by decide)
  show own_Go _ _ _ _ T15 (mkF m 15 _ [.ref b15, .ref a])
  have f23 := ((f9.wr W8).ext E15)
  have f24 := (((F2.ext E2).other W8 (Or.inr (slot_ne (Or.inl (hw 108 rfl)) (Or.inl (hw 106 rfl)) (by decide) (t := (.array .long)) (t' := (.array .long)) (by decide) (by decide)))).ext E15)
  refine Kpf (.array .long) X15 B hZ hown (hw 107 rfl) Via.refl e15 f24 f23 (Or.inl (hw 108 rfl)) (hw 98 rfl) 9 rfl fun T22 h22 X22 e22 W22 f25 => ?_
  have N26 := Fr.snoc X22 N12 g_a
  have K28 := K20.wr W22 (own_mI 0 rfl)
  refine own_oV X22 B Bd 10 rfl hPq ?_
  rw [e22]
  exact ⟨k2, k15, b2, b15, rfl, N26, K28, gx4, sz7, gx18, sz21, (f23.wr W22), ((f11.ext E15).other W22 (Or.inr (slot_ne (Or.inl (hw 106 rfl)) (Or.inl (hw 108 rfl)) (by decide) (t := (.array .long)) (t' := (.array .long)) (by decide) (by decide)))), f25, ((((F3.ext E2).other W8 (Or.inr (slot_ne (Or.inl (hw 127 rfl)) (Or.inl (hw 106 rfl)) (by decide) (t := .int) (t' := (.array .long)) (by decide) (by decide)))).ext E15).other W22 (Or.inr (slot_ne (Or.inl (hw 127 rfl)) (Or.inl (hw 108 rfl)) (by decide) (t := .int) (t' := (.array .long)) (by decide) (by decide)))), ((((F4.ext E2).other W8 (Or.inr (slot_ne (Or.inl (hw 129 rfl)) (Or.inl (hw 106 rfl)) (by decide) (t := .boolean) (t' := (.array .long)) (by decide) (by decide)))).ext E15).other W22 (Or.inr (slot_ne (Or.inl (hw 129 rfl)) (Or.inl (hw 108 rfl)) (by decide) (t := .boolean) (t' := (.array .long)) (by decide) (by decide)))), (((V2.other W8 (Ne.symm ne3)).ext E15).other W22 (Ne.symm ne3)), (V15.other W22 (Ne.symm ne16)), ne17⟩
theorem own_ef17 (m : MethodId) (a : Addr) : entryFrame m #[.ref a] 1 = mkF m 0 #[sR a] [] := by first | (simp [entryFrame, mkF, argsToLocals, Value.category]; done) | rfl
def Q17 (Z : State) (a so se : Addr) (ct sd : Int32) (h0 : Heap) (n0 : Nat) (v : Option Value) (h : Heap) (L : List Loc) : Prop := v = none ∧ Fr n0 L ∧ Keep h0 h [a] ∧ Exa Z h a kSW ∧ Fld Z h a kSW "origins" "[J" (.ref so) ∧ Fld Z h a kSW "ends" "[J" (.ref se) ∧ Fld Z h a kSW "count" "I" (.int 0) ∧ Fld Z h a kSW "sorted" "Z" (.int 0)
set_option maxRecDepth 65536 in
set_option maxHeartbeats 4000000 in
theorem rm17 {l : Launch} {Z : State} {a0 : Array Value} (hw : own_T a0 Z) (a so se : Addr) (ct sd : Int32) (h0 : Heap) (n0 : Nat) (Z0 : n0 ≤ h0.size) (F0 : Exa Z h0 a kSW) (F1 : Fld Z h0 a kSW "origins" "[J" (.ref so)) (F2 : Fld Z h0 a kSW "ends" "[J" (.ref se)) (F3 : Fld Z h0 a kSW "count" "I" (.int ct)) (F4 : Fld Z h0 a kSW "sorted" "Z" (.int sd)) (g_a : n0 ≤ a) :
    own_M l Z ym17 prog_40_method_2_code 1 none ⟨0, 0, 0, 0⟩ #[.ref a] h0 (Q17 Z a so se ct sd h0 n0) := by
  refine own_open kSW #[sR a] (plainFor_of_name own_pn13) DL17 rfl (fun m => own_ef17 m a) fun p e s m below meth c s₁ Bd B hZ hown X0 e0 Pq hPq => ?_
  have hx := B.x
  have N0 := Fr.nil n0
  have K0 : Keep h0 h0 [a] := Keep.refl _ _
  refine SaN X0 B 0 rfl rfl rfl ?_
  refine Sc 0 X0 B 1 rfl rfl ?_
  refine Kpf .int X0 B hZ hown (hw 126 rfl) Via.refl e0 F3 F0 (Or.inl (hw 127 rfl)) (hw 98 rfl) 2 rfl fun T1 h1 X1 e1 W1 f2 => ?_
  have N3 := Fr.snoc X1 N0 g_a
  have K5 := K0.wr W1 (own_mI 0 rfl)
  refine SaN X1 B 3 rfl rfl rfl ?_
  refine Sc 0 X1 B 4 rfl rfl ?_
  have f7 := (F0.wr W1)
  have f8 := (F4.other W1 (Or.inr (slot_ne (Or.inl (hw 129 rfl)) (Or.inl (hw 127 rfl)) (by decide) (t := .boolean) (t' := .int) (by decide) (by decide))))
  refine Kpf .boolean X1 B hZ hown (hw 128 rfl) Via.refl e1 f8 f7 (Or.inl (hw 129 rfl)) (hw 98 rfl) 5 rfl fun T6 h6 X6 e6 W6 f9 => ?_
  have N10 := Fr.snoc X6 N3 g_a
  have K12 := K5.wr W6 (own_mI 0 rfl)
  refine own_oV X6 B Bd 6 rfl hPq ?_
  rw [e6]
  exact ⟨rfl, N10, K12, (f7.wr W6), ((F1.other W1 (Or.inr (slot_ne (Or.inl (hw 106 rfl)) (Or.inl (hw 127 rfl)) (by decide) (t := (.array .long)) (t' := .int) (by decide) (by decide)))).other W6 (Or.inr (slot_ne (Or.inl (hw 106 rfl)) (Or.inl (hw 129 rfl)) (by decide) (t := (.array .long)) (t' := .boolean) (by decide) (by decide)))), ((F2.other W1 (Or.inr (slot_ne (Or.inl (hw 108 rfl)) (Or.inl (hw 127 rfl)) (by decide) (t := (.array .long)) (t' := .int) (by decide) (by decide)))).other W6 (Or.inr (slot_ne (Or.inl (hw 108 rfl)) (Or.inl (hw 129 rfl)) (by decide) (t := (.array .long)) (t' := .boolean) (by decide) (by decide)))), (f2.other W6 (Or.inr (slot_ne (Or.inl (hw 127 rfl)) (Or.inl (hw 129 rfl)) (by decide) (t := .int) (t' := .boolean) (by decide) (by decide)))), f9⟩
theorem own_ef18 (m : MethodId) (a : Addr) (x0 x1 x2 : Int32) : entryFrame m #[.ref a, .int x0, .int x1, .int x2] 5 = mkF m 0 #[sR a, sI x0, sI x1, sI x2, sU] [] := by first | (simp [entryFrame, mkF, argsToLocals, Value.category]; done) | rfl
def Q18 (Z : State) (a : Addr) (x0 x1 x2 : Int32) (so se : Addr) (ct sd : Int32) (ko ke : ClassId) (go ge : Nat → Int64) (h0 : Heap) (n0 : Nat) (v : Option Value) (h : Heap) (L : List Loc) : Prop := v = none ∧ Fr n0 L ∧ Keep h0 h [a, so, se] ∧ Exa Z h a kSW ∧ Fld Z h a kSW "origins" "[J" (.ref so) ∧ Fld Z h a kSW "ends" "[J" (.ref se) ∧ Fld Z h a kSW "count" "I" (.int (ct + (1 : Int32))) ∧ Fld Z h a kSW "sorted" "Z" (.int 0) ∧ own_AJ Z h so ko (3 : Int32) (own_updJ go ct.toNatClampNeg (own_sev x1 x0)) ∧ own_AJ Z h se ke (3 : Int32) (own_updJ ge ct.toNatClampNeg (own_sev x2 x0))
set_option maxRecDepth 65536 in
set_option maxHeartbeats 4000000 in
theorem rm18 {l : Launch} {Z : State} {a0 : Array Value} (hw : own_T a0 Z) (a : Addr) (x0 x1 x2 : Int32) (so se : Addr) (ct sd : Int32) (ko ke : ClassId) (go ge : Nat → Int64) (h0 : Heap) (n0 : Nat) (Z0 : n0 ≤ h0.size) (F0 : Exa Z h0 a kSW) (F1 : Fld Z h0 a kSW "origins" "[J" (.ref so)) (F2 : Fld Z h0 a kSW "ends" "[J" (.ref se)) (F3 : Fld Z h0 a kSW "count" "I" (.int ct)) (F4 : Fld Z h0 a kSW "sorted" "Z" (.int sd)) (F5 : own_AJ Z h0 so ko (3 : Int32) go) (F6 : own_AJ Z h0 se ke (3 : Int32) ge) (hct : ¬ ct = (3 : Int32)) (hi : ¬ ct < 0 ∧ ct < (3 : Int32)) (na1 : so ≠ se) (na2 : so ≠ a) (na3 : se ≠ a) (g_a : n0 ≤ a) (g_so : n0 ≤ so) (g_se : n0 ≤ se) :
    own_M l Z ym18 prog_40_method_3_code 5 none ⟨1, 0, 0, 15⟩ #[.ref a, .int x0, .int x1, .int x2] h0 (Q18 Z a x0 x1 x2 so se ct sd ko ke go ge h0 n0) := by
  refine own_open kSW #[sR a, sI x0, sI x1, sI x2, sU] (plainFor_of_name own_pn13) DL18 rfl (fun m => own_ef18 m a x0 x1 x2) fun p e s m below meth c s₁ Bd B hZ hown X0 e0 Pq hPq => ?_
  have hx := B.x
  have N0 := Fr.nil n0
  have K0 : Keep h0 h0 [a, so, se] := Keep.refl _ _
  refine SaN X0 B 0 rfl rfl rfl ?_
  refine Kgf X0 B hZ hown (hw 126 rfl) Via.refl e0 F3 1 rfl fun T1 X1 e1 => ?_
  refine SaN X1 B 2 rfl rfl rfl ?_
  refine Kgf X1 B hZ hown (hw 105 rfl) Via.refl e1 F1 3 rfl fun T2 X2 e2 => ?_
  obtain ⟨c3, Ar3, q3, S3, N3, H3⟩ := id F5
  refine own_st (fun t k => X2.arraylength hx (by rw [e2]; exact Ar3.1) (State.isArrayOf_alike hZ.alike Ar3.2.1) (g := (mkF m 8 #[sR a, sI x0, sI x1, sI x2, sU] [.ref so, .int ct])) rfl rfl (B.d 4 rfl) _ k) ?_
  rw [len_of S3 N3]
  show own_Go _ _ _ _ T2 (mkF m 9 _ [.int 3, .int ct])
  refine Scy 9 50 X2 B 5 rfl (feq hct).2 ?_
  refine SaN X2 B 6 rfl rfl rfl ?_
  refine Sc 0 X2 B 7 rfl rfl ?_
  refine Kpf .boolean X2 B hZ hown (hw 128 rfl) Via.refl e2 F4 F0 (Or.inl (hw 129 rfl)) (hw 98 rfl) 8 rfl fun T4 h4 X4 e4 W4 f5 => ?_
  have N6 := Fr.snoc X4 N0 g_a
  have Z7 : n0 ≤ h4.size := Nat.le_trans Z0 (Nat.le_of_eq W4.size.symm)
  have K8 := K0.wr W4 (own_mI 0 rfl)
  refine SaN X4 B 9 rfl rfl rfl ?_
  have f10 := (F1.other W4 (Or.inr (slot_ne (Or.inl (hw 106 rfl)) (Or.inl (hw 129 rfl)) (by decide) (t := (.array .long)) (t' := .boolean) (by decide) (by decide))))
  refine Kgf X4 B hZ hown (hw 105 rfl) Via.refl e4 f10 10 rfl fun T9 X9 e9 => ?_
  refine SaN X9 B 11 rfl rfl rfl ?_
  have f12 := (F3.other W4 (Or.inr (slot_ne (Or.inl (hw 127 rfl)) (Or.inl (hw 129 rfl)) (by decide) (t := .int) (t' := .boolean) (by decide) (by decide))))
  refine Kgf X9 B hZ hown (hw 126 rfl) Via.refl e9 f12 12 rfl fun T11 X11 e11 => ?_
  refine SiN X11 B 13 rfl rfl ?_
  refine SiN X11 B 14 rfl rfl ?_
  refine Kst (wt := 2) (y := ym13) (some (.long (own_sev x1 x0))) X11 B hZ hown (hw 155 rfl) (hw 156 rfl) (hw 99 rfl) (hw 157 rfl) (rm13 hw x1 x0 h4 n0 Z7 ) e11 own_pd__II_J 15 rfl rfl rfl (fun _ _ _ q => q.1) fun T13 Lc13 X13 hQ13 => ?_
  obtain ⟨-, NQ13, eq13⟩ := hQ13
  have N14 := Fr.app N6 NQ13
  show own_Go _ _ _ _ T13 (mkF m 68 _ [(.long (own_sev x1 x0)), .int ct, .ref so])
  have f16 := (F5.other W4 na2)
  refine Kjs _ X13 B hZ eq13 f16 hi rfl 16 rfl fun T15 h15 X15 e15 W15 f17 => ?_
  have N18 := Fr.snoc X15 N14 g_so
  have Z19 : n0 ≤ h15.size := Nat.le_trans Z7 (Nat.le_of_eq W15.size.symm)
  have K20 := K8.wr W15 (own_mI 1 rfl)
  refine SaN X15 B 17 rfl rfl rfl ?_
  have f22 := ((F2.other W4 (Or.inr (slot_ne (Or.inl (hw 108 rfl)) (Or.inl (hw 129 rfl)) (by decide) (t := (.array .long)) (t' := .boolean) (by decide) (by decide)))).other W15 (Or.inl (Ne.symm na2)))
  refine Kgf X15 B hZ hown (hw 107 rfl) Via.refl e15 f22 18 rfl fun T21 X21 e21 => ?_
  refine SaN X21 B 19 rfl rfl rfl ?_
  have f24 := (f12.other W15 (Or.inl (Ne.symm na2)))
  refine Kgf X21 B hZ hown (hw 126 rfl) Via.refl e21 f24 20 rfl fun T23 X23 e23 => ?_
  refine SiN X23 B 21 rfl rfl ?_
  refine SiN X23 B 22 rfl rfl ?_
  refine Kst (wt := 2) (y := ym13) (some (.long (own_sev x2 x0))) X23 B hZ hown (hw 155 rfl) (hw 156 rfl) (hw 99 rfl) (hw 157 rfl) (rm13 hw x2 x0 h15 n0 Z19 ) e23 own_pd__II_J 23 rfl rfl rfl (fun _ _ _ q => q.1) fun T25 Lc25 X25 hQ25 => ?_
  obtain ⟨-, NQ25, eq25⟩ := hQ25
  have N26 := Fr.app N18 NQ25
  show own_Go _ _ _ _ T25 (mkF m 82 _ [(.long (own_sev x2 x0)), .int ct, .ref se])
  have f28 := ((F6.other W4 na3).other W15 (Ne.symm na1))
  refine Kjs _ X25 B hZ eq25 f28 hi rfl 24 rfl fun T27 h27 X27 e27 W27 f29 => ?_
  have N30 := Fr.snoc X27 N26 g_se
  have K32 := K20.wr W27 (own_mI 2 rfl)
  refine SaN X27 B 25 rfl rfl rfl ?_
  refine own_st (fun t k => XS.dup X27.here hx rfl (B.d 26 rfl) rfl rfl k) ?_
  have f34 := (f24.other W27 (Or.inl (Ne.symm na3)))
  refine Kgf X27 B hZ hown (hw 126 rfl) Via.refl e27 f34 27 rfl fun T33 X33 e33 => ?_
  refine Sc 1 X33 B 28 rfl rfl ?_
  refine own_st (fun t k => XS.iadd X33.here hx rfl (B.d 29 rfl) rfl k) ?_
  have f36 := (((F0.wr W4).wr W15).wr W27)
  refine Kpf .int X33 B hZ hown (hw 126 rfl) Via.refl e33 f34 f36 (Or.inl (hw 127 rfl)) (hw 98 rfl) 30 rfl fun T35 h35 X35 e35 W35 f37 => ?_
  have N38 := Fr.snoc X35 N30 g_a
  have K40 := K32.wr W35 (own_mI 0 rfl)
  refine own_oV X35 B Bd 31 rfl hPq ?_
  rw [e35]
  exact ⟨rfl, N38, K40, (f36.wr W35), (((f10.other W15 (Or.inl (Ne.symm na2))).other W27 (Or.inl (Ne.symm na3))).other W35 (Or.inr (slot_ne (Or.inl (hw 106 rfl)) (Or.inl (hw 127 rfl)) (by decide) (t := (.array .long)) (t' := .int) (by decide) (by decide)))), ((f22.other W27 (Or.inl (Ne.symm na3))).other W35 (Or.inr (slot_ne (Or.inl (hw 108 rfl)) (Or.inl (hw 127 rfl)) (by decide) (t := (.array .long)) (t' := .int) (by decide) (by decide)))), f37, (((f5.other W15 (Or.inl (Ne.symm na2))).other W27 (Or.inl (Ne.symm na3))).other W35 (Or.inr (slot_ne (Or.inl (hw 129 rfl)) (Or.inl (hw 127 rfl)) (by decide) (t := .boolean) (t' := .int) (by decide) (by decide)))), ((f17.other W27 na1).other W35 na2), (f29.other W35 na3)⟩
def own_mxi (x0 x1 : Int32) : Int32 := (if x0 < x1 then x1 else x0)
theorem own_ef19 (m : MethodId) (x0 x1 : Int32) : entryFrame m #[.int x0, .int x1] 2 = mkF m 0 #[sI x0, sI x1] [] := by first | (simp [entryFrame, mkF, argsToLocals, Value.category]; done) | rfl
def Q19 (Z : State) (x0 x1 : Int32) (h0 : Heap) (n0 : Nat) (v : Option Value) (h : Heap) (L : List Loc) : Prop := v = some (.int (own_mxi x0 x1)) ∧ Fr n0 L ∧ h = h0
set_option maxRecDepth 65536 in
set_option maxHeartbeats 4000000 in
theorem rm19 {l : Launch} {Z : State} {a0 : Array Value} (hw : own_T a0 Z) (x0 x1 : Int32) (h0 : Heap) (n0 : Nat) (Z0 : n0 ≤ h0.size) :
    own_M l Z ym19 jdk_29_method_65_code 2 (some .int) ⟨0, 0, 0, 0⟩ #[.int x0, .int x1] h0 (Q19 Z x0 x1 h0 n0) := by
  refine own_open "java/lang/Math" #[sI x0, sI x1] (Jvm.Free.JP.mathPlain rfl (by decide +kernel)) DL19 rfl (fun m => own_ef19 m x0 x1) fun p e s m below meth c s₁ Bd B hZ hown X0 e0 Pq hPq => ?_
  have hx := B.x
  have N0 := Fr.nil n0
  refine SiN X0 B 0 rfl rfl ?_
  refine SiN X0 B 1 rfl rfl ?_
  have J4 : ∀ (Tj4 : State) (Lj4 : List Loc) (p5 : Int32), Stand p l e (⟨0, 0, 0, 0⟩ : Room) s m #[.int x0, .int x1] below meth c Tj4 Lj4 0 0 → Tj4.heap = h0 → Fr n0 Lj4 → p5 = (if x0 < x1 then x1 else x0) → own_Go p.tables e below Pq Tj4 (mkF m 10 #[sI x0, sI x1] [.int p5]) := by
    intro Tj4 Lj4 p5 Xj4 ej4 Nj4 qp5
    show own_Go _ _ _ _ Tj4 (mkF m 10 _ [.int p5])
    refine own_oI Xj4 B Bd 6 rfl hPq ?_
    rw [ej4]
    exact ⟨by subst_vars; rfl, Nj4, rfl⟩
  by_cases c1 : x0 < x1
  · skip
    refine Scy 2 9 X0 B 2 rfl (tlt c1).1 ?_
    refine SiN X0 B 5 rfl rfl ?_
    exact J4 s₁ _ _ X0 e0 N0 (by simp only [if_pos c1])
  · skip
    refine Scn X0 B 2 rfl (flt c1).1 ?_
    refine SiN X0 B 3 rfl rfl ?_
    refine Sg 6 10 X0 B 4 rfl ?_
    exact J4 s₁ _ _ X0 e0 N0 (by simp only [if_neg c1])
theorem own_pn20 : plainName "com/example/tidemark/tidemark/core/Stretches" = true := by first | (simp [plainName, overriddenIn]; done) | decide +kernel
theorem own_ef20 (m : MethodId) (a : Addr) : entryFrame m #[.ref a, .int 6] 2 = mkF m 0 #[sR a, sI 6] [] := by first | (simp [entryFrame, mkF, argsToLocals, Value.category]; done) | rfl
def Q20 (Z : State) (a : Addr) (u0 u1 : Value) (u2 u3 : Value) (h0 : Heap) (n0 : Nat) (v : Option Value) (h : Heap) (L : List Loc) : Prop := ∃ (k_sa k_ea : ClassId) (sa ea : Addr), v = none ∧ Fr n0 L ∧ Keep h0 h [a] ∧ n0 ≤ sa ∧ h0.size ≤ sa ∧ n0 ≤ ea ∧ h0.size ≤ ea ∧ Exa Z h a kCP ∧ Fld Z h a kST "starts" "[I" (.ref sa) ∧ Fld Z h a kST "ends" "[I" (.ref ea) ∧ Fld Z h a kCP "sweep" "Lcom/example/tidemark/tidemark/core/Sweep;" u2 ∧ Fld Z h a kCP "colours" "[I" u3 ∧ Fld Z h a kST "size" "I" (.int 0) ∧ Fld Z h a kCP "limit" "I" (.int 0) ∧ own_AI Z h sa k_sa 6 (fun _ => 0) ∧ own_AI Z h ea k_ea 6 (fun _ => 0) ∧ sa ≠ ea
set_option maxRecDepth 65536 in
set_option maxHeartbeats 4000000 in
theorem rm20 {l : Launch} {Z : State} {a0 : Array Value} (hw : own_T a0 Z) (a : Addr) (u0 u1 : Value) (u2 u3 : Value) (h0 : Heap) (n0 : Nat) (Z0 : n0 ≤ h0.size) (F0 : Exa Z h0 a kCP) (F1 : Fld Z h0 a kST "starts" "[I" u0) (F2 : Fld Z h0 a kST "ends" "[I" u1) (F3 : Fld Z h0 a kCP "sweep" "Lcom/example/tidemark/tidemark/core/Sweep;" u2) (F4 : Fld Z h0 a kCP "colours" "[I" u3) (F5 : Fld Z h0 a kST "size" "I" (.int 0)) (F6 : Fld Z h0 a kCP "limit" "I" (.int 0)) (g_a : n0 ≤ a) :
    own_M l Z ym20 prog_38_method_1_code 2 none ⟨1, 2, 12, 12⟩ #[.ref a, .int 6] h0 (Q20 Z a u0 u1 u2 u3 h0 n0) := by
  refine own_open kST #[sR a, sI 6] (plainFor_of_name own_pn20) DL20 rfl (fun m => own_ef20 m a) fun p e s m below meth c s₁ Bd B hZ hown X0 e0 Pq hPq => ?_
  have hx := B.x
  have hml := B.2.1
  have hnm := (name_of_methodNamed Bd.named Bd.method).1
  have N0 := Fr.nil n0
  have K0 : Keep h0 h0 [a] := Keep.refl _ _
  refine SaN X0 B 0 rfl rfl rfl ?_
  obtain ⟨T1, X1, e1, st1⟩ := initO X0 hx hZ hown (hw 88 rfl) (hw 7 rfl) (hw 8 rfl) e0 (g := (mkF m 1 #[sR a, sI 6] [.ref a])) rfl (by rw [hml]; rfl) rfl (B.d 1 rfl) (by decide) (W := 0) (by show 2 * 0 + _ ≤ _; exact Nat.le_of_eq rfl) (by decide)
  refine own_st st1 ?_
  show own_Go _ _ _ _ T1 (mkF m 4 _ [])
  refine SaN X1 B 2 rfl rfl rfl ?_
  refine SiN X1 B 3 rfl rfl ?_
  obtain ⟨T2, h2, k2, X2, e2, E2, A2, st2⟩ := newP X1 hx hZ (hw 21 rfl) e1 (g := (mkF m 6 #[sR a, sI 6] [.int 6, .ref a])) rfl (B.d 4 rfl) rfl (by decide) (cap := 6) (by decide) (by decide) (by decide) (by decide)
  obtain ⟨b2, g2⟩ : ∃ z, z = h0.size := ⟨_, rfl⟩
  rw [← g2] at A2 st2
  refine own_st st2 ?_
  have ne3 : a ≠ b2 := own_nl F0.lt (Nat.le_of_eq g2.symm)
  have gx4 : n0 ≤ b2 := Nat.le_trans Z0 (Nat.le_of_eq g2.symm)
  have Z5 : n0 ≤ h2.size := Nat.le_trans Z0 E2.1
  have sz7 : h0.size ≤ b2 := Nat.le_trans K0.1 (Nat.le_of_eq g2.symm)
  have K6 := K0.ext E2
  have V2 : own_AI Z h2 b2 k2 6 (fun _ => (0 : Int32)) := own_AI.new A2 (by decide)
  show own_Go _ _ _ _ T2 (mkF m 8 _ [.ref b2, .ref a])
  have f9 := (F0.ext E2)
  have f10 := (F1.ext E2)
  refine Kpf (.array .int) X2 B hZ hown (hw 89 rfl) Via.refl e2 f10 f9 (Or.inr ⟨(hw 90 rfl), rfl, hnm⟩) (hw 74 rfl) 5 rfl fun T8 h8 X8 e8 W8 f11 => ?_
  have N12 := Fr.snoc X8 N0 g_a
  have Z13 : n0 ≤ h8.size := Nat.le_trans Z5 (Nat.le_of_eq W8.size.symm)
  have K14 := K6.wr W8 (own_mI 0 rfl)
  refine SaN X8 B 6 rfl rfl rfl ?_
  refine SiN X8 B 7 rfl rfl ?_
  obtain ⟨T15, h15, k15, X15, e15, E15, A15, st15⟩ := newP X8 hx hZ (hw 21 rfl) e8 (g := (mkF m 13 #[sR a, sI 6] [.int 6, .ref a])) rfl (B.d 8 rfl) rfl (by decide) (cap := 6) (by decide) (by decide) (by decide) (by decide)
  obtain ⟨b15, g15⟩ : ∃ z, z = h8.size := ⟨_, rfl⟩
  rw [← g15] at A15 st15
  refine own_st st15 ?_
  have ne16 : a ≠ b15 := own_nl (f9.wr W8).lt (Nat.le_of_eq g15.symm)
  have ne17 : b2 ≠ b15 := own_nl (V2.other W8 (Ne.symm ne3)).lt (Nat.le_of_eq g15.symm)
  have gx18 : n0 ≤ b15 := Nat.le_trans Z13 (Nat.le_of_eq g15.symm)
  have sz21 : h0.size ≤ b15 := Nat.le_trans K14.1 (Nat.le_of_eq g15.symm)
  have K20 := K14.ext E15
  have V15 : own_AI Z h15 b15 k15 6 (fun _ => (0 : Int32)) := own_AI.new A15 (by decide)
  show own_Go _ _ _ _ T15 (mkF m 15 _ [.ref b15, .ref a])
  have f23 := ((f9.wr W8).ext E15)
  have f24 := (((F2.ext E2).other W8 (Or.inr (slot_ne (Or.inr (hw 92 rfl)) (Or.inr (hw 90 rfl)) (by decide) (t := (.array .int)) (t' := (.array .int)) (by decide) (by decide)))).ext E15)
  refine Kpf (.array .int) X15 B hZ hown (hw 91 rfl) Via.refl e15 f24 f23 (Or.inr ⟨(hw 92 rfl), rfl, hnm⟩) (hw 74 rfl) 9 rfl fun T22 h22 X22 e22 W22 f25 => ?_
  have N26 := Fr.snoc X22 N12 g_a
  have K28 := K20.wr W22 (own_mI 0 rfl)
  refine own_oV X22 B Bd 10 rfl hPq ?_
  rw [e22]
  exact ⟨k2, k15, b2, b15, rfl, N26, K28, gx4, sz7, gx18, sz21, (f23.wr W22), ((f11.ext E15).other W22 (Or.inr (slot_ne (Or.inr (hw 90 rfl)) (Or.inr (hw 92 rfl)) (by decide) (t := (.array .int)) (t' := (.array .int)) (by decide) (by decide)))), f25, ((((F3.ext E2).other W8 (Or.inr (slot_ne (Or.inr (hw 110 rfl)) (Or.inr (hw 90 rfl)) (by decide) (t := (.object kSW)) (t' := (.array .int)) (by decide) (by decide)))).ext E15).other W22 (Or.inr (slot_ne (Or.inr (hw 110 rfl)) (Or.inr (hw 92 rfl)) (by decide) (t := (.object kSW)) (t' := (.array .int)) (by decide) (by decide)))), ((((F4.ext E2).other W8 (Or.inr (slot_ne (Or.inl (hw 94 rfl)) (Or.inr (hw 90 rfl)) (by decide) (t := (.array .int)) (t' := (.array .int)) (by decide) (by decide)))).ext E15).other W22 (Or.inr (slot_ne (Or.inl (hw 94 rfl)) (Or.inr (hw 92 rfl)) (by decide) (t := (.array .int)) (t' := (.array .int)) (by decide) (by decide)))), ((((F5.ext E2).other W8 (Or.inr (slot_ne (Or.inl (hw 165 rfl)) (Or.inr (hw 90 rfl)) (by decide) (t := .int) (t' := (.array .int)) (by decide) (by decide)))).ext E15).other W22 (Or.inr (slot_ne (Or.inl (hw 165 rfl)) (Or.inr (hw 92 rfl)) (by decide) (t := .int) (t' := (.array .int)) (by decide) (by decide)))), ((((F6.ext E2).other W8 (Or.inr (slot_ne (Or.inr (hw 96 rfl)) (Or.inr (hw 90 rfl)) (by decide) (t := .int) (t' := (.array .int)) (by decide) (by decide)))).ext E15).other W22 (Or.inr (slot_ne (Or.inr (hw 96 rfl)) (Or.inr (hw 92 rfl)) (by decide) (t := .int) (t' := (.array .int)) (by decide) (by decide)))), (((V2.other W8 (Ne.symm ne3)).ext E15).other W22 (Ne.symm ne3)), (V15.other W22 (Ne.symm ne16)), ne17⟩
theorem own_pn21 : plainName "com/example/tidemark/tidemark/core/ColourProfile" = true := by first | (simp [plainName, overriddenIn]; done) | decide +kernel
theorem own_ef21 (m : MethodId) (a : Addr) : entryFrame m #[.ref a, .int 3, .int 2] 3 = mkF m 0 #[sR a, sI 3, sI 2] [] := by first | (simp [entryFrame, mkF, argsToLocals, Value.category]; done) | rfl
def Q21 (Z : State) (a : Addr) (u0 u1 : Value) (u2 u3 : Value) (h0 : Heap) (n0 : Nat) (v : Option Value) (h : Heap) (L : List Loc) : Prop := ∃ (k_sa k_ea : ClassId) (k_co k_so k_se : ClassId) (sa ea : Addr) (co sw : Addr) (so se : Addr), v = none ∧ Fr n0 L ∧ Keep h0 h [a] ∧ n0 ≤ sa ∧ h0.size ≤ sa ∧ n0 ≤ ea ∧ h0.size ≤ ea ∧ n0 ≤ co ∧ h0.size ≤ co ∧ n0 ≤ sw ∧ h0.size ≤ sw ∧ n0 ≤ so ∧ h0.size ≤ so ∧ n0 ≤ se ∧ h0.size ≤ se ∧ Exa Z h a kCP ∧ Fld Z h a kST "starts" "[I" (.ref sa) ∧ Fld Z h a kST "ends" "[I" (.ref ea) ∧ Fld Z h a kST "size" "I" (.int 0) ∧ Fld Z h a kCP "limit" "I" (.int 2) ∧ Fld Z h a kCP "sweep" "Lcom/example/tidemark/tidemark/core/Sweep;" (.ref sw) ∧ Fld Z h a kCP "colours" "[I" (.ref co) ∧ Exa Z h sw kSW ∧ Fld Z h sw kSW "origins" "[J" (.ref so) ∧ Fld Z h sw kSW "ends" "[J" (.ref se) ∧ Fld Z h sw kSW "count" "I" (.int 0) ∧ Fld Z h sw kSW "sorted" "Z" (.int 0) ∧ own_AI Z h sa k_sa 6 (fun _ => 0) ∧ own_AI Z h ea k_ea 6 (fun _ => 0) ∧ own_AI Z h co k_co 0 (fun _ => 0) ∧ Exa Z h co "[I" ∧ own_AJ Z h so k_so (3 : Int32) (fun _ => 0) ∧ own_AJ Z h se k_se (3 : Int32) (fun _ => 0) ∧ sa ≠ ea ∧ sa ≠ co ∧ sa ≠ sw ∧ sa ≠ so ∧ sa ≠ se ∧ ea ≠ co ∧ ea ≠ sw ∧ ea ≠ so ∧ ea ≠ se ∧ co ≠ sw ∧ co ≠ so ∧ co ≠ se ∧ sw ≠ so ∧ sw ≠ se ∧ so ≠ se
set_option maxRecDepth 65536 in
set_option maxHeartbeats 4000000 in
theorem rm21 {l : Launch} {Z : State} {a0 : Array Value} (hw : own_T a0 Z) (a : Addr) (u0 u1 : Value) (u2 u3 : Value) (h0 : Heap) (n0 : Nat) (Z0 : n0 ≤ h0.size) (F0 : Exa Z h0 a kCP) (F1 : Fld Z h0 a kST "starts" "[I" u0) (F2 : Fld Z h0 a kST "ends" "[I" u1) (F3 : Fld Z h0 a kCP "sweep" "Lcom/example/tidemark/tidemark/core/Sweep;" u2) (F4 : Fld Z h0 a kCP "colours" "[I" u3) (F5 : Fld Z h0 a kST "size" "I" (.int 0)) (F6 : Fld Z h0 a kCP "limit" "I" (.int 0)) (g_a : n0 ≤ a) :
    own_M l Z ym21 prog_17_method_1_code 3 none ⟨2, 6, 22, 27⟩ #[.ref a, .int 3, .int 2] h0 (Q21 Z a u0 u1 u2 u3 h0 n0) := by
  refine own_open kCP #[sR a, sI 3, sI 2] (plainFor_of_name own_pn21) DL21 rfl (fun m => own_ef21 m a) fun p e s m below meth c s₁ Bd B hZ hown X0 e0 Pq hPq => ?_
  have hx := B.x
  have hnm := (name_of_methodNamed Bd.named Bd.method).1
  have N0 := Fr.nil n0
  have K0 : Keep h0 h0 [a] := Keep.refl _ _
  refine SaN X0 B 0 rfl rfl rfl ?_
  refine Sc 1 X0 B 1 rfl rfl ?_
  refine Sc 2 X0 B 2 rfl rfl ?_
  refine SiN X0 B 3 rfl rfl ?_
  refine own_st (fun t k => XS.imul X0.here hx rfl (B.d 4 rfl) rfl k) ?_
  refine Kst (wt := 1) (y := ym19) (some (.int (own_mxi (1 : Int32) (6 : Int32)))) X0 B hZ hown (hw 79 rfl) (hw 80 rfl) (hw 81 rfl) (hw 82 rfl) (rm19 hw 1 6 h0 n0 Z0 ) e0 own_pd__II_I 5 rfl rfl rfl (fun _ _ _ q => q.1) fun T1 Lc1 X1 hQ1 => ?_
  obtain ⟨-, NQ1, eq1⟩ := hQ1
  have N2 := Fr.app N0 NQ1
  rw [show (own_mxi (1 : Int32) (6 : Int32)) = (6 : Int32) by decide]
  show own_Go _ _ _ _ T1 (mkF m 8 _ [.int 6, .ref a])
  refine Ksp (wt := 0) (y := ym20) none X1 B hZ hown (hw 83 rfl) (hw 84 rfl) (hw 86 rfl) (hw 87 rfl) (rm20 hw a u0 u1 u2 u3 h0 n0 Z0 F0 F1 F2 F3 F4 F5 F6 g_a) eq1 own_pd__I_V 6 rfl rfl rfl (fun _ _ _ q => by obtain ⟨_, _, _, _, e, _⟩ := q; exact e) fun T3 Lc3 X3 hQ3 => ?_
  obtain ⟨r3_k_sa, r3_k_ea, b3_sa, b3_ea, -, NQ3, K3, gx_b3_sa, sz_b3_sa, gx_b3_ea, sz_b3_ea, fq3_0, fq3_1, fq3_2, fq3_3, fq3_4, fq3_5, fq3_6, fq3_7, fq3_8, hq3_0⟩ := hQ3
  have N4 := Fr.app N2 NQ3
  have Z5 : n0 ≤ T3.heap.size := Nat.le_trans Z0 K3.1
  have lt7 := F0.lt
  have ne6 := own_nl lt7 sz_b3_sa
  have ne8 := own_nl lt7 sz_b3_ea
  have sz10 : h0.size ≤ b3_sa := Nat.le_trans K0.1 sz_b3_sa
  have sz11 : h0.size ≤ b3_ea := Nat.le_trans K0.1 sz_b3_ea
  have K9 := K0.trans K3 (allS (own_mI 0 rfl) all0)
  show own_Go _ _ _ _ T3 (mkF m 11 _ [])
  refine SaN X3 B 7 rfl rfl rfl ?_
  refine Sc 0 X3 B 8 rfl rfl ?_
  obtain ⟨T12, h12, k12, X12, e12, E12, A12, EA12, st12⟩ := newPE X3 hx hZ (hw 21 rfl) rfl (g := (mkF m 13 #[sR a, sI 3, sI 2] [.int 0, .ref a])) rfl (B.d 9 rfl) rfl (by decide) (cap := 0) (by decide) (by decide) (by decide) (by decide) (ad := "[I") (by decide)
  obtain ⟨b12, g12⟩ : ∃ z, z = T3.heap.size := ⟨_, rfl⟩
  rw [← g12] at A12 EA12 st12
  refine own_st st12 ?_
  have ne13 : a ≠ b12 := own_nl fq3_0.lt (Nat.le_of_eq g12.symm)
  have ne14 : b3_sa ≠ b12 := own_nl fq3_7.lt (Nat.le_of_eq g12.symm)
  have ne15 : b3_ea ≠ b12 := own_nl fq3_8.lt (Nat.le_of_eq g12.symm)
  have gx16 : n0 ≤ b12 := Nat.le_trans Z5 (Nat.le_of_eq g12.symm)
  have Z17 : n0 ≤ h12.size := Nat.le_trans Z5 E12.1
  have sz19 : h0.size ≤ b12 := Nat.le_trans K9.1 (Nat.le_of_eq g12.symm)
  have K18 := K9.ext E12
  have V12 : own_AI Z h12 b12 k12 0 (fun _ => (0 : Int32)) := own_AI.new A12 (by decide)
  show own_Go _ _ _ _ T12 (mkF m 15 _ [.ref b12, .ref a])
  have f21 := (fq3_0.ext E12)
  have f22 := (fq3_4.ext E12)
  refine Kpf (.array .int) X12 B hZ hown (hw 93 rfl) Via.refl e12 f22 f21 (Or.inl (hw 94 rfl)) (hw 74 rfl) 10 rfl fun T20 h20 X20 e20 W20 f23 => ?_
  have N24 := Fr.snoc X20 N4 g_a
  have Z25 : n0 ≤ h20.size := Nat.le_trans Z17 (Nat.le_of_eq W20.size.symm)
  have K26 := K18.wr W20 (own_mI 0 rfl)
  refine SaN X20 B 11 rfl rfl rfl ?_
  refine SiN X20 B 12 rfl rfl ?_
  have f28 := (f21.wr W20)
  have f29 := ((fq3_6.ext E12).other W20 (Or.inr (slot_ne (Or.inr (hw 96 rfl)) (Or.inl (hw 94 rfl)) (by decide) (t := .int) (t' := (.array .int)) (by decide) (by decide))))
  refine Kpf .int X20 B hZ hown (hw 95 rfl) Via.refl e20 f29 f28 (Or.inr ⟨(hw 96 rfl), rfl, hnm⟩) (hw 74 rfl) 13 rfl fun T27 h27 X27 e27 W27 f30 => ?_
  have N31 := Fr.snoc X27 N24 g_a
  have Z32 : n0 ≤ h27.size := Nat.le_trans Z25 (Nat.le_of_eq W27.size.symm)
  have K33 := K26.wr W27 (own_mI 0 rfl)
  refine SaN X27 B 14 rfl rfl rfl ?_
  obtain ⟨T34, h34, X34, e34, E34, A34, D34, -, st34⟩ := newO X27 hx hZ hown (hw 97 rfl) (hw 98 rfl) (hw 99 rfl) e27 (g := (mkF m 24 #[sR a, sI 3, sI 2] [.ref a])) rfl (B.d 15 rfl) (by decide) (by decide)
  obtain ⟨b34, g34⟩ : ∃ z, z = h27.size := ⟨_, rfl⟩
  rw [← g34] at A34 D34 st34
  refine own_st st34 ?_
  have ne35 : a ≠ b34 := own_nl (f28.wr W27).lt (Nat.le_of_eq g34.symm)
  have ne36 : b3_sa ≠ b34 := own_nl (((fq3_7.ext E12).other W20 (Ne.symm ne6)).other W27 (Ne.symm ne6)).lt (Nat.le_of_eq g34.symm)
  have ne37 : b3_ea ≠ b34 := own_nl (((fq3_8.ext E12).other W20 (Ne.symm ne8)).other W27 (Ne.symm ne8)).lt (Nat.le_of_eq g34.symm)
  have ne38 : b12 ≠ b34 := own_nl ((EA12.wr W20).wr W27).lt (Nat.le_of_eq g34.symm)
  have gx39 : n0 ≤ b34 := Nat.le_trans Z32 (Nat.le_of_eq g34.symm)
  have Z40 : n0 ≤ h34.size := Nat.le_trans Z32 E34.1
  have sz42 : h0.size ≤ b34 := Nat.le_trans K33.1 (Nat.le_of_eq g34.symm)
  have K41 := K33.ext E34
  have f43 : Fld Z h34 b34 kSW "origins" "[J" .null := D34 (Or.inl (hw 106 rfl)) (ty := (.array .long)) (by decide)
  have f44 : Fld Z h34 b34 kSW "ends" "[J" .null := D34 (Or.inl (hw 108 rfl)) (ty := (.array .long)) (by decide)
  have f45 : Fld Z h34 b34 kSW "count" "I" (.int 0) := D34 (Or.inl (hw 127 rfl)) (ty := .int) (by decide)
  have f46 : Fld Z h34 b34 kSW "sorted" "Z" (.int 0) := D34 (Or.inl (hw 129 rfl)) (ty := .boolean) (by decide)
  show own_Go _ _ _ _ T34 (mkF m 27 _ [.ref b34, .ref a])
  refine own_st (fun t k => XS.dup X34.here hx rfl (B.d 16 rfl) rfl rfl k) ?_
  refine SiN X34 B 17 rfl rfl ?_
  refine Ksp (wt := 2) (y := ym16) none X34 B hZ hown (hw 100 rfl) (hw 101 rfl) (hw 99 rfl) (hw 102 rfl) (rm16 hw b34 (.null) (.null) h34 n0 Z40 A34 f43 f44 f45 f46 gx39) e34 own_pd__I_V 18 rfl rfl rfl (fun _ _ _ q => by obtain ⟨_, _, _, _, e, _⟩ := q; exact e) fun T47 Lc47 X47 hQ47 => ?_
  obtain ⟨r47_k_so, r47_k_se, b47_so, b47_se, -, NQ47, K47, gx_b47_so, sz_b47_so, gx_b47_se, sz_b47_se, fq47_0, fq47_1, fq47_2, fq47_3, fq47_4, fq47_5, fq47_6, hq47_0⟩ := hQ47
  have N48 := Fr.app N31 NQ47
  have lt51 := ((f28.wr W27).ext E34).lt
  have ne50 := own_nl lt51 sz_b47_so
  have lt53 := ((((fq3_7.ext E12).other W20 (Ne.symm ne6)).other W27 (Ne.symm ne6)).ext E34).lt
  have ne52 := own_nl lt53 sz_b47_so
  have lt55 := ((((fq3_8.ext E12).other W20 (Ne.symm ne8)).other W27 (Ne.symm ne8)).ext E34).lt
  have ne54 := own_nl lt55 sz_b47_so
  have lt57 := (((EA12.wr W20).wr W27).ext E34).lt
  have ne56 := own_nl lt57 sz_b47_so
  have lt59 := A34.lt
  have ne58 := own_nl lt59 sz_b47_so
  have ne60 := own_nl lt51 sz_b47_se
  have ne61 := own_nl lt53 sz_b47_se
  have ne62 := own_nl lt55 sz_b47_se
  have ne63 := own_nl lt57 sz_b47_se
  have ne64 := own_nl lt59 sz_b47_se
  have sz66 : h0.size ≤ b47_so := Nat.le_trans K41.1 sz_b47_so
  have sz67 : h0.size ≤ b47_se := Nat.le_trans K41.1 sz_b47_se
  have K65 := K41.trans K47 (allS (Or.inr sz42) all0)
  show own_Go _ _ _ _ T47 (mkF m 32 _ [.ref b34, .ref a])
  have f69 := (((f28.wr W27).ext E34).keep K47)
  have f70 := (((((fq3_3.ext E12).other W20 (Or.inr (slot_ne (Or.inr (hw 110 rfl)) (Or.inl (hw 94 rfl)) (by decide) (t := (.object kSW)) (t' := (.array .int)) (by decide) (by decide)))).other W27 (Or.inr (slot_ne (Or.inr (hw 110 rfl)) (Or.inr (hw 96 rfl)) (by decide) (t := (.object kSW)) (t' := .int) (by decide) (by decide)))).ext E34).keep K47 (ninS ne35 nin0))
  refine Kpf (.object kSW) X47 B hZ hown (hw 109 rfl) Via.refl rfl f70 f69 (Or.inr ⟨(hw 110 rfl), rfl, hnm⟩) (hw 74 rfl) 19 rfl fun T68 h68 X68 e68 W68 f71 => ?_
  have N72 := Fr.snoc X68 N48 g_a
  have K74 := K65.wr W68 (own_mI 0 rfl)
  refine own_oV X68 B Bd 20 rfl hPq ?_
  rw [e68]
  exact ⟨r3_k_sa, r3_k_ea, k12, r47_k_so, r47_k_se, b3_sa, b3_ea, b12, b34, b47_so, b47_se, rfl, N72, K74, gx_b3_sa, sz10, gx_b3_ea, sz11, gx16, sz19, gx39, sz42, gx_b47_so, sz66, gx_b47_se, sz67, (f69.wr W68), ((((((fq3_1.ext E12).other W20 (Or.inr (slot_ne (Or.inr (hw 90 rfl)) (Or.inl (hw 94 rfl)) (by decide) (t := (.array .int)) (t' := (.array .int)) (by decide) (by decide)))).other W27 (Or.inr (slot_ne (Or.inr (hw 90 rfl)) (Or.inr (hw 96 rfl)) (by decide) (t := (.array .int)) (t' := .int) (by decide) (by decide)))).ext E34).keep K47 (ninS ne35 nin0)).other W68 (Or.inr (slot_ne (Or.inr (hw 90 rfl)) (Or.inr (hw 110 rfl)) (by decide) (t := (.array .int)) (t' := (.object kSW)) (by decide) (by decide)))), ((((((fq3_2.ext E12).other W20 (Or.inr (slot_ne (Or.inr (hw 92 rfl)) (Or.inl (hw 94 rfl)) (by decide) (t := (.array .int)) (t' := (.array .int)) (by decide) (by decide)))).other W27 (Or.inr (slot_ne (Or.inr (hw 92 rfl)) (Or.inr (hw 96 rfl)) (by decide) (t := (.array .int)) (t' := .int) (by decide) (by decide)))).ext E34).keep K47 (ninS ne35 nin0)).other W68 (Or.inr (slot_ne (Or.inr (hw 92 rfl)) (Or.inr (hw 110 rfl)) (by decide) (t := (.array .int)) (t' := (.object kSW)) (by decide) (by decide)))), ((((((fq3_5.ext E12).other W20 (Or.inr (slot_ne (Or.inl (hw 165 rfl)) (Or.inl (hw 94 rfl)) (by decide) (t := .int) (t' := (.array .int)) (by decide) (by decide)))).other W27 (Or.inr (slot_ne (Or.inl (hw 165 rfl)) (Or.inr (hw 96 rfl)) (by decide) (t := .int) (t' := .int) (by decide) (by decide)))).ext E34).keep K47 (ninS ne35 nin0)).other W68 (Or.inr (slot_ne (Or.inl (hw 165 rfl)) (Or.inr (hw 110 rfl)) (by decide) (t := .int) (t' := (.object kSW)) (by decide) (by decide)))), (((f30.ext E34).keep K47 (ninS ne35 nin0)).other W68 (Or.inr (slot_ne (Or.inr (hw 96 rfl)) (Or.inr (hw 110 rfl)) (by decide) (t := .int) (t' := (.object kSW)) (by decide) (by decide)))), f71, ((((f23.other W27 (Or.inr (slot_ne (Or.inl (hw 94 rfl)) (Or.inr (hw 96 rfl)) (by decide) (t := (.array .int)) (t' := .int) (by decide) (by decide)))).ext E34).keep K47 (ninS ne35 nin0)).other W68 (Or.inr (slot_ne (Or.inl (hw 94 rfl)) (Or.inr (hw 110 rfl)) (by decide) (t := (.array .int)) (t' := (.object kSW)) (by decide) (by decide)))), (fq47_0.wr W68), (fq47_1.other W68 (Or.inl (Ne.symm ne35))), (fq47_2.other W68 (Or.inl (Ne.symm ne35))), (fq47_3.other W68 (Or.inl (Ne.symm ne35))), (fq47_4.other W68 (Or.inl (Ne.symm ne35))), ((((((fq3_7.ext E12).other W20 (Ne.symm ne6)).other W27 (Ne.symm ne6)).ext E34).keep K47 (ninS ne36 nin0)).other W68 (Ne.symm ne6)), ((((((fq3_8.ext E12).other W20 (Ne.symm ne8)).other W27 (Ne.symm ne8)).ext E34).keep K47 (ninS ne37 nin0)).other W68 (Ne.symm ne8)), (((((V12.other W20 (Ne.symm ne13)).other W27 (Ne.symm ne13)).ext E34).keep K47 (ninS ne38 nin0)).other W68 (Ne.symm ne13)), (((((EA12.wr W20).wr W27).ext E34).keep K47).wr W68), (fq47_5.other W68 (Ne.symm ne50)), (fq47_6.other W68 (Ne.symm ne60)), hq3_0, ne14, ne36, ne52, ne61, ne15, ne37, ne54, ne62, ne38, ne56, ne63, ne58, ne64, hq47_0⟩
theorem own_ef22 (m : MethodId) (a : Addr) : entryFrame m #[.ref a] 1 = mkF m 0 #[sR a] [] := by first | (simp [entryFrame, mkF, argsToLocals, Value.category]; done) | rfl
def Q22 (Z : State) (a : Addr) (sz : Int32) (sa ea : Addr) (sw co : Addr) (h0 : Heap) (n0 : Nat) (v : Option Value) (h : Heap) (L : List Loc) : Prop := v = none ∧ Fr n0 L ∧ Keep h0 h [a] ∧ Exa Z h a kCP ∧ Fld Z h a kST "size" "I" (.int 0) ∧ Fld Z h a kST "starts" "[I" (.ref sa) ∧ Fld Z h a kST "ends" "[I" (.ref ea) ∧ Fld Z h a kCP "limit" "I" (.int 2) ∧ Fld Z h a kCP "sweep" "Lcom/example/tidemark/tidemark/core/Sweep;" (.ref sw) ∧ Fld Z h a kCP "colours" "[I" (.ref co)
set_option maxRecDepth 65536 in
set_option maxHeartbeats 4000000 in
theorem rm22 {l : Launch} {Z : State} {a0 : Array Value} (hw : own_T a0 Z) (a : Addr) (sz : Int32) (sa ea : Addr) (sw co : Addr) (h0 : Heap) (n0 : Nat) (Z0 : n0 ≤ h0.size) (F0 : Exa Z h0 a kCP) (F1 : Fld Z h0 a kST "size" "I" (.int sz)) (F2 : Fld Z h0 a kST "starts" "[I" (.ref sa)) (F3 : Fld Z h0 a kST "ends" "[I" (.ref ea)) (F4 : Fld Z h0 a kCP "limit" "I" (.int 2)) (F5 : Fld Z h0 a kCP "sweep" "Lcom/example/tidemark/tidemark/core/Sweep;" (.ref sw)) (F6 : Fld Z h0 a kCP "colours" "[I" (.ref co)) (g_a : n0 ≤ a) :
    own_M l Z ym22 prog_38_method_2_code 1 none ⟨0, 0, 0, 0⟩ #[.ref a] h0 (Q22 Z a sz sa ea sw co h0 n0) := by
  refine own_open kST #[sR a] (plainFor_of_name own_pn20) DL22 rfl (fun m => own_ef22 m a) fun p e s m below meth c s₁ Bd B hZ hown X0 e0 Pq hPq => ?_
  have hx := B.x
  have N0 := Fr.nil n0
  have K0 : Keep h0 h0 [a] := Keep.refl _ _
  refine SaN X0 B 0 rfl rfl rfl ?_
  refine Sc 0 X0 B 1 rfl rfl ?_
  refine Kpf .int X0 B hZ hown (hw 164 rfl) Via.refl e0 F1 F0 (Or.inl (hw 165 rfl)) (hw 74 rfl) 2 rfl fun T1 h1 X1 e1 W1 f2 => ?_
  have N3 := Fr.snoc X1 N0 g_a
  have K5 := K0.wr W1 (own_mI 0 rfl)
  refine own_oV X1 B Bd 3 rfl hPq ?_
  rw [e1]
  exact ⟨rfl, N3, K5, (F0.wr W1), f2, (F2.other W1 (Or.inr (slot_ne (Or.inr (hw 90 rfl)) (Or.inl (hw 165 rfl)) (by decide) (t := (.array .int)) (t' := .int) (by decide) (by decide)))), (F3.other W1 (Or.inr (slot_ne (Or.inr (hw 92 rfl)) (Or.inl (hw 165 rfl)) (by decide) (t := (.array .int)) (t' := .int) (by decide) (by decide)))), (F4.other W1 (Or.inr (slot_ne (Or.inr (hw 96 rfl)) (Or.inl (hw 165 rfl)) (by decide) (t := .int) (t' := .int) (by decide) (by decide)))), (F5.other W1 (Or.inr (slot_ne (Or.inr (hw 110 rfl)) (Or.inl (hw 165 rfl)) (by decide) (t := (.object kSW)) (t' := .int) (by decide) (by decide)))), (F6.other W1 (Or.inr (slot_ne (Or.inl (hw 94 rfl)) (Or.inl (hw 165 rfl)) (by decide) (t := (.array .int)) (t' := .int) (by decide) (by decide))))⟩
theorem own_ef23 (m : MethodId) (a : Addr) (x0 x1 : Int32) : entryFrame m #[.ref a, .int x0, .int x1] 3 = mkF m 0 #[sR a, sI x0, sI x1] [] := by first | (simp [entryFrame, mkF, argsToLocals, Value.category]; done) | rfl
def Q23 (Z : State) (a : Addr) (x0 x1 sz : Int32) (ka kb : ClassId) (gA gB : Nat → Int32) (sa ea : Addr) (sw co : Addr) (h0 : Heap) (n0 : Nat) (v : Option Value) (h : Heap) (L : List Loc) : Prop := v = some (.int sz) ∧ Fr n0 L ∧ Keep h0 h [a, sa, ea] ∧ Exa Z h a kCP ∧ Fld Z h a kST "size" "I" (.int (sz + (1 : Int32))) ∧ Fld Z h a kST "starts" "[I" (.ref sa) ∧ Fld Z h a kST "ends" "[I" (.ref ea) ∧ Fld Z h a kCP "limit" "I" (.int 2) ∧ Fld Z h a kCP "sweep" "Lcom/example/tidemark/tidemark/core/Sweep;" (.ref sw) ∧ Fld Z h a kCP "colours" "[I" (.ref co) ∧ own_AI Z h sa ka 6 (own_updI gA sz.toNatClampNeg x0) ∧ own_AI Z h ea kb 6 (own_updI gB sz.toNatClampNeg x1)
set_option maxRecDepth 65536 in
set_option maxHeartbeats 4000000 in
theorem rm23 {l : Launch} {Z : State} {a0 : Array Value} (hw : own_T a0 Z) (a : Addr) (x0 x1 sz : Int32) (ka kb : ClassId) (gA gB : Nat → Int32) (sa ea : Addr) (sw co : Addr) (h0 : Heap) (n0 : Nat) (Z0 : n0 ≤ h0.size) (F0 : Exa Z h0 a kCP) (F1 : Fld Z h0 a kST "size" "I" (.int sz)) (F2 : Fld Z h0 a kST "starts" "[I" (.ref sa)) (F3 : Fld Z h0 a kST "ends" "[I" (.ref ea)) (F4 : Fld Z h0 a kCP "limit" "I" (.int 2)) (F5 : Fld Z h0 a kCP "sweep" "Lcom/example/tidemark/tidemark/core/Sweep;" (.ref sw)) (F6 : Fld Z h0 a kCP "colours" "[I" (.ref co)) (F7 : own_AI Z h0 sa ka 6 gA) (F8 : own_AI Z h0 ea kb 6 gB) (hi : ¬ sz < 0 ∧ sz < (6 : Int32)) (na1 : sa ≠ ea) (na2 : sa ≠ a) (na3 : ea ≠ a) (g_a : n0 ≤ a) (g_sa : n0 ≤ sa) (g_ea : n0 ≤ ea) :
    own_M l Z ym23 prog_38_method_3_code 3 (some .int) ⟨0, 0, 0, 0⟩ #[.ref a, .int x0, .int x1] h0 (Q23 Z a x0 x1 sz ka kb gA gB sa ea sw co h0 n0) := by
  refine own_open kST #[sR a, sI x0, sI x1] (plainFor_of_name own_pn20) DL23 rfl (fun m => own_ef23 m a x0 x1) fun p e s m below meth c s₁ Bd B hZ hown X0 e0 Pq hPq => ?_
  have hx := B.x
  have N0 := Fr.nil n0
  have K0 : Keep h0 h0 [a, sa, ea] := Keep.refl _ _
  refine SaN X0 B 0 rfl rfl rfl ?_
  refine Kgf X0 B hZ hown (hw 89 rfl) Via.refl e0 F2 1 rfl fun T1 X1 e1 => ?_
  refine SaN X1 B 2 rfl rfl rfl ?_
  refine Kgf X1 B hZ hown (hw 164 rfl) Via.refl e1 F1 3 rfl fun T2 X2 e2 => ?_
  refine SiN X2 B 4 rfl rfl ?_
  refine Kis _ X2 B hZ e2 F7 hi rfl 5 rfl fun T3 h3 X3 e3 W3 f4 => ?_
  have N5 := Fr.snoc X3 N0 g_sa
  have K7 := K0.wr W3 (own_mI 1 rfl)
  refine SaN X3 B 6 rfl rfl rfl ?_
  have f9 := (F3.other W3 (Or.inl (Ne.symm na2)))
  refine Kgf X3 B hZ hown (hw 91 rfl) Via.refl e3 f9 7 rfl fun T8 X8 e8 => ?_
  refine SaN X8 B 8 rfl rfl rfl ?_
  have f11 := (F1.other W3 (Or.inl (Ne.symm na2)))
  refine Kgf X8 B hZ hown (hw 164 rfl) Via.refl e8 f11 9 rfl fun T10 X10 e10 => ?_
  refine SiN X10 B 10 rfl rfl ?_
  have f13 := (F8.other W3 (Ne.symm na1))
  refine Kis _ X10 B hZ e10 f13 hi rfl 11 rfl fun T12 h12 X12 e12 W12 f14 => ?_
  have N15 := Fr.snoc X12 N5 g_ea
  have K17 := K7.wr W12 (own_mI 2 rfl)
  refine SaN X12 B 12 rfl rfl rfl ?_
  refine own_st (fun t k => XS.dup X12.here hx rfl (B.d 13 rfl) rfl rfl k) ?_
  have f19 := (f11.other W12 (Or.inl (Ne.symm na3)))
  refine Kgf X12 B hZ hown (hw 164 rfl) Via.refl e12 f19 14 rfl fun T18 X18 e18 => ?_
  refine own_st (fun t k => XS.dupX1 X18.here hx rfl (B.d 15 rfl) rfl rfl rfl k) ?_
  refine Sc 1 X18 B 16 rfl rfl ?_
  refine own_st (fun t k => XS.iadd X18.here hx rfl (B.d 17 rfl) rfl k) ?_
  have f21 := ((F0.wr W3).wr W12)
  refine Kpf .int X18 B hZ hown (hw 164 rfl) Via.refl e18 f19 f21 (Or.inl (hw 165 rfl)) (hw 74 rfl) 18 rfl fun T20 h20 X20 e20 W20 f22 => ?_
  have N23 := Fr.snoc X20 N15 g_a
  have K25 := K17.wr W20 (own_mI 0 rfl)
  refine own_oI X20 B Bd 19 rfl hPq ?_
  rw [e20]
  exact ⟨rfl, N23, K25, (f21.wr W20), f22, (((F2.other W3 (Or.inl (Ne.symm na2))).other W12 (Or.inl (Ne.symm na3))).other W20 (Or.inr (slot_ne (Or.inr (hw 90 rfl)) (Or.inl (hw 165 rfl)) (by decide) (t := (.array .int)) (t' := .int) (by decide) (by decide)))), ((f9.other W12 (Or.inl (Ne.symm na3))).other W20 (Or.inr (slot_ne (Or.inr (hw 92 rfl)) (Or.inl (hw 165 rfl)) (by decide) (t := (.array .int)) (t' := .int) (by decide) (by decide)))), (((F4.other W3 (Or.inl (Ne.symm na2))).other W12 (Or.inl (Ne.symm na3))).other W20 (Or.inr (slot_ne (Or.inr (hw 96 rfl)) (Or.inl (hw 165 rfl)) (by decide) (t := .int) (t' := .int) (by decide) (by decide)))), (((F5.other W3 (Or.inl (Ne.symm na2))).other W12 (Or.inl (Ne.symm na3))).other W20 (Or.inr (slot_ne (Or.inr (hw 110 rfl)) (Or.inl (hw 165 rfl)) (by decide) (t := (.object kSW)) (t' := .int) (by decide) (by decide)))), (((F6.other W3 (Or.inl (Ne.symm na2))).other W12 (Or.inl (Ne.symm na3))).other W20 (Or.inr (slot_ne (Or.inl (hw 94 rfl)) (Or.inl (hw 165 rfl)) (by decide) (t := (.array .int)) (t' := .int) (by decide) (by decide)))), ((f4.other W12 na1).other W20 na2), (f14.other W20 na3)⟩
theorem own_dupX2 {tb : Tables} [Ours tb] {e : Env} {below : List Frame} {T target : State} {m : MethodId} {c : Code} {g : JFrame} (h : At T m c below) (hx : tb.exec = Jvm.exec) (hg : g.method = m) {x y z : Value} {rest : List Value} (hd : decode c.code g.pc = .ok (.dup_x2, 1)) (hs : g.stack = x :: y :: z :: rest) (hc : x.category = 1) (hc2 : y.category = 1) (hc3 : z.category = 1)
    (hr : Steps tb e below (T.setTop { g with pc := g.pc + 1, stack := x :: y :: z :: x :: rest }) target) : Steps tb e below (T.setTop g) target := by
  subst hg
  jvm_step h [h.top, hx, hd, hs, hc, hc2, hc3]
  exact hr
theorem own_pn24 : plainName "com/example/tidemark/tidemark/core/DistinctValues" = true := by first | (simp [plainName, overriddenIn]; done) | decide +kernel
theorem own_ef24 (m : MethodId) (a : Addr) : entryFrame m #[.ref a] 1 = mkF m 0 #[sR a] [] := by first | (simp [entryFrame, mkF, argsToLocals, Value.category]; done) | rfl
def Q24 (Z : State) (a : Addr) (ds : Int32) (h0 : Heap) (n0 : Nat) (v : Option Value) (h : Heap) (L : List Loc) : Prop := v = some (.int ds) ∧ Fr n0 L ∧ h = h0
set_option maxRecDepth 65536 in
set_option maxHeartbeats 4000000 in
theorem rm24 {l : Launch} {Z : State} {a0 : Array Value} (hw : own_T a0 Z) (a : Addr) (ds : Int32) (h0 : Heap) (n0 : Nat) (Z0 : n0 ≤ h0.size) (F0 : Exa Z h0 a kDV) (F1 : Fld Z h0 a kDV "distinct" "I" (.int ds)) :
    own_M l Z ym24 prog_28_method_4_code 1 (some .int) ⟨0, 0, 0, 0⟩ #[.ref a] h0 (Q24 Z a ds h0 n0) := by
  refine own_open kDV #[sR a] (plainFor_of_name own_pn24) DL24 rfl (fun m => own_ef24 m a) fun p e s m below meth c s₁ Bd B hZ hown X0 e0 Pq hPq => ?_
  have hx := B.x
  have N0 := Fr.nil n0
  refine SaN X0 B 0 rfl rfl rfl ?_
  refine Kgf X0 B hZ hown (hw 265 rfl) Via.refl e0 F1 1 rfl fun T1 X1 e1 => ?_
  refine own_oI X1 B Bd 2 rfl hPq ?_
  rw [e1]
  exact ⟨rfl, N0, rfl⟩
theorem own_ef25 (m : MethodId) (a : Addr) (x0 : Int32) : entryFrame m #[.ref a, .int x0] 3 = mkF m 0 #[sR a, sI x0, sU] [] := by first | (simp [entryFrame, mkF, argsToLocals, Value.category]; done) | rfl
def Q25 (Z : State) (a : Addr) (x0 ds un : Int32) (dv di : Addr) (dc dr : Addr) (dp dl : Addr) (k_di k_dc : ClassId) (k_dr k_dp k_dl : ClassId) (gi gc : Nat → Int32) (gr gp gl : Nat → Int32) (h0 : Heap) (n0 : Nat) (v : Option Value) (h : Heap) (L : List Loc) : Prop := ∃ (ds2 : Int32) (gr3 gc3 : Nat → Int32) (gp3 gl3 : Nat → Int32), v = none ∧ Fr n0 L ∧ Keep h0 h [a, dr, dc, dp, dl] ∧ Exa Z h a kDV ∧ Fld Z h a kDV "distinct" "I" (.int ds2) ∧ Fld Z h a kDV "values" "[I" (.ref dv) ∧ Fld Z h a kDV "ids" "[I" (.ref di) ∧ Fld Z h a kDV "counts" "[I" (.ref dc) ∧ Fld Z h a kDV "carriers" "[I" (.ref dr) ∧ Fld Z h a kDV "present" "[I" (.ref dp) ∧ Fld Z h a kDV "places" "[I" (.ref dl) ∧ own_AI Z h di k_di 3 gi ∧ own_AI Z h dc k_dc un gc3 ∧ own_AI Z h dr k_dr un gr3 ∧ own_AI Z h dp k_dp un gp3 ∧ own_AI Z h dl k_dl un gl3 ∧ gc3 = (own_updI gc (gi x0.toNatClampNeg).toNatClampNeg ((gc (gi x0.toNatClampNeg).toNatClampNeg) + (1 : Int32))) ∧ ds2 = (if (gc (gi x0.toNatClampNeg).toNatClampNeg) = (0 : Int32) then (ds + (1 : Int32)) else ds) ∧ gp3 = (if (gc (gi x0.toNatClampNeg).toNatClampNeg) = (0 : Int32) then (own_updI gp ds.toNatClampNeg (gi x0.toNatClampNeg)) else gp) ∧ gl3 = (if (gc (gi x0.toNatClampNeg).toNatClampNeg) = (0 : Int32) then (own_updI gl (gi x0.toNatClampNeg).toNatClampNeg ds) else gl)
set_option maxRecDepth 65536 in
set_option maxHeartbeats 4000000 in
theorem rm25 {l : Launch} {Z : State} {a0 : Array Value} (hw : own_T a0 Z) (a : Addr) (x0 ds un : Int32) (dv di : Addr) (dc dr : Addr) (dp dl : Addr) (k_di k_dc : ClassId) (k_dr k_dp k_dl : ClassId) (gi gc : Nat → Int32) (gr gp gl : Nat → Int32) (h0 : Heap) (n0 : Nat) (Z0 : n0 ≤ h0.size) (F0 : Exa Z h0 a kDV) (F1 : Fld Z h0 a kDV "distinct" "I" (.int ds)) (F2 : Fld Z h0 a kDV "values" "[I" (.ref dv)) (F3 : Fld Z h0 a kDV "ids" "[I" (.ref di)) (F4 : Fld Z h0 a kDV "counts" "[I" (.ref dc)) (F5 : Fld Z h0 a kDV "carriers" "[I" (.ref dr)) (F6 : Fld Z h0 a kDV "present" "[I" (.ref dp)) (F7 : Fld Z h0 a kDV "places" "[I" (.ref dl)) (F8 : own_AI Z h0 di k_di 3 gi) (F9 : own_AI Z h0 dc k_dc un gc) (F10 : own_AI Z h0 dr k_dr un gr) (F11 : own_AI Z h0 dp k_dp un gp) (F12 : own_AI Z h0 dl k_dl un gl) (hi : ¬ x0 < 0 ∧ x0 < (3 : Int32)) (hd : ¬ (gi x0.toNatClampNeg) < 0 ∧ (gi x0.toNatClampNeg) < un) (hs : (gc (gi x0.toNatClampNeg).toNatClampNeg) = (0 : Int32) → ¬ ds < 0 ∧ ds < un) (na_a_di : a ≠ di) (na_a_dc : a ≠ dc) (na_a_dr : a ≠ dr) (na_a_dp : a ≠ dp) (na_a_dl : a ≠ dl) (na_di_dc : di ≠ dc) (na_di_dr : di ≠ dr) (na_di_dp : di ≠ dp) (na_di_dl : di ≠ dl) (na_dc_dr : dc ≠ dr) (na_dc_dp : dc ≠ dp) (na_dc_dl : dc ≠ dl) (na_dr_dp : dr ≠ dp) (na_dr_dl : dr ≠ dl) (na_dp_dl : dp ≠ dl) (g_a : n0 ≤ a) (g_dr : n0 ≤ dr) (g_dc : n0 ≤ dc) (g_dp : n0 ≤ dp) (g_dl : n0 ≤ dl) :
    own_M l Z ym25 prog_28_method_2_code 3 none ⟨0, 0, 0, 0⟩ #[.ref a, .int x0] h0 (Q25 Z a x0 ds un dv di dc dr dp dl k_di k_dc k_dr k_dp k_dl gi gc gr gp gl h0 n0) := by
  refine own_open kDV #[sR a, sI x0, sU] (plainFor_of_name own_pn24) DL25 rfl (fun m => own_ef25 m a x0) fun p e s m below meth c s₁ Bd B hZ hown X0 e0 Pq hPq => ?_
  have hx := B.x
  have N0 := Fr.nil n0
  have K0 : Keep h0 h0 [a, dr, dc, dp, dl] := Keep.refl _ _
  refine SaN X0 B 0 rfl rfl rfl ?_
  refine Kgf X0 B hZ hown (hw 203 rfl) Via.refl e0 F3 1 rfl fun T1 X1 e1 => ?_
  refine SiN X1 B 2 rfl rfl ?_
  refine Kil _ X1 B hZ e1 F8 hi rfl 3 rfl ?_
  refine SisN #[sR a, sI x0, sI (gi x0.toNatClampNeg)] X1 B 4 rfl rfl ?_
  refine SaN X1 B 5 rfl rfl rfl ?_
  refine Kgf X1 B hZ hown (hw 213 rfl) Via.refl e1 F5 6 rfl fun T3 X3 e3 => ?_
  refine SiN X3 B 7 rfl rfl ?_
  refine own_st (fun t k => XT.dup2 X3.here hx rfl (B.d 8 rfl) rfl rfl rfl k) ?_
  refine Kil _ X3 B hZ e3 F10 hd rfl 9 rfl ?_
  refine SiN X3 B 10 rfl rfl ?_
  refine own_st (fun t k => XS.ixor X3.here hx rfl (B.d 11 rfl) rfl k) ?_
  refine Kis _ X3 B hZ e3 F10 hd rfl 12 rfl fun T5 h5 X5 e5 W5 f6 => ?_
  have N7 := Fr.snoc X5 N0 g_dr
  have K9 := K0.wr W5 (own_mI 1 rfl)
  refine SaN X5 B 13 rfl rfl rfl ?_
  have f11 := (F4.other W5 (Or.inl na_a_dr))
  refine Kgf X5 B hZ hown (hw 211 rfl) Via.refl e5 f11 14 rfl fun T10 X10 e10 => ?_
  refine SiN X10 B 15 rfl rfl ?_
  refine own_st (fun t k => XT.dup2 X10.here hx rfl (B.d 16 rfl) rfl rfl rfl k) ?_
  have f13 := (F9.other W5 na_dc_dr)
  refine Kil _ X10 B hZ e10 f13 hd rfl 17 rfl ?_
  refine own_st (fun t k => own_dupX2 X10.here hx rfl (B.d 18 rfl) rfl rfl rfl rfl k) ?_
  show own_Go _ _ _ _ T10 (mkF m 25 _ [(.int (gc (gi x0.toNatClampNeg).toNatClampNeg)), (.int (gi x0.toNatClampNeg)), .ref dc, (.int (gc (gi x0.toNatClampNeg).toNatClampNeg))])
  refine Sc 1 X10 B 19 rfl rfl ?_
  refine own_st (fun t k => XS.iadd X10.here hx rfl (B.d 20 rfl) rfl k) ?_
  refine Kis _ X10 B hZ e10 f13 hd rfl 21 rfl fun T14 h14 X14 e14 W14 f15 => ?_
  have N16 := Fr.snoc X14 N7 g_dc
  have K18 := K9.wr W14 (own_mI 2 rfl)
  by_cases c19 : (gc (gi x0.toNatClampNeg).toNatClampNeg) = (0 : Int32)
  · skip
    refine Sfn X14 B 22 rfl ((if0 _ _).trans (teq c19).2) ?_
    refine SaN X14 B 23 rfl rfl rfl ?_
    have f21 := ((F6.other W5 (Or.inl na_a_dr)).other W14 (Or.inl na_a_dc))
    refine Kgf X14 B hZ hown (hw 215 rfl) Via.refl e14 f21 24 rfl fun T20 X20 e20 => ?_
    refine SaN X20 B 25 rfl rfl rfl ?_
    have f23 := ((F1.other W5 (Or.inl na_a_dr)).other W14 (Or.inl na_a_dc))
    refine Kgf X20 B hZ hown (hw 265 rfl) Via.refl e20 f23 26 rfl fun T22 X22 e22 => ?_
    refine SiN X22 B 27 rfl rfl ?_
    have f25 := ((F11.other W5 (Ne.symm na_dr_dp)).other W14 (Ne.symm na_dc_dp))
    refine Kis _ X22 B hZ e22 f25 (hs c19) rfl 28 rfl fun T24 h24 X24 e24 W24 f26 => ?_
    have N27 := Fr.snoc X24 N16 g_dp
    have K29 := K18.wr W24 (own_mI 3 rfl)
    refine SaN X24 B 29 rfl rfl rfl ?_
    have f31 := (((F7.other W5 (Or.inl na_a_dr)).other W14 (Or.inl na_a_dc)).other W24 (Or.inl na_a_dp))
    refine Kgf X24 B hZ hown (hw 217 rfl) Via.refl e24 f31 30 rfl fun T30 X30 e30 => ?_
    refine SiN X30 B 31 rfl rfl ?_
    refine SaN X30 B 32 rfl rfl rfl ?_
    have f33 := (f23.other W24 (Or.inl na_a_dp))
    refine Kgf X30 B hZ hown (hw 265 rfl) Via.refl e30 f33 33 rfl fun T32 X32 e32 => ?_
    have f35 := (((F12.other W5 (Ne.symm na_dr_dl)).other W14 (Ne.symm na_dc_dl)).other W24 (Ne.symm na_dp_dl))
    refine Kis _ X32 B hZ e32 f35 hd rfl 34 rfl fun T34 h34 X34 e34 W34 f36 => ?_
    have N37 := Fr.snoc X34 N27 g_dl
    have K39 := K29.wr W34 (own_mI 4 rfl)
    refine SaN X34 B 35 rfl rfl rfl ?_
    refine own_st (fun t k => XS.dup X34.here hx rfl (B.d 36 rfl) rfl rfl k) ?_
    have f41 := (f33.other W34 (Or.inl na_a_dl))
    refine Kgf X34 B hZ hown (hw 265 rfl) Via.refl e34 f41 37 rfl fun T40 X40 e40 => ?_
    refine Sc 1 X40 B 38 rfl rfl ?_
    refine own_st (fun t k => XS.iadd X40.here hx rfl (B.d 39 rfl) rfl k) ?_
    have f43 := ((((F0.wr W5).wr W14).wr W24).wr W34)
    refine Kpf .int X40 B hZ hown (hw 265 rfl) Via.refl e40 f41 f43 (Or.inl (hw 266 rfl)) (hw 167 rfl) 40 rfl fun T42 h42 X42 e42 W42 f44 => ?_
    have N45 := Fr.snoc X42 N37 g_a
    have K47 := K39.wr W42 (own_mI 0 rfl)
    refine own_oV X42 B Bd 41 rfl hPq ?_
    rw [e42]
    exact ⟨(ds + (1 : Int32)), (own_updI gr (gi x0.toNatClampNeg).toNatClampNeg ((gr (gi x0.toNatClampNeg).toNatClampNeg) ^^^ x0)), (own_updI gc (gi x0.toNatClampNeg).toNatClampNeg ((gc (gi x0.toNatClampNeg).toNatClampNeg) + (1 : Int32))), (own_updI gp ds.toNatClampNeg (gi x0.toNatClampNeg)), (own_updI gl (gi x0.toNatClampNeg).toNatClampNeg ds), rfl, N45, K47, (f43.wr W42), f44, (((((F2.other W5 (Or.inl na_a_dr)).other W14 (Or.inl na_a_dc)).other W24 (Or.inl na_a_dp)).other W34 (Or.inl na_a_dl)).other W42 (Or.inr (slot_ne (Or.inr (hw 202 rfl)) (Or.inl (hw 266 rfl)) (by decide) (t := (.array .int)) (t' := .int) (by decide) (by decide)))), (((((F3.other W5 (Or.inl na_a_dr)).other W14 (Or.inl na_a_dc)).other W24 (Or.inl na_a_dp)).other W34 (Or.inl na_a_dl)).other W42 (Or.inr (slot_ne (Or.inr (hw 204 rfl)) (Or.inl (hw 266 rfl)) (by decide) (t := (.array .int)) (t' := .int) (by decide) (by decide)))), ((((f11.other W14 (Or.inl na_a_dc)).other W24 (Or.inl na_a_dp)).other W34 (Or.inl na_a_dl)).other W42 (Or.inr (slot_ne (Or.inr (hw 212 rfl)) (Or.inl (hw 266 rfl)) (by decide) (t := (.array .int)) (t' := .int) (by decide) (by decide)))), (((((F5.other W5 (Or.inl na_a_dr)).other W14 (Or.inl na_a_dc)).other W24 (Or.inl na_a_dp)).other W34 (Or.inl na_a_dl)).other W42 (Or.inr (slot_ne (Or.inr (hw 214 rfl)) (Or.inl (hw 266 rfl)) (by decide) (t := (.array .int)) (t' := .int) (by decide) (by decide)))), (((f21.other W24 (Or.inl na_a_dp)).other W34 (Or.inl na_a_dl)).other W42 (Or.inr (slot_ne (Or.inr (hw 216 rfl)) (Or.inl (hw 266 rfl)) (by decide) (t := (.array .int)) (t' := .int) (by decide) (by decide)))), ((f31.other W34 (Or.inl na_a_dl)).other W42 (Or.inr (slot_ne (Or.inr (hw 218 rfl)) (Or.inl (hw 266 rfl)) (by decide) (t := (.array .int)) (t' := .int) (by decide) (by decide)))), (((((F8.other W5 na_di_dr).other W14 na_di_dc).other W24 na_di_dp).other W34 na_di_dl).other W42 (Ne.symm na_a_di)), (((f15.other W24 na_dc_dp).other W34 na_dc_dl).other W42 (Ne.symm na_a_dc)), ((((f6.other W14 (Ne.symm na_dc_dr)).other W24 na_dr_dp).other W34 na_dr_dl).other W42 (Ne.symm na_a_dr)), ((f26.other W34 na_dp_dl).other W42 (Ne.symm na_a_dp)), (f36.other W42 (Ne.symm na_a_dl)), rfl, (if_pos c19).symm, (if_pos c19).symm, (if_pos c19).symm⟩
  · skip
    refine Sfy 28 61 X14 B 22 rfl ((if0 _ _).trans (feq c19).2) ?_
    refine own_oV X14 B Bd 41 rfl hPq ?_
    rw [e14]
    exact ⟨ds, (own_updI gr (gi x0.toNatClampNeg).toNatClampNeg ((gr (gi x0.toNatClampNeg).toNatClampNeg) ^^^ x0)), (own_updI gc (gi x0.toNatClampNeg).toNatClampNeg ((gc (gi x0.toNatClampNeg).toNatClampNeg) + (1 : Int32))), gp, gl, rfl, N16, K18, ((F0.wr W5).wr W14), ((F1.other W5 (Or.inl na_a_dr)).other W14 (Or.inl na_a_dc)), ((F2.other W5 (Or.inl na_a_dr)).other W14 (Or.inl na_a_dc)), ((F3.other W5 (Or.inl na_a_dr)).other W14 (Or.inl na_a_dc)), (f11.other W14 (Or.inl na_a_dc)), ((F5.other W5 (Or.inl na_a_dr)).other W14 (Or.inl na_a_dc)), ((F6.other W5 (Or.inl na_a_dr)).other W14 (Or.inl na_a_dc)), ((F7.other W5 (Or.inl na_a_dr)).other W14 (Or.inl na_a_dc)), ((F8.other W5 na_di_dr).other W14 na_di_dc), f15, (f6.other W14 (Ne.symm na_dc_dr)), ((F11.other W5 (Ne.symm na_dr_dp)).other W14 (Ne.symm na_dc_dp)), ((F12.other W5 (Ne.symm na_dr_dl)).other W14 (Ne.symm na_dc_dl)), rfl, (if_neg c19).symm, (if_neg c19).symm, (if_neg c19).symm⟩
theorem own_ef26 (m : MethodId) (a : Addr) (x0 : Int32) : entryFrame m #[.ref a, .int x0] 4 = mkF m 0 #[sR a, sI x0, sU, sU] [] := by first | (simp [entryFrame, mkF, argsToLocals, Value.category]; done) | rfl
def Q26 (Z : State) (a : Addr) (x0 ds un : Int32) (dv di : Addr) (dc dr : Addr) (dp dl : Addr) (k_di k_dc : ClassId) (k_dr k_dp k_dl : ClassId) (gi gc : Nat → Int32) (gr gp gl : Nat → Int32) (h0 : Heap) (n0 : Nat) (v : Option Value) (h : Heap) (L : List Loc) : Prop := ∃ (ds2 : Int32) (gr3 gc3 : Nat → Int32) (gp3 gl3 : Nat → Int32), v = none ∧ Fr n0 L ∧ Keep h0 h [a, dr, dc, dp, dl] ∧ Exa Z h a kDV ∧ Fld Z h a kDV "distinct" "I" (.int ds2) ∧ Fld Z h a kDV "values" "[I" (.ref dv) ∧ Fld Z h a kDV "ids" "[I" (.ref di) ∧ Fld Z h a kDV "counts" "[I" (.ref dc) ∧ Fld Z h a kDV "carriers" "[I" (.ref dr) ∧ Fld Z h a kDV "present" "[I" (.ref dp) ∧ Fld Z h a kDV "places" "[I" (.ref dl) ∧ own_AI Z h di k_di 3 gi ∧ own_AI Z h dc k_dc un gc3 ∧ own_AI Z h dr k_dr un gr3 ∧ own_AI Z h dp k_dp un gp3 ∧ own_AI Z h dl k_dl un gl3 ∧ gc3 = (own_updI gc (gi x0.toNatClampNeg).toNatClampNeg ((gc (gi x0.toNatClampNeg).toNatClampNeg) - (1 : Int32))) ∧ ds2 = (if ((gc (gi x0.toNatClampNeg).toNatClampNeg) - (1 : Int32)) = (0 : Int32) then (ds - (1 : Int32)) else ds) ∧ gp3 = (if ((gc (gi x0.toNatClampNeg).toNatClampNeg) - (1 : Int32)) = (0 : Int32) then (own_updI gp (gl (gi x0.toNatClampNeg).toNatClampNeg).toNatClampNeg (gp (ds - (1 : Int32)).toNatClampNeg)) else gp) ∧ gl3 = (if ((gc (gi x0.toNatClampNeg).toNatClampNeg) - (1 : Int32)) = (0 : Int32) then (own_updI gl (gp (ds - (1 : Int32)).toNatClampNeg).toNatClampNeg (gl (gi x0.toNatClampNeg).toNatClampNeg)) else gl)
set_option maxRecDepth 65536 in
set_option maxHeartbeats 4000000 in
theorem rm26 {l : Launch} {Z : State} {a0 : Array Value} (hw : own_T a0 Z) (a : Addr) (x0 ds un : Int32) (dv di : Addr) (dc dr : Addr) (dp dl : Addr) (k_di k_dc : ClassId) (k_dr k_dp k_dl : ClassId) (gi gc : Nat → Int32) (gr gp gl : Nat → Int32) (h0 : Heap) (n0 : Nat) (Z0 : n0 ≤ h0.size) (F0 : Exa Z h0 a kDV) (F1 : Fld Z h0 a kDV "distinct" "I" (.int ds)) (F2 : Fld Z h0 a kDV "values" "[I" (.ref dv)) (F3 : Fld Z h0 a kDV "ids" "[I" (.ref di)) (F4 : Fld Z h0 a kDV "counts" "[I" (.ref dc)) (F5 : Fld Z h0 a kDV "carriers" "[I" (.ref dr)) (F6 : Fld Z h0 a kDV "present" "[I" (.ref dp)) (F7 : Fld Z h0 a kDV "places" "[I" (.ref dl)) (F8 : own_AI Z h0 di k_di 3 gi) (F9 : own_AI Z h0 dc k_dc un gc) (F10 : own_AI Z h0 dr k_dr un gr) (F11 : own_AI Z h0 dp k_dp un gp) (F12 : own_AI Z h0 dl k_dl un gl) (hi : ¬ x0 < 0 ∧ x0 < (3 : Int32)) (hd : ¬ (gi x0.toNatClampNeg) < 0 ∧ (gi x0.toNatClampNeg) < un) (hs : ((gc (gi x0.toNatClampNeg).toNatClampNeg) - (1 : Int32)) = (0 : Int32) → (¬ (ds - (1 : Int32)) < 0 ∧ (ds - (1 : Int32)) < un) ∧ (¬ (gl (gi x0.toNatClampNeg).toNatClampNeg) < 0 ∧ (gl (gi x0.toNatClampNeg).toNatClampNeg) < un) ∧ ¬ (gp (ds - (1 : Int32)).toNatClampNeg) < 0 ∧ (gp (ds - (1 : Int32)).toNatClampNeg) < un) (na_a_di : a ≠ di) (na_a_dc : a ≠ dc) (na_a_dr : a ≠ dr) (na_a_dp : a ≠ dp) (na_a_dl : a ≠ dl) (na_di_dc : di ≠ dc) (na_di_dr : di ≠ dr) (na_di_dp : di ≠ dp) (na_di_dl : di ≠ dl) (na_dc_dr : dc ≠ dr) (na_dc_dp : dc ≠ dp) (na_dc_dl : dc ≠ dl) (na_dr_dp : dr ≠ dp) (na_dr_dl : dr ≠ dl) (na_dp_dl : dp ≠ dl) (g_a : n0 ≤ a) (g_dr : n0 ≤ dr) (g_dc : n0 ≤ dc) (g_dp : n0 ≤ dp) (g_dl : n0 ≤ dl) :
    own_M l Z ym26 prog_28_method_3_code 4 none ⟨0, 0, 0, 0⟩ #[.ref a, .int x0] h0 (Q26 Z a x0 ds un dv di dc dr dp dl k_di k_dc k_dr k_dp k_dl gi gc gr gp gl h0 n0) := by
  refine own_open kDV #[sR a, sI x0, sU, sU] (plainFor_of_name own_pn24) DL26 rfl (fun m => own_ef26 m a x0) fun p e s m below meth c s₁ Bd B hZ hown X0 e0 Pq hPq => ?_
  have hx := B.x
  have N0 := Fr.nil n0
  have K0 : Keep h0 h0 [a, dr, dc, dp, dl] := Keep.refl _ _
  refine SaN X0 B 0 rfl rfl rfl ?_
  refine Kgf X0 B hZ hown (hw 203 rfl) Via.refl e0 F3 1 rfl fun T1 X1 e1 => ?_
  refine SiN X1 B 2 rfl rfl ?_
  refine Kil _ X1 B hZ e1 F8 hi rfl 3 rfl ?_
  refine SisN #[sR a, sI x0, sI (gi x0.toNatClampNeg), sU] X1 B 4 rfl rfl ?_
  refine SaN X1 B 5 rfl rfl rfl ?_
  refine Kgf X1 B hZ hown (hw 213 rfl) Via.refl e1 F5 6 rfl fun T3 X3 e3 => ?_
  refine SiN X3 B 7 rfl rfl ?_
  refine own_st (fun t k => XT.dup2 X3.here hx rfl (B.d 8 rfl) rfl rfl rfl k) ?_
  refine Kil _ X3 B hZ e3 F10 hd rfl 9 rfl ?_
  refine SiN X3 B 10 rfl rfl ?_
  refine own_st (fun t k => XS.ixor X3.here hx rfl (B.d 11 rfl) rfl k) ?_
  refine Kis _ X3 B hZ e3 F10 hd rfl 12 rfl fun T5 h5 X5 e5 W5 f6 => ?_
  have N7 := Fr.snoc X5 N0 g_dr
  have K9 := K0.wr W5 (own_mI 1 rfl)
  refine SaN X5 B 13 rfl rfl rfl ?_
  have f11 := (F4.other W5 (Or.inl na_a_dr))
  refine Kgf X5 B hZ hown (hw 211 rfl) Via.refl e5 f11 14 rfl fun T10 X10 e10 => ?_
  refine SiN X10 B 15 rfl rfl ?_
  refine own_st (fun t k => XT.dup2 X10.here hx rfl (B.d 16 rfl) rfl rfl rfl k) ?_
  have f13 := (F9.other W5 na_dc_dr)
  refine Kil _ X10 B hZ e10 f13 hd rfl 17 rfl ?_
  refine Sc 1 X10 B 18 rfl rfl ?_
  refine own_st (fun t k => XS.isub X10.here hx rfl (B.d 19 rfl) rfl k) ?_
  refine own_st (fun t k => own_dupX2 X10.here hx rfl (B.d 20 rfl) rfl rfl rfl rfl k) ?_
  show own_Go _ _ _ _ T10 (mkF m 27 _ [(.int ((gc (gi x0.toNatClampNeg).toNatClampNeg) - (1 : Int32))), (.int (gi x0.toNatClampNeg)), .ref dc, (.int ((gc (gi x0.toNatClampNeg).toNatClampNeg) - (1 : Int32)))])
  refine Kis _ X10 B hZ e10 f13 hd rfl 21 rfl fun T14 h14 X14 e14 W14 f15 => ?_
  have N16 := Fr.snoc X14 N7 g_dc
  have K18 := K9.wr W14 (own_mI 2 rfl)
  by_cases c19 : ((gc (gi x0.toNatClampNeg).toNatClampNeg) - (1 : Int32)) = (0 : Int32)
  · skip
    refine Sfn X14 B 22 rfl ((if0 _ _).trans (teq c19).2) ?_
    refine SaN X14 B 23 rfl rfl rfl ?_
    refine own_st (fun t k => XS.dup X14.here hx rfl (B.d 24 rfl) rfl rfl k) ?_
    have f21 := ((F1.other W5 (Or.inl na_a_dr)).other W14 (Or.inl na_a_dc))
    refine Kgf X14 B hZ hown (hw 265 rfl) Via.refl e14 f21 25 rfl fun T20 X20 e20 => ?_
    refine Sc 1 X20 B 26 rfl rfl ?_
    refine own_st (fun t k => XS.isub X20.here hx rfl (B.d 27 rfl) rfl k) ?_
    have f23 := ((F0.wr W5).wr W14)
    refine Kpf .int X20 B hZ hown (hw 265 rfl) Via.refl e20 f21 f23 (Or.inl (hw 266 rfl)) (hw 167 rfl) 28 rfl fun T22 h22 X22 e22 W22 f24 => ?_
    have N25 := Fr.snoc X22 N16 g_a
    have K27 := K18.wr W22 (own_mI 0 rfl)
    refine SaN X22 B 29 rfl rfl rfl ?_
    have f29 := (((F6.other W5 (Or.inl na_a_dr)).other W14 (Or.inl na_a_dc)).other W22 (Or.inr (slot_ne (Or.inr (hw 216 rfl)) (Or.inl (hw 266 rfl)) (by decide) (t := (.array .int)) (t' := .int) (by decide) (by decide))))
    refine Kgf X22 B hZ hown (hw 215 rfl) Via.refl e22 f29 30 rfl fun T28 X28 e28 => ?_
    refine SaN X28 B 31 rfl rfl rfl ?_
    refine Kgf X28 B hZ hown (hw 265 rfl) Via.refl e28 f24 32 rfl fun T30 X30 e30 => ?_
    have f32 := (((F11.other W5 (Ne.symm na_dr_dp)).other W14 (Ne.symm na_dc_dp)).other W22 (Ne.symm na_a_dp))
    refine Kil _ X30 B hZ e30 f32 (hs c19).1 rfl 33 rfl ?_
    refine SisN #[sR a, sI x0, sI (gi x0.toNatClampNeg), sI (gp (ds - (1 : Int32)).toNatClampNeg)] X30 B 34 rfl rfl ?_
    refine SaN X30 B 35 rfl rfl rfl ?_
    refine Kgf X30 B hZ hown (hw 215 rfl) Via.refl e30 f29 36 rfl fun T33 X33 e33 => ?_
    refine SaN X33 B 37 rfl rfl rfl ?_
    have f35 := (((F7.other W5 (Or.inl na_a_dr)).other W14 (Or.inl na_a_dc)).other W22 (Or.inr (slot_ne (Or.inr (hw 218 rfl)) (Or.inl (hw 266 rfl)) (by decide) (t := (.array .int)) (t' := .int) (by decide) (by decide))))
    refine Kgf X33 B hZ hown (hw 217 rfl) Via.refl e33 f35 38 rfl fun T34 X34 e34 => ?_
    refine SiN X34 B 39 rfl rfl ?_
    have f37 := (((F12.other W5 (Ne.symm na_dr_dl)).other W14 (Ne.symm na_dc_dl)).other W22 (Ne.symm na_a_dl))
    refine Kil _ X34 B hZ e34 f37 hd rfl 40 rfl ?_
    refine SiN X34 B 41 rfl rfl ?_
    refine Kis _ X34 B hZ e34 f32 (hs c19).2.1 rfl 42 rfl fun T38 h38 X38 e38 W38 f39 => ?_
    have N40 := Fr.snoc X38 N25 g_dp
    have K42 := K27.wr W38 (own_mI 3 rfl)
    refine SaN X38 B 43 rfl rfl rfl ?_
    have f44 := (f35.other W38 (Or.inl na_a_dp))
    refine Kgf X38 B hZ hown (hw 217 rfl) Via.refl e38 f44 44 rfl fun T43 X43 e43 => ?_
    refine SiN X43 B 45 rfl rfl ?_
    refine SaN X43 B 46 rfl rfl rfl ?_
    refine Kgf X43 B hZ hown (hw 217 rfl) Via.refl e43 f44 47 rfl fun T45 X45 e45 => ?_
    refine SiN X45 B 48 rfl rfl ?_
    have f47 := (f37.other W38 (Ne.symm na_dp_dl))
    refine Kil _ X45 B hZ e45 f47 hd rfl 49 rfl ?_
    refine Kis _ X45 B hZ e45 f47 (hs c19).2.2 rfl 50 rfl fun T48 h48 X48 e48 W48 f49 => ?_
    have N50 := Fr.snoc X48 N40 g_dl
    have K52 := K42.wr W48 (own_mI 4 rfl)
    refine own_oV X48 B Bd 51 rfl hPq ?_
    rw [e48]
    exact ⟨(ds - (1 : Int32)), (own_updI gr (gi x0.toNatClampNeg).toNatClampNeg ((gr (gi x0.toNatClampNeg).toNatClampNeg) ^^^ x0)), (own_updI gc (gi x0.toNatClampNeg).toNatClampNeg ((gc (gi x0.toNatClampNeg).toNatClampNeg) - (1 : Int32))), (own_updI gp (gl (gi x0.toNatClampNeg).toNatClampNeg).toNatClampNeg (gp (ds - (1 : Int32)).toNatClampNeg)), (own_updI gl (gp (ds - (1 : Int32)).toNatClampNeg).toNatClampNeg (gl (gi x0.toNatClampNeg).toNatClampNeg)), rfl, N50, K52, (((f23.wr W22).wr W38).wr W48), ((f24.other W38 (Or.inl na_a_dp)).other W48 (Or.inl na_a_dl)), (((((F2.other W5 (Or.inl na_a_dr)).other W14 (Or.inl na_a_dc)).other W22 (Or.inr (slot_ne (Or.inr (hw 202 rfl)) (Or.inl (hw 266 rfl)) (by decide) (t := (.array .int)) (t' := .int) (by decide) (by decide)))).other W38 (Or.inl na_a_dp)).other W48 (Or.inl na_a_dl)), (((((F3.other W5 (Or.inl na_a_dr)).other W14 (Or.inl na_a_dc)).other W22 (Or.inr (slot_ne (Or.inr (hw 204 rfl)) (Or.inl (hw 266 rfl)) (by decide) (t := (.array .int)) (t' := .int) (by decide) (by decide)))).other W38 (Or.inl na_a_dp)).other W48 (Or.inl na_a_dl)), ((((f11.other W14 (Or.inl na_a_dc)).other W22 (Or.inr (slot_ne (Or.inr (hw 212 rfl)) (Or.inl (hw 266 rfl)) (by decide) (t := (.array .int)) (t' := .int) (by decide) (by decide)))).other W38 (Or.inl na_a_dp)).other W48 (Or.inl na_a_dl)), (((((F5.other W5 (Or.inl na_a_dr)).other W14 (Or.inl na_a_dc)).other W22 (Or.inr (slot_ne (Or.inr (hw 214 rfl)) (Or.inl (hw 266 rfl)) (by decide) (t := (.array .int)) (t' := .int) (by decide) (by decide)))).other W38 (Or.inl na_a_dp)).other W48 (Or.inl na_a_dl)), ((f29.other W38 (Or.inl na_a_dp)).other W48 (Or.inl na_a_dl)), (f44.other W48 (Or.inl na_a_dl)), (((((F8.other W5 na_di_dr).other W14 na_di_dc).other W22 (Ne.symm na_a_di)).other W38 na_di_dp).other W48 na_di_dl), (((f15.other W22 (Ne.symm na_a_dc)).other W38 na_dc_dp).other W48 na_dc_dl), ((((f6.other W14 (Ne.symm na_dc_dr)).other W22 (Ne.symm na_a_dr)).other W38 na_dr_dp).other W48 na_dr_dl), (f39.other W48 na_dp_dl), f49, rfl, (if_pos c19).symm, (if_pos c19).symm, (if_pos c19).symm⟩
  · skip
    refine Sfy 28 75 X14 B 22 rfl ((if0 _ _).trans (feq c19).2) ?_
    refine own_oV X14 B Bd 51 rfl hPq ?_
    rw [e14]
    exact ⟨ds, (own_updI gr (gi x0.toNatClampNeg).toNatClampNeg ((gr (gi x0.toNatClampNeg).toNatClampNeg) ^^^ x0)), (own_updI gc (gi x0.toNatClampNeg).toNatClampNeg ((gc (gi x0.toNatClampNeg).toNatClampNeg) - (1 : Int32))), gp, gl, rfl, N16, K18, ((F0.wr W5).wr W14), ((F1.other W5 (Or.inl na_a_dr)).other W14 (Or.inl na_a_dc)), ((F2.other W5 (Or.inl na_a_dr)).other W14 (Or.inl na_a_dc)), ((F3.other W5 (Or.inl na_a_dr)).other W14 (Or.inl na_a_dc)), (f11.other W14 (Or.inl na_a_dc)), ((F5.other W5 (Or.inl na_a_dr)).other W14 (Or.inl na_a_dc)), ((F6.other W5 (Or.inl na_a_dr)).other W14 (Or.inl na_a_dc)), ((F7.other W5 (Or.inl na_a_dr)).other W14 (Or.inl na_a_dc)), ((F8.other W5 na_di_dr).other W14 na_di_dc), f15, (f6.other W14 (Ne.symm na_dc_dr)), ((F11.other W5 (Ne.symm na_dr_dp)).other W14 (Ne.symm na_dc_dp)), ((F12.other W5 (Ne.symm na_dr_dl)).other W14 (Ne.symm na_dc_dl)), rfl, (if_neg c19).symm, (if_neg c19).symm, (if_neg c19).symm⟩
theorem own_AI.v0 {Z : State} {h : Heap} {a : Addr} {k : ClassId} {g : Nat → Int32} (F : own_AI Z h a k 0 g) : Arv Z h a k .int 0 [] (.int 0) := by
  obtain ⟨c, r1, r2, r3, r4, r5⟩ := F
  have s : c.slots.size = 0 := r3
  refine ⟨c, r1, r2, r3, r4, fun i hi => ?_, fun i hi => ?_⟩
  · exact absurd hi (by rw [s]; omega)
  · exact absurd hi (by rw [s]; omega)
theorem own_AI.v2 {Z : State} {h : Heap} {a : Addr} {k : ClassId} {g : Nat → Int32} (F : own_AI Z h a k 2 g) : Arv Z h a k .int 2 [.int (g 0), .int (g 1)] (.int 0) := by
  obtain ⟨c, r1, r2, r3, r4, r5⟩ := F
  have s : c.slots.size = 2 := r3
  refine ⟨c, r1, r2, r3, r4, fun i hi => ?_, fun i hi => ?_⟩
  · rw [r5 i hi]
    rcases (show i = 0 ∨ i = 1 by omega) with rfl | rfl <;> rfl
  · rcases (show i = 0 ∨ i = 1 by omega) with rfl | rfl <;> rfl
theorem own_AI.v3 {Z : State} {h : Heap} {a : Addr} {k : ClassId} {g : Nat → Int32} (F : own_AI Z h a k 3 g) : Arv Z h a k .int 3 [.int (g 0), .int (g 1), .int (g 2)] (.int 0) := by
  obtain ⟨c, r1, r2, r3, r4, r5⟩ := F
  have s : c.slots.size = 3 := r3
  refine ⟨c, r1, r2, r3, r4, fun i hi => ?_, fun i hi => ?_⟩
  · rw [r5 i hi]
    rcases (show i = 0 ∨ i = 1 ∨ i = 2 by omega) with rfl | rfl | rfl <;> rfl
  · rcases (show i = 0 ∨ i = 1 ∨ i = 2 by omega) with rfl | rfl | rfl <;> rfl
theorem own_AI.v4 {Z : State} {h : Heap} {a : Addr} {k : ClassId} {g : Nat → Int32} (F : own_AI Z h a k 4 g) : Arv Z h a k .int 4 [.int (g 0), .int (g 1), .int (g 2), .int (g 3)] (.int 0) := by
  obtain ⟨c, r1, r2, r3, r4, r5⟩ := F
  have s : c.slots.size = 4 := r3
  refine ⟨c, r1, r2, r3, r4, fun i hi => ?_, fun i hi => ?_⟩
  · rw [r5 i hi]
    rcases (show i = 0 ∨ i = 1 ∨ i = 2 ∨ i = 3 by omega) with rfl | rfl | rfl | rfl <;> rfl
  · rcases (show i = 0 ∨ i = 1 ∨ i = 2 ∨ i = 3 by omega) with rfl | rfl | rfl | rfl <;> rfl
def own_i2 (x0 x1 : Int32) : Nat → Int32
  | 0 => x0 | _ => x1
theorem own_AI.of2 {Z : State} {h : Heap} {a : Addr} {k : ClassId} {x0 x1 : Int32} {dv : Value} (F : Arv Z h a k .int 2 [.int x0, .int x1] dv) : own_AI Z h a k 2 (own_i2 x0 x1) := by
  obtain ⟨c, r1, r2, r3, r4, r5, -⟩ := F
  have s : c.slots.size = 2 := r3
  refine ⟨c, r1, r2, r3, r4, fun i hi => ?_⟩
  rw [r5 i hi]
  rcases (show i = 0 ∨ i = 1 by omega) with rfl | rfl <;> rfl
def own_i4 (x0 x1 x2 x3 : Int32) : Nat → Int32
  | 0 => x0 | 1 => x1 | 2 => x2 | _ => x3
theorem own_AI.of4 {Z : State} {h : Heap} {a : Addr} {k : ClassId} {x0 x1 x2 x3 : Int32} {dv : Value} (F : Arv Z h a k .int 4 [.int x0, .int x1, .int x2, .int x3] dv) : own_AI Z h a k 4 (own_i4 x0 x1 x2 x3) := by
  obtain ⟨c, r1, r2, r3, r4, r5, -⟩ := F
  have s : c.slots.size = 4 := r3
  refine ⟨c, r1, r2, r3, r4, fun i hi => ?_⟩
  rw [r5 i hi]
  rcases (show i = 0 ∨ i = 1 ∨ i = 2 ∨ i = 3 by omega) with rfl | rfl | rfl | rfl <;> rfl
/-- three in order -/
def own_s3 (g g2 : Nat → Int32) : Prop := (g2 0).toInt ≤ (g2 1).toInt ∧ (g2 1).toInt ≤ (g2 2).toInt ∧ ((g2 0 = g 0 ∧ g2 1 = g 1 ∧ g2 2 = g 2) ∨ (g2 0 = g 0 ∧ g2 1 = g 2 ∧ g2 2 = g 1) ∨ (g2 0 = g 1 ∧ g2 1 = g 0 ∧ g2 2 = g 2) ∨ (g2 0 = g 1 ∧ g2 1 = g 2 ∧ g2 2 = g 0) ∨ (g2 0 = g 2 ∧ g2 1 = g 0 ∧ g2 2 = g 1) ∨ (g2 0 = g 2 ∧ g2 1 = g 1 ∧ g2 2 = g 0))
theorem own_eqI {a b : Int32} (h1 : ¬ a < b) (h2 : ¬ b < a) : a = b := by rw [Int32.lt_iff_toInt_lt] at h1 h2; exact Int32.toInt_inj.mp (by omega)
/-- two in order, from the place lo on -/
def own_s2 (lo : Nat) (g : Nat → Int32) : Nat → Int32 := if g (lo + 1) < g lo then own_updI (own_updI g (lo + 1) (g lo)) lo (g (lo + 1)) else g
theorem own_pn27 : plainName "java/util/Arrays" = true := by first | (simp [plainName, overriddenIn]; done) | decide +kernel
theorem own_ef27 (m : MethodId) (x0 x1 x2 : Int32) : entryFrame m #[.int x0, .int x1, .int x2] 3 = mkF m 0 #[sI x0, sI x1, sI x2] [] := by first | (simp [entryFrame, mkF, argsToLocals, Value.category]; done) | rfl
def Q27 (Z : State) (x0 x1 x2 : Int32) (h0 : Heap) (n0 : Nat) (v : Option Value) (h : Heap) (L : List Loc) : Prop := v = none ∧ Fr n0 L ∧ h = h0
set_option maxRecDepth 65536 in
set_option maxHeartbeats 4000000 in
theorem rm27 {l : Launch} {Z : State} {a0 : Array Value} (hw : own_T a0 Z) (x0 x1 x2 : Int32) (h0 : Heap) (n0 : Nat) (Z0 : n0 ≤ h0.size) (r1 : ¬ x2 < x1) (r2 : ¬ x1 < (0 : Int32)) (r3 : ¬ x0 < x2) :
    own_M l Z ym27 jdk_65_method_30_code 3 none ⟨0, 0, 0, 0⟩ #[.int x0, .int x1, .int x2] h0 (Q27 Z x0 x1 x2 h0 n0) := by
  refine own_open "java/util/Arrays" #[sI x0, sI x1, sI x2] (plainFor_of_name own_pn27) DL27 rfl (fun m => own_ef27 m x0 x1 x2) fun p e s m below meth c s₁ Bd B hZ hown X0 e0 Pq hPq => ?_
  have hx := B.x
  have N0 := Fr.nil n0
  refine SiN X0 B 0 rfl rfl ?_
  refine SiN X0 B 1 rfl rfl ?_
  refine Scy 2 46 X0 B 2 rfl (flt r1).2.2.2 ?_
  refine SiN X0 B 3 rfl rfl ?_
  refine Sfy 47 59 X0 B 4 rfl ((if0 _ _).trans (flt r2).2.1) ?_
  refine SiN X0 B 5 rfl rfl ?_
  refine SiN X0 B 6 rfl rfl ?_
  refine Scy 61 73 X0 B 7 rfl (flt r3).2.2.2 ?_
  refine own_oV X0 B Bd 8 rfl hPq ?_
  rw [e0]
  exact ⟨rfl, N0, rfl⟩
theorem own_pn28 : plainName "java/util/DualPivotQuicksort" = true := by first | (simp [plainName, overriddenIn]; done) | decide +kernel
theorem own_ef28 (m : MethodId) (pa : Addr) : entryFrame m #[.ref pa, .int 0, .int 3] 6 = mkF m 0 #[sR pa, sI 0, sI 3, sU, sU, sU] [] := by first | (simp [entryFrame, mkF, argsToLocals, Value.category]; done) | rfl
def Q28 (Z : State) (pa : Addr) (kp : ClassId) (g : Nat → Int32) (h0 : Heap) (n0 : Nat) (v : Option Value) (h : Heap) (L : List Loc) : Prop := ∃ (g2 : Nat → Int32), v = none ∧ Fr n0 L ∧ Keep h0 h [pa] ∧ own_AI Z h pa kp 3 g2 ∧ own_s3 g g2
theorem own_fin28_39 (pa : Addr) (kp : ClassId) (g : Nat → Int32) (c3 : (g 1) < (g 0)) (c18 : (g 2) < (g 0)) (c27 : (g 2) < (g 1)) : own_s3 g (own_updI (own_updI (own_updI (own_updI (own_updI g 1 (g 0)) 0 (g 1)) 2 (g 0)) 1 (g 1)) 0 (g 2)) := by
  simp only [Int32.lt_iff_toInt_lt] at *
  refine ⟨?_, ?_, ?_⟩
  · show ((g 2)).toInt ≤ ((g 1)).toInt; omega
  · show ((g 1)).toInt ≤ ((g 0)).toInt; omega
  · first | exact Or.inl ⟨rfl, rfl, rfl⟩ | exact Or.inr (Or.inl ⟨rfl, rfl, rfl⟩) | exact Or.inr (Or.inr (Or.inl ⟨rfl, rfl, rfl⟩)) | exact Or.inr (Or.inr (Or.inr (Or.inl ⟨rfl, rfl, rfl⟩))) | exact Or.inr (Or.inr (Or.inr (Or.inr (Or.inl ⟨rfl, rfl, rfl⟩)))) | exact Or.inr (Or.inr (Or.inr (Or.inr (Or.inr ⟨rfl, rfl, rfl⟩))))
theorem own_fin28_45 (pa : Addr) (kp : ClassId) (g : Nat → Int32) (c3 : (g 1) < (g 0)) (c18 : (g 2) < (g 0)) (c27 : ¬ ((g 2) < (g 1))) : own_s3 g (own_updI (own_updI (own_updI (own_updI g 1 (g 0)) 0 (g 1)) 2 (g 0)) 1 (g 2)) := by
  simp only [Int32.lt_iff_toInt_lt] at *
  refine ⟨?_, ?_, ?_⟩
  · show ((g 1)).toInt ≤ ((g 2)).toInt; omega
  · show ((g 2)).toInt ≤ ((g 0)).toInt; omega
  · first | exact Or.inl ⟨rfl, rfl, rfl⟩ | exact Or.inr (Or.inl ⟨rfl, rfl, rfl⟩) | exact Or.inr (Or.inr (Or.inl ⟨rfl, rfl, rfl⟩)) | exact Or.inr (Or.inr (Or.inr (Or.inl ⟨rfl, rfl, rfl⟩))) | exact Or.inr (Or.inr (Or.inr (Or.inr (Or.inl ⟨rfl, rfl, rfl⟩)))) | exact Or.inr (Or.inr (Or.inr (Or.inr (Or.inr ⟨rfl, rfl, rfl⟩))))
theorem own_fin28_46 (pa : Addr) (kp : ClassId) (g : Nat → Int32) (c3 : (g 1) < (g 0)) (c18 : ¬ ((g 2) < (g 0))) : own_s3 g (own_updI (own_updI g 1 (g 0)) 0 (g 1)) := by
  simp only [Int32.lt_iff_toInt_lt] at *
  refine ⟨?_, ?_, ?_⟩
  · show ((g 1)).toInt ≤ ((g 0)).toInt; omega
  · show ((g 0)).toInt ≤ ((g 2)).toInt; omega
  · first | exact Or.inl ⟨rfl, rfl, rfl⟩ | exact Or.inr (Or.inl ⟨rfl, rfl, rfl⟩) | exact Or.inr (Or.inr (Or.inl ⟨rfl, rfl, rfl⟩)) | exact Or.inr (Or.inr (Or.inr (Or.inl ⟨rfl, rfl, rfl⟩))) | exact Or.inr (Or.inr (Or.inr (Or.inr (Or.inl ⟨rfl, rfl, rfl⟩)))) | exact Or.inr (Or.inr (Or.inr (Or.inr (Or.inr ⟨rfl, rfl, rfl⟩))))
theorem own_fin28_70 (pa : Addr) (kp : ClassId) (g : Nat → Int32) (c3 : ¬ ((g 1) < (g 0))) (c49 : (g 2) < (g 1)) (c58 : (g 2) < (g 0)) : own_s3 g (own_updI (own_updI (own_updI g 2 (g 1)) 1 (g 0)) 0 (g 2)) := by
  simp only [Int32.lt_iff_toInt_lt] at *
  refine ⟨?_, ?_, ?_⟩
  · show ((g 2)).toInt ≤ ((g 0)).toInt; omega
  · show ((g 0)).toInt ≤ ((g 1)).toInt; omega
  · first | exact Or.inl ⟨rfl, rfl, rfl⟩ | exact Or.inr (Or.inl ⟨rfl, rfl, rfl⟩) | exact Or.inr (Or.inr (Or.inl ⟨rfl, rfl, rfl⟩)) | exact Or.inr (Or.inr (Or.inr (Or.inl ⟨rfl, rfl, rfl⟩))) | exact Or.inr (Or.inr (Or.inr (Or.inr (Or.inl ⟨rfl, rfl, rfl⟩)))) | exact Or.inr (Or.inr (Or.inr (Or.inr (Or.inr ⟨rfl, rfl, rfl⟩))))
theorem own_fin28_76 (pa : Addr) (kp : ClassId) (g : Nat → Int32) (c3 : ¬ ((g 1) < (g 0))) (c49 : (g 2) < (g 1)) (c58 : ¬ ((g 2) < (g 0))) : own_s3 g (own_updI (own_updI g 2 (g 1)) 1 (g 2)) := by
  simp only [Int32.lt_iff_toInt_lt] at *
  refine ⟨?_, ?_, ?_⟩
  · show ((g 0)).toInt ≤ ((g 2)).toInt; omega
  · show ((g 2)).toInt ≤ ((g 1)).toInt; omega
  · first | exact Or.inl ⟨rfl, rfl, rfl⟩ | exact Or.inr (Or.inl ⟨rfl, rfl, rfl⟩) | exact Or.inr (Or.inr (Or.inl ⟨rfl, rfl, rfl⟩)) | exact Or.inr (Or.inr (Or.inr (Or.inl ⟨rfl, rfl, rfl⟩))) | exact Or.inr (Or.inr (Or.inr (Or.inr (Or.inl ⟨rfl, rfl, rfl⟩)))) | exact Or.inr (Or.inr (Or.inr (Or.inr (Or.inr ⟨rfl, rfl, rfl⟩))))
theorem own_fin28_77 (pa : Addr) (kp : ClassId) (g : Nat → Int32) (c3 : ¬ ((g 1) < (g 0))) (c49 : ¬ ((g 2) < (g 1))) : own_s3 g g := by
  simp only [Int32.lt_iff_toInt_lt] at *
  refine ⟨?_, ?_, ?_⟩
  · show ((g 0)).toInt ≤ ((g 1)).toInt; omega
  · show ((g 1)).toInt ≤ ((g 2)).toInt; omega
  · first | exact Or.inl ⟨rfl, rfl, rfl⟩ | exact Or.inr (Or.inl ⟨rfl, rfl, rfl⟩) | exact Or.inr (Or.inr (Or.inl ⟨rfl, rfl, rfl⟩)) | exact Or.inr (Or.inr (Or.inr (Or.inl ⟨rfl, rfl, rfl⟩))) | exact Or.inr (Or.inr (Or.inr (Or.inr (Or.inl ⟨rfl, rfl, rfl⟩)))) | exact Or.inr (Or.inr (Or.inr (Or.inr (Or.inr ⟨rfl, rfl, rfl⟩))))
set_option maxRecDepth 65536 in
set_option maxHeartbeats 4000000 in
theorem rm28 {l : Launch} {Z : State} {a0 : Array Value} (hw : own_T a0 Z) (pa : Addr) (kp : ClassId) (g : Nat → Int32) (h0 : Heap) (n0 : Nat) (Z0 : n0 ≤ h0.size) (F0 : own_AI Z h0 pa kp 3 g) (g_pa : n0 ≤ pa) :
    own_M l Z ym28 jdk_2529_method_6_code 6 none ⟨0, 0, 0, 0⟩ #[.ref pa, .int 0, .int 3] h0 (Q28 Z pa kp g h0 n0) := by
  refine own_open kDQ #[sR pa, sI 0, sI 3, sU, sU, sU] (plainFor_of_name own_pn28) DL28 rfl (fun m => own_ef28 m pa) fun p e s m below meth c s₁ Bd B hZ hown X0 e0 Pq hPq => ?_
  have hx := B.x
  have N0 := Fr.nil n0
  have K0 : Keep h0 h0 [pa] := Keep.refl _ _
  refine SiN X0 B 0 rfl rfl ?_
  refine Sis #[sR pa, sI 0, sI 3, sU, sI 0, sU] X0 B 1 rfl rfl ?_
  refine own_st (fun t k => XS.iinc X0.here hx rfl (B.d 2 rfl) rfl (l' := #[sR pa, sI 0, sI 3, sU, sI 1, sU]) rfl k) ?_
  refine Si X0 B 3 rfl rfl ?_
  refine SiN X0 B 4 rfl rfl ?_
  refine Scn X0 B 5 rfl (tlt (by decide : ((1 : Int32) < (3 : Int32)))).2.1 ?_
  refine SaN X0 B 6 rfl rfl rfl ?_
  refine Si X0 B 7 rfl rfl ?_
  refine own_st (fun t k => XS.dup X0.here hx rfl (B.d 8 rfl) rfl rfl k) ?_
  refine SisN #[sR pa, sI 0, sI 3, sI 1, sI 1, sU] X0 B 9 rfl rfl ?_
  refine Kil 1 X0 B hZ e0 F0 ⟨by decide, by decide⟩ rfl 10 rfl ?_
  refine Sis #[sR pa, sI 0, sI 3, sI 1, sI 1, sI (g 1)] X0 B 11 rfl rfl ?_
  refine Si X0 B 12 rfl rfl ?_
  refine SaN X0 B 13 rfl rfl rfl ?_
  refine SiN X0 B 14 rfl rfl ?_
  refine Sc 1 X0 B 15 rfl rfl ?_
  refine own_st (fun t k => XS.isub X0.here hx rfl (B.d 16 rfl) rfl k) ?_
  refine Kil 0 X0 B hZ e0 F0 ⟨by decide, by decide⟩ rfl 17 rfl ?_
  by_cases c3 : (g 1) < (g 0)
  · skip
    refine Scn X0 B 18 rfl (tlt c3).2.1 ?_
    refine own_st (fun t k => XS.iinc X0.here hx rfl (B.d 19 rfl) rfl (l' := #[sR pa, sI 0, sI 3, sI 0, sI 1, sI (g 1)]) rfl k) ?_
    show own_Go _ _ _ _ s₁ (mkF m 33 _ [])
    show own_Go _ _ _ _ s₁ (mkF m 33 _ [])
    refine SiN X0 B 20 rfl rfl ?_
    refine SiN X0 B 21 rfl rfl ?_
    refine Scn X0 B 22 rfl (flt (by decide : ¬ ((0 : Int32) < (0 : Int32)))).1 ?_
    refine Si X0 B 23 rfl rfl ?_
    refine SaN X0 B 24 rfl rfl rfl ?_
    refine SiN X0 B 25 rfl rfl ?_
    refine Kil 0 X0 B hZ e0 F0 ⟨by decide, by decide⟩ rfl 26 rfl ?_
    refine Scn X0 B 27 rfl (tlt c3).2.1 ?_
    refine SaN X0 B 28 rfl rfl rfl ?_
    refine SiN X0 B 29 rfl rfl ?_
    refine Sc 1 X0 B 30 rfl rfl ?_
    refine own_st (fun t k => XS.iadd X0.here hx rfl (B.d 31 rfl) rfl k) ?_
    refine SaN X0 B 32 rfl rfl rfl ?_
    refine SiN X0 B 33 rfl rfl ?_
    refine Kil 0 X0 B hZ e0 F0 ⟨by decide, by decide⟩ rfl 34 rfl ?_
    refine Kis 1 X0 B hZ e0 F0 ⟨by decide, by decide⟩ rfl 35 rfl fun T6 h6 X6 e6 W6 f7 => ?_
    have N8 := Fr.snoc X6 N0 g_pa
    have K10 := K0.wr W6 (own_mI 0 rfl)
    refine Sg 54 30 X6 B 36 rfl ?_
    refine own_st (fun t k => XS.iinc X6.here hx rfl (B.d 19 rfl) rfl (l' := #[sR pa, sI 0, sI 3, sI (-1), sI 1, sI (g 1)]) rfl k) ?_
    refine SiN X6 B 20 rfl rfl ?_
    refine SiN X6 B 21 rfl rfl ?_
    refine Scy 35 57 X6 B 22 rfl (tlt (by decide : ((-1 : Int32) < (0 : Int32)))).1 ?_
    refine SaN X6 B 37 rfl rfl rfl ?_
    refine SiN X6 B 38 rfl rfl ?_
    refine Sc 1 X6 B 39 rfl rfl ?_
    refine own_st (fun t k => XS.iadd X6.here hx rfl (B.d 40 rfl) rfl k) ?_
    refine Si X6 B 41 rfl rfl ?_
    refine Kis 0 X6 B hZ e6 f7 ⟨by decide, by decide⟩ rfl 42 rfl fun T11 h11 X11 e11 W11 f12 => ?_
    have N13 := Fr.snoc X11 N8 g_pa
    have K15 := K10.wr W11 (own_mI 0 rfl)
    refine Sg 64 3 X11 B 43 rfl ?_
    refine own_st (fun t k => XS.iinc X11.here hx rfl (B.d 2 rfl) rfl (l' := #[sR pa, sI 0, sI 3, sI (-1), sI 2, sI (g 1)]) rfl k) ?_
    show own_Go _ _ _ _ T11 (mkF m 6 _ [])
    show own_Go _ _ _ _ T11 (mkF m 6 _ [])
    refine Si X11 B 3 rfl rfl ?_
    refine SiN X11 B 4 rfl rfl ?_
    refine Scn X11 B 5 rfl (tlt (by decide : ((2 : Int32) < (3 : Int32)))).2.1 ?_
    refine SaN X11 B 6 rfl rfl rfl ?_
    refine Si X11 B 7 rfl rfl ?_
    refine own_st (fun t k => XS.dup X11.here hx rfl (B.d 8 rfl) rfl rfl k) ?_
    refine SisN #[sR pa, sI 0, sI 3, sI 2, sI 2, sI (g 1)] X11 B 9 rfl rfl ?_
    refine Kil 2 X11 B hZ e11 f12 ⟨by decide, by decide⟩ rfl 10 rfl ?_
    show own_Go _ _ _ _ T11 (mkF m 18 _ [(.int (g 2))])
    refine Sis #[sR pa, sI 0, sI 3, sI 2, sI 2, sI (g 2)] X11 B 11 rfl rfl ?_
    refine Si X11 B 12 rfl rfl ?_
    refine SaN X11 B 13 rfl rfl rfl ?_
    refine SiN X11 B 14 rfl rfl ?_
    refine Sc 1 X11 B 15 rfl rfl ?_
    refine own_st (fun t k => XS.isub X11.here hx rfl (B.d 16 rfl) rfl k) ?_
    refine Kil 1 X11 B hZ e11 f12 ⟨by decide, by decide⟩ rfl 17 rfl ?_
    show own_Go _ _ _ _ T11 (mkF m 27 _ [(.int (g 0)), (.int (g 2))])
    by_cases c18 : (g 2) < (g 0)
    · skip
      refine Scn X11 B 18 rfl (tlt c18).2.1 ?_
      refine own_st (fun t k => XS.iinc X11.here hx rfl (B.d 19 rfl) rfl (l' := #[sR pa, sI 0, sI 3, sI 1, sI 2, sI (g 2)]) rfl k) ?_
      refine SiN X11 B 20 rfl rfl ?_
      refine SiN X11 B 21 rfl rfl ?_
      refine Scn X11 B 22 rfl (flt (by decide : ¬ ((1 : Int32) < (0 : Int32)))).1 ?_
      refine Si X11 B 23 rfl rfl ?_
      refine SaN X11 B 24 rfl rfl rfl ?_
      refine SiN X11 B 25 rfl rfl ?_
      refine Kil 1 X11 B hZ e11 f12 ⟨by decide, by decide⟩ rfl 26 rfl ?_
      show own_Go _ _ _ _ T11 (mkF m 43 _ [(.int (g 0)), (.int (g 2))])
      refine Scn X11 B 27 rfl (tlt c18).2.1 ?_
      refine SaN X11 B 28 rfl rfl rfl ?_
      refine SiN X11 B 29 rfl rfl ?_
      refine Sc 1 X11 B 30 rfl rfl ?_
      refine own_st (fun t k => XS.iadd X11.here hx rfl (B.d 31 rfl) rfl k) ?_
      refine SaN X11 B 32 rfl rfl rfl ?_
      refine SiN X11 B 33 rfl rfl ?_
      refine Kil 1 X11 B hZ e11 f12 ⟨by decide, by decide⟩ rfl 34 rfl ?_
      show own_Go _ _ _ _ T11 (mkF m 53 _ [(.int (g 0)), .int 2, .ref pa])
      refine Kis 2 X11 B hZ e11 f12 ⟨by decide, by decide⟩ rfl 35 rfl fun T21 h21 X21 e21 W21 f22 => ?_
      have N23 := Fr.snoc X21 N13 g_pa
      have K25 := K15.wr W21 (own_mI 0 rfl)
      refine Sg 54 30 X21 B 36 rfl ?_
      refine own_st (fun t k => XS.iinc X21.here hx rfl (B.d 19 rfl) rfl (l' := #[sR pa, sI 0, sI 3, sI 0, sI 2, sI (g 2)]) rfl k) ?_
      refine SiN X21 B 20 rfl rfl ?_
      refine SiN X21 B 21 rfl rfl ?_
      refine Scn X21 B 22 rfl (flt (by decide : ¬ ((0 : Int32) < (0 : Int32)))).1 ?_
      refine Si X21 B 23 rfl rfl ?_
      refine SaN X21 B 24 rfl rfl rfl ?_
      refine SiN X21 B 25 rfl rfl ?_
      refine Kil 0 X21 B hZ e21 f22 ⟨by decide, by decide⟩ rfl 26 rfl ?_
      show own_Go _ _ _ _ T21 (mkF m 43 _ [(.int (g 1)), (.int (g 2))])
      by_cases c27 : (g 2) < (g 1)
      · skip
        refine Scn X21 B 27 rfl (tlt c27).2.1 ?_
        refine SaN X21 B 28 rfl rfl rfl ?_
        refine SiN X21 B 29 rfl rfl ?_
        refine Sc 1 X21 B 30 rfl rfl ?_
        refine own_st (fun t k => XS.iadd X21.here hx rfl (B.d 31 rfl) rfl k) ?_
        refine SaN X21 B 32 rfl rfl rfl ?_
        refine SiN X21 B 33 rfl rfl ?_
        refine Kil 0 X21 B hZ e21 f22 ⟨by decide, by decide⟩ rfl 34 rfl ?_
        show own_Go _ _ _ _ T21 (mkF m 53 _ [(.int (g 1)), .int 1, .ref pa])
        refine Kis 1 X21 B hZ e21 f22 ⟨by decide, by decide⟩ rfl 35 rfl fun T29 h29 X29 e29 W29 f30 => ?_
        have N31 := Fr.snoc X29 N23 g_pa
        have K33 := K25.wr W29 (own_mI 0 rfl)
        refine Sg 54 30 X29 B 36 rfl ?_
        refine own_st (fun t k => XS.iinc X29.here hx rfl (B.d 19 rfl) rfl (l' := #[sR pa, sI 0, sI 3, sI (-1), sI 2, sI (g 2)]) rfl k) ?_
        refine SiN X29 B 20 rfl rfl ?_
        refine SiN X29 B 21 rfl rfl ?_
        refine Scy 35 57 X29 B 22 rfl (tlt (by decide : ((-1 : Int32) < (0 : Int32)))).1 ?_
        refine SaN X29 B 37 rfl rfl rfl ?_
        refine SiN X29 B 38 rfl rfl ?_
        refine Sc 1 X29 B 39 rfl rfl ?_
        refine own_st (fun t k => XS.iadd X29.here hx rfl (B.d 40 rfl) rfl k) ?_
        refine Si X29 B 41 rfl rfl ?_
        refine Kis 0 X29 B hZ e29 f30 ⟨by decide, by decide⟩ rfl 42 rfl fun T34 h34 X34 e34 W34 f35 => ?_
        have N36 := Fr.snoc X34 N31 g_pa
        have K38 := K33.wr W34 (own_mI 0 rfl)
        refine Sg 64 3 X34 B 43 rfl ?_
        refine own_st (fun t k => XS.iinc X34.here hx rfl (B.d 2 rfl) rfl (l' := #[sR pa, sI 0, sI 3, sI (-1), sI 3, sI (g 2)]) rfl k) ?_
        show own_Go _ _ _ _ T34 (mkF m 6 _ [])
        refine Si X34 B 3 rfl rfl ?_
        refine SiN X34 B 4 rfl rfl ?_
        refine Scy 9 67 X34 B 5 rfl (flt (by decide : ¬ ((3 : Int32) < (3 : Int32)))).2.1 ?_
        refine own_oV X34 B Bd 44 rfl hPq ?_
        rw [e34]
        exact ⟨(own_updI (own_updI (own_updI (own_updI (own_updI g 1 (g 0)) 0 (g 1)) 2 (g 0)) 1 (g 1)) 0 (g 2)), rfl, N36, K38, f35, (own_fin28_39 pa kp g c3 c18 c27)⟩
      · skip
        refine Scy 43 57 X21 B 27 rfl (flt c27).2.1 ?_
        refine SaN X21 B 37 rfl rfl rfl ?_
        refine SiN X21 B 38 rfl rfl ?_
        refine Sc 1 X21 B 39 rfl rfl ?_
        refine own_st (fun t k => XS.iadd X21.here hx rfl (B.d 40 rfl) rfl k) ?_
        refine Si X21 B 41 rfl rfl ?_
        refine Kis 1 X21 B hZ e21 f22 ⟨by decide, by decide⟩ rfl 42 rfl fun T40 h40 X40 e40 W40 f41 => ?_
        have N42 := Fr.snoc X40 N23 g_pa
        have K44 := K25.wr W40 (own_mI 0 rfl)
        refine Sg 64 3 X40 B 43 rfl ?_
        refine own_st (fun t k => XS.iinc X40.here hx rfl (B.d 2 rfl) rfl (l' := #[sR pa, sI 0, sI 3, sI 0, sI 3, sI (g 2)]) rfl k) ?_
        refine Si X40 B 3 rfl rfl ?_
        refine SiN X40 B 4 rfl rfl ?_
        refine Scy 9 67 X40 B 5 rfl (flt (by decide : ¬ ((3 : Int32) < (3 : Int32)))).2.1 ?_
        refine own_oV X40 B Bd 44 rfl hPq ?_
        rw [e40]
        exact ⟨(own_updI (own_updI (own_updI (own_updI g 1 (g 0)) 0 (g 1)) 2 (g 0)) 1 (g 2)), rfl, N42, K44, f41, (own_fin28_45 pa kp g c3 c18 c27)⟩
    · skip
      refine Scy 27 64 X11 B 18 rfl (flt c18).2.1 ?_
      refine Sg 64 3 X11 B 43 rfl ?_
      refine own_st (fun t k => XS.iinc X11.here hx rfl (B.d 2 rfl) rfl (l' := #[sR pa, sI 0, sI 3, sI 2, sI 3, sI (g 2)]) rfl k) ?_
      refine Si X11 B 3 rfl rfl ?_
      refine SiN X11 B 4 rfl rfl ?_
      refine Scy 9 67 X11 B 5 rfl (flt (by decide : ¬ ((3 : Int32) < (3 : Int32)))).2.1 ?_
      refine own_oV X11 B Bd 44 rfl hPq ?_
      rw [e11]
      exact ⟨(own_updI (own_updI g 1 (g 0)) 0 (g 1)), rfl, N13, K15, f12, (own_fin28_46 pa kp g c3 c18)⟩
  · skip
    refine Scy 27 64 X0 B 18 rfl (flt c3).2.1 ?_
    refine Sg 64 3 X0 B 43 rfl ?_
    refine own_st (fun t k => XS.iinc X0.here hx rfl (B.d 2 rfl) rfl (l' := #[sR pa, sI 0, sI 3, sI 1, sI 2, sI (g 1)]) rfl k) ?_
    show own_Go _ _ _ _ s₁ (mkF m 6 _ [])
    show own_Go _ _ _ _ s₁ (mkF m 6 _ [])
    refine Si X0 B 3 rfl rfl ?_
    refine SiN X0 B 4 rfl rfl ?_
    refine Scn X0 B 5 rfl (tlt (by decide : ((2 : Int32) < (3 : Int32)))).2.1 ?_
    refine SaN X0 B 6 rfl rfl rfl ?_
    refine Si X0 B 7 rfl rfl ?_
    refine own_st (fun t k => XS.dup X0.here hx rfl (B.d 8 rfl) rfl rfl k) ?_
    refine SisN #[sR pa, sI 0, sI 3, sI 2, sI 2, sI (g 1)] X0 B 9 rfl rfl ?_
    refine Kil 2 X0 B hZ e0 F0 ⟨by decide, by decide⟩ rfl 10 rfl ?_
    refine Sis #[sR pa, sI 0, sI 3, sI 2, sI 2, sI (g 2)] X0 B 11 rfl rfl ?_
    refine Si X0 B 12 rfl rfl ?_
    refine SaN X0 B 13 rfl rfl rfl ?_
    refine SiN X0 B 14 rfl rfl ?_
    refine Sc 1 X0 B 15 rfl rfl ?_
    refine own_st (fun t k => XS.isub X0.here hx rfl (B.d 16 rfl) rfl k) ?_
    refine Kil 1 X0 B hZ e0 F0 ⟨by decide, by decide⟩ rfl 17 rfl ?_
    by_cases c49 : (g 2) < (g 1)
    · skip
      refine Scn X0 B 18 rfl (tlt c49).2.1 ?_
      refine own_st (fun t k => XS.iinc X0.here hx rfl (B.d 19 rfl) rfl (l' := #[sR pa, sI 0, sI 3, sI 1, sI 2, sI (g 2)]) rfl k) ?_
      refine SiN X0 B 20 rfl rfl ?_
      refine SiN X0 B 21 rfl rfl ?_
      refine Scn X0 B 22 rfl (flt (by decide : ¬ ((1 : Int32) < (0 : Int32)))).1 ?_
      refine Si X0 B 23 rfl rfl ?_
      refine SaN X0 B 24 rfl rfl rfl ?_
      refine SiN X0 B 25 rfl rfl ?_
      refine Kil 1 X0 B hZ e0 F0 ⟨by decide, by decide⟩ rfl 26 rfl ?_
      refine Scn X0 B 27 rfl (tlt c49).2.1 ?_
      refine SaN X0 B 28 rfl rfl rfl ?_
      refine SiN X0 B 29 rfl rfl ?_
      refine Sc 1 X0 B 30 rfl rfl ?_
      refine own_st (fun t k => XS.iadd X0.here hx rfl (B.d 31 rfl) rfl k) ?_
      show own_Go _ _ _ _ s₁ (mkF m 50 _ [.int 2, .ref pa])
      refine SaN X0 B 32 rfl rfl rfl ?_
      refine SiN X0 B 33 rfl rfl ?_
      refine Kil 1 X0 B hZ e0 F0 ⟨by decide, by decide⟩ rfl 34 rfl ?_
      refine Kis 2 X0 B hZ e0 F0 ⟨by decide, by decide⟩ rfl 35 rfl fun T52 h52 X52 e52 W52 f53 => ?_
      have N54 := Fr.snoc X52 N0 g_pa
      have K56 := K0.wr W52 (own_mI 0 rfl)
      refine Sg 54 30 X52 B 36 rfl ?_
      refine own_st (fun t k => XS.iinc X52.here hx rfl (B.d 19 rfl) rfl (l' := #[sR pa, sI 0, sI 3, sI 0, sI 2, sI (g 2)]) rfl k) ?_
      refine SiN X52 B 20 rfl rfl ?_
      refine SiN X52 B 21 rfl rfl ?_
      refine Scn X52 B 22 rfl (flt (by decide : ¬ ((0 : Int32) < (0 : Int32)))).1 ?_
      refine Si X52 B 23 rfl rfl ?_
      refine SaN X52 B 24 rfl rfl rfl ?_
      refine SiN X52 B 25 rfl rfl ?_
      refine Kil 0 X52 B hZ e52 f53 ⟨by decide, by decide⟩ rfl 26 rfl ?_
      show own_Go _ _ _ _ T52 (mkF m 43 _ [(.int (g 0)), (.int (g 2))])
      by_cases c58 : (g 2) < (g 0)
      · skip
        refine Scn X52 B 27 rfl (tlt c58).2.1 ?_
        refine SaN X52 B 28 rfl rfl rfl ?_
        refine SiN X52 B 29 rfl rfl ?_
        refine Sc 1 X52 B 30 rfl rfl ?_
        refine own_st (fun t k => XS.iadd X52.here hx rfl (B.d 31 rfl) rfl k) ?_
        refine SaN X52 B 32 rfl rfl rfl ?_
        refine SiN X52 B 33 rfl rfl ?_
        refine Kil 0 X52 B hZ e52 f53 ⟨by decide, by decide⟩ rfl 34 rfl ?_
        show own_Go _ _ _ _ T52 (mkF m 53 _ [(.int (g 0)), .int 1, .ref pa])
        refine Kis 1 X52 B hZ e52 f53 ⟨by decide, by decide⟩ rfl 35 rfl fun T60 h60 X60 e60 W60 f61 => ?_
        have N62 := Fr.snoc X60 N54 g_pa
        have K64 := K56.wr W60 (own_mI 0 rfl)
        refine Sg 54 30 X60 B 36 rfl ?_
        refine own_st (fun t k => XS.iinc X60.here hx rfl (B.d 19 rfl) rfl (l' := #[sR pa, sI 0, sI 3, sI (-1), sI 2, sI (g 2)]) rfl k) ?_
        refine SiN X60 B 20 rfl rfl ?_
        refine SiN X60 B 21 rfl rfl ?_
        refine Scy 35 57 X60 B 22 rfl (tlt (by decide : ((-1 : Int32) < (0 : Int32)))).1 ?_
        refine SaN X60 B 37 rfl rfl rfl ?_
        refine SiN X60 B 38 rfl rfl ?_
        refine Sc 1 X60 B 39 rfl rfl ?_
        refine own_st (fun t k => XS.iadd X60.here hx rfl (B.d 40 rfl) rfl k) ?_
        refine Si X60 B 41 rfl rfl ?_
        refine Kis 0 X60 B hZ e60 f61 ⟨by decide, by decide⟩ rfl 42 rfl fun T65 h65 X65 e65 W65 f66 => ?_
        have N67 := Fr.snoc X65 N62 g_pa
        have K69 := K64.wr W65 (own_mI 0 rfl)
        refine Sg 64 3 X65 B 43 rfl ?_
        refine own_st (fun t k => XS.iinc X65.here hx rfl (B.d 2 rfl) rfl (l' := #[sR pa, sI 0, sI 3, sI (-1), sI 3, sI (g 2)]) rfl k) ?_
        show own_Go _ _ _ _ T65 (mkF m 6 _ [])
        refine Si X65 B 3 rfl rfl ?_
        refine SiN X65 B 4 rfl rfl ?_
        refine Scy 9 67 X65 B 5 rfl (flt (by decide : ¬ ((3 : Int32) < (3 : Int32)))).2.1 ?_
        refine own_oV X65 B Bd 44 rfl hPq ?_
        rw [e65]
        exact ⟨(own_updI (own_updI (own_updI g 2 (g 1)) 1 (g 0)) 0 (g 2)), rfl, N67, K69, f66, (own_fin28_70 pa kp g c3 c49 c58)⟩
      · skip
        refine Scy 43 57 X52 B 27 rfl (flt c58).2.1 ?_
        refine SaN X52 B 37 rfl rfl rfl ?_
        refine SiN X52 B 38 rfl rfl ?_
        refine Sc 1 X52 B 39 rfl rfl ?_
        refine own_st (fun t k => XS.iadd X52.here hx rfl (B.d 40 rfl) rfl k) ?_
        refine Si X52 B 41 rfl rfl ?_
        refine Kis 1 X52 B hZ e52 f53 ⟨by decide, by decide⟩ rfl 42 rfl fun T71 h71 X71 e71 W71 f72 => ?_
        have N73 := Fr.snoc X71 N54 g_pa
        have K75 := K56.wr W71 (own_mI 0 rfl)
        refine Sg 64 3 X71 B 43 rfl ?_
        refine own_st (fun t k => XS.iinc X71.here hx rfl (B.d 2 rfl) rfl (l' := #[sR pa, sI 0, sI 3, sI 0, sI 3, sI (g 2)]) rfl k) ?_
        refine Si X71 B 3 rfl rfl ?_
        refine SiN X71 B 4 rfl rfl ?_
        refine Scy 9 67 X71 B 5 rfl (flt (by decide : ¬ ((3 : Int32) < (3 : Int32)))).2.1 ?_
        refine own_oV X71 B Bd 44 rfl hPq ?_
        rw [e71]
        exact ⟨(own_updI (own_updI g 2 (g 1)) 1 (g 2)), rfl, N73, K75, f72, (own_fin28_76 pa kp g c3 c49 c58)⟩
    · skip
      refine Scy 27 64 X0 B 18 rfl (flt c49).2.1 ?_
      refine Sg 64 3 X0 B 43 rfl ?_
      refine own_st (fun t k => XS.iinc X0.here hx rfl (B.d 2 rfl) rfl (l' := #[sR pa, sI 0, sI 3, sI 2, sI 3, sI (g 2)]) rfl k) ?_
      refine Si X0 B 3 rfl rfl ?_
      refine SiN X0 B 4 rfl rfl ?_
      refine Scy 9 67 X0 B 5 rfl (flt (by decide : ¬ ((3 : Int32) < (3 : Int32)))).2.1 ?_
      refine own_oV X0 B Bd 44 rfl hPq ?_
      rw [e0]
      exact ⟨g, rfl, N0, K0, F0, (own_fin28_77 pa kp g c3 c49)⟩
theorem own_ef29 (m : MethodId) (pa : Addr) : entryFrame m #[.null, .ref pa, .int 0, .int 0, .int 3] 21 = mkF m 0 #[.val .null, sR pa, sI 0, sI 0, sI 3, sU, sU, sU, sU, sU, sU, sU, sU, sU, sU, sU, sU, sU, sU, sU, sU] [] := by first | (simp [entryFrame, mkF, argsToLocals, Value.category]; done) | rfl
def Q29 (Z : State) (pa : Addr) (kp : ClassId) (g : Nat → Int32) (h0 : Heap) (n0 : Nat) (v : Option Value) (h : Heap) (L : List Loc) : Prop := ∃ (g2 : Nat → Int32), v = none ∧ Fr n0 L ∧ Keep h0 h [pa] ∧ own_AI Z h pa kp 3 g2 ∧ own_s3 g g2
set_option maxRecDepth 65536 in
set_option maxHeartbeats 4000000 in
theorem rm29 {l : Launch} {Z : State} {a0 : Array Value} (hw : own_T a0 Z) (pa : Addr) (kp : ClassId) (g : Nat → Int32) (h0 : Heap) (n0 : Nat) (Z0 : n0 ≤ h0.size) (F0 : own_AI Z h0 pa kp 3 g) (g_pa : n0 ≤ pa) :
    own_M l Z ym29 jdk_2529_method_4_code 21 none ⟨1, 0, 0, 17⟩ #[.null, .ref pa, .int 0, .int 0, .int 3] h0 (Q29 Z pa kp g h0 n0) := by
  refine own_open kDQ #[.val .null, sR pa, sI 0, sI 0, sI 3, sU, sU, sU, sU, sU, sU, sU, sU, sU, sU, sU, sU, sU, sU, sU, sU] (plainFor_of_name own_pn28) DL29 rfl (fun m => own_ef29 m pa) fun p e s m below meth c s₁ Bd B hZ hown X0 e0 Pq hPq => ?_
  have hx := B.x
  have N0 := Fr.nil n0
  have K0 : Keep h0 h0 [pa] := Keep.refl _ _
  refine Si X0 B 0 rfl rfl ?_
  refine Sc 1 X0 B 1 rfl rfl ?_
  refine own_st (fun t k => XS.isub X0.here hx rfl (B.d 2 rfl) rfl k) ?_
  refine Sis #[.val .null, sR pa, sI 0, sI 0, sI 3, sI 2, sU, sU, sU, sU, sU, sU, sU, sU, sU, sU, sU, sU, sU, sU, sU] X0 B 3 rfl rfl ?_
  refine Si X0 B 4 rfl rfl ?_
  refine SiN X0 B 5 rfl rfl ?_
  refine own_st (fun t k => XS.isub X0.here hx rfl (B.d 6 rfl) rfl k) ?_
  refine Sis #[.val .null, sR pa, sI 0, sI 0, sI 3, sI 2, sI 3, sU, sU, sU, sU, sU, sU, sU, sU, sU, sU, sU, sU, sU, sU] X0 B 7 rfl rfl ?_
  refine Si X0 B 8 rfl rfl ?_
  refine own_st (fun t k => XS.bipush X0.here hx rfl (B.d 9 rfl) k) ?_
  refine SiN X0 B 10 rfl rfl ?_
  refine own_st (fun t k => XS.iadd X0.here hx rfl (B.d 11 rfl) rfl k) ?_
  refine Scn X0 B 12 rfl (tlt (by decide : ((3 : Int32) < (65 : Int32)))).2.1 ?_
  refine SiN X0 B 13 rfl rfl ?_
  refine Sc 1 X0 B 14 rfl rfl ?_
  refine own_st (fun t k => XS.iand X0.here hx rfl (B.d 15 rfl) rfl k) ?_
  show own_Go _ _ _ _ s₁ (mkF m 24 _ [.int 0])
  refine Sfy 24 46 X0 B 16 rfl ((if0 _ _).trans (flt (by decide : ¬ ((0 : Int32) < (0 : Int32)))).2.2.2) ?_
  refine Si X0 B 17 rfl rfl ?_
  refine own_st (fun t k => XS.bipush X0.here hx rfl (B.d 18 rfl) k) ?_
  refine Scn X0 B 19 rfl (tlt (by decide : ((3 : Int32) < (44 : Int32)))).2.1 ?_
  refine SaN X0 B 20 rfl rfl rfl ?_
  refine SiN X0 B 21 rfl rfl ?_
  refine Si X0 B 22 rfl rfl ?_
  refine Kst (wt := 0) (y := ym28) none X0 B hZ hown (hw 193 rfl) (hw 194 rfl) (hw 188 rfl) (hw 195 rfl) (rm28 hw pa kp g h0 n0 Z0 F0 g_pa) e0 own_pd___III_V 23 rfl rfl rfl (fun _ _ _ q => by obtain ⟨_, e, _⟩ := q; exact e) fun T1 Lc1 X1 hQ1 => ?_
  obtain ⟨r1_g2, -, NQ1, K1, fq1_0, hq1_0⟩ := hQ1
  have N2 := Fr.app N0 NQ1
  have K4 := K0.trans K1 (allS (own_mI 0 rfl) all0)
  show own_Go _ _ _ _ T1 (mkF m 60 _ [])
  refine own_oV X1 B Bd 24 rfl hPq ?_
  exact ⟨r1_g2, rfl, N2, K4, fq1_0, hq1_0⟩
theorem own_ef30 (m : MethodId) (pa : Addr) : entryFrame m #[.ref pa, .int 0, .int 0, .int 3] 7 = mkF m 0 #[sR pa, sI 0, sI 0, sI 3, sU, sU, sU] [] := by first | (simp [entryFrame, mkF, argsToLocals, Value.category]; done) | rfl
def Q30 (Z : State) (pa : Addr) (kp : ClassId) (g : Nat → Int32) (h0 : Heap) (n0 : Nat) (v : Option Value) (h : Heap) (L : List Loc) : Prop := ∃ (g2 : Nat → Int32), v = none ∧ Fr n0 L ∧ Keep h0 h [pa] ∧ own_AI Z h pa kp 3 g2 ∧ own_s3 g g2
set_option maxRecDepth 65536 in
set_option maxHeartbeats 4000000 in
theorem rm30 {l : Launch} {Z : State} {a0 : Array Value} (hw : own_T a0 Z) (pa : Addr) (kp : ClassId) (g : Nat → Int32) (h0 : Heap) (n0 : Nat) (Z0 : n0 ≤ h0.size) (F0 : own_AI Z h0 pa kp 3 g) (g_pa : n0 ≤ pa) :
    own_M l Z ym30 jdk_2529_method_3_code 7 none ⟨2, 0, 0, 49⟩ #[.ref pa, .int 0, .int 0, .int 3] h0 (Q30 Z pa kp g h0 n0) := by
  refine own_open kDQ #[sR pa, sI 0, sI 0, sI 3, sU, sU, sU] (plainFor_of_name own_pn28) DL30 rfl (fun m => own_ef30 m pa) fun p e s m below meth c s₁ Bd B hZ hown X0 e0 Pq hPq => ?_
  have hx := B.x
  have N0 := Fr.nil n0
  have K0 : Keep h0 h0 [pa] := Keep.refl _ _
  refine SiN X0 B 0 rfl rfl ?_
  refine SiN X0 B 1 rfl rfl ?_
  refine own_st (fun t k => XS.isub X0.here hx rfl (B.d 2 rfl) rfl k) ?_
  refine Sis #[sR pa, sI 0, sI 0, sI 3, sI 3, sU, sU] X0 B 3 rfl rfl ?_
  refine SiN X0 B 4 rfl rfl ?_
  refine Sc 1 X0 B 5 rfl rfl ?_
  refine Scy 7 68 X0 B 6 rfl (flt (by decide : ¬ ((1 : Int32) < (0 : Int32)))).2.2.2 ?_
  refine own_st (fun t k => XS.aconstNull X0.here hx rfl (B.d 7 rfl) k) ?_
  refine SaN X0 B 8 rfl rfl rfl ?_
  refine Sc 0 X0 B 9 rfl rfl ?_
  refine SiN X0 B 10 rfl rfl ?_
  refine SiN X0 B 11 rfl rfl ?_
  refine Kst (wt := 0) (y := ym29) none X0 B hZ hown (hw 190 rfl) (hw 191 rfl) (hw 188 rfl) (hw 192 rfl) (rm29 hw pa kp g h0 n0 Z0 F0 g_pa) e0 own_pd__Ljava_util_DualPivotQuicksort_Sorter__IIII_V 12 rfl rfl rfl (fun _ _ _ q => by obtain ⟨_, e, _⟩ := q; exact e) fun T1 Lc1 X1 hQ1 => ?_
  obtain ⟨r1_g2, -, NQ1, K1, fq1_0, hq1_0⟩ := hQ1
  have N2 := Fr.app N0 NQ1
  have K4 := K0.trans K1 (allS (own_mI 0 rfl) all0)
  show own_Go _ _ _ _ T1 (mkF m 76 _ [])
  refine own_oV X1 B Bd 13 rfl hPq ?_
  exact ⟨r1_g2, rfl, N2, K4, fq1_0, hq1_0⟩
theorem own_ef31 (m : MethodId) (pa : Addr) : entryFrame m #[.ref pa] 1 = mkF m 0 #[sR pa] [] := by first | (simp [entryFrame, mkF, argsToLocals, Value.category]; done) | rfl
def Q31 (Z : State) (pa : Addr) (kp : ClassId) (g : Nat → Int32) (h0 : Heap) (n0 : Nat) (v : Option Value) (h : Heap) (L : List Loc) : Prop := ∃ (g2 : Nat → Int32), v = none ∧ Fr n0 L ∧ Keep h0 h [pa] ∧ own_AI Z h pa kp 3 g2 ∧ own_s3 g g2
set_option maxRecDepth 65536 in
set_option maxHeartbeats 4000000 in
theorem rm31 {l : Launch} {Z : State} {a0 : Array Value} (hw : own_T a0 Z) (pa : Addr) (kp : ClassId) (g : Nat → Int32) (h0 : Heap) (n0 : Nat) (Z0 : n0 ≤ h0.size) (F0 : own_AI Z h0 pa kp 3 g) (g_pa : n0 ≤ pa) :
    own_M l Z ym31 jdk_65_method_2_code 1 none ⟨3, 0, 0, 67⟩ #[.ref pa] h0 (Q31 Z pa kp g h0 n0) := by
  refine own_open "java/util/Arrays" #[sR pa] (plainFor_of_name own_pn27) DL31 rfl (fun m => own_ef31 m pa) fun p e s m below meth c s₁ Bd B hZ hown X0 e0 Pq hPq => ?_
  have hx := B.x
  have N0 := Fr.nil n0
  have K0 : Keep h0 h0 [pa] := Keep.refl _ _
  refine SaN X0 B 0 rfl rfl rfl ?_
  refine Sc 0 X0 B 1 rfl rfl ?_
  refine Sc 0 X0 B 2 rfl rfl ?_
  refine SaN X0 B 3 rfl rfl rfl ?_
  obtain ⟨c1, Ar1, q1, S1, N1, H1⟩ := id F0
  refine own_st (fun t k => X0.arraylength hx (by rw [e0]; exact Ar1.1) (State.isArrayOf_alike hZ.alike Ar1.2.1) (g := (mkF m 4 #[sR pa] [.ref pa, .int 0, .int 0, .ref pa])) rfl rfl (B.d 4 rfl) _ k) ?_
  rw [len_of S1 N1]
  show own_Go _ _ _ _ s₁ (mkF m 5 _ [.int 3, .int 0, .int 0, .ref pa])
  refine Kst (wt := 0) (y := ym30) none X0 B hZ hown (hw 186 rfl) (hw 187 rfl) (hw 188 rfl) (hw 189 rfl) (rm30 hw pa kp g h0 n0 Z0 F0 g_pa) e0 own_pd___IIII_V 5 rfl rfl rfl (fun _ _ _ q => by obtain ⟨_, e, _⟩ := q; exact e) fun T2 Lc2 X2 hQ2 => ?_
  obtain ⟨r2_g2, -, NQ2, K2, fq2_0, hq2_0⟩ := hQ2
  have N3 := Fr.app N0 NQ2
  have K5 := K0.trans K2 (allS (own_mI 0 rfl) all0)
  show own_Go _ _ _ _ T2 (mkF m 8 _ [])
  refine own_oV X2 B Bd 6 rfl hPq ?_
  exact ⟨r2_g2, rfl, N3, K5, fq2_0, hq2_0⟩
theorem own_ef32 (m : MethodId) (pa : Addr) : entryFrame m #[.ref pa, .int 0, .int 2] 6 = mkF m 0 #[sR pa, sI 0, sI 2, sU, sU, sU] [] := by first | (simp [entryFrame, mkF, argsToLocals, Value.category]; done) | rfl
def Q32 (Z : State) (pa : Addr) (kp : ClassId) (g : Nat → Int32) (h0 : Heap) (n0 : Nat) (v : Option Value) (h : Heap) (L : List Loc) : Prop := ∃ (g2 : Nat → Int32), v = none ∧ Fr n0 L ∧ Keep h0 h [pa] ∧ own_AI Z h pa kp 2 g2 ∧ g2 = own_s2 0 g
set_option maxRecDepth 65536 in
set_option maxHeartbeats 4000000 in
theorem rm32 {l : Launch} {Z : State} {a0 : Array Value} (hw : own_T a0 Z) (pa : Addr) (kp : ClassId) (g : Nat → Int32) (h0 : Heap) (n0 : Nat) (Z0 : n0 ≤ h0.size) (F0 : own_AI Z h0 pa kp 2 g) (g_pa : n0 ≤ pa) :
    own_M l Z ym28 jdk_2529_method_6_code 6 none ⟨0, 0, 0, 0⟩ #[.ref pa, .int 0, .int 2] h0 (Q32 Z pa kp g h0 n0) := by
  refine own_open kDQ #[sR pa, sI 0, sI 2, sU, sU, sU] (plainFor_of_name own_pn28) DL28 rfl (fun m => own_ef32 m pa) fun p e s m below meth c s₁ Bd B hZ hown X0 e0 Pq hPq => ?_
  have hx := B.x
  have N0 := Fr.nil n0
  have K0 : Keep h0 h0 [pa] := Keep.refl _ _
  refine SiN X0 B 0 rfl rfl ?_
  refine Sis #[sR pa, sI 0, sI 2, sU, sI 0, sU] X0 B 1 rfl rfl ?_
  refine own_st (fun t k => XS.iinc X0.here hx rfl (B.d 2 rfl) rfl (l' := #[sR pa, sI 0, sI 2, sU, sI 1, sU]) rfl k) ?_
  refine Si X0 B 3 rfl rfl ?_
  refine SiN X0 B 4 rfl rfl ?_
  refine Scn X0 B 5 rfl (tlt (by decide : ((1 : Int32) < (2 : Int32)))).2.1 ?_
  refine SaN X0 B 6 rfl rfl rfl ?_
  refine Si X0 B 7 rfl rfl ?_
  refine own_st (fun t k => XS.dup X0.here hx rfl (B.d 8 rfl) rfl rfl k) ?_
  refine SisN #[sR pa, sI 0, sI 2, sI 1, sI 1, sU] X0 B 9 rfl rfl ?_
  refine Kil 1 X0 B hZ e0 F0 ⟨by decide, by decide⟩ rfl 10 rfl ?_
  refine Sis #[sR pa, sI 0, sI 2, sI 1, sI 1, sI (g 1)] X0 B 11 rfl rfl ?_
  refine Si X0 B 12 rfl rfl ?_
  refine SaN X0 B 13 rfl rfl rfl ?_
  refine SiN X0 B 14 rfl rfl ?_
  refine Sc 1 X0 B 15 rfl rfl ?_
  refine own_st (fun t k => XS.isub X0.here hx rfl (B.d 16 rfl) rfl k) ?_
  refine Kil 0 X0 B hZ e0 F0 ⟨by decide, by decide⟩ rfl 17 rfl ?_
  by_cases c3 : (g 1) < (g 0)
  · skip
    refine Scn X0 B 18 rfl (tlt c3).2.1 ?_
    refine own_st (fun t k => XS.iinc X0.here hx rfl (B.d 19 rfl) rfl (l' := #[sR pa, sI 0, sI 2, sI 0, sI 1, sI (g 1)]) rfl k) ?_
    show own_Go _ _ _ _ s₁ (mkF m 33 _ [])
    show own_Go _ _ _ _ s₁ (mkF m 33 _ [])
    refine SiN X0 B 20 rfl rfl ?_
    refine SiN X0 B 21 rfl rfl ?_
    refine Scn X0 B 22 rfl (flt (by decide : ¬ ((0 : Int32) < (0 : Int32)))).1 ?_
    refine Si X0 B 23 rfl rfl ?_
    refine SaN X0 B 24 rfl rfl rfl ?_
    refine SiN X0 B 25 rfl rfl ?_
    refine Kil 0 X0 B hZ e0 F0 ⟨by decide, by decide⟩ rfl 26 rfl ?_
    refine Scn X0 B 27 rfl (tlt c3).2.1 ?_
    refine SaN X0 B 28 rfl rfl rfl ?_
    refine SiN X0 B 29 rfl rfl ?_
    refine Sc 1 X0 B 30 rfl rfl ?_
    refine own_st (fun t k => XS.iadd X0.here hx rfl (B.d 31 rfl) rfl k) ?_
    refine SaN X0 B 32 rfl rfl rfl ?_
    refine SiN X0 B 33 rfl rfl ?_
    refine Kil 0 X0 B hZ e0 F0 ⟨by decide, by decide⟩ rfl 34 rfl ?_
    refine Kis 1 X0 B hZ e0 F0 ⟨by decide, by decide⟩ rfl 35 rfl fun T6 h6 X6 e6 W6 f7 => ?_
    have N8 := Fr.snoc X6 N0 g_pa
    have K10 := K0.wr W6 (own_mI 0 rfl)
    refine Sg 54 30 X6 B 36 rfl ?_
    refine own_st (fun t k => XS.iinc X6.here hx rfl (B.d 19 rfl) rfl (l' := #[sR pa, sI 0, sI 2, sI (-1), sI 1, sI (g 1)]) rfl k) ?_
    refine SiN X6 B 20 rfl rfl ?_
    refine SiN X6 B 21 rfl rfl ?_
    refine Scy 35 57 X6 B 22 rfl (tlt (by decide : ((-1 : Int32) < (0 : Int32)))).1 ?_
    refine SaN X6 B 37 rfl rfl rfl ?_
    refine SiN X6 B 38 rfl rfl ?_
    refine Sc 1 X6 B 39 rfl rfl ?_
    refine own_st (fun t k => XS.iadd X6.here hx rfl (B.d 40 rfl) rfl k) ?_
    refine Si X6 B 41 rfl rfl ?_
    refine Kis 0 X6 B hZ e6 f7 ⟨by decide, by decide⟩ rfl 42 rfl fun T11 h11 X11 e11 W11 f12 => ?_
    have N13 := Fr.snoc X11 N8 g_pa
    have K15 := K10.wr W11 (own_mI 0 rfl)
    refine Sg 64 3 X11 B 43 rfl ?_
    refine own_st (fun t k => XS.iinc X11.here hx rfl (B.d 2 rfl) rfl (l' := #[sR pa, sI 0, sI 2, sI (-1), sI 2, sI (g 1)]) rfl k) ?_
    show own_Go _ _ _ _ T11 (mkF m 6 _ [])
    show own_Go _ _ _ _ T11 (mkF m 6 _ [])
    refine Si X11 B 3 rfl rfl ?_
    refine SiN X11 B 4 rfl rfl ?_
    refine Scy 9 67 X11 B 5 rfl (flt (by decide : ¬ ((2 : Int32) < (2 : Int32)))).2.1 ?_
    refine own_oV X11 B Bd 44 rfl hPq ?_
    rw [e11]
    exact ⟨(own_updI (own_updI g 1 (g 0)) 0 (g 1)), rfl, N13, K15, f12, (if_pos c3).symm⟩
  · skip
    refine Scy 27 64 X0 B 18 rfl (flt c3).2.1 ?_
    refine Sg 64 3 X0 B 43 rfl ?_
    refine own_st (fun t k => XS.iinc X0.here hx rfl (B.d 2 rfl) rfl (l' := #[sR pa, sI 0, sI 2, sI 1, sI 2, sI (g 1)]) rfl k) ?_
    show own_Go _ _ _ _ s₁ (mkF m 6 _ [])
    show own_Go _ _ _ _ s₁ (mkF m 6 _ [])
    refine Si X0 B 3 rfl rfl ?_
    refine SiN X0 B 4 rfl rfl ?_
    refine Scy 9 67 X0 B 5 rfl (flt (by decide : ¬ ((2 : Int32) < (2 : Int32)))).2.1 ?_
    refine own_oV X0 B Bd 44 rfl hPq ?_
    rw [e0]
    exact ⟨g, rfl, N0, K0, F0, (if_neg c3).symm⟩
theorem own_ef33 (m : MethodId) (pa : Addr) : entryFrame m #[.null, .ref pa, .int 0, .int 0, .int 2] 21 = mkF m 0 #[.val .null, sR pa, sI 0, sI 0, sI 2, sU, sU, sU, sU, sU, sU, sU, sU, sU, sU, sU, sU, sU, sU, sU, sU] [] := by first | (simp [entryFrame, mkF, argsToLocals, Value.category]; done) | rfl
def Q33 (Z : State) (pa : Addr) (kp : ClassId) (g : Nat → Int32) (h0 : Heap) (n0 : Nat) (v : Option Value) (h : Heap) (L : List Loc) : Prop := ∃ (g2 : Nat → Int32), v = none ∧ Fr n0 L ∧ Keep h0 h [pa] ∧ own_AI Z h pa kp 2 g2 ∧ g2 = own_s2 0 g
set_option maxRecDepth 65536 in
set_option maxHeartbeats 4000000 in
theorem rm33 {l : Launch} {Z : State} {a0 : Array Value} (hw : own_T a0 Z) (pa : Addr) (kp : ClassId) (g : Nat → Int32) (h0 : Heap) (n0 : Nat) (Z0 : n0 ≤ h0.size) (F0 : own_AI Z h0 pa kp 2 g) (g_pa : n0 ≤ pa) :
    own_M l Z ym29 jdk_2529_method_4_code 21 none ⟨1, 0, 0, 17⟩ #[.null, .ref pa, .int 0, .int 0, .int 2] h0 (Q33 Z pa kp g h0 n0) := by
  refine own_open kDQ #[.val .null, sR pa, sI 0, sI 0, sI 2, sU, sU, sU, sU, sU, sU, sU, sU, sU, sU, sU, sU, sU, sU, sU, sU] (plainFor_of_name own_pn28) DL29 rfl (fun m => own_ef33 m pa) fun p e s m below meth c s₁ Bd B hZ hown X0 e0 Pq hPq => ?_
  have hx := B.x
  have N0 := Fr.nil n0
  have K0 : Keep h0 h0 [pa] := Keep.refl _ _
  refine Si X0 B 0 rfl rfl ?_
  refine Sc 1 X0 B 1 rfl rfl ?_
  refine own_st (fun t k => XS.isub X0.here hx rfl (B.d 2 rfl) rfl k) ?_
  refine Sis #[.val .null, sR pa, sI 0, sI 0, sI 2, sI 1, sU, sU, sU, sU, sU, sU, sU, sU, sU, sU, sU, sU, sU, sU, sU] X0 B 3 rfl rfl ?_
  refine Si X0 B 4 rfl rfl ?_
  refine SiN X0 B 5 rfl rfl ?_
  refine own_st (fun t k => XS.isub X0.here hx rfl (B.d 6 rfl) rfl k) ?_
  refine Sis #[.val .null, sR pa, sI 0, sI 0, sI 2, sI 1, sI 2, sU, sU, sU, sU, sU, sU, sU, sU, sU, sU, sU, sU, sU, sU] X0 B 7 rfl rfl ?_
  refine Si X0 B 8 rfl rfl ?_
  refine own_st (fun t k => XS.bipush X0.here hx rfl (B.d 9 rfl) k) ?_
  refine SiN X0 B 10 rfl rfl ?_
  refine own_st (fun t k => XS.iadd X0.here hx rfl (B.d 11 rfl) rfl k) ?_
  refine Scn X0 B 12 rfl (tlt (by decide : ((2 : Int32) < (65 : Int32)))).2.1 ?_
  refine SiN X0 B 13 rfl rfl ?_
  refine Sc 1 X0 B 14 rfl rfl ?_
  refine own_st (fun t k => XS.iand X0.here hx rfl (B.d 15 rfl) rfl k) ?_
  show own_Go _ _ _ _ s₁ (mkF m 24 _ [.int 0])
  refine Sfy 24 46 X0 B 16 rfl ((if0 _ _).trans (flt (by decide : ¬ ((0 : Int32) < (0 : Int32)))).2.2.2) ?_
  refine Si X0 B 17 rfl rfl ?_
  refine own_st (fun t k => XS.bipush X0.here hx rfl (B.d 18 rfl) k) ?_
  refine Scn X0 B 19 rfl (tlt (by decide : ((2 : Int32) < (44 : Int32)))).2.1 ?_
  refine SaN X0 B 20 rfl rfl rfl ?_
  refine SiN X0 B 21 rfl rfl ?_
  refine Si X0 B 22 rfl rfl ?_
  refine Kst (wt := 0) (y := ym28) none X0 B hZ hown (hw 193 rfl) (hw 194 rfl) (hw 188 rfl) (hw 195 rfl) (rm32 hw pa kp g h0 n0 Z0 F0 g_pa) e0 own_pd___III_V 23 rfl rfl rfl (fun _ _ _ q => by obtain ⟨_, e, _⟩ := q; exact e) fun T1 Lc1 X1 hQ1 => ?_
  obtain ⟨r1_g2, -, NQ1, K1, fq1_0, hq1_0⟩ := hQ1
  have N2 := Fr.app N0 NQ1
  have K4 := K0.trans K1 (allS (own_mI 0 rfl) all0)
  show own_Go _ _ _ _ T1 (mkF m 60 _ [])
  refine own_oV X1 B Bd 24 rfl hPq ?_
  exact ⟨r1_g2, rfl, N2, K4, fq1_0, hq1_0⟩
theorem own_ef34 (m : MethodId) (pa : Addr) : entryFrame m #[.ref pa, .int 0, .int 0, .int 2] 7 = mkF m 0 #[sR pa, sI 0, sI 0, sI 2, sU, sU, sU] [] := by first | (simp [entryFrame, mkF, argsToLocals, Value.category]; done) | rfl
def Q34 (Z : State) (pa : Addr) (kp : ClassId) (g : Nat → Int32) (h0 : Heap) (n0 : Nat) (v : Option Value) (h : Heap) (L : List Loc) : Prop := ∃ (g2 : Nat → Int32), v = none ∧ Fr n0 L ∧ Keep h0 h [pa] ∧ own_AI Z h pa kp 2 g2 ∧ g2 = own_s2 0 g
set_option maxRecDepth 65536 in
set_option maxHeartbeats 4000000 in
theorem rm34 {l : Launch} {Z : State} {a0 : Array Value} (hw : own_T a0 Z) (pa : Addr) (kp : ClassId) (g : Nat → Int32) (h0 : Heap) (n0 : Nat) (Z0 : n0 ≤ h0.size) (F0 : own_AI Z h0 pa kp 2 g) (g_pa : n0 ≤ pa) :
    own_M l Z ym30 jdk_2529_method_3_code 7 none ⟨2, 0, 0, 49⟩ #[.ref pa, .int 0, .int 0, .int 2] h0 (Q34 Z pa kp g h0 n0) := by
  refine own_open kDQ #[sR pa, sI 0, sI 0, sI 2, sU, sU, sU] (plainFor_of_name own_pn28) DL30 rfl (fun m => own_ef34 m pa) fun p e s m below meth c s₁ Bd B hZ hown X0 e0 Pq hPq => ?_
  have hx := B.x
  have N0 := Fr.nil n0
  have K0 : Keep h0 h0 [pa] := Keep.refl _ _
  refine SiN X0 B 0 rfl rfl ?_
  refine SiN X0 B 1 rfl rfl ?_
  refine own_st (fun t k => XS.isub X0.here hx rfl (B.d 2 rfl) rfl k) ?_
  refine Sis #[sR pa, sI 0, sI 0, sI 2, sI 2, sU, sU] X0 B 3 rfl rfl ?_
  refine SiN X0 B 4 rfl rfl ?_
  refine Sc 1 X0 B 5 rfl rfl ?_
  refine Scy 7 68 X0 B 6 rfl (flt (by decide : ¬ ((1 : Int32) < (0 : Int32)))).2.2.2 ?_
  refine own_st (fun t k => XS.aconstNull X0.here hx rfl (B.d 7 rfl) k) ?_
  refine SaN X0 B 8 rfl rfl rfl ?_
  refine Sc 0 X0 B 9 rfl rfl ?_
  refine SiN X0 B 10 rfl rfl ?_
  refine SiN X0 B 11 rfl rfl ?_
  refine Kst (wt := 0) (y := ym29) none X0 B hZ hown (hw 190 rfl) (hw 191 rfl) (hw 188 rfl) (hw 192 rfl) (rm33 hw pa kp g h0 n0 Z0 F0 g_pa) e0 own_pd__Ljava_util_DualPivotQuicksort_Sorter__IIII_V 12 rfl rfl rfl (fun _ _ _ q => by obtain ⟨_, e, _⟩ := q; exact e) fun T1 Lc1 X1 hQ1 => ?_
  obtain ⟨r1_g2, -, NQ1, K1, fq1_0, hq1_0⟩ := hQ1
  have N2 := Fr.app N0 NQ1
  have K4 := K0.trans K1 (allS (own_mI 0 rfl) all0)
  show own_Go _ _ _ _ T1 (mkF m 76 _ [])
  refine own_oV X1 B Bd 13 rfl hPq ?_
  exact ⟨r1_g2, rfl, N2, K4, fq1_0, hq1_0⟩
theorem own_ef35 (m : MethodId) (pa : Addr) : entryFrame m #[.ref pa, .int 0, .int 2] 3 = mkF m 0 #[sR pa, sI 0, sI 2] [] := by first | (simp [entryFrame, mkF, argsToLocals, Value.category]; done) | rfl
def Q35 (Z : State) (pa : Addr) (kp : ClassId) (g : Nat → Int32) (h0 : Heap) (n0 : Nat) (v : Option Value) (h : Heap) (L : List Loc) : Prop := ∃ (g2 : Nat → Int32), v = none ∧ Fr n0 L ∧ Keep h0 h [pa] ∧ own_AI Z h pa kp 2 g2 ∧ g2 = own_s2 0 g
set_option maxRecDepth 65536 in
set_option maxHeartbeats 4000000 in
theorem rm35 {l : Launch} {Z : State} {a0 : Array Value} (hw : own_T a0 Z) (pa : Addr) (kp : ClassId) (g : Nat → Int32) (h0 : Heap) (n0 : Nat) (Z0 : n0 ≤ h0.size) (F0 : own_AI Z h0 pa kp 2 g) (g_pa : n0 ≤ pa) :
    own_M l Z ym32 jdk_65_method_3_code 3 none ⟨3, 0, 0, 67⟩ #[.ref pa, .int 0, .int 2] h0 (Q35 Z pa kp g h0 n0) := by
  refine own_open "java/util/Arrays" #[sR pa, sI 0, sI 2] (plainFor_of_name own_pn27) DL32 rfl (fun m => own_ef35 m pa) fun p e s m below meth c s₁ Bd B hZ hown X0 e0 Pq hPq => ?_
  have hx := B.x
  have N0 := Fr.nil n0
  have K0 : Keep h0 h0 [pa] := Keep.refl _ _
  refine SaN X0 B 0 rfl rfl rfl ?_
  obtain ⟨c1, Ar1, q1, S1, N1, H1⟩ := id F0
  refine own_st (fun t k => X0.arraylength hx (by rw [e0]; exact Ar1.1) (State.isArrayOf_alike hZ.alike Ar1.2.1) (g := (mkF m 1 #[sR pa, sI 0, sI 2] [.ref pa])) rfl rfl (B.d 1 rfl) _ k) ?_
  rw [len_of S1 N1]
  show own_Go _ _ _ _ s₁ (mkF m 2 _ [.int 2])
  refine SiN X0 B 2 rfl rfl ?_
  refine SiN X0 B 3 rfl rfl ?_
  refine Kst (wt := 0) (y := ym27) none X0 B hZ hown (hw 231 rfl) (hw 232 rfl) (hw 184 rfl) (hw 233 rfl) (rm27 hw 2 0 2 h0 n0 Z0 (by decide) (by decide) (by decide)) e0 own_pd__III_V 4 rfl rfl rfl (fun _ _ _ q => q.1) fun T2 Lc2 X2 hQ2 => ?_
  obtain ⟨-, NQ2, eq2⟩ := hQ2
  have N3 := Fr.app N0 NQ2
  show own_Go _ _ _ _ T2 (mkF m 7 _ [])
  refine SaN X2 B 5 rfl rfl rfl ?_
  refine Sc 0 X2 B 6 rfl rfl ?_
  refine SiN X2 B 7 rfl rfl ?_
  refine SiN X2 B 8 rfl rfl ?_
  refine Kst (wt := 0) (y := ym30) none X2 B hZ hown (hw 186 rfl) (hw 187 rfl) (hw 188 rfl) (hw 189 rfl) (rm34 hw pa kp g h0 n0 Z0 F0 g_pa) eq2 own_pd___IIII_V 9 rfl rfl rfl (fun _ _ _ q => by obtain ⟨_, e, _⟩ := q; exact e) fun T4 Lc4 X4 hQ4 => ?_
  obtain ⟨r4_g2, -, NQ4, K4, fq4_0, hq4_0⟩ := hQ4
  have N5 := Fr.app N3 NQ4
  have K7 := K0.trans K4 (allS (own_mI 0 rfl) all0)
  show own_Go _ _ _ _ T4 (mkF m 14 _ [])
  refine own_oV X4 B Bd 10 rfl hPq ?_
  exact ⟨r4_g2, rfl, N5, K7, fq4_0, hq4_0⟩
theorem own_ef36 (m : MethodId) (pa : Addr) : entryFrame m #[.ref pa, .int 2, .int 4] 6 = mkF m 0 #[sR pa, sI 2, sI 4, sU, sU, sU] [] := by first | (simp [entryFrame, mkF, argsToLocals, Value.category]; done) | rfl
def Q36 (Z : State) (pa : Addr) (kp : ClassId) (g : Nat → Int32) (h0 : Heap) (n0 : Nat) (v : Option Value) (h : Heap) (L : List Loc) : Prop := ∃ (g2 : Nat → Int32), v = none ∧ Fr n0 L ∧ Keep h0 h [pa] ∧ own_AI Z h pa kp 4 g2 ∧ g2 = own_s2 2 g
set_option maxRecDepth 65536 in
set_option maxHeartbeats 4000000 in
theorem rm36 {l : Launch} {Z : State} {a0 : Array Value} (hw : own_T a0 Z) (pa : Addr) (kp : ClassId) (g : Nat → Int32) (h0 : Heap) (n0 : Nat) (Z0 : n0 ≤ h0.size) (F0 : own_AI Z h0 pa kp 4 g) (g_pa : n0 ≤ pa) :
    own_M l Z ym28 jdk_2529_method_6_code 6 none ⟨0, 0, 0, 0⟩ #[.ref pa, .int 2, .int 4] h0 (Q36 Z pa kp g h0 n0) := by
  refine own_open kDQ #[sR pa, sI 2, sI 4, sU, sU, sU] (plainFor_of_name own_pn28) DL28 rfl (fun m => own_ef36 m pa) fun p e s m below meth c s₁ Bd B hZ hown X0 e0 Pq hPq => ?_
  have hx := B.x
  have N0 := Fr.nil n0
  have K0 : Keep h0 h0 [pa] := Keep.refl _ _
  refine SiN X0 B 0 rfl rfl ?_
  refine Sis #[sR pa, sI 2, sI 4, sU, sI 2, sU] X0 B 1 rfl rfl ?_
  refine own_st (fun t k => XS.iinc X0.here hx rfl (B.d 2 rfl) rfl (l' := #[sR pa, sI 2, sI 4, sU, sI 3, sU]) rfl k) ?_
  refine Si X0 B 3 rfl rfl ?_
  refine SiN X0 B 4 rfl rfl ?_
  refine Scn X0 B 5 rfl (tlt (by decide : ((3 : Int32) < (4 : Int32)))).2.1 ?_
  refine SaN X0 B 6 rfl rfl rfl ?_
  refine Si X0 B 7 rfl rfl ?_
  refine own_st (fun t k => XS.dup X0.here hx rfl (B.d 8 rfl) rfl rfl k) ?_
  refine SisN #[sR pa, sI 2, sI 4, sI 3, sI 3, sU] X0 B 9 rfl rfl ?_
  refine Kil 3 X0 B hZ e0 F0 ⟨by decide, by decide⟩ rfl 10 rfl ?_
  refine Sis #[sR pa, sI 2, sI 4, sI 3, sI 3, sI (g 3)] X0 B 11 rfl rfl ?_
  refine Si X0 B 12 rfl rfl ?_
  refine SaN X0 B 13 rfl rfl rfl ?_
  refine SiN X0 B 14 rfl rfl ?_
  refine Sc 1 X0 B 15 rfl rfl ?_
  refine own_st (fun t k => XS.isub X0.here hx rfl (B.d 16 rfl) rfl k) ?_
  refine Kil 2 X0 B hZ e0 F0 ⟨by decide, by decide⟩ rfl 17 rfl ?_
  by_cases c3 : (g 3) < (g 2)
  · skip
    refine Scn X0 B 18 rfl (tlt c3).2.1 ?_
    refine own_st (fun t k => XS.iinc X0.here hx rfl (B.d 19 rfl) rfl (l' := #[sR pa, sI 2, sI 4, sI 2, sI 3, sI (g 3)]) rfl k) ?_
    show own_Go _ _ _ _ s₁ (mkF m 33 _ [])
    show own_Go _ _ _ _ s₁ (mkF m 33 _ [])
    refine SiN X0 B 20 rfl rfl ?_
    refine SiN X0 B 21 rfl rfl ?_
    refine Scn X0 B 22 rfl (flt (by decide : ¬ ((2 : Int32) < (2 : Int32)))).1 ?_
    refine Si X0 B 23 rfl rfl ?_
    refine SaN X0 B 24 rfl rfl rfl ?_
    refine SiN X0 B 25 rfl rfl ?_
    refine Kil 2 X0 B hZ e0 F0 ⟨by decide, by decide⟩ rfl 26 rfl ?_
    refine Scn X0 B 27 rfl (tlt c3).2.1 ?_
    refine SaN X0 B 28 rfl rfl rfl ?_
    refine SiN X0 B 29 rfl rfl ?_
    refine Sc 1 X0 B 30 rfl rfl ?_
    refine own_st (fun t k => XS.iadd X0.here hx rfl (B.d 31 rfl) rfl k) ?_
    refine SaN X0 B 32 rfl rfl rfl ?_
    refine SiN X0 B 33 rfl rfl ?_
    refine Kil 2 X0 B hZ e0 F0 ⟨by decide, by decide⟩ rfl 34 rfl ?_
    refine Kis 3 X0 B hZ e0 F0 ⟨by decide, by decide⟩ rfl 35 rfl fun T6 h6 X6 e6 W6 f7 => ?_
    have N8 := Fr.snoc X6 N0 g_pa
    have K10 := K0.wr W6 (own_mI 0 rfl)
    refine Sg 54 30 X6 B 36 rfl ?_
    refine own_st (fun t k => XS.iinc X6.here hx rfl (B.d 19 rfl) rfl (l' := #[sR pa, sI 2, sI 4, sI 1, sI 3, sI (g 3)]) rfl k) ?_
    refine SiN X6 B 20 rfl rfl ?_
    refine SiN X6 B 21 rfl rfl ?_
    refine Scy 35 57 X6 B 22 rfl (tlt (by decide : ((1 : Int32) < (2 : Int32)))).1 ?_
    refine SaN X6 B 37 rfl rfl rfl ?_
    refine SiN X6 B 38 rfl rfl ?_
    refine Sc 1 X6 B 39 rfl rfl ?_
    refine own_st (fun t k => XS.iadd X6.here hx rfl (B.d 40 rfl) rfl k) ?_
    refine Si X6 B 41 rfl rfl ?_
    refine Kis 2 X6 B hZ e6 f7 ⟨by decide, by decide⟩ rfl 42 rfl fun T11 h11 X11 e11 W11 f12 => ?_
    have N13 := Fr.snoc X11 N8 g_pa
    have K15 := K10.wr W11 (own_mI 0 rfl)
    refine Sg 64 3 X11 B 43 rfl ?_
    refine own_st (fun t k => XS.iinc X11.here hx rfl (B.d 2 rfl) rfl (l' := #[sR pa, sI 2, sI 4, sI 1, sI 4, sI (g 3)]) rfl k) ?_
    show own_Go _ _ _ _ T11 (mkF m 6 _ [])
    show own_Go _ _ _ _ T11 (mkF m 6 _ [])
    refine Si X11 B 3 rfl rfl ?_
    refine SiN X11 B 4 rfl rfl ?_
    refine Scy 9 67 X11 B 5 rfl (flt (by decide : ¬ ((4 : Int32) < (4 : Int32)))).2.1 ?_
    refine own_oV X11 B Bd 44 rfl hPq ?_
    rw [e11]
    exact ⟨(own_updI (own_updI g 3 (g 2)) 2 (g 3)), rfl, N13, K15, f12, (if_pos c3).symm⟩
  · skip
    refine Scy 27 64 X0 B 18 rfl (flt c3).2.1 ?_
    refine Sg 64 3 X0 B 43 rfl ?_
    refine own_st (fun t k => XS.iinc X0.here hx rfl (B.d 2 rfl) rfl (l' := #[sR pa, sI 2, sI 4, sI 3, sI 4, sI (g 3)]) rfl k) ?_
    show own_Go _ _ _ _ s₁ (mkF m 6 _ [])
    show own_Go _ _ _ _ s₁ (mkF m 6 _ [])
    refine Si X0 B 3 rfl rfl ?_
    refine SiN X0 B 4 rfl rfl ?_
    refine Scy 9 67 X0 B 5 rfl (flt (by decide : ¬ ((4 : Int32) < (4 : Int32)))).2.1 ?_
    refine own_oV X0 B Bd 44 rfl hPq ?_
    rw [e0]
    exact ⟨g, rfl, N0, K0, F0, (if_neg c3).symm⟩
theorem own_ef37 (m : MethodId) (pa : Addr) : entryFrame m #[.null, .ref pa, .int 0, .int 2, .int 4] 21 = mkF m 0 #[.val .null, sR pa, sI 0, sI 2, sI 4, sU, sU, sU, sU, sU, sU, sU, sU, sU, sU, sU, sU, sU, sU, sU, sU] [] := by first | (simp [entryFrame, mkF, argsToLocals, Value.category]; done) | rfl
def Q37 (Z : State) (pa : Addr) (kp : ClassId) (g : Nat → Int32) (h0 : Heap) (n0 : Nat) (v : Option Value) (h : Heap) (L : List Loc) : Prop := ∃ (g2 : Nat → Int32), v = none ∧ Fr n0 L ∧ Keep h0 h [pa] ∧ own_AI Z h pa kp 4 g2 ∧ g2 = own_s2 2 g
set_option maxRecDepth 65536 in
set_option maxHeartbeats 4000000 in
theorem rm37 {l : Launch} {Z : State} {a0 : Array Value} (hw : own_T a0 Z) (pa : Addr) (kp : ClassId) (g : Nat → Int32) (h0 : Heap) (n0 : Nat) (Z0 : n0 ≤ h0.size) (F0 : own_AI Z h0 pa kp 4 g) (g_pa : n0 ≤ pa) :
    own_M l Z ym29 jdk_2529_method_4_code 21 none ⟨1, 0, 0, 17⟩ #[.null, .ref pa, .int 0, .int 2, .int 4] h0 (Q37 Z pa kp g h0 n0) := by
  refine own_open kDQ #[.val .null, sR pa, sI 0, sI 2, sI 4, sU, sU, sU, sU, sU, sU, sU, sU, sU, sU, sU, sU, sU, sU, sU, sU] (plainFor_of_name own_pn28) DL29 rfl (fun m => own_ef37 m pa) fun p e s m below meth c s₁ Bd B hZ hown X0 e0 Pq hPq => ?_
  have hx := B.x
  have N0 := Fr.nil n0
  have K0 : Keep h0 h0 [pa] := Keep.refl _ _
  refine Si X0 B 0 rfl rfl ?_
  refine Sc 1 X0 B 1 rfl rfl ?_
  refine own_st (fun t k => XS.isub X0.here hx rfl (B.d 2 rfl) rfl k) ?_
  refine Sis #[.val .null, sR pa, sI 0, sI 2, sI 4, sI 3, sU, sU, sU, sU, sU, sU, sU, sU, sU, sU, sU, sU, sU, sU, sU] X0 B 3 rfl rfl ?_
  refine Si X0 B 4 rfl rfl ?_
  refine SiN X0 B 5 rfl rfl ?_
  refine own_st (fun t k => XS.isub X0.here hx rfl (B.d 6 rfl) rfl k) ?_
  refine Sis #[.val .null, sR pa, sI 0, sI 2, sI 4, sI 3, sI 2, sU, sU, sU, sU, sU, sU, sU, sU, sU, sU, sU, sU, sU, sU] X0 B 7 rfl rfl ?_
  refine Si X0 B 8 rfl rfl ?_
  refine own_st (fun t k => XS.bipush X0.here hx rfl (B.d 9 rfl) k) ?_
  refine SiN X0 B 10 rfl rfl ?_
  refine own_st (fun t k => XS.iadd X0.here hx rfl (B.d 11 rfl) rfl k) ?_
  refine Scn X0 B 12 rfl (tlt (by decide : ((2 : Int32) < (65 : Int32)))).2.1 ?_
  refine SiN X0 B 13 rfl rfl ?_
  refine Sc 1 X0 B 14 rfl rfl ?_
  refine own_st (fun t k => XS.iand X0.here hx rfl (B.d 15 rfl) rfl k) ?_
  show own_Go _ _ _ _ s₁ (mkF m 24 _ [.int 0])
  refine Sfy 24 46 X0 B 16 rfl ((if0 _ _).trans (flt (by decide : ¬ ((0 : Int32) < (0 : Int32)))).2.2.2) ?_
  refine Si X0 B 17 rfl rfl ?_
  refine own_st (fun t k => XS.bipush X0.here hx rfl (B.d 18 rfl) k) ?_
  refine Scn X0 B 19 rfl (tlt (by decide : ((2 : Int32) < (44 : Int32)))).2.1 ?_
  refine SaN X0 B 20 rfl rfl rfl ?_
  refine SiN X0 B 21 rfl rfl ?_
  refine Si X0 B 22 rfl rfl ?_
  refine Kst (wt := 0) (y := ym28) none X0 B hZ hown (hw 193 rfl) (hw 194 rfl) (hw 188 rfl) (hw 195 rfl) (rm36 hw pa kp g h0 n0 Z0 F0 g_pa) e0 own_pd___III_V 23 rfl rfl rfl (fun _ _ _ q => by obtain ⟨_, e, _⟩ := q; exact e) fun T1 Lc1 X1 hQ1 => ?_
  obtain ⟨r1_g2, -, NQ1, K1, fq1_0, hq1_0⟩ := hQ1
  have N2 := Fr.app N0 NQ1
  have K4 := K0.trans K1 (allS (own_mI 0 rfl) all0)
  show own_Go _ _ _ _ T1 (mkF m 60 _ [])
  refine own_oV X1 B Bd 24 rfl hPq ?_
  exact ⟨r1_g2, rfl, N2, K4, fq1_0, hq1_0⟩
theorem own_ef38 (m : MethodId) (pa : Addr) : entryFrame m #[.ref pa, .int 0, .int 2, .int 4] 7 = mkF m 0 #[sR pa, sI 0, sI 2, sI 4, sU, sU, sU] [] := by first | (simp [entryFrame, mkF, argsToLocals, Value.category]; done) | rfl
def Q38 (Z : State) (pa : Addr) (kp : ClassId) (g : Nat → Int32) (h0 : Heap) (n0 : Nat) (v : Option Value) (h : Heap) (L : List Loc) : Prop := ∃ (g2 : Nat → Int32), v = none ∧ Fr n0 L ∧ Keep h0 h [pa] ∧ own_AI Z h pa kp 4 g2 ∧ g2 = own_s2 2 g
set_option maxRecDepth 65536 in
set_option maxHeartbeats 4000000 in
theorem rm38 {l : Launch} {Z : State} {a0 : Array Value} (hw : own_T a0 Z) (pa : Addr) (kp : ClassId) (g : Nat → Int32) (h0 : Heap) (n0 : Nat) (Z0 : n0 ≤ h0.size) (F0 : own_AI Z h0 pa kp 4 g) (g_pa : n0 ≤ pa) :
    own_M l Z ym30 jdk_2529_method_3_code 7 none ⟨2, 0, 0, 49⟩ #[.ref pa, .int 0, .int 2, .int 4] h0 (Q38 Z pa kp g h0 n0) := by
  refine own_open kDQ #[sR pa, sI 0, sI 2, sI 4, sU, sU, sU] (plainFor_of_name own_pn28) DL30 rfl (fun m => own_ef38 m pa) fun p e s m below meth c s₁ Bd B hZ hown X0 e0 Pq hPq => ?_
  have hx := B.x
  have N0 := Fr.nil n0
  have K0 : Keep h0 h0 [pa] := Keep.refl _ _
  refine SiN X0 B 0 rfl rfl ?_
  refine SiN X0 B 1 rfl rfl ?_
  refine own_st (fun t k => XS.isub X0.here hx rfl (B.d 2 rfl) rfl k) ?_
  refine Sis #[sR pa, sI 0, sI 2, sI 4, sI 2, sU, sU] X0 B 3 rfl rfl ?_
  refine SiN X0 B 4 rfl rfl ?_
  refine Sc 1 X0 B 5 rfl rfl ?_
  refine Scy 7 68 X0 B 6 rfl (flt (by decide : ¬ ((1 : Int32) < (0 : Int32)))).2.2.2 ?_
  refine own_st (fun t k => XS.aconstNull X0.here hx rfl (B.d 7 rfl) k) ?_
  refine SaN X0 B 8 rfl rfl rfl ?_
  refine Sc 0 X0 B 9 rfl rfl ?_
  refine SiN X0 B 10 rfl rfl ?_
  refine SiN X0 B 11 rfl rfl ?_
  refine Kst (wt := 0) (y := ym29) none X0 B hZ hown (hw 190 rfl) (hw 191 rfl) (hw 188 rfl) (hw 192 rfl) (rm37 hw pa kp g h0 n0 Z0 F0 g_pa) e0 own_pd__Ljava_util_DualPivotQuicksort_Sorter__IIII_V 12 rfl rfl rfl (fun _ _ _ q => by obtain ⟨_, e, _⟩ := q; exact e) fun T1 Lc1 X1 hQ1 => ?_
  obtain ⟨r1_g2, -, NQ1, K1, fq1_0, hq1_0⟩ := hQ1
  have N2 := Fr.app N0 NQ1
  have K4 := K0.trans K1 (allS (own_mI 0 rfl) all0)
  show own_Go _ _ _ _ T1 (mkF m 76 _ [])
  refine own_oV X1 B Bd 13 rfl hPq ?_
  exact ⟨r1_g2, rfl, N2, K4, fq1_0, hq1_0⟩
theorem own_ef39 (m : MethodId) (pa : Addr) : entryFrame m #[.ref pa, .int 2, .int 4] 3 = mkF m 0 #[sR pa, sI 2, sI 4] [] := by first | (simp [entryFrame, mkF, argsToLocals, Value.category]; done) | rfl
def Q39 (Z : State) (pa : Addr) (kp : ClassId) (g : Nat → Int32) (h0 : Heap) (n0 : Nat) (v : Option Value) (h : Heap) (L : List Loc) : Prop := ∃ (g2 : Nat → Int32), v = none ∧ Fr n0 L ∧ Keep h0 h [pa] ∧ own_AI Z h pa kp 4 g2 ∧ g2 = own_s2 2 g
set_option maxRecDepth 65536 in
set_option maxHeartbeats 4000000 in
theorem rm39 {l : Launch} {Z : State} {a0 : Array Value} (hw : own_T a0 Z) (pa : Addr) (kp : ClassId) (g : Nat → Int32) (h0 : Heap) (n0 : Nat) (Z0 : n0 ≤ h0.size) (F0 : own_AI Z h0 pa kp 4 g) (g_pa : n0 ≤ pa) :
    own_M l Z ym32 jdk_65_method_3_code 3 none ⟨3, 0, 0, 67⟩ #[.ref pa, .int 2, .int 4] h0 (Q39 Z pa kp g h0 n0) := by
  refine own_open "java/util/Arrays" #[sR pa, sI 2, sI 4] (plainFor_of_name own_pn27) DL32 rfl (fun m => own_ef39 m pa) fun p e s m below meth c s₁ Bd B hZ hown X0 e0 Pq hPq => ?_
  have hx := B.x
  have N0 := Fr.nil n0
  have K0 : Keep h0 h0 [pa] := Keep.refl _ _
  refine SaN X0 B 0 rfl rfl rfl ?_
  obtain ⟨c1, Ar1, q1, S1, N1, H1⟩ := id F0
  refine own_st (fun t k => X0.arraylength hx (by rw [e0]; exact Ar1.1) (State.isArrayOf_alike hZ.alike Ar1.2.1) (g := (mkF m 1 #[sR pa, sI 2, sI 4] [.ref pa])) rfl rfl (B.d 1 rfl) _ k) ?_
  rw [len_of S1 N1]
  show own_Go _ _ _ _ s₁ (mkF m 2 _ [.int 4])
  refine SiN X0 B 2 rfl rfl ?_
  refine SiN X0 B 3 rfl rfl ?_
  refine Kst (wt := 0) (y := ym27) none X0 B hZ hown (hw 231 rfl) (hw 232 rfl) (hw 184 rfl) (hw 233 rfl) (rm27 hw 4 2 4 h0 n0 Z0 (by decide) (by decide) (by decide)) e0 own_pd__III_V 4 rfl rfl rfl (fun _ _ _ q => q.1) fun T2 Lc2 X2 hQ2 => ?_
  obtain ⟨-, NQ2, eq2⟩ := hQ2
  have N3 := Fr.app N0 NQ2
  show own_Go _ _ _ _ T2 (mkF m 7 _ [])
  refine SaN X2 B 5 rfl rfl rfl ?_
  refine Sc 0 X2 B 6 rfl rfl ?_
  refine SiN X2 B 7 rfl rfl ?_
  refine SiN X2 B 8 rfl rfl ?_
  refine Kst (wt := 0) (y := ym30) none X2 B hZ hown (hw 186 rfl) (hw 187 rfl) (hw 188 rfl) (hw 189 rfl) (rm38 hw pa kp g h0 n0 Z0 F0 g_pa) eq2 own_pd___IIII_V 9 rfl rfl rfl (fun _ _ _ q => by obtain ⟨_, e, _⟩ := q; exact e) fun T4 Lc4 X4 hQ4 => ?_
  obtain ⟨r4_g2, -, NQ4, K4, fq4_0, hq4_0⟩ := hQ4
  have N5 := Fr.app N3 NQ4
  have K7 := K0.trans K4 (allS (own_mI 0 rfl) all0)
  show own_Go _ _ _ _ T4 (mkF m 14 _ [])
  refine own_oV X4 B Bd 10 rfl hPq ?_
  exact ⟨r4_g2, rfl, N5, K7, fq4_0, hq4_0⟩
theorem own_ef40 (m : MethodId) (pa : Addr) : entryFrame m #[.ref pa, .int 0, .int 3] 7 = mkF m 0 #[sR pa, sI 0, sI 3, sU, sU, sU, sU] [] := by first | (simp [entryFrame, mkF, argsToLocals, Value.category]; done) | rfl
def Q40 (Z : State) (pa : Addr) (kp : ClassId) (g : Nat → Int64) (h0 : Heap) (n0 : Nat) (v : Option Value) (h : Heap) (L : List Loc) : Prop := v = none ∧ Fr n0 L ∧ Keep h0 h [pa] ∧ own_AJ Z h pa kp (3 : Int32) g
set_option maxRecDepth 65536 in
set_option maxHeartbeats 4000000 in
theorem rm40 {l : Launch} {Z : State} {a0 : Array Value} (hw : own_T a0 Z) (pa : Addr) (kp : ClassId) (g : Nat → Int64) (h0 : Heap) (n0 : Nat) (Z0 : n0 ≤ h0.size) (F0 : own_AJ Z h0 pa kp (3 : Int32) g) (hy0 : ¬ (g 1) < (g 0)) (hy1 : ¬ (g 2) < (g 1)) (g_pa : n0 ≤ pa) :
    own_M l Z ym33 jdk_2529_method_15_code 7 none ⟨0, 0, 0, 0⟩ #[.ref pa, .int 0, .int 3] h0 (Q40 Z pa kp g h0 n0) := by
  refine own_open kDQ #[sR pa, sI 0, sI 3, sU, sU, sU, sU] (plainFor_of_name own_pn28) DL33 rfl (fun m => own_ef40 m pa) fun p e s m below meth c s₁ Bd B hZ hown X0 e0 Pq hPq => ?_
  have hx := B.x
  have N0 := Fr.nil n0
  have K0 : Keep h0 h0 [pa] := Keep.refl _ _
  refine SiN X0 B 0 rfl rfl ?_
  refine Sis #[sR pa, sI 0, sI 3, sU, sI 0, sU, sU] X0 B 1 rfl rfl ?_
  refine own_st (fun t k => XS.iinc X0.here hx rfl (B.d 2 rfl) rfl (l' := #[sR pa, sI 0, sI 3, sU, sI 1, sU, sU]) rfl k) ?_
  refine Si X0 B 3 rfl rfl ?_
  refine SiN X0 B 4 rfl rfl ?_
  refine Scn X0 B 5 rfl (tlt (by decide : ((1 : Int32) < (3 : Int32)))).2.1 ?_
  refine SaN X0 B 6 rfl rfl rfl ?_
  refine Si X0 B 7 rfl rfl ?_
  refine own_st (fun t k => XS.dup X0.here hx rfl (B.d 8 rfl) rfl rfl k) ?_
  refine SisN #[sR pa, sI 0, sI 3, sI 1, sI 1, sU, sU] X0 B 9 rfl rfl ?_
  refine Kjl 1 X0 B hZ e0 F0 ⟨by decide, by decide⟩ rfl 10 rfl ?_
  refine own_st (fun t k => XS.lstore X0.here hx rfl (B.d 11 rfl) rfl (l' := #[sR pa, sI 0, sI 3, sI 1, sI 1, sJ (g 1), .second]) rfl k) ?_
  refine own_st (fun t k => XS.lload X0.here hx rfl (B.d 12 rfl) rfl k) ?_
  show own_Go _ _ _ _ s₁ (mkF m 22 _ [(.long (g 1))])
  refine SaN X0 B 13 rfl rfl rfl ?_
  refine SiN X0 B 14 rfl rfl ?_
  refine Sc 1 X0 B 15 rfl rfl ?_
  refine own_st (fun t k => XS.isub X0.here hx rfl (B.d 16 rfl) rfl k) ?_
  refine Kjl 0 X0 B hZ e0 F0 ⟨by decide, by decide⟩ rfl 17 rfl ?_
  refine own_st (fun t k => XS.lcmp X0.here hx rfl (B.d 18 rfl) rfl k) ?_
  refine Sfy 28 66 X0 B 19 rfl (own_lcT (cd := .ge) hy0) ?_
  refine Sg 66 3 X0 B 45 rfl ?_
  refine own_st (fun t k => XS.iinc X0.here hx rfl (B.d 2 rfl) rfl (l' := #[sR pa, sI 0, sI 3, sI 1, sI 2, sJ (g 1), .second]) rfl k) ?_
  refine Si X0 B 3 rfl rfl ?_
  refine SiN X0 B 4 rfl rfl ?_
  refine Scn X0 B 5 rfl (tlt (by decide : ((2 : Int32) < (3 : Int32)))).2.1 ?_
  refine SaN X0 B 6 rfl rfl rfl ?_
  refine Si X0 B 7 rfl rfl ?_
  refine own_st (fun t k => XS.dup X0.here hx rfl (B.d 8 rfl) rfl rfl k) ?_
  show own_Go _ _ _ _ s₁ (mkF m 16 _ [.int 2, .int 2, .ref pa])
  refine SisN #[sR pa, sI 0, sI 3, sI 2, sI 2, sJ (g 1), .second] X0 B 9 rfl rfl ?_
  refine Kjl 2 X0 B hZ e0 F0 ⟨by decide, by decide⟩ rfl 10 rfl ?_
  refine own_st (fun t k => XS.lstore X0.here hx rfl (B.d 11 rfl) rfl (l' := #[sR pa, sI 0, sI 3, sI 2, sI 2, sJ (g 2), .second]) rfl k) ?_
  refine own_st (fun t k => XS.lload X0.here hx rfl (B.d 12 rfl) rfl k) ?_
  refine SaN X0 B 13 rfl rfl rfl ?_
  refine SiN X0 B 14 rfl rfl ?_
  refine Sc 1 X0 B 15 rfl rfl ?_
  refine own_st (fun t k => XS.isub X0.here hx rfl (B.d 16 rfl) rfl k) ?_
  refine Kjl 1 X0 B hZ e0 F0 ⟨by decide, by decide⟩ rfl 17 rfl ?_
  refine own_st (fun t k => XS.lcmp X0.here hx rfl (B.d 18 rfl) rfl k) ?_
  refine Sfy 28 66 X0 B 19 rfl (own_lcT (cd := .ge) hy1) ?_
  refine Sg 66 3 X0 B 45 rfl ?_
  refine own_st (fun t k => XS.iinc X0.here hx rfl (B.d 2 rfl) rfl (l' := #[sR pa, sI 0, sI 3, sI 2, sI 3, sJ (g 2), .second]) rfl k) ?_
  show own_Go _ _ _ _ s₁ (mkF m 6 _ [])
  show own_Go _ _ _ _ s₁ (mkF m 6 _ [])
  refine Si X0 B 3 rfl rfl ?_
  refine SiN X0 B 4 rfl rfl ?_
  refine Scy 9 69 X0 B 5 rfl (flt (by decide : ¬ ((3 : Int32) < (3 : Int32)))).2.1 ?_
  refine own_oV X0 B Bd 46 rfl hPq ?_
  rw [e0]
  exact ⟨rfl, N0, K0, F0⟩
theorem own_ef41 (m : MethodId) (pa : Addr) : entryFrame m #[.null, .ref pa, .int 0, .int 0, .int 3] 25 = mkF m 0 #[.val .null, sR pa, sI 0, sI 0, sI 3, sU, sU, sU, sU, sU, sU, sU, sU, sU, sU, sU, sU, sU, sU, sU, sU, sU, sU, sU, sU] [] := by first | (simp [entryFrame, mkF, argsToLocals, Value.category]; done) | rfl
def Q41 (Z : State) (pa : Addr) (kp : ClassId) (g : Nat → Int64) (h0 : Heap) (n0 : Nat) (v : Option Value) (h : Heap) (L : List Loc) : Prop := v = none ∧ Fr n0 L ∧ Keep h0 h [pa] ∧ own_AJ Z h pa kp (3 : Int32) g
set_option maxRecDepth 65536 in
set_option maxHeartbeats 4000000 in
theorem rm41 {l : Launch} {Z : State} {a0 : Array Value} (hw : own_T a0 Z) (pa : Addr) (kp : ClassId) (g : Nat → Int64) (h0 : Heap) (n0 : Nat) (Z0 : n0 ≤ h0.size) (F0 : own_AJ Z h0 pa kp (3 : Int32) g) (hy0 : ¬ (g 1) < (g 0)) (hy1 : ¬ (g 2) < (g 1)) (g_pa : n0 ≤ pa) :
    own_M l Z ym34 jdk_2529_method_13_code 25 none ⟨1, 0, 0, 18⟩ #[.null, .ref pa, .int 0, .int 0, .int 3] h0 (Q41 Z pa kp g h0 n0) := by
  refine own_open kDQ #[.val .null, sR pa, sI 0, sI 0, sI 3, sU, sU, sU, sU, sU, sU, sU, sU, sU, sU, sU, sU, sU, sU, sU, sU, sU, sU, sU, sU] (plainFor_of_name own_pn28) DL34 rfl (fun m => own_ef41 m pa) fun p e s m below meth c s₁ Bd B hZ hown X0 e0 Pq hPq => ?_
  have hx := B.x
  have N0 := Fr.nil n0
  have K0 : Keep h0 h0 [pa] := Keep.refl _ _
  refine Si X0 B 0 rfl rfl ?_
  refine Sc 1 X0 B 1 rfl rfl ?_
  refine own_st (fun t k => XS.isub X0.here hx rfl (B.d 2 rfl) rfl k) ?_
  refine Sis #[.val .null, sR pa, sI 0, sI 0, sI 3, sI 2, sU, sU, sU, sU, sU, sU, sU, sU, sU, sU, sU, sU, sU, sU, sU, sU, sU, sU, sU] X0 B 3 rfl rfl ?_
  refine Si X0 B 4 rfl rfl ?_
  refine SiN X0 B 5 rfl rfl ?_
  refine own_st (fun t k => XS.isub X0.here hx rfl (B.d 6 rfl) rfl k) ?_
  refine Sis #[.val .null, sR pa, sI 0, sI 0, sI 3, sI 2, sI 3, sU, sU, sU, sU, sU, sU, sU, sU, sU, sU, sU, sU, sU, sU, sU, sU, sU, sU] X0 B 7 rfl rfl ?_
  refine Si X0 B 8 rfl rfl ?_
  refine own_st (fun t k => XS.bipush X0.here hx rfl (B.d 9 rfl) k) ?_
  refine SiN X0 B 10 rfl rfl ?_
  refine own_st (fun t k => XS.iadd X0.here hx rfl (B.d 11 rfl) rfl k) ?_
  refine Scn X0 B 12 rfl (tlt (by decide : ((3 : Int32) < (65 : Int32)))).2.1 ?_
  refine SiN X0 B 13 rfl rfl ?_
  refine Sc 1 X0 B 14 rfl rfl ?_
  refine own_st (fun t k => XS.iand X0.here hx rfl (B.d 15 rfl) rfl k) ?_
  show own_Go _ _ _ _ s₁ (mkF m 24 _ [.int 0])
  refine Sfy 24 46 X0 B 16 rfl ((if0 _ _).trans (flt (by decide : ¬ ((0 : Int32) < (0 : Int32)))).2.2.2) ?_
  refine Si X0 B 17 rfl rfl ?_
  refine own_st (fun t k => XS.bipush X0.here hx rfl (B.d 18 rfl) k) ?_
  refine Scn X0 B 19 rfl (tlt (by decide : ((3 : Int32) < (44 : Int32)))).2.1 ?_
  refine SaN X0 B 20 rfl rfl rfl ?_
  refine SiN X0 B 21 rfl rfl ?_
  refine Si X0 B 22 rfl rfl ?_
  refine Kst (wt := 0) (y := ym33) none X0 B hZ hown (hw 240 rfl) (hw 241 rfl) (hw 188 rfl) (hw 242 rfl) (rm40 hw pa kp g h0 n0 Z0 F0 hy0 hy1 g_pa) e0 own_pd___JII_V 23 rfl rfl rfl (fun _ _ _ q => q.1) fun T1 Lc1 X1 hQ1 => ?_
  obtain ⟨-, NQ1, K1, fq1_0⟩ := hQ1
  have N2 := Fr.app N0 NQ1
  have K4 := K0.trans K1 (allS (own_mI 0 rfl) all0)
  show own_Go _ _ _ _ T1 (mkF m 60 _ [])
  refine own_oV X1 B Bd 24 rfl hPq ?_
  exact ⟨rfl, N2, K4, fq1_0⟩
theorem own_ef42 (m : MethodId) (pa : Addr) : entryFrame m #[.ref pa, .int 0, .int 0, .int 3] 7 = mkF m 0 #[sR pa, sI 0, sI 0, sI 3, sU, sU, sU] [] := by first | (simp [entryFrame, mkF, argsToLocals, Value.category]; done) | rfl
def Q42 (Z : State) (pa : Addr) (kp : ClassId) (g : Nat → Int64) (h0 : Heap) (n0 : Nat) (v : Option Value) (h : Heap) (L : List Loc) : Prop := v = none ∧ Fr n0 L ∧ Keep h0 h [pa] ∧ own_AJ Z h pa kp (3 : Int32) g
set_option maxRecDepth 65536 in
set_option maxHeartbeats 4000000 in
theorem rm42 {l : Launch} {Z : State} {a0 : Array Value} (hw : own_T a0 Z) (pa : Addr) (kp : ClassId) (g : Nat → Int64) (h0 : Heap) (n0 : Nat) (Z0 : n0 ≤ h0.size) (F0 : own_AJ Z h0 pa kp (3 : Int32) g) (hy0 : ¬ (g 1) < (g 0)) (hy1 : ¬ (g 2) < (g 1)) (g_pa : n0 ≤ pa) :
    own_M l Z ym35 jdk_2529_method_12_code 7 none ⟨2, 0, 0, 54⟩ #[.ref pa, .int 0, .int 0, .int 3] h0 (Q42 Z pa kp g h0 n0) := by
  refine own_open kDQ #[sR pa, sI 0, sI 0, sI 3, sU, sU, sU] (plainFor_of_name own_pn28) DL35 rfl (fun m => own_ef42 m pa) fun p e s m below meth c s₁ Bd B hZ hown X0 e0 Pq hPq => ?_
  have hx := B.x
  have N0 := Fr.nil n0
  have K0 : Keep h0 h0 [pa] := Keep.refl _ _
  refine SiN X0 B 0 rfl rfl ?_
  refine SiN X0 B 1 rfl rfl ?_
  refine own_st (fun t k => XS.isub X0.here hx rfl (B.d 2 rfl) rfl k) ?_
  refine Sis #[sR pa, sI 0, sI 0, sI 3, sI 3, sU, sU] X0 B 3 rfl rfl ?_
  refine SiN X0 B 4 rfl rfl ?_
  refine Sc 1 X0 B 5 rfl rfl ?_
  refine Scy 7 68 X0 B 6 rfl (flt (by decide : ¬ ((1 : Int32) < (0 : Int32)))).2.2.2 ?_
  refine own_st (fun t k => XS.aconstNull X0.here hx rfl (B.d 7 rfl) k) ?_
  refine SaN X0 B 8 rfl rfl rfl ?_
  refine Sc 0 X0 B 9 rfl rfl ?_
  refine SiN X0 B 10 rfl rfl ?_
  refine SiN X0 B 11 rfl rfl ?_
  refine Kst (wt := 0) (y := ym34) none X0 B hZ hown (hw 237 rfl) (hw 238 rfl) (hw 188 rfl) (hw 239 rfl) (rm41 hw pa kp g h0 n0 Z0 F0 hy0 hy1 g_pa) e0 own_pd__Ljava_util_DualPivotQuicksort_Sorter__JIII_V 12 rfl rfl rfl (fun _ _ _ q => q.1) fun T1 Lc1 X1 hQ1 => ?_
  obtain ⟨-, NQ1, K1, fq1_0⟩ := hQ1
  have N2 := Fr.app N0 NQ1
  have K4 := K0.trans K1 (allS (own_mI 0 rfl) all0)
  show own_Go _ _ _ _ T1 (mkF m 76 _ [])
  refine own_oV X1 B Bd 13 rfl hPq ?_
  exact ⟨rfl, N2, K4, fq1_0⟩
theorem own_ef43 (m : MethodId) (pa : Addr) : entryFrame m #[.ref pa, .int 0, .int 3] 3 = mkF m 0 #[sR pa, sI 0, sI 3] [] := by first | (simp [entryFrame, mkF, argsToLocals, Value.category]; done) | rfl
def Q43 (Z : State) (pa : Addr) (kp : ClassId) (g : Nat → Int64) (h0 : Heap) (n0 : Nat) (v : Option Value) (h : Heap) (L : List Loc) : Prop := v = none ∧ Fr n0 L ∧ Keep h0 h [pa] ∧ own_AJ Z h pa kp (3 : Int32) g
set_option maxRecDepth 65536 in
set_option maxHeartbeats 4000000 in
theorem rm43 {l : Launch} {Z : State} {a0 : Array Value} (hw : own_T a0 Z) (pa : Addr) (kp : ClassId) (g : Nat → Int64) (h0 : Heap) (n0 : Nat) (Z0 : n0 ≤ h0.size) (F0 : own_AJ Z h0 pa kp (3 : Int32) g) (hy0 : ¬ (g 1) < (g 0)) (hy1 : ¬ (g 2) < (g 1)) (g_pa : n0 ≤ pa) :
    own_M l Z ym36 jdk_65_method_5_code 3 none ⟨3, 0, 0, 72⟩ #[.ref pa, .int 0, .int 3] h0 (Q43 Z pa kp g h0 n0) := by
  refine own_open "java/util/Arrays" #[sR pa, sI 0, sI 3] (plainFor_of_name own_pn27) DL36 rfl (fun m => own_ef43 m pa) fun p e s m below meth c s₁ Bd B hZ hown X0 e0 Pq hPq => ?_
  have hx := B.x
  have N0 := Fr.nil n0
  have K0 : Keep h0 h0 [pa] := Keep.refl _ _
  refine SaN X0 B 0 rfl rfl rfl ?_
  obtain ⟨c1, Ar1, q1, S1, N1, H1⟩ := id F0
  refine own_st (fun t k => X0.arraylength hx (by rw [e0]; exact Ar1.1) (State.isArrayOf_alike hZ.alike Ar1.2.1) (g := (mkF m 1 #[sR pa, sI 0, sI 3] [.ref pa])) rfl rfl (B.d 1 rfl) _ k) ?_
  rw [len_of S1 N1]
  show own_Go _ _ _ _ s₁ (mkF m 2 _ [.int 3])
  refine SiN X0 B 2 rfl rfl ?_
  refine SiN X0 B 3 rfl rfl ?_
  refine Kst (wt := 0) (y := ym27) none X0 B hZ hown (hw 231 rfl) (hw 232 rfl) (hw 184 rfl) (hw 233 rfl) (rm27 hw 3 0 3 h0 n0 Z0 (by decide) (by decide) (by decide)) e0 own_pd__III_V 4 rfl rfl rfl (fun _ _ _ q => q.1) fun T2 Lc2 X2 hQ2 => ?_
  obtain ⟨-, NQ2, eq2⟩ := hQ2
  have N3 := Fr.app N0 NQ2
  show own_Go _ _ _ _ T2 (mkF m 7 _ [])
  refine SaN X2 B 5 rfl rfl rfl ?_
  refine Sc 0 X2 B 6 rfl rfl ?_
  refine SiN X2 B 7 rfl rfl ?_
  refine SiN X2 B 8 rfl rfl ?_
  refine Kst (wt := 0) (y := ym35) none X2 B hZ hown (hw 234 rfl) (hw 235 rfl) (hw 188 rfl) (hw 236 rfl) (rm42 hw pa kp g h0 n0 Z0 F0 hy0 hy1 g_pa) eq2 own_pd___JIII_V 9 rfl rfl rfl (fun _ _ _ q => q.1) fun T4 Lc4 X4 hQ4 => ?_
  obtain ⟨-, NQ4, K4, fq4_0⟩ := hQ4
  have N5 := Fr.app N3 NQ4
  have K7 := K0.trans K4 (allS (own_mI 0 rfl) all0)
  show own_Go _ _ _ _ T4 (mkF m 14 _ [])
  refine own_oV X4 B Bd 10 rfl hPq ?_
  exact ⟨rfl, N5, K7, fq4_0⟩
theorem own_ef44 (m : MethodId) (pa : Addr) : entryFrame m #[.ref pa, .int 0, .int 3] 7 = mkF m 0 #[sR pa, sI 0, sI 3, sU, sU, sU, sU] [] := by first | (simp [entryFrame, mkF, argsToLocals, Value.category]; done) | rfl
def Q44 (Z : State) (pa : Addr) (kp : ClassId) (g : Nat → Int64) (h0 : Heap) (n0 : Nat) (v : Option Value) (h : Heap) (L : List Loc) : Prop := v = none ∧ Fr n0 L ∧ Keep h0 h [pa] ∧ own_AJ Z h pa kp (3 : Int32) (own_updJ (own_updJ g 1 (g 0)) 0 (g 1))
set_option maxRecDepth 65536 in
set_option maxHeartbeats 4000000 in
theorem rm44 {l : Launch} {Z : State} {a0 : Array Value} (hw : own_T a0 Z) (pa : Addr) (kp : ClassId) (g : Nat → Int64) (h0 : Heap) (n0 : Nat) (Z0 : n0 ≤ h0.size) (F0 : own_AJ Z h0 pa kp (3 : Int32) g) (hy0 : (g 1) < (g 0)) (hy1 : ¬ (g 2) < (g 0)) (g_pa : n0 ≤ pa) :
    own_M l Z ym33 jdk_2529_method_15_code 7 none ⟨0, 0, 0, 0⟩ #[.ref pa, .int 0, .int 3] h0 (Q44 Z pa kp g h0 n0) := by
  refine own_open kDQ #[sR pa, sI 0, sI 3, sU, sU, sU, sU] (plainFor_of_name own_pn28) DL33 rfl (fun m => own_ef44 m pa) fun p e s m below meth c s₁ Bd B hZ hown X0 e0 Pq hPq => ?_
  have hx := B.x
  have N0 := Fr.nil n0
  have K0 : Keep h0 h0 [pa] := Keep.refl _ _
  refine SiN X0 B 0 rfl rfl ?_
  refine Sis #[sR pa, sI 0, sI 3, sU, sI 0, sU, sU] X0 B 1 rfl rfl ?_
  refine own_st (fun t k => XS.iinc X0.here hx rfl (B.d 2 rfl) rfl (l' := #[sR pa, sI 0, sI 3, sU, sI 1, sU, sU]) rfl k) ?_
  refine Si X0 B 3 rfl rfl ?_
  refine SiN X0 B 4 rfl rfl ?_
  refine Scn X0 B 5 rfl (tlt (by decide : ((1 : Int32) < (3 : Int32)))).2.1 ?_
  refine SaN X0 B 6 rfl rfl rfl ?_
  refine Si X0 B 7 rfl rfl ?_
  refine own_st (fun t k => XS.dup X0.here hx rfl (B.d 8 rfl) rfl rfl k) ?_
  refine SisN #[sR pa, sI 0, sI 3, sI 1, sI 1, sU, sU] X0 B 9 rfl rfl ?_
  refine Kjl 1 X0 B hZ e0 F0 ⟨by decide, by decide⟩ rfl 10 rfl ?_
  refine own_st (fun t k => XS.lstore X0.here hx rfl (B.d 11 rfl) rfl (l' := #[sR pa, sI 0, sI 3, sI 1, sI 1, sJ (g 1), .second]) rfl k) ?_
  refine own_st (fun t k => XS.lload X0.here hx rfl (B.d 12 rfl) rfl k) ?_
  show own_Go _ _ _ _ s₁ (mkF m 22 _ [(.long (g 1))])
  refine SaN X0 B 13 rfl rfl rfl ?_
  refine SiN X0 B 14 rfl rfl ?_
  refine Sc 1 X0 B 15 rfl rfl ?_
  refine own_st (fun t k => XS.isub X0.here hx rfl (B.d 16 rfl) rfl k) ?_
  refine Kjl 0 X0 B hZ e0 F0 ⟨by decide, by decide⟩ rfl 17 rfl ?_
  refine own_st (fun t k => XS.lcmp X0.here hx rfl (B.d 18 rfl) rfl k) ?_
  refine Sfn X0 B 19 rfl (own_lcF (cd := .ge) (not_not_intro hy0)) ?_
  refine own_st (fun t k => XS.iinc X0.here hx rfl (B.d 20 rfl) rfl (l' := #[sR pa, sI 0, sI 3, sI 0, sI 1, sJ (g 1), .second]) rfl k) ?_
  refine SiN X0 B 21 rfl rfl ?_
  refine SiN X0 B 22 rfl rfl ?_
  refine Scn X0 B 23 rfl (flt (by decide : ¬ ((0 : Int32) < (0 : Int32)))).1 ?_
  refine own_st (fun t k => XS.lload X0.here hx rfl (B.d 24 rfl) rfl k) ?_
  show own_Go _ _ _ _ s₁ (mkF m 41 _ [(.long (g 1))])
  refine SaN X0 B 25 rfl rfl rfl ?_
  refine SiN X0 B 26 rfl rfl ?_
  refine Kjl 0 X0 B hZ e0 F0 ⟨by decide, by decide⟩ rfl 27 rfl ?_
  refine own_st (fun t k => XS.lcmp X0.here hx rfl (B.d 28 rfl) rfl k) ?_
  refine Sfn X0 B 29 rfl (own_lcF (cd := .ge) (not_not_intro hy0)) ?_
  refine SaN X0 B 30 rfl rfl rfl ?_
  refine SiN X0 B 31 rfl rfl ?_
  refine Sc 1 X0 B 32 rfl rfl ?_
  refine own_st (fun t k => XS.iadd X0.here hx rfl (B.d 33 rfl) rfl k) ?_
  refine SaN X0 B 34 rfl rfl rfl ?_
  refine SiN X0 B 35 rfl rfl ?_
  refine Kjl 0 X0 B hZ e0 F0 ⟨by decide, by decide⟩ rfl 36 rfl ?_
  refine Kjs 1 X0 B hZ e0 F0 ⟨by decide, by decide⟩ rfl 37 rfl fun T5 h5 X5 e5 W5 f6 => ?_
  have N7 := Fr.snoc X5 N0 g_pa
  have K9 := K0.wr W5 (own_mI 0 rfl)
  refine Sg 56 31 X5 B 38 rfl ?_
  refine own_st (fun t k => XS.iinc X5.here hx rfl (B.d 20 rfl) rfl (l' := #[sR pa, sI 0, sI 3, sI (-1), sI 1, sJ (g 1), .second]) rfl k) ?_
  refine SiN X5 B 21 rfl rfl ?_
  refine SiN X5 B 22 rfl rfl ?_
  refine Scy 36 59 X5 B 23 rfl (tlt (by decide : ((-1 : Int32) < (0 : Int32)))).1 ?_
  refine SaN X5 B 39 rfl rfl rfl ?_
  refine SiN X5 B 40 rfl rfl ?_
  refine Sc 1 X5 B 41 rfl rfl ?_
  refine own_st (fun t k => XS.iadd X5.here hx rfl (B.d 42 rfl) rfl k) ?_
  show own_Go _ _ _ _ T5 (mkF m 63 _ [.int 0, .ref pa])
  refine own_st (fun t k => XS.lload X5.here hx rfl (B.d 43 rfl) rfl k) ?_
  refine Kjs 0 X5 B hZ e5 f6 ⟨by decide, by decide⟩ rfl 44 rfl fun T10 h10 X10 e10 W10 f11 => ?_
  have N12 := Fr.snoc X10 N7 g_pa
  have K14 := K9.wr W10 (own_mI 0 rfl)
  refine Sg 66 3 X10 B 45 rfl ?_
  refine own_st (fun t k => XS.iinc X10.here hx rfl (B.d 2 rfl) rfl (l' := #[sR pa, sI 0, sI 3, sI (-1), sI 2, sJ (g 1), .second]) rfl k) ?_
  refine Si X10 B 3 rfl rfl ?_
  refine SiN X10 B 4 rfl rfl ?_
  refine Scn X10 B 5 rfl (tlt (by decide : ((2 : Int32) < (3 : Int32)))).2.1 ?_
  refine SaN X10 B 6 rfl rfl rfl ?_
  refine Si X10 B 7 rfl rfl ?_
  refine own_st (fun t k => XS.dup X10.here hx rfl (B.d 8 rfl) rfl rfl k) ?_
  refine SisN #[sR pa, sI 0, sI 3, sI 2, sI 2, sJ (g 1), .second] X10 B 9 rfl rfl ?_
  refine Kjl 2 X10 B hZ e10 f11 ⟨by decide, by decide⟩ rfl 10 rfl ?_
  show own_Go _ _ _ _ T10 (mkF m 18 _ [(.long (g 2))])
  refine own_st (fun t k => XS.lstore X10.here hx rfl (B.d 11 rfl) rfl (l' := #[sR pa, sI 0, sI 3, sI 2, sI 2, sJ (g 2), .second]) rfl k) ?_
  refine own_st (fun t k => XS.lload X10.here hx rfl (B.d 12 rfl) rfl k) ?_
  refine SaN X10 B 13 rfl rfl rfl ?_
  refine SiN X10 B 14 rfl rfl ?_
  refine Sc 1 X10 B 15 rfl rfl ?_
  refine own_st (fun t k => XS.isub X10.here hx rfl (B.d 16 rfl) rfl k) ?_
  refine Kjl 1 X10 B hZ e10 f11 ⟨by decide, by decide⟩ rfl 17 rfl ?_
  show own_Go _ _ _ _ T10 (mkF m 27 _ [(.long (g 0)), (.long (g 2))])
  refine own_st (fun t k => XS.lcmp X10.here hx rfl (B.d 18 rfl) rfl k) ?_
  refine Sfy 28 66 X10 B 19 rfl (own_lcT (cd := .ge) hy1) ?_
  refine Sg 66 3 X10 B 45 rfl ?_
  refine own_st (fun t k => XS.iinc X10.here hx rfl (B.d 2 rfl) rfl (l' := #[sR pa, sI 0, sI 3, sI 2, sI 3, sJ (g 2), .second]) rfl k) ?_
  refine Si X10 B 3 rfl rfl ?_
  refine SiN X10 B 4 rfl rfl ?_
  refine Scy 9 69 X10 B 5 rfl (flt (by decide : ¬ ((3 : Int32) < (3 : Int32)))).2.1 ?_
  refine own_oV X10 B Bd 46 rfl hPq ?_
  rw [e10]
  exact ⟨rfl, N12, K14, f11⟩
theorem own_ef45 (m : MethodId) (pa : Addr) : entryFrame m #[.null, .ref pa, .int 0, .int 0, .int 3] 25 = mkF m 0 #[.val .null, sR pa, sI 0, sI 0, sI 3, sU, sU, sU, sU, sU, sU, sU, sU, sU, sU, sU, sU, sU, sU, sU, sU, sU, sU, sU, sU] [] := by first | (simp [entryFrame, mkF, argsToLocals, Value.category]; done) | rfl
def Q45 (Z : State) (pa : Addr) (kp : ClassId) (g : Nat → Int64) (h0 : Heap) (n0 : Nat) (v : Option Value) (h : Heap) (L : List Loc) : Prop := v = none ∧ Fr n0 L ∧ Keep h0 h [pa] ∧ own_AJ Z h pa kp (3 : Int32) (own_updJ (own_updJ g 1 (g 0)) 0 (g 1))
set_option maxRecDepth 65536 in
set_option maxHeartbeats 4000000 in
theorem rm45 {l : Launch} {Z : State} {a0 : Array Value} (hw : own_T a0 Z) (pa : Addr) (kp : ClassId) (g : Nat → Int64) (h0 : Heap) (n0 : Nat) (Z0 : n0 ≤ h0.size) (F0 : own_AJ Z h0 pa kp (3 : Int32) g) (hy0 : (g 1) < (g 0)) (hy1 : ¬ (g 2) < (g 0)) (g_pa : n0 ≤ pa) :
    own_M l Z ym34 jdk_2529_method_13_code 25 none ⟨1, 0, 0, 18⟩ #[.null, .ref pa, .int 0, .int 0, .int 3] h0 (Q45 Z pa kp g h0 n0) := by
  refine own_open kDQ #[.val .null, sR pa, sI 0, sI 0, sI 3, sU, sU, sU, sU, sU, sU, sU, sU, sU, sU, sU, sU, sU, sU, sU, sU, sU, sU, sU, sU] (plainFor_of_name own_pn28) DL34 rfl (fun m => own_ef45 m pa) fun p e s m below meth c s₁ Bd B hZ hown X0 e0 Pq hPq => ?_
  have hx := B.x
  have N0 := Fr.nil n0
  have K0 : Keep h0 h0 [pa] := Keep.refl _ _
  refine Si X0 B 0 rfl rfl ?_
  refine Sc 1 X0 B 1 rfl rfl ?_
  refine own_st (fun t k => XS.isub X0.here hx rfl (B.d 2 rfl) rfl k) ?_
  refine Sis #[.val .null, sR pa, sI 0, sI 0, sI 3, sI 2, sU, sU, sU, sU, sU, sU, sU, sU, sU, sU, sU, sU, sU, sU, sU, sU, sU, sU, sU] X0 B 3 rfl rfl ?_
  refine Si X0 B 4 rfl rfl ?_
  refine SiN X0 B 5 rfl rfl ?_
  refine own_st (fun t k => XS.isub X0.here hx rfl (B.d 6 rfl) rfl k) ?_
  refine Sis #[.val .null, sR pa, sI 0, sI 0, sI 3, sI 2, sI 3, sU, sU, sU, sU, sU, sU, sU, sU, sU, sU, sU, sU, sU, sU, sU, sU, sU, sU] X0 B 7 rfl rfl ?_
  refine Si X0 B 8 rfl rfl ?_
  refine own_st (fun t k => XS.bipush X0.here hx rfl (B.d 9 rfl) k) ?_
  refine SiN X0 B 10 rfl rfl ?_
  refine own_st (fun t k => XS.iadd X0.here hx rfl (B.d 11 rfl) rfl k) ?_
  refine Scn X0 B 12 rfl (tlt (by decide : ((3 : Int32) < (65 : Int32)))).2.1 ?_
  refine SiN X0 B 13 rfl rfl ?_
  refine Sc 1 X0 B 14 rfl rfl ?_
  refine own_st (fun t k => XS.iand X0.here hx rfl (B.d 15 rfl) rfl k) ?_
  show own_Go _ _ _ _ s₁ (mkF m 24 _ [.int 0])
  refine Sfy 24 46 X0 B 16 rfl ((if0 _ _).trans (flt (by decide : ¬ ((0 : Int32) < (0 : Int32)))).2.2.2) ?_
  refine Si X0 B 17 rfl rfl ?_
  refine own_st (fun t k => XS.bipush X0.here hx rfl (B.d 18 rfl) k) ?_
  refine Scn X0 B 19 rfl (tlt (by decide : ((3 : Int32) < (44 : Int32)))).2.1 ?_
  refine SaN X0 B 20 rfl rfl rfl ?_
  refine SiN X0 B 21 rfl rfl ?_
  refine Si X0 B 22 rfl rfl ?_
  refine Kst (wt := 0) (y := ym33) none X0 B hZ hown (hw 240 rfl) (hw 241 rfl) (hw 188 rfl) (hw 242 rfl) (rm44 hw pa kp g h0 n0 Z0 F0 hy0 hy1 g_pa) e0 own_pd___JII_V 23 rfl rfl rfl (fun _ _ _ q => q.1) fun T1 Lc1 X1 hQ1 => ?_
  obtain ⟨-, NQ1, K1, fq1_0⟩ := hQ1
  have N2 := Fr.app N0 NQ1
  have K4 := K0.trans K1 (allS (own_mI 0 rfl) all0)
  show own_Go _ _ _ _ T1 (mkF m 60 _ [])
  refine own_oV X1 B Bd 24 rfl hPq ?_
  exact ⟨rfl, N2, K4, fq1_0⟩
theorem own_ef46 (m : MethodId) (pa : Addr) : entryFrame m #[.ref pa, .int 0, .int 0, .int 3] 7 = mkF m 0 #[sR pa, sI 0, sI 0, sI 3, sU, sU, sU] [] := by first | (simp [entryFrame, mkF, argsToLocals, Value.category]; done) | rfl
def Q46 (Z : State) (pa : Addr) (kp : ClassId) (g : Nat → Int64) (h0 : Heap) (n0 : Nat) (v : Option Value) (h : Heap) (L : List Loc) : Prop := v = none ∧ Fr n0 L ∧ Keep h0 h [pa] ∧ own_AJ Z h pa kp (3 : Int32) (own_updJ (own_updJ g 1 (g 0)) 0 (g 1))
set_option maxRecDepth 65536 in
set_option maxHeartbeats 4000000 in
theorem rm46 {l : Launch} {Z : State} {a0 : Array Value} (hw : own_T a0 Z) (pa : Addr) (kp : ClassId) (g : Nat → Int64) (h0 : Heap) (n0 : Nat) (Z0 : n0 ≤ h0.size) (F0 : own_AJ Z h0 pa kp (3 : Int32) g) (hy0 : (g 1) < (g 0)) (hy1 : ¬ (g 2) < (g 0)) (g_pa : n0 ≤ pa) :
    own_M l Z ym35 jdk_2529_method_12_code 7 none ⟨2, 0, 0, 54⟩ #[.ref pa, .int 0, .int 0, .int 3] h0 (Q46 Z pa kp g h0 n0) := by
  refine own_open kDQ #[sR pa, sI 0, sI 0, sI 3, sU, sU, sU] (plainFor_of_name own_pn28) DL35 rfl (fun m => own_ef46 m pa) fun p e s m below meth c s₁ Bd B hZ hown X0 e0 Pq hPq => ?_
  have hx := B.x
  have N0 := Fr.nil n0
  have K0 : Keep h0 h0 [pa] := Keep.refl _ _
  refine SiN X0 B 0 rfl rfl ?_
  refine SiN X0 B 1 rfl rfl ?_
  refine own_st (fun t k => XS.isub X0.here hx rfl (B.d 2 rfl) rfl k) ?_
  refine Sis #[sR pa, sI 0, sI 0, sI 3, sI 3, sU, sU] X0 B 3 rfl rfl ?_
  refine SiN X0 B 4 rfl rfl ?_
  refine Sc 1 X0 B 5 rfl rfl ?_
  refine Scy 7 68 X0 B 6 rfl (flt (by decide : ¬ ((1 : Int32) < (0 : Int32)))).2.2.2 ?_
  refine own_st (fun t k => XS.aconstNull X0.here hx rfl (B.d 7 rfl) k) ?_
  refine SaN X0 B 8 rfl rfl rfl ?_
  refine Sc 0 X0 B 9 rfl rfl ?_
  refine SiN X0 B 10 rfl rfl ?_
  refine SiN X0 B 11 rfl rfl ?_
  refine Kst (wt := 0) (y := ym34) none X0 B hZ hown (hw 237 rfl) (hw 238 rfl) (hw 188 rfl) (hw 239 rfl) (rm45 hw pa kp g h0 n0 Z0 F0 hy0 hy1 g_pa) e0 own_pd__Ljava_util_DualPivotQuicksort_Sorter__JIII_V 12 rfl rfl rfl (fun _ _ _ q => q.1) fun T1 Lc1 X1 hQ1 => ?_
  obtain ⟨-, NQ1, K1, fq1_0⟩ := hQ1
  have N2 := Fr.app N0 NQ1
  have K4 := K0.trans K1 (allS (own_mI 0 rfl) all0)
  show own_Go _ _ _ _ T1 (mkF m 76 _ [])
  refine own_oV X1 B Bd 13 rfl hPq ?_
  exact ⟨rfl, N2, K4, fq1_0⟩
theorem own_ef47 (m : MethodId) (pa : Addr) : entryFrame m #[.ref pa, .int 0, .int 3] 3 = mkF m 0 #[sR pa, sI 0, sI 3] [] := by first | (simp [entryFrame, mkF, argsToLocals, Value.category]; done) | rfl
def Q47 (Z : State) (pa : Addr) (kp : ClassId) (g : Nat → Int64) (h0 : Heap) (n0 : Nat) (v : Option Value) (h : Heap) (L : List Loc) : Prop := v = none ∧ Fr n0 L ∧ Keep h0 h [pa] ∧ own_AJ Z h pa kp (3 : Int32) (own_updJ (own_updJ g 1 (g 0)) 0 (g 1))
set_option maxRecDepth 65536 in
set_option maxHeartbeats 4000000 in
theorem rm47 {l : Launch} {Z : State} {a0 : Array Value} (hw : own_T a0 Z) (pa : Addr) (kp : ClassId) (g : Nat → Int64) (h0 : Heap) (n0 : Nat) (Z0 : n0 ≤ h0.size) (F0 : own_AJ Z h0 pa kp (3 : Int32) g) (hy0 : (g 1) < (g 0)) (hy1 : ¬ (g 2) < (g 0)) (g_pa : n0 ≤ pa) :
    own_M l Z ym36 jdk_65_method_5_code 3 none ⟨3, 0, 0, 72⟩ #[.ref pa, .int 0, .int 3] h0 (Q47 Z pa kp g h0 n0) := by
  refine own_open "java/util/Arrays" #[sR pa, sI 0, sI 3] (plainFor_of_name own_pn27) DL36 rfl (fun m => own_ef47 m pa) fun p e s m below meth c s₁ Bd B hZ hown X0 e0 Pq hPq => ?_
  have hx := B.x
  have N0 := Fr.nil n0
  have K0 : Keep h0 h0 [pa] := Keep.refl _ _
  refine SaN X0 B 0 rfl rfl rfl ?_
  obtain ⟨c1, Ar1, q1, S1, N1, H1⟩ := id F0
  refine own_st (fun t k => X0.arraylength hx (by rw [e0]; exact Ar1.1) (State.isArrayOf_alike hZ.alike Ar1.2.1) (g := (mkF m 1 #[sR pa, sI 0, sI 3] [.ref pa])) rfl rfl (B.d 1 rfl) _ k) ?_
  rw [len_of S1 N1]
  show own_Go _ _ _ _ s₁ (mkF m 2 _ [.int 3])
  refine SiN X0 B 2 rfl rfl ?_
  refine SiN X0 B 3 rfl rfl ?_
  refine Kst (wt := 0) (y := ym27) none X0 B hZ hown (hw 231 rfl) (hw 232 rfl) (hw 184 rfl) (hw 233 rfl) (rm27 hw 3 0 3 h0 n0 Z0 (by decide) (by decide) (by decide)) e0 own_pd__III_V 4 rfl rfl rfl (fun _ _ _ q => q.1) fun T2 Lc2 X2 hQ2 => ?_
  obtain ⟨-, NQ2, eq2⟩ := hQ2
  have N3 := Fr.app N0 NQ2
  show own_Go _ _ _ _ T2 (mkF m 7 _ [])
  refine SaN X2 B 5 rfl rfl rfl ?_
  refine Sc 0 X2 B 6 rfl rfl ?_
  refine SiN X2 B 7 rfl rfl ?_
  refine SiN X2 B 8 rfl rfl ?_
  refine Kst (wt := 0) (y := ym35) none X2 B hZ hown (hw 234 rfl) (hw 235 rfl) (hw 188 rfl) (hw 236 rfl) (rm46 hw pa kp g h0 n0 Z0 F0 hy0 hy1 g_pa) eq2 own_pd___JIII_V 9 rfl rfl rfl (fun _ _ _ q => q.1) fun T4 Lc4 X4 hQ4 => ?_
  obtain ⟨-, NQ4, K4, fq4_0⟩ := hQ4
  have N5 := Fr.app N3 NQ4
  have K7 := K0.trans K4 (allS (own_mI 0 rfl) all0)
  show own_Go _ _ _ _ T4 (mkF m 14 _ [])
  refine own_oV X4 B Bd 10 rfl hPq ?_
  exact ⟨rfl, N5, K7, fq4_0⟩
def own_min (x0 x1 : Int32) : Int32 := (if x1 < x0 then x1 else x0)
theorem own_ef48 (m : MethodId) (x0 x1 : Int32) : entryFrame m #[.int x0, .int x1] 2 = mkF m 0 #[sI x0, sI x1] [] := by first | (simp [entryFrame, mkF, argsToLocals, Value.category]; done) | rfl
def Q48 (Z : State) (x0 x1 : Int32) (h0 : Heap) (n0 : Nat) (v : Option Value) (h : Heap) (L : List Loc) : Prop := v = some (.int (own_min x0 x1)) ∧ Fr n0 L ∧ h = h0
set_option maxRecDepth 65536 in
set_option maxHeartbeats 4000000 in
theorem rm48 {l : Launch} {Z : State} {a0 : Array Value} (hw : own_T a0 Z) (x0 x1 : Int32) (h0 : Heap) (n0 : Nat) (Z0 : n0 ≤ h0.size) :
    own_M l Z ym37 jdk_29_method_69_code 2 (some .int) ⟨0, 0, 0, 0⟩ #[.int x0, .int x1] h0 (Q48 Z x0 x1 h0 n0) := by
  refine own_open "java/lang/Math" #[sI x0, sI x1] (Jvm.Free.JP.mathPlain rfl (by decide +kernel)) DL37 rfl (fun m => own_ef48 m x0 x1) fun p e s m below meth c s₁ Bd B hZ hown X0 e0 Pq hPq => ?_
  have hx := B.x
  have N0 := Fr.nil n0
  refine SiN X0 B 0 rfl rfl ?_
  refine SiN X0 B 1 rfl rfl ?_
  have J4 : ∀ (Tj4 : State) (Lj4 : List Loc) (p5 : Int32), Stand p l e (⟨0, 0, 0, 0⟩ : Room) s m #[.int x0, .int x1] below meth c Tj4 Lj4 0 0 → Tj4.heap = h0 → Fr n0 Lj4 → p5 = (if x1 < x0 then x1 else x0) → own_Go p.tables e below Pq Tj4 (mkF m 10 #[sI x0, sI x1] [.int p5]) := by
    intro Tj4 Lj4 p5 Xj4 ej4 Nj4 qp5
    show own_Go _ _ _ _ Tj4 (mkF m 10 _ [.int p5])
    refine own_oI Xj4 B Bd 6 rfl hPq ?_
    rw [ej4]
    exact ⟨by subst_vars; rfl, Nj4, rfl⟩
  by_cases c1 : x1 < x0
  · skip
    refine Scy 2 9 X0 B 2 rfl (tlt c1).2.2.1 ?_
    refine SiN X0 B 5 rfl rfl ?_
    exact J4 s₁ _ _ X0 e0 N0 (by simp only [if_pos c1])
  · skip
    refine Scn X0 B 2 rfl (flt c1).2.2.1 ?_
    refine SiN X0 B 3 rfl rfl ?_
    refine Sg 6 10 X0 B 4 rfl ?_
    exact J4 s₁ _ _ X0 e0 N0 (by simp only [if_neg c1])
theorem own_ef49 (m : MethodId) (pa : Addr) : entryFrame m #[.ref pa, .int 3] 3 = mkF m 0 #[sR pa, sI 3, sU] [] := by first | (simp [entryFrame, mkF, argsToLocals, Value.category]; done) | rfl
def Q49 (Z : State) (pa : Addr) (kp : ClassId) (g : Nat → Int32) (h0 : Heap) (n0 : Nat) (v : Option Value) (h : Heap) (L : List Loc) : Prop := ∃ (k_nb : ClassId) (nb : Addr), v = some (.ref nb) ∧ Fr n0 L ∧ Keep h0 h [] ∧ n0 ≤ nb ∧ h0.size ≤ nb ∧ own_AI Z h nb k_nb 3 g ∧ Exa Z h nb "[I"
set_option maxRecDepth 65536 in
set_option maxHeartbeats 4000000 in
theorem rm49 {l : Launch} {Z : State} {a0 : Array Value} (hw : own_T a0 Z) (pa : Addr) (kp : ClassId) (g : Nat → Int32) (h0 : Heap) (n0 : Nat) (Z0 : n0 ≤ h0.size) (F0 : Exa Z h0 pa "[I") (F1 : own_AI Z h0 pa kp 3 g) :
    own_M l Z ym38 jdk_65_method_123_code 3 (some (.array .int)) ⟨1, 1, 3, 14⟩ #[.ref pa, .int 3] h0 (Q49 Z pa kp g h0 n0) := by
  refine own_open "java/util/Arrays" #[sR pa, sI 3, sU] (plainFor_of_name own_pn27) DL38 rfl (fun m => own_ef49 m pa) fun p e s m below meth c s₁ Bd B hZ hown X0 e0 Pq hPq => ?_
  have hx := B.x
  have hml := B.2.1
  have N0 := Fr.nil n0
  have K0 : Keep h0 h0 [] := Keep.refl _ _
  refine SiN X0 B 0 rfl rfl ?_
  refine SaN X0 B 1 rfl rfl rfl ?_
  obtain ⟨c1, Ar1, q1, S1, N1, H1⟩ := id F1
  refine own_st (fun t k => X0.arraylength hx (by rw [e0]; exact Ar1.1) (State.isArrayOf_alike hZ.alike Ar1.2.1) (g := (mkF m 2 #[sR pa, sI 3, sU] [.ref pa, .int 3])) rfl rfl (B.d 2 rfl) _ k) ?_
  rw [len_of S1 N1]
  show own_Go _ _ _ _ s₁ (mkF m 3 _ [.int 3, .int 3])
  refine Scn X0 B 3 rfl (teq (by decide : ((3 : Int32) = (3 : Int32)))).2 ?_
  refine SaN X0 B 4 rfl rfl rfl ?_
  obtain ⟨c2, Ar2, q2, S2, N2, H2⟩ := id F1
  obtain ⟨T2, h2, X2, e2, E2, A2, EA2, st2⟩ := cloneA X0 hx hZ hown (hw 199 rfl) (hw 174 rfl) (hw 178 rfl) (hw 176 rfl) (hw 177 rfl) (hw 179 rfl) e0 Ar2 F0 (own_fitI Ar2 H2) (g := (mkF m 7 #[sR pa, sI 3, sU] [.ref pa])) rfl (by rw [hml]; rfl) rfl (B.d 5 rfl) (by decide) (W := 0) (cap := 3) (by show 2 * 0 + _ ≤ _; exact Nat.le_of_eq rfl) (by decide) (by rw [S2]; decide) (by decide) (by decide)
  obtain ⟨b2, g2⟩ : ∃ z, z = h0.size := ⟨_, rfl⟩
  rw [← g2] at A2 EA2 st2
  refine own_st st2 ?_
  have gx4 : n0 ≤ b2 := Nat.le_trans Z0 (Nat.le_of_eq g2.symm)
  have sz7 : h0.size ≤ b2 := Nat.le_trans K0.1 (Nat.le_of_eq g2.symm)
  have K6 := K0.ext E2
  have V2 : own_AI Z h2 b2 kp 3 g := own_AI.clone H2 q2 S2 N2 A2
  show own_Go _ _ _ _ T2 (mkF m 10 _ [.ref b2])
  obtain ⟨T8, X8, e8, st8⟩ := castY X2 hx hZ hown (hw 200 rfl) e2 (Ins.self EA2) (g := (mkF m 10 #[sR pa, sI 3, sU] [.ref b2])) rfl rfl (B.d 6 rfl)
  refine own_st st8 ?_
  show own_Go _ _ _ _ T8 (mkF m 13 _ [.ref b2])
  subst hPq
  refine own_out X8 (v := some (.ref b2)) (fun h => by rw [Bd.returns] at h; cases h) Bd.notSynchronized (own_retR X8 hx (t := (.array .int)) Bd.returns rfl rfl rfl (B.d 7 rfl)) (by decide) (by decide) ?_
  show Q49 Z pa kp g h0 n0 _ T8.heap _
  rw [e8]
  exact ⟨kp, b2, rfl, N0, K6, gx4, sz7, V2, EA2⟩
theorem own_ef50 (m : MethodId) (pa : Addr) : entryFrame m #[.ref pa, .int 2] 3 = mkF m 0 #[sR pa, sI 2, sU] [] := by first | (simp [entryFrame, mkF, argsToLocals, Value.category]; done) | rfl
def Q50 (Z : State) (pa : Addr) (kp : ClassId) (g : Nat → Int32) (h0 : Heap) (n0 : Nat) (v : Option Value) (h : Heap) (L : List Loc) : Prop := ∃ (k_nb : ClassId) (nb : Addr), v = some (.ref nb) ∧ Fr n0 L ∧ Keep h0 h [] ∧ n0 ≤ nb ∧ h0.size ≤ nb ∧ own_AI Z h nb k_nb 2 (own_i2 (g 0) (g 1)) ∧ Exa Z h nb "[I"
set_option maxRecDepth 65536 in
set_option maxHeartbeats 4000000 in
theorem rm50 {l : Launch} {Z : State} {a0 : Array Value} (hw : own_T a0 Z) (pa : Addr) (kp : ClassId) (g : Nat → Int32) (h0 : Heap) (n0 : Nat) (Z0 : n0 ≤ h0.size) (F0 : Exa Z h0 pa "[I") (F1 : own_AI Z h0 pa kp 3 g) :
    own_M l Z ym38 jdk_65_method_123_code 3 (some (.array .int)) ⟨1, 1, 2, 18⟩ #[.ref pa, .int 2] h0 (Q50 Z pa kp g h0 n0) := by
  refine own_open "java/util/Arrays" #[sR pa, sI 2, sU] (plainFor_of_name own_pn27) DL38 rfl (fun m => own_ef50 m pa) fun p e s m below meth c s₁ Bd B hZ hown X0 e0 Pq hPq => ?_
  have hx := B.x
  have hml := B.2.1
  have N0 := Fr.nil n0
  have K0 : Keep h0 h0 [] := Keep.refl _ _
  refine SiN X0 B 0 rfl rfl ?_
  refine SaN X0 B 1 rfl rfl rfl ?_
  obtain ⟨c1, Ar1, q1, S1, N1, H1⟩ := id F1
  refine own_st (fun t k => X0.arraylength hx (by rw [e0]; exact Ar1.1) (State.isArrayOf_alike hZ.alike Ar1.2.1) (g := (mkF m 2 #[sR pa, sI 2, sU] [.ref pa, .int 2])) rfl rfl (B.d 2 rfl) _ k) ?_
  rw [len_of S1 N1]
  show own_Go _ _ _ _ s₁ (mkF m 3 _ [.int 3, .int 2])
  refine Scy 3 14 X0 B 3 rfl (feq (by decide : ¬ ((2 : Int32) = (3 : Int32)))).2 ?_
  refine SiN X0 B 8 rfl rfl ?_
  obtain ⟨T2, h2, k2, X2, e2, E2, A2, EA2, st2⟩ := newPE X0 hx hZ (hw 21 rfl) e0 (g := (mkF m 15 #[sR pa, sI 2, sU] [.int 2])) rfl (B.d 9 rfl) rfl (by decide) (cap := 2) (by decide) (by decide) (by decide) (by decide) (ad := "[I") (by decide)
  obtain ⟨b2, g2⟩ : ∃ z, z = h0.size := ⟨_, rfl⟩
  rw [← g2] at A2 EA2 st2
  refine own_st st2 ?_
  have gx4 : n0 ≤ b2 := Nat.le_trans Z0 (Nat.le_of_eq g2.symm)
  have Z5 : n0 ≤ h2.size := Nat.le_trans Z0 E2.1
  have sz7 : h0.size ≤ b2 := Nat.le_trans K0.1 (Nat.le_of_eq g2.symm)
  have K6 := K0.ext E2
  have V2 : own_AI Z h2 b2 k2 2 (fun _ => (0 : Int32)) := own_AI.new A2 (by decide)
  show own_Go _ _ _ _ T2 (mkF m 17 _ [.ref b2])
  refine SasN #[sR pa, sI 2, sR b2] X2 B 10 rfl rfl rfl ?_
  refine SaN X2 B 11 rfl rfl rfl ?_
  refine Sc 0 X2 B 12 rfl rfl ?_
  refine SaN X2 B 13 rfl rfl rfl ?_
  refine Sc 0 X2 B 14 rfl rfl ?_
  refine SaN X2 B 15 rfl rfl rfl ?_
  have f9 := (F1.ext E2)
  obtain ⟨c8, Ar8, q8, S8, N8, H8⟩ := id f9
  refine own_st (fun t k => X2.arraylength hx (by rw [e2]; exact Ar8.1) (State.isArrayOf_alike hZ.alike Ar8.2.1) (g := (mkF m 23 #[sR pa, sI 2, sR b2] [.ref pa, .int 0, .ref b2, .int 0, .ref pa])) rfl rfl (B.d 16 rfl) _ k) ?_
  rw [len_of S8 N8]
  show own_Go _ _ _ _ T2 (mkF m 24 _ [.int 3, .int 0, .ref b2, .int 0, .ref pa])
  refine SiN X2 B 17 rfl rfl ?_
  refine Kst (wt := 4) (y := ym37) (some (.int (own_min (3 : Int32) (2 : Int32)))) X2 B hZ hown (hw 292 rfl) (hw 251 rfl) (hw 81 rfl) (hw 252 rfl) (rm48 hw 3 2 h2 n0 Z5 ) e2 own_pd__II_I 18 rfl rfl rfl (fun _ _ _ q => q.1) fun T10 Lc10 X10 hQ10 => ?_
  obtain ⟨-, NQ10, eq10⟩ := hQ10
  have N11 := Fr.app N0 NQ10
  rw [show (own_min (3 : Int32) (2 : Int32)) = (2 : Int32) by decide]
  show own_Go _ _ _ _ T10 (mkF m 28 _ [.int 2, .int 0, .ref b2, .int 0, .ref pa])
  obtain ⟨T12, h12, L12, X12, e12, N12, K12, V12, st12⟩ := cpA X10 hx hZ hown (hw 293 rfl) (hw 296 rfl) (hw 294 rfl) (hw 295 rfl) eq10 (own_AI.v3 f9) (own_AI.v2 V2) (us := [Value.int (g 0), Value.int (g 1)]) (Or.inl ⟨rfl, rfl⟩) (sp := 0) (dp := 0) (nn := 2) (by decide) (by decide) (by decide) (by decide) (by decide) rfl (by show 0 + _ ≤ 2; decide) N11 gx4 (g := (mkF m 28 #[sR pa, sI 2, sR b2] [.int 2, .int 0, .ref b2, .int 0, .ref pa])) rfl (by rw [hml]; rfl) rfl (B.d 19 rfl) (by decide) (W := 0) (by show 2 * 0 + _ ≤ _; exact Nat.le_of_eq rfl) (by decide)
  refine own_st st12 ?_
  have K13 : Keep h0 h12 [] := K6.trans K12 (allS (Or.inr sz7) all0)
  have f9 := own_AI.of2 V12
  show own_Go _ _ _ _ T12 (mkF m 31 _ [])
  refine SaN X12 B 20 rfl rfl rfl ?_
  subst hPq
  refine own_out X12 (v := some (.ref b2)) (fun h => by rw [Bd.returns] at h; cases h) Bd.notSynchronized (own_retR X12 hx (t := (.array .int)) Bd.returns rfl rfl rfl (B.d 21 rfl)) (by decide) (by decide) ?_
  show Q50 Z pa kp g h0 n0 _ T12.heap _
  rw [e12]
  exact ⟨k2, b2, rfl, N12, K13, gx4, sz7, f9, (EA2.keep K12)⟩
theorem own_ef51 (m : MethodId) (pa : Addr) : entryFrame m #[.ref pa, .int 2] 3 = mkF m 0 #[sR pa, sI 2, sU] [] := by first | (simp [entryFrame, mkF, argsToLocals, Value.category]; done) | rfl
def Q51 (Z : State) (pa : Addr) (kp : ClassId) (g : Nat → Int32) (h0 : Heap) (n0 : Nat) (v : Option Value) (h : Heap) (L : List Loc) : Prop := ∃ (k_nb : ClassId) (nb : Addr), v = some (.ref nb) ∧ Fr n0 L ∧ Keep h0 h [] ∧ n0 ≤ nb ∧ h0.size ≤ nb ∧ own_AI Z h nb k_nb 2 (own_i2 0 0) ∧ Exa Z h nb "[I"
set_option maxRecDepth 65536 in
set_option maxHeartbeats 4000000 in
theorem rm51 {l : Launch} {Z : State} {a0 : Array Value} (hw : own_T a0 Z) (pa : Addr) (kp : ClassId) (g : Nat → Int32) (h0 : Heap) (n0 : Nat) (Z0 : n0 ≤ h0.size) (F0 : Exa Z h0 pa "[I") (F1 : own_AI Z h0 pa kp 0 g) :
    own_M l Z ym38 jdk_65_method_123_code 3 (some (.array .int)) ⟨1, 1, 2, 18⟩ #[.ref pa, .int 2] h0 (Q51 Z pa kp g h0 n0) := by
  refine own_open "java/util/Arrays" #[sR pa, sI 2, sU] (plainFor_of_name own_pn27) DL38 rfl (fun m => own_ef51 m pa) fun p e s m below meth c s₁ Bd B hZ hown X0 e0 Pq hPq => ?_
  have hx := B.x
  have hml := B.2.1
  have N0 := Fr.nil n0
  have K0 : Keep h0 h0 [] := Keep.refl _ _
  refine SiN X0 B 0 rfl rfl ?_
  refine SaN X0 B 1 rfl rfl rfl ?_
  obtain ⟨c1, Ar1, q1, S1, N1, H1⟩ := id F1
  refine own_st (fun t k => X0.arraylength hx (by rw [e0]; exact Ar1.1) (State.isArrayOf_alike hZ.alike Ar1.2.1) (g := (mkF m 2 #[sR pa, sI 2, sU] [.ref pa, .int 2])) rfl rfl (B.d 2 rfl) _ k) ?_
  rw [len_of S1 N1]
  show own_Go _ _ _ _ s₁ (mkF m 3 _ [.int 0, .int 2])
  refine Scy 3 14 X0 B 3 rfl (feq (by decide : ¬ ((2 : Int32) = (0 : Int32)))).2 ?_
  refine SiN X0 B 8 rfl rfl ?_
  obtain ⟨T2, h2, k2, X2, e2, E2, A2, EA2, st2⟩ := newPE X0 hx hZ (hw 21 rfl) e0 (g := (mkF m 15 #[sR pa, sI 2, sU] [.int 2])) rfl (B.d 9 rfl) rfl (by decide) (cap := 2) (by decide) (by decide) (by decide) (by decide) (ad := "[I") (by decide)
  obtain ⟨b2, g2⟩ : ∃ z, z = h0.size := ⟨_, rfl⟩
  rw [← g2] at A2 EA2 st2
  refine own_st st2 ?_
  have gx4 : n0 ≤ b2 := Nat.le_trans Z0 (Nat.le_of_eq g2.symm)
  have Z5 : n0 ≤ h2.size := Nat.le_trans Z0 E2.1
  have sz7 : h0.size ≤ b2 := Nat.le_trans K0.1 (Nat.le_of_eq g2.symm)
  have K6 := K0.ext E2
  have V2 : own_AI Z h2 b2 k2 2 (fun _ => (0 : Int32)) := own_AI.new A2 (by decide)
  show own_Go _ _ _ _ T2 (mkF m 17 _ [.ref b2])
  refine SasN #[sR pa, sI 2, sR b2] X2 B 10 rfl rfl rfl ?_
  refine SaN X2 B 11 rfl rfl rfl ?_
  refine Sc 0 X2 B 12 rfl rfl ?_
  refine SaN X2 B 13 rfl rfl rfl ?_
  refine Sc 0 X2 B 14 rfl rfl ?_
  refine SaN X2 B 15 rfl rfl rfl ?_
  have f9 := (F1.ext E2)
  obtain ⟨c8, Ar8, q8, S8, N8, H8⟩ := id f9
  refine own_st (fun t k => X2.arraylength hx (by rw [e2]; exact Ar8.1) (State.isArrayOf_alike hZ.alike Ar8.2.1) (g := (mkF m 23 #[sR pa, sI 2, sR b2] [.ref pa, .int 0, .ref b2, .int 0, .ref pa])) rfl rfl (B.d 16 rfl) _ k) ?_
  rw [len_of S8 N8]
  show own_Go _ _ _ _ T2 (mkF m 24 _ [.int 0, .int 0, .ref b2, .int 0, .ref pa])
  refine SiN X2 B 17 rfl rfl ?_
  refine Kst (wt := 4) (y := ym37) (some (.int (own_min (0 : Int32) (2 : Int32)))) X2 B hZ hown (hw 292 rfl) (hw 251 rfl) (hw 81 rfl) (hw 252 rfl) (rm48 hw 0 2 h2 n0 Z5 ) e2 own_pd__II_I 18 rfl rfl rfl (fun _ _ _ q => q.1) fun T10 Lc10 X10 hQ10 => ?_
  obtain ⟨-, NQ10, eq10⟩ := hQ10
  have N11 := Fr.app N0 NQ10
  rw [show (own_min (0 : Int32) (2 : Int32)) = (0 : Int32) by decide]
  show own_Go _ _ _ _ T10 (mkF m 28 _ [.int 0, .int 0, .ref b2, .int 0, .ref pa])
  obtain ⟨T12, h12, L12, X12, e12, N12, K12, V12, st12⟩ := cpA X10 hx hZ hown (hw 293 rfl) (hw 296 rfl) (hw 294 rfl) (hw 295 rfl) eq10 (own_AI.v0 f9) (own_AI.v2 V2) (us := []) (Or.inl ⟨rfl, rfl⟩) (sp := 0) (dp := 0) (nn := 0) (by decide) (by decide) (by decide) (by decide) (by decide) rfl (by show 0 + _ ≤ 2; decide) N11 gx4 (g := (mkF m 28 #[sR pa, sI 2, sR b2] [.int 0, .int 0, .ref b2, .int 0, .ref pa])) rfl (by rw [hml]; rfl) rfl (B.d 19 rfl) (by decide) (W := 0) (by show 2 * 0 + _ ≤ _; exact Nat.le_of_eq rfl) (by decide)
  refine own_st st12 ?_
  have K13 : Keep h0 h12 [] := K6.trans K12 (allS (Or.inr sz7) all0)
  have f9 := own_AI.of2 V12
  show own_Go _ _ _ _ T12 (mkF m 31 _ [])
  refine SaN X12 B 20 rfl rfl rfl ?_
  subst hPq
  refine own_out X12 (v := some (.ref b2)) (fun h => by rw [Bd.returns] at h; cases h) Bd.notSynchronized (own_retR X12 hx (t := (.array .int)) Bd.returns rfl rfl rfl (B.d 21 rfl)) (by decide) (by decide) ?_
  show Q51 Z pa kp g h0 n0 _ T12.heap _
  rw [e12]
  exact ⟨k2, b2, rfl, N12, K13, gx4, sz7, f9, (EA2.keep K12)⟩
theorem own_ef52 (m : MethodId) (pa : Addr) : entryFrame m #[.ref pa, .int 4] 3 = mkF m 0 #[sR pa, sI 4, sU] [] := by first | (simp [entryFrame, mkF, argsToLocals, Value.category]; done) | rfl
def Q52 (Z : State) (pa : Addr) (kp : ClassId) (g : Nat → Int32) (h0 : Heap) (n0 : Nat) (v : Option Value) (h : Heap) (L : List Loc) : Prop := ∃ (k_nb : ClassId) (nb : Addr), v = some (.ref nb) ∧ Fr n0 L ∧ Keep h0 h [] ∧ n0 ≤ nb ∧ h0.size ≤ nb ∧ own_AI Z h nb k_nb 4 (own_i4 (g 0) (g 1) 0 0) ∧ Exa Z h nb "[I"
set_option maxRecDepth 65536 in
set_option maxHeartbeats 4000000 in
theorem rm52 {l : Launch} {Z : State} {a0 : Array Value} (hw : own_T a0 Z) (pa : Addr) (kp : ClassId) (g : Nat → Int32) (h0 : Heap) (n0 : Nat) (Z0 : n0 ≤ h0.size) (F0 : Exa Z h0 pa "[I") (F1 : own_AI Z h0 pa kp 2 g) :
    own_M l Z ym38 jdk_65_method_123_code 3 (some (.array .int)) ⟨1, 1, 4, 18⟩ #[.ref pa, .int 4] h0 (Q52 Z pa kp g h0 n0) := by
  refine own_open "java/util/Arrays" #[sR pa, sI 4, sU] (plainFor_of_name own_pn27) DL38 rfl (fun m => own_ef52 m pa) fun p e s m below meth c s₁ Bd B hZ hown X0 e0 Pq hPq => ?_
  have hx := B.x
  have hml := B.2.1
  have N0 := Fr.nil n0
  have K0 : Keep h0 h0 [] := Keep.refl _ _
  refine SiN X0 B 0 rfl rfl ?_
  refine SaN X0 B 1 rfl rfl rfl ?_
  obtain ⟨c1, Ar1, q1, S1, N1, H1⟩ := id F1
  refine own_st (fun t k => X0.arraylength hx (by rw [e0]; exact Ar1.1) (State.isArrayOf_alike hZ.alike Ar1.2.1) (g := (mkF m 2 #[sR pa, sI 4, sU] [.ref pa, .int 4])) rfl rfl (B.d 2 rfl) _ k) ?_
  rw [len_of S1 N1]
  show own_Go _ _ _ _ s₁ (mkF m 3 _ [.int 2, .int 4])
  refine Scy 3 14 X0 B 3 rfl (feq (by decide : ¬ ((4 : Int32) = (2 : Int32)))).2 ?_
  refine SiN X0 B 8 rfl rfl ?_
  obtain ⟨T2, h2, k2, X2, e2, E2, A2, EA2, st2⟩ := newPE X0 hx hZ (hw 21 rfl) e0 (g := (mkF m 15 #[sR pa, sI 4, sU] [.int 4])) rfl (B.d 9 rfl) rfl (by decide) (cap := 4) (by decide) (by decide) (by decide) (by decide) (ad := "[I") (by decide)
  obtain ⟨b2, g2⟩ : ∃ z, z = h0.size := ⟨_, rfl⟩
  rw [← g2] at A2 EA2 st2
  refine own_st st2 ?_
  have gx4 : n0 ≤ b2 := Nat.le_trans Z0 (Nat.le_of_eq g2.symm)
  have Z5 : n0 ≤ h2.size := Nat.le_trans Z0 E2.1
  have sz7 : h0.size ≤ b2 := Nat.le_trans K0.1 (Nat.le_of_eq g2.symm)
  have K6 := K0.ext E2
  have V2 : own_AI Z h2 b2 k2 4 (fun _ => (0 : Int32)) := own_AI.new A2 (by decide)
  show own_Go _ _ _ _ T2 (mkF m 17 _ [.ref b2])
  refine SasN #[sR pa, sI 4, sR b2] X2 B 10 rfl rfl rfl ?_
  refine SaN X2 B 11 rfl rfl rfl ?_
  refine Sc 0 X2 B 12 rfl rfl ?_
  refine SaN X2 B 13 rfl rfl rfl ?_
  refine Sc 0 X2 B 14 rfl rfl ?_
  refine SaN X2 B 15 rfl rfl rfl ?_
  have f9 := (F1.ext E2)
  obtain ⟨c8, Ar8, q8, S8, N8, H8⟩ := id f9
  refine own_st (fun t k => X2.arraylength hx (by rw [e2]; exact Ar8.1) (State.isArrayOf_alike hZ.alike Ar8.2.1) (g := (mkF m 23 #[sR pa, sI 4, sR b2] [.ref pa, .int 0, .ref b2, .int 0, .ref pa])) rfl rfl (B.d 16 rfl) _ k) ?_
  rw [len_of S8 N8]
  show own_Go _ _ _ _ T2 (mkF m 24 _ [.int 2, .int 0, .ref b2, .int 0, .ref pa])
  refine SiN X2 B 17 rfl rfl ?_
  refine Kst (wt := 4) (y := ym37) (some (.int (own_min (2 : Int32) (4 : Int32)))) X2 B hZ hown (hw 292 rfl) (hw 251 rfl) (hw 81 rfl) (hw 252 rfl) (rm48 hw 2 4 h2 n0 Z5 ) e2 own_pd__II_I 18 rfl rfl rfl (fun _ _ _ q => q.1) fun T10 Lc10 X10 hQ10 => ?_
  obtain ⟨-, NQ10, eq10⟩ := hQ10
  have N11 := Fr.app N0 NQ10
  rw [show (own_min (2 : Int32) (4 : Int32)) = (2 : Int32) by decide]
  show own_Go _ _ _ _ T10 (mkF m 28 _ [.int 2, .int 0, .ref b2, .int 0, .ref pa])
  obtain ⟨T12, h12, L12, X12, e12, N12, K12, V12, st12⟩ := cpA X10 hx hZ hown (hw 293 rfl) (hw 296 rfl) (hw 294 rfl) (hw 295 rfl) eq10 (own_AI.v2 f9) (own_AI.v4 V2) (us := [Value.int (g 0), Value.int (g 1)]) (Or.inl ⟨rfl, rfl⟩) (sp := 0) (dp := 0) (nn := 2) (by decide) (by decide) (by decide) (by decide) (by decide) rfl (by show 0 + _ ≤ 4; decide) N11 gx4 (g := (mkF m 28 #[sR pa, sI 4, sR b2] [.int 2, .int 0, .ref b2, .int 0, .ref pa])) rfl (by rw [hml]; rfl) rfl (B.d 19 rfl) (by decide) (W := 0) (by show 2 * 0 + _ ≤ _; exact Nat.le_of_eq rfl) (by decide)
  refine own_st st12 ?_
  have K13 : Keep h0 h12 [] := K6.trans K12 (allS (Or.inr sz7) all0)
  have f9 := own_AI.of4 V12
  show own_Go _ _ _ _ T12 (mkF m 31 _ [])
  refine SaN X12 B 20 rfl rfl rfl ?_
  subst hPq
  refine own_out X12 (v := some (.ref b2)) (fun h => by rw [Bd.returns] at h; cases h) Bd.notSynchronized (own_retR X12 hx (t := (.array .int)) Bd.returns rfl rfl rfl (B.d 21 rfl)) (by decide) (by decide) ?_
  show Q52 Z pa kp g h0 n0 _ T12.heap _
  rw [e12]
  exact ⟨k2, b2, rfl, N12, K13, gx4, sz7, f9, (EA2.keep K12)⟩
theorem own_u01 {un : Int32} (h : (1 : Int32) < un) : (¬ (0 : Int32) < 0 ∧ (0 : Int32) < un) ∧ (¬ (1 : Int32) < 0 ∧ (1 : Int32) < un) := by
  rw [Int32.lt_iff_toInt_lt, show (1 : Int32).toInt = 1 from rfl] at h
  exact ⟨⟨by decide, by rw [Int32.lt_iff_toInt_lt, show (0 : Int32).toInt = 0 from rfl]; omega⟩, by decide, by rw [Int32.lt_iff_toInt_lt, show (1 : Int32).toInt = 1 from rfl]; omega⟩
theorem own_ef53 (m : MethodId) (pa : Addr) (x : Int32) : entryFrame m #[.ref pa, .int 0, .int 2, .int x] 8 = mkF m 0 #[sR pa, sI 0, sI 2, sI x, sU, sU, sU, sU] [] := by first | (simp [entryFrame, mkF, argsToLocals, Value.category]; done) | rfl
def Q53 (Z : State) (pa : Addr) (x : Int32) (kp : ClassId) (g : Nat → Int32) (h0 : Heap) (n0 : Nat) (v : Option Value) (h : Heap) (L : List Loc) : Prop := ∃ (rr : Int32), v = some (.int rr) ∧ Fr n0 L ∧ h = h0 ∧ (¬ rr < 0 ∧ rr < (2 : Int32)) ∧ g rr.toNatClampNeg = x
theorem own_fin53_5 (pa : Addr) (x : Int32) (kp : ClassId) (g : Nat → Int32) (hs0 : (g 0) < (g 1)) (hm : x = (g 0) ∨ x = (g 1)) (c2 : (g 0) < x) (c4 : (g 1) < x) : False := by
  simp only [Int32.lt_iff_toInt_lt] at *
  rcases hm with rfl | rfl <;> omega
theorem own_fin53_7 (pa : Addr) (x : Int32) (kp : ClassId) (g : Nat → Int32) (hs0 : (g 0) < (g 1)) (hm : x = (g 0) ∨ x = (g 1)) (c2 : (g 0) < x) (c4 : ¬ ((g 1) < x)) (c6 : x < (g 1)) : False := by
  simp only [Int32.lt_iff_toInt_lt] at *
  rcases hm with rfl | rfl <;> omega
theorem own_fin53_9 (pa : Addr) (x : Int32) (kp : ClassId) (g : Nat → Int32) (hs0 : (g 0) < (g 1)) (hm : x = (g 0) ∨ x = (g 1)) (c2 : ¬ ((g 0) < x)) (c8 : x < (g 0)) : False := by
  simp only [Int32.lt_iff_toInt_lt] at *
  rcases hm with rfl | rfl <;> omega
set_option maxRecDepth 65536 in
set_option maxHeartbeats 4000000 in
theorem rm53 {l : Launch} {Z : State} {a0 : Array Value} (hw : own_T a0 Z) (pa : Addr) (x : Int32) (kp : ClassId) (g : Nat → Int32) (h0 : Heap) (n0 : Nat) (Z0 : n0 ≤ h0.size) (F0 : own_AI Z h0 pa kp 2 g) (hs0 : (g 0) < (g 1)) (hm : x = (g 0) ∨ x = (g 1)) :
    own_M l Z ym39 jdk_65_method_59_code 8 (some .int) ⟨0, 0, 0, 0⟩ #[.ref pa, .int 0, .int 2, .int x] h0 (Q53 Z pa x kp g h0 n0) := by
  refine own_open "java/util/Arrays" #[sR pa, sI 0, sI 2, sI x, sU, sU, sU, sU] (plainFor_of_name own_pn27) DL39 rfl (fun m => own_ef53 m pa x) fun p e s m below meth c s₁ Bd B hZ hown X0 e0 Pq hPq => ?_
  have hx := B.x
  have N0 := Fr.nil n0
  refine SiN X0 B 0 rfl rfl ?_
  refine Sis #[sR pa, sI 0, sI 2, sI x, sI 0, sU, sU, sU] X0 B 1 rfl rfl ?_
  refine SiN X0 B 2 rfl rfl ?_
  refine Sc 1 X0 B 3 rfl rfl ?_
  refine own_st (fun t k => XS.isub X0.here hx rfl (B.d 4 rfl) rfl k) ?_
  refine Sis #[sR pa, sI 0, sI 2, sI x, sI 0, sI 1, sU, sU] X0 B 5 rfl rfl ?_
  refine Si X0 B 6 rfl rfl ?_
  refine Si X0 B 7 rfl rfl ?_
  refine Scn X0 B 8 rfl (flt (by decide : ¬ ((1 : Int32) < (0 : Int32)))).2.2.1 ?_
  refine Si X0 B 9 rfl rfl ?_
  refine Si X0 B 10 rfl rfl ?_
  refine own_st (fun t k => XS.iadd X0.here hx rfl (B.d 11 rfl) rfl k) ?_
  refine Sc 1 X0 B 12 rfl rfl ?_
  refine own_st (fun t k => XS.iushr X0.here hx rfl (B.d 13 rfl) rfl k) ?_
  refine Sis #[sR pa, sI 0, sI 2, sI x, sI 0, sI 1, sI 0, sU] X0 B 14 rfl rfl ?_
  refine SaN X0 B 15 rfl rfl rfl ?_
  refine Si X0 B 16 rfl rfl ?_
  refine Kil 0 X0 B hZ e0 F0 ⟨by decide, by decide⟩ rfl 17 rfl ?_
  refine Sis #[sR pa, sI 0, sI 2, sI x, sI 0, sI 1, sI 0, sI (g 0)] X0 B 18 rfl rfl ?_
  refine Si X0 B 19 rfl rfl ?_
  refine SiN X0 B 20 rfl rfl ?_
  by_cases c2 : (g 0) < x
  · skip
    refine Scn X0 B 21 rfl (tlt c2).2.1 ?_
    refine Si X0 B 22 rfl rfl ?_
    refine Sc 1 X0 B 23 rfl rfl ?_
    refine own_st (fun t k => XS.iadd X0.here hx rfl (B.d 24 rfl) rfl k) ?_
    refine Sis #[sR pa, sI 0, sI 2, sI x, sI 1, sI 1, sI 0, sI (g 0)] X0 B 25 rfl rfl ?_
    refine Sg 42 63 X0 B 26 rfl ?_
    refine Sg 63 8 X0 B 37 rfl ?_
    refine Si X0 B 6 rfl rfl ?_
    refine Si X0 B 7 rfl rfl ?_
    refine Scn X0 B 8 rfl (flt (by decide : ¬ ((1 : Int32) < (1 : Int32)))).2.2.1 ?_
    refine Si X0 B 9 rfl rfl ?_
    refine Si X0 B 10 rfl rfl ?_
    refine own_st (fun t k => XS.iadd X0.here hx rfl (B.d 11 rfl) rfl k) ?_
    show own_Go _ _ _ _ s₁ (mkF m 20 _ [.int 2])
    refine Sc 1 X0 B 12 rfl rfl ?_
    refine own_st (fun t k => XS.iushr X0.here hx rfl (B.d 13 rfl) rfl k) ?_
    refine Sis #[sR pa, sI 0, sI 2, sI x, sI 1, sI 1, sI 1, sI (g 0)] X0 B 14 rfl rfl ?_
    refine SaN X0 B 15 rfl rfl rfl ?_
    refine Si X0 B 16 rfl rfl ?_
    refine Kil 1 X0 B hZ e0 F0 ⟨by decide, by decide⟩ rfl 17 rfl ?_
    refine Sis #[sR pa, sI 0, sI 2, sI x, sI 1, sI 1, sI 1, sI (g 1)] X0 B 18 rfl rfl ?_
    refine Si X0 B 19 rfl rfl ?_
    refine SiN X0 B 20 rfl rfl ?_
    by_cases c4 : (g 1) < x
    · skip
      refine Scn X0 B 21 rfl (tlt c4).2.1 ?_
      refine Si X0 B 22 rfl rfl ?_
      refine Sc 1 X0 B 23 rfl rfl ?_
      refine own_st (fun t k => XS.iadd X0.here hx rfl (B.d 24 rfl) rfl k) ?_
      refine Sis #[sR pa, sI 0, sI 2, sI x, sI 2, sI 1, sI 1, sI (g 1)] X0 B 25 rfl rfl ?_
      refine Sg 42 63 X0 B 26 rfl ?_
      refine Sg 63 8 X0 B 37 rfl ?_
      refine Si X0 B 6 rfl rfl ?_
      refine Si X0 B 7 rfl rfl ?_
      refine Scy 12 66 X0 B 8 rfl (tlt (by decide : ((1 : Int32) < (2 : Int32)))).2.2.1 ?_
      exact ((own_fin53_5 pa x kp g hs0 hm c2 c4)).elim
    · skip
      refine Scy 33 45 X0 B 21 rfl (flt c4).2.1 ?_
      refine Si X0 B 27 rfl rfl ?_
      refine SiN X0 B 28 rfl rfl ?_
      by_cases c6 : x < (g 1)
      · skip
        refine Scn X0 B 29 rfl (tlt c6).2.2.2 ?_
        refine Si X0 B 30 rfl rfl ?_
        refine Sc 1 X0 B 31 rfl rfl ?_
        refine own_st (fun t k => XS.isub X0.here hx rfl (B.d 32 rfl) rfl k) ?_
        refine Sis #[sR pa, sI 0, sI 2, sI x, sI 1, sI 0, sI 1, sI (g 1)] X0 B 33 rfl rfl ?_
        refine Sg 57 63 X0 B 34 rfl ?_
        refine Sg 63 8 X0 B 37 rfl ?_
        refine Si X0 B 6 rfl rfl ?_
        refine Si X0 B 7 rfl rfl ?_
        refine Scy 12 66 X0 B 8 rfl (tlt (by decide : ((0 : Int32) < (1 : Int32)))).2.2.1 ?_
        exact ((own_fin53_7 pa x kp g hs0 hm c2 c4 c6)).elim
      · skip
        refine Scy 48 60 X0 B 29 rfl (flt c6).2.2.2 ?_
        refine Si X0 B 35 rfl rfl ?_
        refine own_oI X0 B Bd 36 rfl hPq ?_
        rw [e0]
        exact ⟨(1 : Int32), rfl, N0, rfl, ⟨by decide, by decide⟩, (own_eqI c4 c6)⟩
  · skip
    refine Scy 33 45 X0 B 21 rfl (flt c2).2.1 ?_
    refine Si X0 B 27 rfl rfl ?_
    refine SiN X0 B 28 rfl rfl ?_
    by_cases c8 : x < (g 0)
    · skip
      refine Scn X0 B 29 rfl (tlt c8).2.2.2 ?_
      refine Si X0 B 30 rfl rfl ?_
      refine Sc 1 X0 B 31 rfl rfl ?_
      refine own_st (fun t k => XS.isub X0.here hx rfl (B.d 32 rfl) rfl k) ?_
      refine Sis #[sR pa, sI 0, sI 2, sI x, sI 0, sI (-1), sI 0, sI (g 0)] X0 B 33 rfl rfl ?_
      refine Sg 57 63 X0 B 34 rfl ?_
      refine Sg 63 8 X0 B 37 rfl ?_
      refine Si X0 B 6 rfl rfl ?_
      refine Si X0 B 7 rfl rfl ?_
      refine Scy 12 66 X0 B 8 rfl (tlt (by decide : ((-1 : Int32) < (0 : Int32)))).2.2.1 ?_
      exact ((own_fin53_9 pa x kp g hs0 hm c2 c8)).elim
    · skip
      refine Scy 48 60 X0 B 29 rfl (flt c8).2.2.2 ?_
      refine Si X0 B 35 rfl rfl ?_
      refine own_oI X0 B Bd 36 rfl hPq ?_
      rw [e0]
      exact ⟨(0 : Int32), rfl, N0, rfl, ⟨by decide, by decide⟩, (own_eqI c2 c8)⟩
theorem own_ef54 (m : MethodId) (pa : Addr) (x : Int32) : entryFrame m #[.ref pa, .int x] 2 = mkF m 0 #[sR pa, sI x] [] := by first | (simp [entryFrame, mkF, argsToLocals, Value.category]; done) | rfl
def Q54 (Z : State) (pa : Addr) (x : Int32) (kp : ClassId) (g : Nat → Int32) (h0 : Heap) (n0 : Nat) (v : Option Value) (h : Heap) (L : List Loc) : Prop := ∃ (rr : Int32), v = some (.int rr) ∧ Fr n0 L ∧ h = h0 ∧ (¬ rr < 0 ∧ rr < (2 : Int32)) ∧ g rr.toNatClampNeg = x
set_option maxRecDepth 65536 in
set_option maxHeartbeats 4000000 in
theorem rm54 {l : Launch} {Z : State} {a0 : Array Value} (hw : own_T a0 Z) (pa : Addr) (x : Int32) (kp : ClassId) (g : Nat → Int32) (h0 : Heap) (n0 : Nat) (Z0 : n0 ≤ h0.size) (F0 : own_AI Z h0 pa kp 2 g) (hs0 : (g 0) < (g 1)) (hm : x = (g 0) ∨ x = (g 1)) :
    own_M l Z ym40 jdk_65_method_57_code 2 (some .int) ⟨1, 0, 0, 19⟩ #[.ref pa, .int x] h0 (Q54 Z pa x kp g h0 n0) := by
  refine own_open "java/util/Arrays" #[sR pa, sI x] (plainFor_of_name own_pn27) DL40 rfl (fun m => own_ef54 m pa x) fun p e s m below meth c s₁ Bd B hZ hown X0 e0 Pq hPq => ?_
  have hx := B.x
  have hml := B.2.1
  have N0 := Fr.nil n0
  refine SaN X0 B 0 rfl rfl rfl ?_
  refine Sc 0 X0 B 1 rfl rfl ?_
  refine SaN X0 B 2 rfl rfl rfl ?_
  obtain ⟨c1, Ar1, q1, S1, N1, H1⟩ := id F0
  refine own_st (fun t k => X0.arraylength hx (by rw [e0]; exact Ar1.1) (State.isArrayOf_alike hZ.alike Ar1.2.1) (g := (mkF m 3 #[sR pa, sI x] [.ref pa, .int 0, .ref pa])) rfl rfl (B.d 3 rfl) _ k) ?_
  rw [len_of S1 N1]
  show own_Go _ _ _ _ s₁ (mkF m 4 _ [.int 2, .int 0, .ref pa])
  refine SiN X0 B 4 rfl rfl ?_
  obtain ⟨_, _, ⟨T2, L2, k2, n2⟩, -, X2, ⟨Lc2, hQ2, l2, y2, z2⟩, st2⟩ := Jvm.LawKit.callS X0 hx (y := ym39) hown (mvT hZ (hw 208 rfl)) (mvT hZ (hw 209 rfl)) (mvT hZ (hw 184 rfl)) (mvT hZ (hw 210 rfl)) (by decide) (backOf (W := 0) (rm53 hw pa x kp g h0 n0 Z0 F0 hs0 hm) hZ (hw 210 rfl) (hw 184 rfl) (by decide) (by decide)) (g := (mkF m 5 #[sR pa, sI x] [.int x, .int 2, .int 0, .ref pa])) rfl (by rw [hml]; rfl) (argsL := [.ref pa, .int 0, .int 2, .int x]) (rest := []) (lenOf own_pd___IIII_I rfl) rfl (by show 2 * 0 + _ ≤ _; exact Nat.le_of_eq rfl) (B.d 5 rfl) (fun _ _ => ⟨rfl, e0, (by decide : 0 + 0 ≤ _), (by decide : 0 + 0 ≤ _)⟩)
  dsimp only [Pt.U, Pt.locs, Pt.cells, Pt.slots] at X2 l2 y2 z2 st2 hQ2
  subst l2 y2 z2
  obtain ⟨r2_rr, rfl, NQ2, eq2, hq2_0⟩ := hQ2
  have N3 := Fr.app N0 NQ2
  refine own_st st2 ?_
  show own_Go _ _ _ _ T2 (mkF m 8 _ [.int r2_rr])
  refine own_oI X2 B Bd 6 rfl hPq ?_
  rw [eq2]
  exact ⟨r2_rr, rfl, N3, rfl, hq2_0⟩
theorem own_ef55 (m : MethodId) (pa : Addr) (x : Int32) : entryFrame m #[.ref pa, .int 0, .int 3, .int x] 8 = mkF m 0 #[sR pa, sI 0, sI 3, sI x, sU, sU, sU, sU] [] := by first | (simp [entryFrame, mkF, argsToLocals, Value.category]; done) | rfl
def Q55 (Z : State) (pa : Addr) (x : Int32) (kp : ClassId) (g : Nat → Int32) (h0 : Heap) (n0 : Nat) (v : Option Value) (h : Heap) (L : List Loc) : Prop := ∃ (rr : Int32), v = some (.int rr) ∧ Fr n0 L ∧ h = h0 ∧ (¬ rr < 0 ∧ rr < (3 : Int32)) ∧ g rr.toNatClampNeg = x
theorem own_fin55_5 (pa : Addr) (x : Int32) (kp : ClassId) (g : Nat → Int32) (hs0 : (g 0) < (g 1)) (hs1 : (g 1) < (g 2)) (hm : x = (g 0) ∨ x = (g 1) ∨ x = (g 2)) (c2 : (g 1) < x) (c4 : (g 2) < x) : False := by
  simp only [Int32.lt_iff_toInt_lt] at *
  rcases hm with rfl | rfl | rfl <;> omega
theorem own_fin55_7 (pa : Addr) (x : Int32) (kp : ClassId) (g : Nat → Int32) (hs0 : (g 0) < (g 1)) (hs1 : (g 1) < (g 2)) (hm : x = (g 0) ∨ x = (g 1) ∨ x = (g 2)) (c2 : (g 1) < x) (c4 : ¬ ((g 2) < x)) (c6 : x < (g 2)) : False := by
  simp only [Int32.lt_iff_toInt_lt] at *
  rcases hm with rfl | rfl | rfl <;> omega
theorem own_fin55_11 (pa : Addr) (x : Int32) (kp : ClassId) (g : Nat → Int32) (hs0 : (g 0) < (g 1)) (hs1 : (g 1) < (g 2)) (hm : x = (g 0) ∨ x = (g 1) ∨ x = (g 2)) (c2 : ¬ ((g 1) < x)) (c8 : x < (g 1)) (c10 : (g 0) < x) : False := by
  simp only [Int32.lt_iff_toInt_lt] at *
  rcases hm with rfl | rfl | rfl <;> omega
theorem own_fin55_13 (pa : Addr) (x : Int32) (kp : ClassId) (g : Nat → Int32) (hs0 : (g 0) < (g 1)) (hs1 : (g 1) < (g 2)) (hm : x = (g 0) ∨ x = (g 1) ∨ x = (g 2)) (c2 : ¬ ((g 1) < x)) (c8 : x < (g 1)) (c10 : ¬ ((g 0) < x)) (c12 : x < (g 0)) : False := by
  simp only [Int32.lt_iff_toInt_lt] at *
  rcases hm with rfl | rfl | rfl <;> omega
set_option maxRecDepth 65536 in
set_option maxHeartbeats 4000000 in
theorem rm55 {l : Launch} {Z : State} {a0 : Array Value} (hw : own_T a0 Z) (pa : Addr) (x : Int32) (kp : ClassId) (g : Nat → Int32) (h0 : Heap) (n0 : Nat) (Z0 : n0 ≤ h0.size) (F0 : own_AI Z h0 pa kp 3 g) (hs0 : (g 0) < (g 1)) (hs1 : (g 1) < (g 2)) (hm : x = (g 0) ∨ x = (g 1) ∨ x = (g 2)) :
    own_M l Z ym39 jdk_65_method_59_code 8 (some .int) ⟨0, 0, 0, 0⟩ #[.ref pa, .int 0, .int 3, .int x] h0 (Q55 Z pa x kp g h0 n0) := by
  refine own_open "java/util/Arrays" #[sR pa, sI 0, sI 3, sI x, sU, sU, sU, sU] (plainFor_of_name own_pn27) DL39 rfl (fun m => own_ef55 m pa x) fun p e s m below meth c s₁ Bd B hZ hown X0 e0 Pq hPq => ?_
  have hx := B.x
  have N0 := Fr.nil n0
  refine SiN X0 B 0 rfl rfl ?_
  refine Sis #[sR pa, sI 0, sI 3, sI x, sI 0, sU, sU, sU] X0 B 1 rfl rfl ?_
  refine SiN X0 B 2 rfl rfl ?_
  refine Sc 1 X0 B 3 rfl rfl ?_
  refine own_st (fun t k => XS.isub X0.here hx rfl (B.d 4 rfl) rfl k) ?_
  refine Sis #[sR pa, sI 0, sI 3, sI x, sI 0, sI 2, sU, sU] X0 B 5 rfl rfl ?_
  refine Si X0 B 6 rfl rfl ?_
  refine Si X0 B 7 rfl rfl ?_
  refine Scn X0 B 8 rfl (flt (by decide : ¬ ((2 : Int32) < (0 : Int32)))).2.2.1 ?_
  refine Si X0 B 9 rfl rfl ?_
  refine Si X0 B 10 rfl rfl ?_
  refine own_st (fun t k => XS.iadd X0.here hx rfl (B.d 11 rfl) rfl k) ?_
  refine Sc 1 X0 B 12 rfl rfl ?_
  refine own_st (fun t k => XS.iushr X0.here hx rfl (B.d 13 rfl) rfl k) ?_
  refine Sis #[sR pa, sI 0, sI 3, sI x, sI 0, sI 2, sI 1, sU] X0 B 14 rfl rfl ?_
  refine SaN X0 B 15 rfl rfl rfl ?_
  refine Si X0 B 16 rfl rfl ?_
  refine Kil 1 X0 B hZ e0 F0 ⟨by decide, by decide⟩ rfl 17 rfl ?_
  refine Sis #[sR pa, sI 0, sI 3, sI x, sI 0, sI 2, sI 1, sI (g 1)] X0 B 18 rfl rfl ?_
  refine Si X0 B 19 rfl rfl ?_
  refine SiN X0 B 20 rfl rfl ?_
  by_cases c2 : (g 1) < x
  · skip
    refine Scn X0 B 21 rfl (tlt c2).2.1 ?_
    refine Si X0 B 22 rfl rfl ?_
    refine Sc 1 X0 B 23 rfl rfl ?_
    refine own_st (fun t k => XS.iadd X0.here hx rfl (B.d 24 rfl) rfl k) ?_
    refine Sis #[sR pa, sI 0, sI 3, sI x, sI 2, sI 2, sI 1, sI (g 1)] X0 B 25 rfl rfl ?_
    refine Sg 42 63 X0 B 26 rfl ?_
    refine Sg 63 8 X0 B 37 rfl ?_
    refine Si X0 B 6 rfl rfl ?_
    refine Si X0 B 7 rfl rfl ?_
    refine Scn X0 B 8 rfl (flt (by decide : ¬ ((2 : Int32) < (2 : Int32)))).2.2.1 ?_
    refine Si X0 B 9 rfl rfl ?_
    refine Si X0 B 10 rfl rfl ?_
    refine own_st (fun t k => XS.iadd X0.here hx rfl (B.d 11 rfl) rfl k) ?_
    show own_Go _ _ _ _ s₁ (mkF m 20 _ [.int 4])
    refine Sc 1 X0 B 12 rfl rfl ?_
    refine own_st (fun t k => XS.iushr X0.here hx rfl (B.d 13 rfl) rfl k) ?_
    refine Sis #[sR pa, sI 0, sI 3, sI x, sI 2, sI 2, sI 2, sI (g 1)] X0 B 14 rfl rfl ?_
    refine SaN X0 B 15 rfl rfl rfl ?_
    refine Si X0 B 16 rfl rfl ?_
    refine Kil 2 X0 B hZ e0 F0 ⟨by decide, by decide⟩ rfl 17 rfl ?_
    refine Sis #[sR pa, sI 0, sI 3, sI x, sI 2, sI 2, sI 2, sI (g 2)] X0 B 18 rfl rfl ?_
    refine Si X0 B 19 rfl rfl ?_
    refine SiN X0 B 20 rfl rfl ?_
    by_cases c4 : (g 2) < x
    · skip
      refine Scn X0 B 21 rfl (tlt c4).2.1 ?_
      refine Si X0 B 22 rfl rfl ?_
      refine Sc 1 X0 B 23 rfl rfl ?_
      refine own_st (fun t k => XS.iadd X0.here hx rfl (B.d 24 rfl) rfl k) ?_
      refine Sis #[sR pa, sI 0, sI 3, sI x, sI 3, sI 2, sI 2, sI (g 2)] X0 B 25 rfl rfl ?_
      refine Sg 42 63 X0 B 26 rfl ?_
      refine Sg 63 8 X0 B 37 rfl ?_
      refine Si X0 B 6 rfl rfl ?_
      refine Si X0 B 7 rfl rfl ?_
      refine Scy 12 66 X0 B 8 rfl (tlt (by decide : ((2 : Int32) < (3 : Int32)))).2.2.1 ?_
      exact ((own_fin55_5 pa x kp g hs0 hs1 hm c2 c4)).elim
    · skip
      refine Scy 33 45 X0 B 21 rfl (flt c4).2.1 ?_
      refine Si X0 B 27 rfl rfl ?_
      refine SiN X0 B 28 rfl rfl ?_
      by_cases c6 : x < (g 2)
      · skip
        refine Scn X0 B 29 rfl (tlt c6).2.2.2 ?_
        refine Si X0 B 30 rfl rfl ?_
        refine Sc 1 X0 B 31 rfl rfl ?_
        refine own_st (fun t k => XS.isub X0.here hx rfl (B.d 32 rfl) rfl k) ?_
        refine Sis #[sR pa, sI 0, sI 3, sI x, sI 2, sI 1, sI 2, sI (g 2)] X0 B 33 rfl rfl ?_
        refine Sg 57 63 X0 B 34 rfl ?_
        refine Sg 63 8 X0 B 37 rfl ?_
        refine Si X0 B 6 rfl rfl ?_
        refine Si X0 B 7 rfl rfl ?_
        refine Scy 12 66 X0 B 8 rfl (tlt (by decide : ((1 : Int32) < (2 : Int32)))).2.2.1 ?_
        exact ((own_fin55_7 pa x kp g hs0 hs1 hm c2 c4 c6)).elim
      · skip
        refine Scy 48 60 X0 B 29 rfl (flt c6).2.2.2 ?_
        refine Si X0 B 35 rfl rfl ?_
        refine own_oI X0 B Bd 36 rfl hPq ?_
        rw [e0]
        exact ⟨(2 : Int32), rfl, N0, rfl, ⟨by decide, by decide⟩, (own_eqI c4 c6)⟩
  · skip
    refine Scy 33 45 X0 B 21 rfl (flt c2).2.1 ?_
    refine Si X0 B 27 rfl rfl ?_
    refine SiN X0 B 28 rfl rfl ?_
    by_cases c8 : x < (g 1)
    · skip
      refine Scn X0 B 29 rfl (tlt c8).2.2.2 ?_
      refine Si X0 B 30 rfl rfl ?_
      refine Sc 1 X0 B 31 rfl rfl ?_
      refine own_st (fun t k => XS.isub X0.here hx rfl (B.d 32 rfl) rfl k) ?_
      refine Sis #[sR pa, sI 0, sI 3, sI x, sI 0, sI 0, sI 1, sI (g 1)] X0 B 33 rfl rfl ?_
      refine Sg 57 63 X0 B 34 rfl ?_
      refine Sg 63 8 X0 B 37 rfl ?_
      refine Si X0 B 6 rfl rfl ?_
      refine Si X0 B 7 rfl rfl ?_
      refine Scn X0 B 8 rfl (flt (by decide : ¬ ((0 : Int32) < (0 : Int32)))).2.2.1 ?_
      refine Si X0 B 9 rfl rfl ?_
      refine Si X0 B 10 rfl rfl ?_
      refine own_st (fun t k => XS.iadd X0.here hx rfl (B.d 11 rfl) rfl k) ?_
      show own_Go _ _ _ _ s₁ (mkF m 20 _ [.int 0])
      refine Sc 1 X0 B 12 rfl rfl ?_
      refine own_st (fun t k => XS.iushr X0.here hx rfl (B.d 13 rfl) rfl k) ?_
      refine Sis #[sR pa, sI 0, sI 3, sI x, sI 0, sI 0, sI 0, sI (g 1)] X0 B 14 rfl rfl ?_
      refine SaN X0 B 15 rfl rfl rfl ?_
      refine Si X0 B 16 rfl rfl ?_
      refine Kil 0 X0 B hZ e0 F0 ⟨by decide, by decide⟩ rfl 17 rfl ?_
      refine Sis #[sR pa, sI 0, sI 3, sI x, sI 0, sI 0, sI 0, sI (g 0)] X0 B 18 rfl rfl ?_
      refine Si X0 B 19 rfl rfl ?_
      refine SiN X0 B 20 rfl rfl ?_
      by_cases c10 : (g 0) < x
      · skip
        refine Scn X0 B 21 rfl (tlt c10).2.1 ?_
        refine Si X0 B 22 rfl rfl ?_
        refine Sc 1 X0 B 23 rfl rfl ?_
        refine own_st (fun t k => XS.iadd X0.here hx rfl (B.d 24 rfl) rfl k) ?_
        refine Sis #[sR pa, sI 0, sI 3, sI x, sI 1, sI 0, sI 0, sI (g 0)] X0 B 25 rfl rfl ?_
        refine Sg 42 63 X0 B 26 rfl ?_
        refine Sg 63 8 X0 B 37 rfl ?_
        refine Si X0 B 6 rfl rfl ?_
        refine Si X0 B 7 rfl rfl ?_
        refine Scy 12 66 X0 B 8 rfl (tlt (by decide : ((0 : Int32) < (1 : Int32)))).2.2.1 ?_
        exact ((own_fin55_11 pa x kp g hs0 hs1 hm c2 c8 c10)).elim
      · skip
        refine Scy 33 45 X0 B 21 rfl (flt c10).2.1 ?_
        refine Si X0 B 27 rfl rfl ?_
        refine SiN X0 B 28 rfl rfl ?_
        by_cases c12 : x < (g 0)
        · skip
          refine Scn X0 B 29 rfl (tlt c12).2.2.2 ?_
          refine Si X0 B 30 rfl rfl ?_
          refine Sc 1 X0 B 31 rfl rfl ?_
          refine own_st (fun t k => XS.isub X0.here hx rfl (B.d 32 rfl) rfl k) ?_
          refine Sis #[sR pa, sI 0, sI 3, sI x, sI 0, sI (-1), sI 0, sI (g 0)] X0 B 33 rfl rfl ?_
          refine Sg 57 63 X0 B 34 rfl ?_
          refine Sg 63 8 X0 B 37 rfl ?_
          refine Si X0 B 6 rfl rfl ?_
          refine Si X0 B 7 rfl rfl ?_
          refine Scy 12 66 X0 B 8 rfl (tlt (by decide : ((-1 : Int32) < (0 : Int32)))).2.2.1 ?_
          exact ((own_fin55_13 pa x kp g hs0 hs1 hm c2 c8 c10 c12)).elim
        · skip
          refine Scy 48 60 X0 B 29 rfl (flt c12).2.2.2 ?_
          refine Si X0 B 35 rfl rfl ?_
          refine own_oI X0 B Bd 36 rfl hPq ?_
          rw [e0]
          exact ⟨(0 : Int32), rfl, N0, rfl, ⟨by decide, by decide⟩, (own_eqI c10 c12)⟩
    · skip
      refine Scy 48 60 X0 B 29 rfl (flt c8).2.2.2 ?_
      refine Si X0 B 35 rfl rfl ?_
      refine own_oI X0 B Bd 36 rfl hPq ?_
      rw [e0]
      exact ⟨(1 : Int32), rfl, N0, rfl, ⟨by decide, by decide⟩, (own_eqI c2 c8)⟩
theorem own_ef56 (m : MethodId) (pa : Addr) (x : Int32) : entryFrame m #[.ref pa, .int x] 2 = mkF m 0 #[sR pa, sI x] [] := by first | (simp [entryFrame, mkF, argsToLocals, Value.category]; done) | rfl
def Q56 (Z : State) (pa : Addr) (x : Int32) (kp : ClassId) (g : Nat → Int32) (h0 : Heap) (n0 : Nat) (v : Option Value) (h : Heap) (L : List Loc) : Prop := ∃ (rr : Int32), v = some (.int rr) ∧ Fr n0 L ∧ h = h0 ∧ (¬ rr < 0 ∧ rr < (3 : Int32)) ∧ g rr.toNatClampNeg = x
set_option maxRecDepth 65536 in
set_option maxHeartbeats 4000000 in
theorem rm56 {l : Launch} {Z : State} {a0 : Array Value} (hw : own_T a0 Z) (pa : Addr) (x : Int32) (kp : ClassId) (g : Nat → Int32) (h0 : Heap) (n0 : Nat) (Z0 : n0 ≤ h0.size) (F0 : own_AI Z h0 pa kp 3 g) (hs0 : (g 0) < (g 1)) (hs1 : (g 1) < (g 2)) (hm : x = (g 0) ∨ x = (g 1) ∨ x = (g 2)) :
    own_M l Z ym40 jdk_65_method_57_code 2 (some .int) ⟨1, 0, 0, 19⟩ #[.ref pa, .int x] h0 (Q56 Z pa x kp g h0 n0) := by
  refine own_open "java/util/Arrays" #[sR pa, sI x] (plainFor_of_name own_pn27) DL40 rfl (fun m => own_ef56 m pa x) fun p e s m below meth c s₁ Bd B hZ hown X0 e0 Pq hPq => ?_
  have hx := B.x
  have hml := B.2.1
  have N0 := Fr.nil n0
  refine SaN X0 B 0 rfl rfl rfl ?_
  refine Sc 0 X0 B 1 rfl rfl ?_
  refine SaN X0 B 2 rfl rfl rfl ?_
  obtain ⟨c1, Ar1, q1, S1, N1, H1⟩ := id F0
  refine own_st (fun t k => X0.arraylength hx (by rw [e0]; exact Ar1.1) (State.isArrayOf_alike hZ.alike Ar1.2.1) (g := (mkF m 3 #[sR pa, sI x] [.ref pa, .int 0, .ref pa])) rfl rfl (B.d 3 rfl) _ k) ?_
  rw [len_of S1 N1]
  show own_Go _ _ _ _ s₁ (mkF m 4 _ [.int 3, .int 0, .ref pa])
  refine SiN X0 B 4 rfl rfl ?_
  obtain ⟨_, _, ⟨T2, L2, k2, n2⟩, -, X2, ⟨Lc2, hQ2, l2, y2, z2⟩, st2⟩ := Jvm.LawKit.callS X0 hx (y := ym39) hown (mvT hZ (hw 208 rfl)) (mvT hZ (hw 209 rfl)) (mvT hZ (hw 184 rfl)) (mvT hZ (hw 210 rfl)) (by decide) (backOf (W := 0) (rm55 hw pa x kp g h0 n0 Z0 F0 hs0 hs1 hm) hZ (hw 210 rfl) (hw 184 rfl) (by decide) (by decide)) (g := (mkF m 5 #[sR pa, sI x] [.int x, .int 3, .int 0, .ref pa])) rfl (by rw [hml]; rfl) (argsL := [.ref pa, .int 0, .int 3, .int x]) (rest := []) (lenOf own_pd___IIII_I rfl) rfl (by show 2 * 0 + _ ≤ _; exact Nat.le_of_eq rfl) (B.d 5 rfl) (fun _ _ => ⟨rfl, e0, (by decide : 0 + 0 ≤ _), (by decide : 0 + 0 ≤ _)⟩)
  dsimp only [Pt.U, Pt.locs, Pt.cells, Pt.slots] at X2 l2 y2 z2 st2 hQ2
  subst l2 y2 z2
  obtain ⟨r2_rr, rfl, NQ2, eq2, hq2_0⟩ := hQ2
  have N3 := Fr.app N0 NQ2
  refine own_st st2 ?_
  show own_Go _ _ _ _ T2 (mkF m 8 _ [.int r2_rr])
  refine own_oI X2 B Bd 6 rfl hPq ?_
  rw [eq2]
  exact ⟨r2_rr, rfl, N3, rfl, hq2_0⟩
/-- what the tally knows of the colours: the distinct ones in order, and each task's number -/
def own_dvp (g : Nat → Int32) (un : Int32) (gV gi : Nat → Int32) : Prop := (un = 2 ∨ un = 3) ∧ (∀ i, i < 3 → (¬ gi i < 0 ∧ gi i < un) ∧ gV (gi i).toNatClampNeg = g i) ∧ gV 0 < gV 1 ∧ (un = 3 → gV 1 < gV 2)
theorem own_dv2 {g gW : Nat → Int32} {r0 r1 r2 : Int32} (h : gW 0 < gW 1) (h0 : (¬ r0 < 0 ∧ r0 < (2 : Int32)) ∧ gW r0.toNatClampNeg = g 0) (h1 : (¬ r1 < 0 ∧ r1 < (2 : Int32)) ∧ gW r1.toNatClampNeg = g 1) (h2 : (¬ r2 < 0 ∧ r2 < (2 : Int32)) ∧ gW r2.toNatClampNeg = g 2) : own_dvp g 2 gW (own_updI (own_updI (own_updI (fun _ => 0) 0 r0) 1 r1) 2 r2) := by
  refine ⟨Or.inl rfl, fun i hi => ?_, h, fun q => absurd q (by decide)⟩
  rcases (show i = 0 ∨ i = 1 ∨ i = 2 by omega) with rfl | rfl | rfl
  · exact h0
  · exact h1
  · exact h2
theorem own_dv3 {g gW : Nat → Int32} {r0 r1 r2 : Int32} (h : gW 0 < gW 1) (h' : gW 1 < gW 2) (h0 : (¬ r0 < 0 ∧ r0 < (3 : Int32)) ∧ gW r0.toNatClampNeg = g 0) (h1 : (¬ r1 < 0 ∧ r1 < (3 : Int32)) ∧ gW r1.toNatClampNeg = g 1) (h2 : (¬ r2 < 0 ∧ r2 < (3 : Int32)) ∧ gW r2.toNatClampNeg = g 2) : own_dvp g 3 gW (own_updI (own_updI (own_updI (fun _ => 0) 0 r0) 1 r1) 2 r2) := by
  refine ⟨Or.inr rfl, fun i hi => ?_, h, fun _ => h'⟩
  rcases (show i = 0 ∨ i = 1 ∨ i = 2 by omega) with rfl | rfl | rfl
  · exact h0
  · exact h1
  · exact h2
/-- the distinct ones -/
def own_d2 (g gW : Nat → Int32) : Prop := gW 0 < gW 1 ∧ ∀ i, i < 3 → g i = gW 0 ∨ g i = gW 1
theorem own_ltI {a b : Int32} (h : a.toInt ≤ b.toInt) (q : ¬ a = b) : a < b := by
  have z : ¬ a.toInt = b.toInt := fun z => q (Int32.toInt_inj.mp z)
  rw [Int32.lt_iff_toInt_lt]; omega
theorem own_d2a {g s : Nat → Int32} (h : own_s3 g s) (c : s 0 = s 1) (q : ¬ s 0 = s 2) : own_d2 g (own_i2 (s 0) (s 2)) := by
  obtain ⟨h0, h1, p⟩ := h
  refine ⟨own_ltI (by show (s 0).toInt ≤ (s 2).toInt; omega) q, fun i hi => ?_⟩
  show g i = s 0 ∨ g i = s 2
  rcases (show i = 0 ∨ i = 1 ∨ i = 2 by omega) with rfl | rfl | rfl <;> rcases p with ⟨a, b, d⟩ | ⟨a, b, d⟩ | ⟨a, b, d⟩ | ⟨a, b, d⟩ | ⟨a, b, d⟩ | ⟨a, b, d⟩ <;> first | exact Or.inl a.symm | exact Or.inr d.symm | exact Or.inl (c.trans b).symm
theorem own_d2b {g s : Nat → Int32} (h : own_s3 g s) (c : ¬ s 0 = s 1) (q : s 1 = s 2) : own_d2 g (own_i2 (s 0) (s 1)) := by
  obtain ⟨h0, h1, p⟩ := h
  refine ⟨own_ltI h0 c, fun i hi => ?_⟩
  show g i = s 0 ∨ g i = s 1
  rcases (show i = 0 ∨ i = 1 ∨ i = 2 by omega) with rfl | rfl | rfl <;> rcases p with ⟨a, b, d⟩ | ⟨a, b, d⟩ | ⟨a, b, d⟩ | ⟨a, b, d⟩ | ⟨a, b, d⟩ | ⟨a, b, d⟩ <;> first | exact Or.inl a.symm | exact Or.inr b.symm | exact Or.inr (q.trans d).symm
theorem own_d3m {g s : Nat → Int32} (h : own_s3 g s) (i : Nat) (hi : i < 3) : g i = s 0 ∨ g i = s 1 ∨ g i = s 2 := by
  obtain ⟨h0, h1, p⟩ := h
  rcases (show i = 0 ∨ i = 1 ∨ i = 2 by omega) with rfl | rfl | rfl <;> rcases p with ⟨a, b, d⟩ | ⟨a, b, d⟩ | ⟨a, b, d⟩ | ⟨a, b, d⟩ | ⟨a, b, d⟩ | ⟨a, b, d⟩ <;> first | exact Or.inl a.symm | exact Or.inr (Or.inl b.symm) | exact Or.inr (Or.inr d.symm)
theorem own_d1 {g s : Nat → Int32} (h : own_s3 g s) (c : s 0 = s 1) (q : s 0 = s 2) : g 0 = g 1 := by
  obtain ⟨h0, h1, p⟩ := h
  rcases p with ⟨a, b, d⟩ | ⟨a, b, d⟩ | ⟨a, b, d⟩ | ⟨a, b, d⟩ | ⟨a, b, d⟩ | ⟨a, b, d⟩ <;> simp_all
/-- what copyValues lays from the place lo on -/
def own_cvf (lo : Nat) (gx gp gv : Nat → Int32) : Nat → Int32 := own_updI (own_updI (own_s2 lo (own_updI (own_updI gx lo (gp 0)) (lo + 1) (gp 1))) lo (gv (own_s2 lo (own_updI (own_updI gx lo (gp 0)) (lo + 1) (gp 1)) lo).toNatClampNeg)) (lo + 1) (gv (own_s2 lo (own_updI (own_updI gx lo (gp 0)) (lo + 1) (gp 1)) (lo + 1)).toNatClampNeg)
theorem own_s2b {lo : Nat} {gx gp g2 : Nat → Int32} {un : Int32} (e : g2 = own_s2 lo (own_updI (own_updI gx lo (gp 0)) (lo + 1) (gp 1))) (h0 : ¬ (gp 0) < 0 ∧ (gp 0) < un) (h1 : ¬ (gp 1) < 0 ∧ (gp 1) < un) : (¬ (g2 lo) < 0 ∧ (g2 lo) < un) ∧ (¬ (g2 (lo + 1)) < 0 ∧ (g2 (lo + 1)) < un) := by
  have a : own_updI (own_updI gx lo (gp 0)) (lo + 1) (gp 1) lo = gp 0 := by unfold own_updI; rw [if_neg (by omega), if_pos rfl]
  have b : own_updI (own_updI gx lo (gp 0)) (lo + 1) (gp 1) (lo + 1) = gp 1 := by unfold own_updI; rw [if_pos rfl]
  subst e
  unfold own_s2
  generalize own_updI (own_updI gx lo (gp 0)) (lo + 1) (gp 1) = f at a b
  rw [a, b]
  split
  · refine ⟨?_, ?_⟩
    · rw [show own_updI (own_updI f (lo + 1) (gp 0)) lo (gp 1) lo = gp 1 from if_pos rfl]; exact h1
    · rw [show own_updI (own_updI f (lo + 1) (gp 0)) lo (gp 1) (lo + 1) = gp 0 by unfold own_updI; rw [if_neg (by omega), if_pos rfl]]; exact h0
  · rw [a, b]; exact ⟨h0, h1⟩
theorem own_ef57 (m : MethodId) (a pv : Addr) : entryFrame m #[.ref a, .ref pv] 8 = mkF m 0 #[sR a, sR pv, sU, sU, sU, sU, sU, sU] [] := by first | (simp [entryFrame, mkF, argsToLocals, Value.category]; done) | rfl
def Q57 (Z : State) (a pv : Addr) (kp : ClassId) (g : Nat → Int32) (u0 u1 : Value) (u2 u3 : Value) (u4 u5 : Value) (h0 : Heap) (n0 : Nat) (v : Option Value) (h : Heap) (L : List Loc) : Prop := ∃ (un : Int32) (gV gi : Nat → Int32) (k_dv k_di : ClassId) (k_dc k_dr : ClassId) (k_dp k_dl : ClassId) (dv di : Addr) (dc dr : Addr) (dp dl : Addr), v = none ∧ Fr n0 L ∧ Keep h0 h [a] ∧ n0 ≤ dv ∧ h0.size ≤ dv ∧ n0 ≤ di ∧ h0.size ≤ di ∧ n0 ≤ dc ∧ h0.size ≤ dc ∧ n0 ≤ dr ∧ h0.size ≤ dr ∧ n0 ≤ dp ∧ h0.size ≤ dp ∧ n0 ≤ dl ∧ h0.size ≤ dl ∧ Exa Z h a kDV ∧ Fld Z h a kDV "values" "[I" (.ref dv) ∧ Fld Z h a kDV "ids" "[I" (.ref di) ∧ Fld Z h a kDV "counts" "[I" (.ref dc) ∧ Fld Z h a kDV "carriers" "[I" (.ref dr) ∧ Fld Z h a kDV "present" "[I" (.ref dp) ∧ Fld Z h a kDV "places" "[I" (.ref dl) ∧ Fld Z h a kDV "distinct" "I" (.int 0) ∧ own_AI Z h dv k_dv un gV ∧ own_AI Z h di k_di 3 gi ∧ own_AI Z h dc k_dc un (fun _ => 0) ∧ own_AI Z h dr k_dr un (fun _ => 0) ∧ own_AI Z h dp k_dp un (fun _ => 0) ∧ own_AI Z h dl k_dl un (fun _ => 0) ∧ own_dvp g un gV gi ∧ dv ≠ di ∧ dv ≠ dc ∧ dv ≠ dr ∧ dv ≠ dp ∧ dv ≠ dl ∧ di ≠ dc ∧ di ≠ dr ∧ di ≠ dp ∧ di ≠ dl ∧ dc ≠ dr ∧ dc ≠ dp ∧ dc ≠ dl ∧ dr ≠ dp ∧ dr ≠ dl ∧ dp ≠ dl
set_option maxRecDepth 65536 in
set_option maxHeartbeats 4000000 in
theorem rm57 {l : Launch} {Z : State} {a0 : Array Value} (hw : own_T a0 Z) (a pv : Addr) (kp : ClassId) (g : Nat → Int32) (u0 u1 : Value) (u2 u3 : Value) (u4 u5 : Value) (h0 : Heap) (n0 : Nat) (Z0 : n0 ≤ h0.size) (F0 : Exa Z h0 a kDV) (F1 : Fld Z h0 a kDV "values" "[I" u0) (F2 : Fld Z h0 a kDV "ids" "[I" u1) (F3 : Fld Z h0 a kDV "counts" "[I" u2) (F4 : Fld Z h0 a kDV "carriers" "[I" u3) (F5 : Fld Z h0 a kDV "present" "[I" u4) (F6 : Fld Z h0 a kDV "places" "[I" u5) (F7 : Fld Z h0 a kDV "distinct" "I" (.int 0)) (F8 : Exa Z h0 pv "[I") (F9 : own_AI Z h0 pv kp 3 g) (hne : ¬ (g 0) = (g 1)) (npa : pv ≠ a) (g_a : n0 ≤ a) :
    own_M l Z ym41 prog_28_method_1_code 8 none ⟨4, 7, 21, 79⟩ #[.ref a, .ref pv] h0 (Q57 Z a pv kp g u0 u1 u2 u3 u4 u5 h0 n0) := by
  refine own_open kDV #[sR a, sR pv, sU, sU, sU, sU, sU, sU] (plainFor_of_name own_pn24) DL41 rfl (fun m => own_ef57 m a pv) fun p e s m below meth c s₁ Bd B hZ hown X0 e0 Pq hPq => ?_
  have hx := B.x
  have hml := B.2.1
  have hnm := (name_of_methodNamed Bd.named Bd.method).1
  have N0 := Fr.nil n0
  have K0 : Keep h0 h0 [a] := Keep.refl _ _
  refine SaN X0 B 0 rfl rfl rfl ?_
  obtain ⟨T1, X1, e1, st1⟩ := initO X0 hx hZ hown (hw 172 rfl) (hw 7 rfl) (hw 8 rfl) e0 (g := (mkF m 1 #[sR a, sR pv, sU, sU, sU, sU, sU, sU] [.ref a])) rfl (by rw [hml]; rfl) rfl (B.d 1 rfl) (by decide) (W := 0) (by show 2 * 0 + _ ≤ _; exact Nat.le_of_eq rfl) (by decide)
  refine own_st st1 ?_
  show own_Go _ _ _ _ T1 (mkF m 4 _ [])
  refine SaN X1 B 2 rfl rfl rfl ?_
  obtain ⟨c2, Ar2, q2, S2, N2, H2⟩ := id F9
  obtain ⟨T2, h2, X2, e2, E2, A2, EA2, st2⟩ := cloneA X1 hx hZ hown (hw 173 rfl) (hw 174 rfl) (hw 178 rfl) (hw 176 rfl) (hw 177 rfl) (hw 179 rfl) e1 Ar2 F8 (own_fitI Ar2 H2) (g := (mkF m 5 #[sR a, sR pv, sU, sU, sU, sU, sU, sU] [.ref pv])) rfl (by rw [hml]; rfl) rfl (B.d 3 rfl) (by decide) (W := 0) (cap := 3) (by show 2 * 0 + _ ≤ _; exact Nat.le_of_eq rfl) (by decide) (by rw [S2]; decide) (by decide) (by decide)
  obtain ⟨b2, g2⟩ : ∃ z, z = h0.size := ⟨_, rfl⟩
  rw [← g2] at A2 EA2 st2
  refine own_st st2 ?_
  have ne3 : a ≠ b2 := own_nl F0.lt (Nat.le_of_eq g2.symm)
  have ne4 : pv ≠ b2 := own_nl F8.lt (Nat.le_of_eq g2.symm)
  have gx5 : n0 ≤ b2 := Nat.le_trans Z0 (Nat.le_of_eq g2.symm)
  have Z6 : n0 ≤ h2.size := Nat.le_trans Z0 E2.1
  have sz8 : h0.size ≤ b2 := Nat.le_trans K0.1 (Nat.le_of_eq g2.symm)
  have K7 := K0.ext E2
  have V2 : own_AI Z h2 b2 kp 3 g := own_AI.clone H2 q2 S2 N2 A2
  show own_Go _ _ _ _ T2 (mkF m 8 _ [.ref b2])
  obtain ⟨T9, X9, e9, st9⟩ := castY X2 hx hZ hown (hw 180 rfl) e2 (Ins.self EA2) (g := (mkF m 8 #[sR a, sR pv, sU, sU, sU, sU, sU, sU] [.ref b2])) rfl rfl (B.d 4 rfl)
  refine own_st st9 ?_
  show own_Go _ _ _ _ T9 (mkF m 11 _ [.ref b2])
  refine SasN #[sR a, sR pv, sR b2, sU, sU, sU, sU, sU] X9 B 5 rfl rfl rfl ?_
  refine SaN X9 B 6 rfl rfl rfl ?_
  refine Kst (wt := 0) (y := ym31) none X9 B hZ hown (hw 182 rfl) (hw 183 rfl) (hw 184 rfl) (hw 185 rfl) (rm31 hw b2 kp g h2 n0 Z6 V2 gx5) e9 own_pd___I_V 7 rfl rfl rfl (fun _ _ _ q => by obtain ⟨_, e, _⟩ := q; exact e) fun T10 Lc10 X10 hQ10 => ?_
  obtain ⟨r10_g2, -, NQ10, K10, fq10_0, hq10_0⟩ := hQ10
  have N11 := Fr.app N0 NQ10
  have Z12 : n0 ≤ T10.heap.size := Nat.le_trans Z6 K10.1
  have K13 := K7.trans K10 (allS (Or.inr sz8) all0)
  show own_Go _ _ _ _ T10 (mkF m 16 _ [])
  have Bkv : ∀ (Tlv : State) (Llv : List Loc) (hlv : Heap) (vb : Addr) (kv : ClassId) (gW : Nat → Int32), Stand p l e (⟨4, 7, 21, 79⟩ : Room) s m #[.ref a, .ref pv] below meth c Tlv Llv 2 5 → Tlv.heap = hlv → Fr n0 Llv → n0 ≤ hlv.size → Keep h0 hlv [a] → (Exa Z hlv a kDV) → (Fld Z hlv a kDV "values" "[I" (.ref vb)) → (Fld Z hlv a kDV "ids" "[I" u1) → (Fld Z hlv a kDV "counts" "[I" u2) → (Fld Z hlv a kDV "carriers" "[I" u3) → (Fld Z hlv a kDV "present" "[I" u4) → (Fld Z hlv a kDV "places" "[I" u5) → (Fld Z hlv a kDV "distinct" "I" (.int 0)) → (Exa Z hlv pv "[I") → (own_AI Z hlv pv kp 3 g) → (own_AI Z hlv vb kv 2 gW) → (own_d2 g gW) → (n0 ≤ vb) → (h0.size ≤ vb) → (vb ≠ a) → (pv ≠ vb) → own_Go p.tables e below Pq Tlv (mkF m 80 #[sR a, sR pv, sR b2, sI 2, sR b2, sI 3, sI 3, sI (r10_g2 2)] []) := by
    intro Tlv Llv hlv vb kv gW Xlv elv Nlv Zlv Klv mv0 mv1 mv2 mv3 mv4 mv5 mv6 mv7 mv8 mv9 mv10 Dv gvb szb nvb npv
    show own_Go _ _ _ _ Tlv (mkF m 80 #[sR a, sR pv, sR b2, sI 2, sR b2, sI 3, sI 3, sI (r10_g2 2)] [])
    refine SaN Xlv B 45 rfl rfl rfl ?_
    refine SaN Xlv B 46 rfl rfl rfl ?_
    obtain ⟨c14, Ar14, q14, S14, N14, H14⟩ := id mv9
    refine own_st (fun t k => Xlv.arraylength hx (by rw [elv]; exact Ar14.1) (State.isArrayOf_alike hZ.alike Ar14.2.1) (g := (mkF m 82 #[sR a, sR pv, sR b2, sI 2, sR b2, sI 3, sI 3, sI (r10_g2 2)] [.ref pv, .ref a])) rfl rfl (B.d 47 rfl) _ k) ?_
    rw [len_of S14 N14]
    show own_Go _ _ _ _ Tlv (mkF m 83 _ [.int 3, .ref a])
    obtain ⟨T15, h15, k15, X15, e15, E15, A15, EA15, st15⟩ := newPE Xlv hx hZ (hw 21 rfl) elv (g := (mkF m 83 #[sR a, sR pv, sR b2, sI 2, sR b2, sI 3, sI 3, sI (r10_g2 2)] [.int 3, .ref a])) rfl (B.d 48 rfl) rfl (by decide) (cap := 3) (by decide) (by decide) (by decide) (by decide) (ad := "[I") (by decide)
    obtain ⟨b15, g15⟩ : ∃ z, z = hlv.size := ⟨_, rfl⟩
    rw [← g15] at A15 EA15 st15
    refine own_st st15 ?_
    have ne16 : a ≠ b15 := own_nl mv0.lt (Nat.le_of_eq g15.symm)
    have ne17 : pv ≠ b15 := own_nl mv8.lt (Nat.le_of_eq g15.symm)
    have ne18 : vb ≠ b15 := own_nl mv10.lt (Nat.le_of_eq g15.symm)
    have gx19 : n0 ≤ b15 := Nat.le_trans Zlv (Nat.le_of_eq g15.symm)
    have Z20 : n0 ≤ h15.size := Nat.le_trans Zlv E15.1
    have sz22 : h0.size ≤ b15 := Nat.le_trans Klv.1 (Nat.le_of_eq g15.symm)
    have K21 := Klv.ext E15
    have V15 : own_AI Z h15 b15 k15 3 (fun _ => (0 : Int32)) := own_AI.new A15 (by decide)
    show own_Go _ _ _ _ T15 (mkF m 85 _ [.ref b15, .ref a])
    have f24 := (mv0.ext E15)
    have f25 := (mv2.ext E15)
    refine Kpf (.array .int) X15 B hZ hown (hw 203 rfl) Via.refl e15 f25 f24 (Or.inr ⟨(hw 204 rfl), rfl, hnm⟩) (hw 167 rfl) 49 rfl fun T23 h23 X23 e23 W23 f26 => ?_
    have N27 := Fr.snoc X23 Nlv g_a
    have Z28 : n0 ≤ h23.size := Nat.le_trans Z20 (Nat.le_of_eq W23.size.symm)
    have K29 := K21.wr W23 (own_mI 0 rfl)
    refine Sc 0 X23 B 50 rfl rfl ?_
    refine Sis #[sR a, sR pv, sR b2, sI 2, sI 0, sI 3, sI 3, sI (r10_g2 2)] X23 B 51 rfl rfl ?_
    refine Si X23 B 52 rfl rfl ?_
    refine SaN X23 B 53 rfl rfl rfl ?_
    have f31 := ((mv9.ext E15).other W23 npa)
    obtain ⟨c30, Ar30, q30, S30, N30, H30⟩ := id f31
    refine own_st (fun t k => X23.arraylength hx (by rw [e23]; exact Ar30.1) (State.isArrayOf_alike hZ.alike Ar30.2.1) (g := (mkF m 94 #[sR a, sR pv, sR b2, sI 2, sI 0, sI 3, sI 3, sI (r10_g2 2)] [.ref pv, .int 0])) rfl rfl (B.d 54 rfl) _ k) ?_
    rw [len_of S30 N30]
    show own_Go _ _ _ _ T23 (mkF m 95 _ [.int 3, .int 0])
    refine Scn X23 B 55 rfl (tlt (by decide : ((0 : Int32) < (3 : Int32)))).2.1 ?_
    refine SaN X23 B 56 rfl rfl rfl ?_
    refine Kgf X23 B hZ hown (hw 203 rfl) Via.refl e23 f26 57 rfl fun T32 X32 e32 => ?_
    refine Si X32 B 58 rfl rfl ?_
    refine SaN X32 B 59 rfl rfl rfl ?_
    have f34 := ((mv1.ext E15).other W23 (Or.inr (slot_ne (Or.inr (hw 202 rfl)) (Or.inr (hw 204 rfl)) (by decide) (t := (.array .int)) (t' := (.array .int)) (by decide) (by decide))))
    refine Kgf X32 B hZ hown (hw 201 rfl) Via.refl e32 f34 60 rfl fun T33 X33 e33 => ?_
    refine SaN X33 B 61 rfl rfl rfl ?_
    refine Si X33 B 62 rfl rfl ?_
    refine Kil 0 X33 B hZ e33 f31 ⟨by decide, by decide⟩ rfl 63 rfl ?_
    have f37 := ((mv10.ext E15).other W23 nvb)
    obtain ⟨_, _, ⟨T36, L36, k36, n36⟩, -, X36, ⟨Lc36, hQ36, l36, y36, z36⟩, st36⟩ := Jvm.LawKit.callS X33 hx (y := ym40) hown (mvT hZ (hw 205 rfl)) (mvT hZ (hw 206 rfl)) (mvT hZ (hw 184 rfl)) (mvT hZ (hw 207 rfl)) (by decide) (backOf (W := 2) (rm54 hw vb (g 0) kv gW h23 n0 Z28 f37 (Dv.1) (Dv.2 0 (by decide))) hZ (hw 207 rfl) (hw 184 rfl) (by decide) (by decide)) (g := (mkF m 112 #[sR a, sR pv, sR b2, sI 2, sI 0, sI 3, sI 3, sI (r10_g2 2)] [(.int (g 0)), .ref vb, .int 0, .ref b15])) rfl (by rw [hml]; rfl) (argsL := [.ref vb, (.int (g 0))]) (rest := [.int 0, .ref b15]) (lenOf own_pd___II_I rfl) rfl (by show 2 * 0 + _ ≤ _; exact Nat.le_of_eq rfl) (B.d 64 rfl) (fun _ _ => ⟨rfl, e33, (by decide : 3 + 0 ≤ _), (by decide : 8 + 0 ≤ _)⟩)
    dsimp only [Pt.U, Pt.locs, Pt.cells, Pt.slots] at X36 l36 y36 z36 st36 hQ36
    subst l36 y36 z36
    obtain ⟨r36_rr, rfl, NQ36, eq36, hq36_0⟩ := hQ36
    have N38 := Fr.app N27 NQ36
    refine own_st st36 ?_
    show own_Go _ _ _ _ T36 (mkF m 115 _ [.int r36_rr, .int 0, .ref b15])
    have f40 := (V15.other W23 (Ne.symm ne16))
    refine Kis 0 X36 B hZ eq36 f40 ⟨by decide, by decide⟩ rfl 65 rfl fun T39 h39 X39 e39 W39 f41 => ?_
    have N42 := Fr.snoc X39 N38 gx19
    have Z43 : n0 ≤ h39.size := Nat.le_trans Z28 (Nat.le_of_eq W39.size.symm)
    have K44 := K29.wr W39 (Or.inr sz22)
    refine own_st (fun t k => XS.iinc X39.here hx rfl (B.d 66 rfl) rfl (l' := #[sR a, sR pv, sR b2, sI 2, sI 1, sI 3, sI 3, sI (r10_g2 2)]) rfl k) ?_
    refine Sg 119 91 X39 B 67 rfl ?_
    refine Si X39 B 52 rfl rfl ?_
    refine SaN X39 B 53 rfl rfl rfl ?_
    have f46 := (f31.other W39 ne17)
    obtain ⟨c45, Ar45, q45, S45, N45, H45⟩ := id f46
    refine own_st (fun t k => X39.arraylength hx (by rw [e39]; exact Ar45.1) (State.isArrayOf_alike hZ.alike Ar45.2.1) (g := (mkF m 94 #[sR a, sR pv, sR b2, sI 2, sI 1, sI 3, sI 3, sI (r10_g2 2)] [.ref pv, .int 1])) rfl rfl (B.d 54 rfl) _ k) ?_
    rw [len_of S45 N45]
    show own_Go _ _ _ _ T39 (mkF m 95 _ [.int 3, .int 1])
    refine Scn X39 B 55 rfl (tlt (by decide : ((1 : Int32) < (3 : Int32)))).2.1 ?_
    refine SaN X39 B 56 rfl rfl rfl ?_
    have f48 := (f26.other W39 (Or.inl ne16))
    refine Kgf X39 B hZ hown (hw 203 rfl) Via.refl e39 f48 57 rfl fun T47 X47 e47 => ?_
    refine Si X47 B 58 rfl rfl ?_
    refine SaN X47 B 59 rfl rfl rfl ?_
    have f50 := (f34.other W39 (Or.inl ne16))
    refine Kgf X47 B hZ hown (hw 201 rfl) Via.refl e47 f50 60 rfl fun T49 X49 e49 => ?_
    refine SaN X49 B 61 rfl rfl rfl ?_
    refine Si X49 B 62 rfl rfl ?_
    refine Kil 1 X49 B hZ e49 f46 ⟨by decide, by decide⟩ rfl 63 rfl ?_
    have f53 := (f37.other W39 ne18)
    obtain ⟨_, _, ⟨T52, L52, k52, n52⟩, -, X52, ⟨Lc52, hQ52, l52, y52, z52⟩, st52⟩ := Jvm.LawKit.callS X49 hx (y := ym40) hown (mvT hZ (hw 205 rfl)) (mvT hZ (hw 206 rfl)) (mvT hZ (hw 184 rfl)) (mvT hZ (hw 207 rfl)) (by decide) (backOf (W := 2) (rm54 hw vb (g 1) kv gW h39 n0 Z43 f53 (Dv.1) (Dv.2 1 (by decide))) hZ (hw 207 rfl) (hw 184 rfl) (by decide) (by decide)) (g := (mkF m 112 #[sR a, sR pv, sR b2, sI 2, sI 1, sI 3, sI 3, sI (r10_g2 2)] [(.int (g 1)), .ref vb, .int 1, .ref b15])) rfl (by rw [hml]; rfl) (argsL := [.ref vb, (.int (g 1))]) (rest := [.int 1, .ref b15]) (lenOf own_pd___II_I rfl) rfl (by show 2 * 0 + _ ≤ _; exact Nat.le_of_eq rfl) (B.d 64 rfl) (fun _ _ => ⟨rfl, e49, (by decide : 3 + 0 ≤ _), (by decide : 8 + 0 ≤ _)⟩)
    dsimp only [Pt.U, Pt.locs, Pt.cells, Pt.slots] at X52 l52 y52 z52 st52 hQ52
    subst l52 y52 z52
    obtain ⟨r52_rr, rfl, NQ52, eq52, hq52_0⟩ := hQ52
    have N54 := Fr.app N42 NQ52
    refine own_st st52 ?_
    show own_Go _ _ _ _ T52 (mkF m 115 _ [.int r52_rr, .int 1, .ref b15])
    refine Kis 1 X52 B hZ eq52 f41 ⟨by decide, by decide⟩ rfl 65 rfl fun T55 h55 X55 e55 W55 f56 => ?_
    have N57 := Fr.snoc X55 N54 gx19
    have Z58 : n0 ≤ h55.size := Nat.le_trans Z43 (Nat.le_of_eq W55.size.symm)
    have K59 := K44.wr W55 (Or.inr sz22)
    refine own_st (fun t k => XS.iinc X55.here hx rfl (B.d 66 rfl) rfl (l' := #[sR a, sR pv, sR b2, sI 2, sI 2, sI 3, sI 3, sI (r10_g2 2)]) rfl k) ?_
    refine Sg 119 91 X55 B 67 rfl ?_
    refine Si X55 B 52 rfl rfl ?_
    refine SaN X55 B 53 rfl rfl rfl ?_
    have f61 := (f46.other W55 ne17)
    obtain ⟨c60, Ar60, q60, S60, N60, H60⟩ := id f61
    refine own_st (fun t k => X55.arraylength hx (by rw [e55]; exact Ar60.1) (State.isArrayOf_alike hZ.alike Ar60.2.1) (g := (mkF m 94 #[sR a, sR pv, sR b2, sI 2, sI 2, sI 3, sI 3, sI (r10_g2 2)] [.ref pv, .int 2])) rfl rfl (B.d 54 rfl) _ k) ?_
    rw [len_of S60 N60]
    show own_Go _ _ _ _ T55 (mkF m 95 _ [.int 3, .int 2])
    refine Scn X55 B 55 rfl (tlt (by decide : ((2 : Int32) < (3 : Int32)))).2.1 ?_
    refine SaN X55 B 56 rfl rfl rfl ?_
    have f63 := (f48.other W55 (Or.inl ne16))
    refine Kgf X55 B hZ hown (hw 203 rfl) Via.refl e55 f63 57 rfl fun T62 X62 e62 => ?_
    refine Si X62 B 58 rfl rfl ?_
    refine SaN X62 B 59 rfl rfl rfl ?_
    have f65 := (f50.other W55 (Or.inl ne16))
    refine Kgf X62 B hZ hown (hw 201 rfl) Via.refl e62 f65 60 rfl fun T64 X64 e64 => ?_
    refine SaN X64 B 61 rfl rfl rfl ?_
    refine Si X64 B 62 rfl rfl ?_
    refine Kil 2 X64 B hZ e64 f61 ⟨by decide, by decide⟩ rfl 63 rfl ?_
    have f68 := (f53.other W55 ne18)
    obtain ⟨_, _, ⟨T67, L67, k67, n67⟩, -, X67, ⟨Lc67, hQ67, l67, y67, z67⟩, st67⟩ := Jvm.LawKit.callS X64 hx (y := ym40) hown (mvT hZ (hw 205 rfl)) (mvT hZ (hw 206 rfl)) (mvT hZ (hw 184 rfl)) (mvT hZ (hw 207 rfl)) (by decide) (backOf (W := 2) (rm54 hw vb (g 2) kv gW h55 n0 Z58 f68 (Dv.1) (Dv.2 2 (by decide))) hZ (hw 207 rfl) (hw 184 rfl) (by decide) (by decide)) (g := (mkF m 112 #[sR a, sR pv, sR b2, sI 2, sI 2, sI 3, sI 3, sI (r10_g2 2)] [(.int (g 2)), .ref vb, .int 2, .ref b15])) rfl (by rw [hml]; rfl) (argsL := [.ref vb, (.int (g 2))]) (rest := [.int 2, .ref b15]) (lenOf own_pd___II_I rfl) rfl (by show 2 * 0 + _ ≤ _; exact Nat.le_of_eq rfl) (B.d 64 rfl) (fun _ _ => ⟨rfl, e64, (by decide : 3 + 0 ≤ _), (by decide : 8 + 0 ≤ _)⟩)
    dsimp only [Pt.U, Pt.locs, Pt.cells, Pt.slots] at X67 l67 y67 z67 st67 hQ67
    subst l67 y67 z67
    obtain ⟨r67_rr, rfl, NQ67, eq67, hq67_0⟩ := hQ67
    have N69 := Fr.app N57 NQ67
    refine own_st st67 ?_
    show own_Go _ _ _ _ T67 (mkF m 115 _ [.int r67_rr, .int 2, .ref b15])
    refine Kis 2 X67 B hZ eq67 f56 ⟨by decide, by decide⟩ rfl 65 rfl fun T70 h70 X70 e70 W70 f71 => ?_
    have N72 := Fr.snoc X70 N69 gx19
    have Z73 : n0 ≤ h70.size := Nat.le_trans Z58 (Nat.le_of_eq W70.size.symm)
    have K74 := K59.wr W70 (Or.inr sz22)
    refine own_st (fun t k => XS.iinc X70.here hx rfl (B.d 66 rfl) rfl (l' := #[sR a, sR pv, sR b2, sI 2, sI 3, sI 3, sI 3, sI (r10_g2 2)]) rfl k) ?_
    refine Sg 119 91 X70 B 67 rfl ?_
    refine Si X70 B 52 rfl rfl ?_
    refine SaN X70 B 53 rfl rfl rfl ?_
    have f76 := (f61.other W70 ne17)
    obtain ⟨c75, Ar75, q75, S75, N75, H75⟩ := id f76
    refine own_st (fun t k => X70.arraylength hx (by rw [e70]; exact Ar75.1) (State.isArrayOf_alike hZ.alike Ar75.2.1) (g := (mkF m 94 #[sR a, sR pv, sR b2, sI 2, sI 3, sI 3, sI 3, sI (r10_g2 2)] [.ref pv, .int 3])) rfl rfl (B.d 54 rfl) _ k) ?_
    rw [len_of S75 N75]
    show own_Go _ _ _ _ T70 (mkF m 95 _ [.int 3, .int 3])
    refine Scy 95 122 X70 B 55 rfl (flt (by decide : ¬ ((3 : Int32) < (3 : Int32)))).2.1 ?_
    refine SaN X70 B 68 rfl rfl rfl ?_
    refine SiN X70 B 69 rfl rfl ?_
    obtain ⟨T77, h77, k77, X77, e77, E77, A77, EA77, st77⟩ := newPE X70 hx hZ (hw 21 rfl) e70 (g := (mkF m 124 #[sR a, sR pv, sR b2, sI 2, sI 3, sI 3, sI 3, sI (r10_g2 2)] [.int 2, .ref a])) rfl (B.d 70 rfl) rfl (by decide) (cap := 2) (by decide) (by decide) (by decide) (by decide) (ad := "[I") (by decide)
    obtain ⟨b77, g77⟩ : ∃ z, z = h70.size := ⟨_, rfl⟩
    rw [← g77] at A77 EA77 st77
    refine own_st st77 ?_
    have ne78 : a ≠ b77 := own_nl ((((f24.wr W23).wr W39).wr W55).wr W70).lt (Nat.le_of_eq g77.symm)
    have ne80 : vb ≠ b77 := own_nl (f68.other W70 ne18).lt (Nat.le_of_eq g77.symm)
    have ne81 : b15 ≠ b77 := own_nl ((((EA15.wr W23).wr W39).wr W55).wr W70).lt (Nat.le_of_eq g77.symm)
    have gx82 : n0 ≤ b77 := Nat.le_trans Z73 (Nat.le_of_eq g77.symm)
    have Z83 : n0 ≤ h77.size := Nat.le_trans Z73 E77.1
    have sz85 : h0.size ≤ b77 := Nat.le_trans K74.1 (Nat.le_of_eq g77.symm)
    have K84 := K74.ext E77
    have V77 : own_AI Z h77 b77 k77 2 (fun _ => (0 : Int32)) := own_AI.new A77 (by decide)
    show own_Go _ _ _ _ T77 (mkF m 126 _ [.ref b77, .ref a])
    have f87 := (((((f24.wr W23).wr W39).wr W55).wr W70).ext E77)
    have f88 := ((((((mv3.ext E15).other W23 (Or.inr (slot_ne (Or.inr (hw 212 rfl)) (Or.inr (hw 204 rfl)) (by decide) (t := (.array .int)) (t' := (.array .int)) (by decide) (by decide)))).other W39 (Or.inl ne16)).other W55 (Or.inl ne16)).other W70 (Or.inl ne16)).ext E77)
    refine Kpf (.array .int) X77 B hZ hown (hw 211 rfl) Via.refl e77 f88 f87 (Or.inr ⟨(hw 212 rfl), rfl, hnm⟩) (hw 167 rfl) 71 rfl fun T86 h86 X86 e86 W86 f89 => ?_
    have N90 := Fr.snoc X86 N72 g_a
    have Z91 : n0 ≤ h86.size := Nat.le_trans Z83 (Nat.le_of_eq W86.size.symm)
    have K92 := K84.wr W86 (own_mI 0 rfl)
    refine SaN X86 B 72 rfl rfl rfl ?_
    refine SiN X86 B 73 rfl rfl ?_
    obtain ⟨T93, h93, k93, X93, e93, E93, A93, EA93, st93⟩ := newPE X86 hx hZ (hw 21 rfl) e86 (g := (mkF m 131 #[sR a, sR pv, sR b2, sI 2, sI 3, sI 3, sI 3, sI (r10_g2 2)] [.int 2, .ref a])) rfl (B.d 74 rfl) rfl (by decide) (cap := 2) (by decide) (by decide) (by decide) (by decide) (ad := "[I") (by decide)
    obtain ⟨b93, g93⟩ : ∃ z, z = h86.size := ⟨_, rfl⟩
    rw [← g93] at A93 EA93 st93
    refine own_st st93 ?_
    have ne94 : a ≠ b93 := own_nl (f87.wr W86).lt (Nat.le_of_eq g93.symm)
    have ne96 : vb ≠ b93 := own_nl (((f68.other W70 ne18).ext E77).other W86 nvb).lt (Nat.le_of_eq g93.symm)
    have ne97 : b15 ≠ b93 := own_nl ((((((EA15.wr W23).wr W39).wr W55).wr W70).ext E77).wr W86).lt (Nat.le_of_eq g93.symm)
    have ne98 : b77 ≠ b93 := own_nl (EA77.wr W86).lt (Nat.le_of_eq g93.symm)
    have gx99 : n0 ≤ b93 := Nat.le_trans Z91 (Nat.le_of_eq g93.symm)
    have Z100 : n0 ≤ h93.size := Nat.le_trans Z91 E93.1
    have sz102 : h0.size ≤ b93 := Nat.le_trans K92.1 (Nat.le_of_eq g93.symm)
    have K101 := K92.ext E93
    have V93 : own_AI Z h93 b93 k93 2 (fun _ => (0 : Int32)) := own_AI.new A93 (by decide)
    show own_Go _ _ _ _ T93 (mkF m 133 _ [.ref b93, .ref a])
    have f104 := ((f87.wr W86).ext E93)
    have f105 := ((((((((mv4.ext E15).other W23 (Or.inr (slot_ne (Or.inr (hw 214 rfl)) (Or.inr (hw 204 rfl)) (by decide) (t := (.array .int)) (t' := (.array .int)) (by decide) (by decide)))).other W39 (Or.inl ne16)).other W55 (Or.inl ne16)).other W70 (Or.inl ne16)).ext E77).other W86 (Or.inr (slot_ne (Or.inr (hw 214 rfl)) (Or.inr (hw 212 rfl)) (by decide) (t := (.array .int)) (t' := (.array .int)) (by decide) (by decide)))).ext E93)
    refine Kpf (.array .int) X93 B hZ hown (hw 213 rfl) Via.refl e93 f105 f104 (Or.inr ⟨(hw 214 rfl), rfl, hnm⟩) (hw 167 rfl) 75 rfl fun T103 h103 X103 e103 W103 f106 => ?_
    have N107 := Fr.snoc X103 N90 g_a
    have Z108 : n0 ≤ h103.size := Nat.le_trans Z100 (Nat.le_of_eq W103.size.symm)
    have K109 := K101.wr W103 (own_mI 0 rfl)
    refine SaN X103 B 76 rfl rfl rfl ?_
    refine SiN X103 B 77 rfl rfl ?_
    obtain ⟨T110, h110, k110, X110, e110, E110, A110, EA110, st110⟩ := newPE X103 hx hZ (hw 21 rfl) e103 (g := (mkF m 138 #[sR a, sR pv, sR b2, sI 2, sI 3, sI 3, sI 3, sI (r10_g2 2)] [.int 2, .ref a])) rfl (B.d 78 rfl) rfl (by decide) (cap := 2) (by decide) (by decide) (by decide) (by decide) (ad := "[I") (by decide)
    obtain ⟨b110, g110⟩ : ∃ z, z = h103.size := ⟨_, rfl⟩
    rw [← g110] at A110 EA110 st110
    refine own_st st110 ?_
    have ne111 : a ≠ b110 := own_nl (f104.wr W103).lt (Nat.le_of_eq g110.symm)
    have ne113 : vb ≠ b110 := own_nl (((((f68.other W70 ne18).ext E77).other W86 nvb).ext E93).other W103 nvb).lt (Nat.le_of_eq g110.symm)
    have ne114 : b15 ≠ b110 := own_nl ((((((((EA15.wr W23).wr W39).wr W55).wr W70).ext E77).wr W86).ext E93).wr W103).lt (Nat.le_of_eq g110.symm)
    have ne115 : b77 ≠ b110 := own_nl (((EA77.wr W86).ext E93).wr W103).lt (Nat.le_of_eq g110.symm)
    have ne116 : b93 ≠ b110 := own_nl (EA93.wr W103).lt (Nat.le_of_eq g110.symm)
    have gx117 : n0 ≤ b110 := Nat.le_trans Z108 (Nat.le_of_eq g110.symm)
    have Z118 : n0 ≤ h110.size := Nat.le_trans Z108 E110.1
    have sz120 : h0.size ≤ b110 := Nat.le_trans K109.1 (Nat.le_of_eq g110.symm)
    have K119 := K109.ext E110
    have V110 : own_AI Z h110 b110 k110 2 (fun _ => (0 : Int32)) := own_AI.new A110 (by decide)
    show own_Go _ _ _ _ T110 (mkF m 140 _ [.ref b110, .ref a])
    have f122 := ((f104.wr W103).ext E110)
    have f123 := ((((((((((mv5.ext E15).other W23 (Or.inr (slot_ne (Or.inr (hw 216 rfl)) (Or.inr (hw 204 rfl)) (by decide) (t := (.array .int)) (t' := (.array .int)) (by decide) (by decide)))).other W39 (Or.inl ne16)).other W55 (Or.inl ne16)).other W70 (Or.inl ne16)).ext E77).other W86 (Or.inr (slot_ne (Or.inr (hw 216 rfl)) (Or.inr (hw 212 rfl)) (by decide) (t := (.array .int)) (t' := (.array .int)) (by decide) (by decide)))).ext E93).other W103 (Or.inr (slot_ne (Or.inr (hw 216 rfl)) (Or.inr (hw 214 rfl)) (by decide) (t := (.array .int)) (t' := (.array .int)) (by decide) (by decide)))).ext E110)
    refine Kpf (.array .int) X110 B hZ hown (hw 215 rfl) Via.refl e110 f123 f122 (Or.inr ⟨(hw 216 rfl), rfl, hnm⟩) (hw 167 rfl) 79 rfl fun T121 h121 X121 e121 W121 f124 => ?_
    have N125 := Fr.snoc X121 N107 g_a
    have Z126 : n0 ≤ h121.size := Nat.le_trans Z118 (Nat.le_of_eq W121.size.symm)
    have K127 := K119.wr W121 (own_mI 0 rfl)
    refine SaN X121 B 80 rfl rfl rfl ?_
    refine SiN X121 B 81 rfl rfl ?_
    obtain ⟨T128, h128, k128, X128, e128, E128, A128, EA128, st128⟩ := newPE X121 hx hZ (hw 21 rfl) e121 (g := (mkF m 145 #[sR a, sR pv, sR b2, sI 2, sI 3, sI 3, sI 3, sI (r10_g2 2)] [.int 2, .ref a])) rfl (B.d 82 rfl) rfl (by decide) (cap := 2) (by decide) (by decide) (by decide) (by decide) (ad := "[I") (by decide)
    obtain ⟨b128, g128⟩ : ∃ z, z = h121.size := ⟨_, rfl⟩
    rw [← g128] at A128 EA128 st128
    refine own_st st128 ?_
    have ne129 : a ≠ b128 := own_nl (f122.wr W121).lt (Nat.le_of_eq g128.symm)
    have ne131 : vb ≠ b128 := own_nl (((((((f68.other W70 ne18).ext E77).other W86 nvb).ext E93).other W103 nvb).ext E110).other W121 nvb).lt (Nat.le_of_eq g128.symm)
    have ne132 : b15 ≠ b128 := own_nl ((((((((((EA15.wr W23).wr W39).wr W55).wr W70).ext E77).wr W86).ext E93).wr W103).ext E110).wr W121).lt (Nat.le_of_eq g128.symm)
    have ne133 : b77 ≠ b128 := own_nl (((((EA77.wr W86).ext E93).wr W103).ext E110).wr W121).lt (Nat.le_of_eq g128.symm)
    have ne134 : b93 ≠ b128 := own_nl (((EA93.wr W103).ext E110).wr W121).lt (Nat.le_of_eq g128.symm)
    have ne135 : b110 ≠ b128 := own_nl (EA110.wr W121).lt (Nat.le_of_eq g128.symm)
    have gx136 : n0 ≤ b128 := Nat.le_trans Z126 (Nat.le_of_eq g128.symm)
    have sz139 : h0.size ≤ b128 := Nat.le_trans K127.1 (Nat.le_of_eq g128.symm)
    have K138 := K127.ext E128
    have V128 : own_AI Z h128 b128 k128 2 (fun _ => (0 : Int32)) := own_AI.new A128 (by decide)
    show own_Go _ _ _ _ T128 (mkF m 147 _ [.ref b128, .ref a])
    have f141 := ((f122.wr W121).ext E128)
    have f142 := ((((((((((((mv6.ext E15).other W23 (Or.inr (slot_ne (Or.inr (hw 218 rfl)) (Or.inr (hw 204 rfl)) (by decide) (t := (.array .int)) (t' := (.array .int)) (by decide) (by decide)))).other W39 (Or.inl ne16)).other W55 (Or.inl ne16)).other W70 (Or.inl ne16)).ext E77).other W86 (Or.inr (slot_ne (Or.inr (hw 218 rfl)) (Or.inr (hw 212 rfl)) (by decide) (t := (.array .int)) (t' := (.array .int)) (by decide) (by decide)))).ext E93).other W103 (Or.inr (slot_ne (Or.inr (hw 218 rfl)) (Or.inr (hw 214 rfl)) (by decide) (t := (.array .int)) (t' := (.array .int)) (by decide) (by decide)))).ext E110).other W121 (Or.inr (slot_ne (Or.inr (hw 218 rfl)) (Or.inr (hw 216 rfl)) (by decide) (t := (.array .int)) (t' := (.array .int)) (by decide) (by decide)))).ext E128)
    refine Kpf (.array .int) X128 B hZ hown (hw 217 rfl) Via.refl e128 f142 f141 (Or.inr ⟨(hw 218 rfl), rfl, hnm⟩) (hw 167 rfl) 83 rfl fun T140 h140 X140 e140 W140 f143 => ?_
    have N144 := Fr.snoc X140 N125 g_a
    have K146 := K138.wr W140 (own_mI 0 rfl)
    refine own_oV X140 B Bd 84 rfl hPq ?_
    rw [e140]
    exact ⟨(2 : Int32), gW, (own_updI (own_updI (own_updI (fun _ => (0 : Int32)) 0 r36_rr) 1 r52_rr) 2 r67_rr), kv, k15, k77, k93, k110, k128, vb, b15, b77, b93, b110, b128, rfl, N144, K146, gvb, szb, gx19, sz22, gx82, sz85, gx99, sz102, gx117, sz120, gx136, sz139, (f141.wr W140), (((((((((f65.other W70 (Or.inl ne16)).ext E77).other W86 (Or.inr (slot_ne (Or.inr (hw 202 rfl)) (Or.inr (hw 212 rfl)) (by decide) (t := (.array .int)) (t' := (.array .int)) (by decide) (by decide)))).ext E93).other W103 (Or.inr (slot_ne (Or.inr (hw 202 rfl)) (Or.inr (hw 214 rfl)) (by decide) (t := (.array .int)) (t' := (.array .int)) (by decide) (by decide)))).ext E110).other W121 (Or.inr (slot_ne (Or.inr (hw 202 rfl)) (Or.inr (hw 216 rfl)) (by decide) (t := (.array .int)) (t' := (.array .int)) (by decide) (by decide)))).ext E128).other W140 (Or.inr (slot_ne (Or.inr (hw 202 rfl)) (Or.inr (hw 218 rfl)) (by decide) (t := (.array .int)) (t' := (.array .int)) (by decide) (by decide)))), (((((((((f63.other W70 (Or.inl ne16)).ext E77).other W86 (Or.inr (slot_ne (Or.inr (hw 204 rfl)) (Or.inr (hw 212 rfl)) (by decide) (t := (.array .int)) (t' := (.array .int)) (by decide) (by decide)))).ext E93).other W103 (Or.inr (slot_ne (Or.inr (hw 204 rfl)) (Or.inr (hw 214 rfl)) (by decide) (t := (.array .int)) (t' := (.array .int)) (by decide) (by decide)))).ext E110).other W121 (Or.inr (slot_ne (Or.inr (hw 204 rfl)) (Or.inr (hw 216 rfl)) (by decide) (t := (.array .int)) (t' := (.array .int)) (by decide) (by decide)))).ext E128).other W140 (Or.inr (slot_ne (Or.inr (hw 204 rfl)) (Or.inr (hw 218 rfl)) (by decide) (t := (.array .int)) (t' := (.array .int)) (by decide) (by decide)))), ((((((f89.ext E93).other W103 (Or.inr (slot_ne (Or.inr (hw 212 rfl)) (Or.inr (hw 214 rfl)) (by decide) (t := (.array .int)) (t' := (.array .int)) (by decide) (by decide)))).ext E110).other W121 (Or.inr (slot_ne (Or.inr (hw 212 rfl)) (Or.inr (hw 216 rfl)) (by decide) (t := (.array .int)) (t' := (.array .int)) (by decide) (by decide)))).ext E128).other W140 (Or.inr (slot_ne (Or.inr (hw 212 rfl)) (Or.inr (hw 218 rfl)) (by decide) (t := (.array .int)) (t' := (.array .int)) (by decide) (by decide)))), ((((f106.ext E110).other W121 (Or.inr (slot_ne (Or.inr (hw 214 rfl)) (Or.inr (hw 216 rfl)) (by decide) (t := (.array .int)) (t' := (.array .int)) (by decide) (by decide)))).ext E128).other W140 (Or.inr (slot_ne (Or.inr (hw 214 rfl)) (Or.inr (hw 218 rfl)) (by decide) (t := (.array .int)) (t' := (.array .int)) (by decide) (by decide)))), ((f124.ext E128).other W140 (Or.inr (slot_ne (Or.inr (hw 216 rfl)) (Or.inr (hw 218 rfl)) (by decide) (t := (.array .int)) (t' := (.array .int)) (by decide) (by decide)))), f143, (((((((((((((mv7.ext E15).other W23 (Or.inr (slot_ne (Or.inl (hw 266 rfl)) (Or.inr (hw 204 rfl)) (by decide) (t := .int) (t' := (.array .int)) (by decide) (by decide)))).other W39 (Or.inl ne16)).other W55 (Or.inl ne16)).other W70 (Or.inl ne16)).ext E77).other W86 (Or.inr (slot_ne (Or.inl (hw 266 rfl)) (Or.inr (hw 212 rfl)) (by decide) (t := .int) (t' := (.array .int)) (by decide) (by decide)))).ext E93).other W103 (Or.inr (slot_ne (Or.inl (hw 266 rfl)) (Or.inr (hw 214 rfl)) (by decide) (t := .int) (t' := (.array .int)) (by decide) (by decide)))).ext E110).other W121 (Or.inr (slot_ne (Or.inl (hw 266 rfl)) (Or.inr (hw 216 rfl)) (by decide) (t := .int) (t' := (.array .int)) (by decide) (by decide)))).ext E128).other W140 (Or.inr (slot_ne (Or.inl (hw 266 rfl)) (Or.inr (hw 218 rfl)) (by decide) (t := .int) (t' := (.array .int)) (by decide) (by decide)))), (((((((((f68.other W70 ne18).ext E77).other W86 nvb).ext E93).other W103 nvb).ext E110).other W121 nvb).ext E128).other W140 nvb), ((((((((f71.ext E77).other W86 (Ne.symm ne16)).ext E93).other W103 (Ne.symm ne16)).ext E110).other W121 (Ne.symm ne16)).ext E128).other W140 (Ne.symm ne16)), (((((((V77.other W86 (Ne.symm ne78)).ext E93).other W103 (Ne.symm ne78)).ext E110).other W121 (Ne.symm ne78)).ext E128).other W140 (Ne.symm ne78)), (((((V93.other W103 (Ne.symm ne94)).ext E110).other W121 (Ne.symm ne94)).ext E128).other W140 (Ne.symm ne94)), (((V110.other W121 (Ne.symm ne111)).ext E128).other W140 (Ne.symm ne111)), (V128.other W140 (Ne.symm ne129)), (own_dv2 (Dv.1) hq36_0 hq52_0 hq67_0), ne18, ne80, ne96, ne113, ne131, ne81, ne97, ne114, ne132, ne98, ne115, ne133, ne116, ne134, ne135⟩
  show own_Go _ _ _ _ T10 (mkF m 16 _ [])
  refine Sc 0 X10 B 8 rfl rfl ?_
  refine SisN #[sR a, sR pv, sR b2, sI 0, sU, sU, sU, sU] X10 B 9 rfl rfl ?_
  refine SaN X10 B 10 rfl rfl rfl ?_
  refine Sas #[sR a, sR pv, sR b2, sI 0, sR b2, sU, sU, sU] X10 B 11 rfl rfl rfl ?_
  refine Sa X10 B 12 rfl rfl rfl ?_
  obtain ⟨c147, Ar147, q147, S147, N147, H147⟩ := id fq10_0
  refine own_st (fun t k => X10.arraylength hx (by exact Ar147.1) (State.isArrayOf_alike hZ.alike Ar147.2.1) (g := (mkF m 23 #[sR a, sR pv, sR b2, sI 0, sR b2, sU, sU, sU] [.ref b2])) rfl rfl (B.d 13 rfl) _ k) ?_
  rw [len_of S147 N147]
  show own_Go _ _ _ _ T10 (mkF m 24 _ [.int 3])
  refine Sis #[sR a, sR pv, sR b2, sI 0, sR b2, sI 3, sU, sU] X10 B 14 rfl rfl ?_
  refine Sc 0 X10 B 15 rfl rfl ?_
  refine Sis #[sR a, sR pv, sR b2, sI 0, sR b2, sI 3, sI 0, sU] X10 B 16 rfl rfl ?_
  refine Si X10 B 17 rfl rfl ?_
  refine Si X10 B 18 rfl rfl ?_
  refine Scn X10 B 19 rfl (tlt (by decide : ((0 : Int32) < (3 : Int32)))).2.1 ?_
  refine Sa X10 B 20 rfl rfl rfl ?_
  refine Si X10 B 21 rfl rfl ?_
  refine Kil 0 X10 B hZ rfl fq10_0 ⟨by decide, by decide⟩ rfl 22 rfl ?_
  refine Sis #[sR a, sR pv, sR b2, sI 0, sR b2, sI 3, sI 0, sI (r10_g2 0)] X10 B 23 rfl rfl ?_
  refine SiN X10 B 24 rfl rfl ?_
  refine Sfy 44 57 X10 B 25 rfl ((if0 _ _).trans (teq (by decide : ((0 : Int32) = (0 : Int32)))).1) ?_
  refine SaN X10 B 33 rfl rfl rfl ?_
  refine SiN X10 B 34 rfl rfl ?_
  refine Si X10 B 35 rfl rfl ?_
  refine Kis 0 X10 B hZ rfl fq10_0 ⟨by decide, by decide⟩ rfl 36 rfl fun T149 h149 X149 e149 W149 f150 => ?_
  have N151 := Fr.snoc X149 N11 gx5
  have Z152 : n0 ≤ h149.size := Nat.le_trans Z12 (Nat.le_of_eq W149.size.symm)
  have K153 := K13.wr W149 (Or.inr sz8)
  refine own_st (fun t k => XS.iinc X149.here hx rfl (B.d 37 rfl) rfl (l' := #[sR a, sR pv, sR b2, sI 1, sR b2, sI 3, sI 0, sI (r10_g2 0)]) rfl k) ?_
  refine own_st (fun t k => XS.iinc X149.here hx rfl (B.d 38 rfl) rfl (l' := #[sR a, sR pv, sR b2, sI 1, sR b2, sI 3, sI 1, sI (r10_g2 0)]) rfl k) ?_
  refine Sg 68 29 X149 B 39 rfl ?_
  refine Si X149 B 17 rfl rfl ?_
  refine Si X149 B 18 rfl rfl ?_
  refine Scn X149 B 19 rfl (tlt (by decide : ((1 : Int32) < (3 : Int32)))).2.1 ?_
  refine Sa X149 B 20 rfl rfl rfl ?_
  refine Si X149 B 21 rfl rfl ?_
  refine Kil 1 X149 B hZ e149 f150 ⟨by decide, by decide⟩ rfl 22 rfl ?_
  show own_Go _ _ _ _ T149 (mkF m 41 _ [(.int (r10_g2 1))])
  refine Sis #[sR a, sR pv, sR b2, sI 1, sR b2, sI 3, sI 1, sI (r10_g2 1)] X149 B 23 rfl rfl ?_
  refine SiN X149 B 24 rfl rfl ?_
  refine Sfn X149 B 25 rfl ((if0 _ _).trans (feq (by decide : ¬ ((1 : Int32) = (0 : Int32)))).1) ?_
  refine SaN X149 B 26 rfl rfl rfl ?_
  refine SiN X149 B 27 rfl rfl ?_
  refine Sc 1 X149 B 28 rfl rfl ?_
  refine own_st (fun t k => XS.isub X149.here hx rfl (B.d 29 rfl) rfl k) ?_
  refine Kil 0 X149 B hZ e149 f150 ⟨by decide, by decide⟩ rfl 30 rfl ?_
  show own_Go _ _ _ _ T149 (mkF m 52 _ [(.int (r10_g2 0))])
  refine Si X149 B 31 rfl rfl ?_
  by_cases c156 : (r10_g2 0) = (r10_g2 1)
  · skip
    refine Scy 54 65 X149 B 32 rfl (teq c156).1 ?_
    refine own_st (fun t k => XS.iinc X149.here hx rfl (B.d 38 rfl) rfl (l' := #[sR a, sR pv, sR b2, sI 1, sR b2, sI 3, sI 2, sI (r10_g2 1)]) rfl k) ?_
    refine Sg 68 29 X149 B 39 rfl ?_
    refine Si X149 B 17 rfl rfl ?_
    refine Si X149 B 18 rfl rfl ?_
    refine Scn X149 B 19 rfl (tlt (by decide : ((2 : Int32) < (3 : Int32)))).2.1 ?_
    refine Sa X149 B 20 rfl rfl rfl ?_
    refine Si X149 B 21 rfl rfl ?_
    refine Kil 2 X149 B hZ e149 f150 ⟨by decide, by decide⟩ rfl 22 rfl ?_
    show own_Go _ _ _ _ T149 (mkF m 41 _ [(.int (r10_g2 2))])
    refine Sis #[sR a, sR pv, sR b2, sI 1, sR b2, sI 3, sI 2, sI (r10_g2 2)] X149 B 23 rfl rfl ?_
    refine SiN X149 B 24 rfl rfl ?_
    refine Sfn X149 B 25 rfl ((if0 _ _).trans (feq (by decide : ¬ ((1 : Int32) = (0 : Int32)))).1) ?_
    refine SaN X149 B 26 rfl rfl rfl ?_
    refine SiN X149 B 27 rfl rfl ?_
    refine Sc 1 X149 B 28 rfl rfl ?_
    refine own_st (fun t k => XS.isub X149.here hx rfl (B.d 29 rfl) rfl k) ?_
    refine Kil 0 X149 B hZ e149 f150 ⟨by decide, by decide⟩ rfl 30 rfl ?_
    show own_Go _ _ _ _ T149 (mkF m 52 _ [(.int (r10_g2 0))])
    refine Si X149 B 31 rfl rfl ?_
    by_cases c159 : (r10_g2 0) = (r10_g2 2)
    · skip
      exact absurd (own_d1 hq10_0 c156 c159) hne
    · skip
      refine Scn X149 B 32 rfl (feq c159).1 ?_
      refine SaN X149 B 33 rfl rfl rfl ?_
      refine SiN X149 B 34 rfl rfl ?_
      refine Si X149 B 35 rfl rfl ?_
      refine Kis 1 X149 B hZ e149 f150 ⟨by decide, by decide⟩ rfl 36 rfl fun T160 h160 X160 e160 W160 f161 => ?_
      have N162 := Fr.snoc X160 N151 gx5
      have Z163 : n0 ≤ h160.size := Nat.le_trans Z152 (Nat.le_of_eq W160.size.symm)
      have K164 := K153.wr W160 (Or.inr sz8)
      refine own_st (fun t k => XS.iinc X160.here hx rfl (B.d 37 rfl) rfl (l' := #[sR a, sR pv, sR b2, sI 2, sR b2, sI 3, sI 2, sI (r10_g2 2)]) rfl k) ?_
      refine own_st (fun t k => XS.iinc X160.here hx rfl (B.d 38 rfl) rfl (l' := #[sR a, sR pv, sR b2, sI 2, sR b2, sI 3, sI 3, sI (r10_g2 2)]) rfl k) ?_
      refine Sg 68 29 X160 B 39 rfl ?_
      refine Si X160 B 17 rfl rfl ?_
      refine Si X160 B 18 rfl rfl ?_
      refine Scy 33 71 X160 B 19 rfl (flt (by decide : ¬ ((3 : Int32) < (3 : Int32)))).2.1 ?_
      refine SaN X160 B 40 rfl rfl rfl ?_
      refine SaN X160 B 41 rfl rfl rfl ?_
      refine SiN X160 B 42 rfl rfl ?_
      have f166 := (((EA2.keep K10).wr W149).wr W160)
      obtain ⟨_, _, ⟨T165, L165, k165, n165⟩, -, X165, ⟨Lc165, hQ165, l165, y165, z165⟩, st165⟩ := Jvm.LawKit.callS X160 hx (y := ym38) hown (mvT hZ (hw 196 rfl)) (mvT hZ (hw 197 rfl)) (mvT hZ (hw 184 rfl)) (mvT hZ (hw 198 rfl)) (by decide) (backOf (W := 1) (rm50 hw b2 kp (own_updI (own_updI r10_g2 0 (r10_g2 0)) 1 (r10_g2 2)) h160 n0 Z163 f166 f161) hZ (hw 198 rfl) (hw 184 rfl) (by decide) (by decide)) (g := (mkF m 74 #[sR a, sR pv, sR b2, sI 2, sR b2, sI 3, sI 3, sI (r10_g2 2)] [.int 2, .ref b2, .ref a])) rfl (by rw [hml]; rfl) (argsL := [.ref b2, .int 2]) (rest := [.ref a]) (lenOf own_pd___II__I rfl) rfl (by show 2 * 0 + _ ≤ _; exact Nat.le_of_eq rfl) (B.d 43 rfl) (fun _ _ => ⟨rfl, e160, (by decide : 1 + 1 ≤ _), (by decide : 3 + 2 ≤ _)⟩)
      dsimp only [Pt.U, Pt.locs, Pt.cells, Pt.slots] at X165 l165 y165 z165 st165 hQ165
      subst l165 y165 z165
      obtain ⟨r165_k_nb, b165_nb, rfl, NQ165, K165, gx_b165_nb, sz_b165_nb, fq165_0, fq165_1⟩ := hQ165
      have N167 := Fr.app N162 NQ165
      refine own_st st165 ?_
      have Z168 : n0 ≤ T165.heap.size := Nat.le_trans Z163 K165.1
      have lt170 := ((((F0.ext E2).keep K10).wr W149).wr W160).lt
      have ne169 := own_nl lt170 sz_b165_nb
      have lt172 := ((((F8.ext E2).keep K10).wr W149).wr W160).lt
      have ne171 := own_nl lt172 sz_b165_nb
      have sz176 : h0.size ≤ b165_nb := Nat.le_trans K164.1 sz_b165_nb
      have K175 := K164.trans K165 all0
      show own_Go _ _ _ _ T165 (mkF m 77 _ [.ref b165_nb, .ref a])
      have f178 := (((((F0.ext E2).keep K10).wr W149).wr W160).keep K165)
      have f179 := (((((F1.ext E2).keep K10 (ninS ne3 nin0)).other W149 (Or.inl ne3)).other W160 (Or.inl ne3)).keep K165 nin0)
      refine Kpf (.array .int) X165 B hZ hown (hw 201 rfl) Via.refl rfl f179 f178 (Or.inr ⟨(hw 202 rfl), rfl, hnm⟩) (hw 167 rfl) 44 rfl fun T177 h177 X177 e177 W177 f180 => ?_
      have N181 := Fr.snoc X177 N167 g_a
      have Z182 : n0 ≤ h177.size := Nat.le_trans Z168 (Nat.le_of_eq W177.size.symm)
      have K183 := K175.wr W177 (own_mI 0 rfl)
      exact Bkv T177 _ h177 b165_nb _ (own_i2 (r10_g2 0) (r10_g2 2)) X177 e177 N181 Z182 K183 (f178.wr W177) f180 ((((((F2.ext E2).keep K10 (ninS ne3 nin0)).other W149 (Or.inl ne3)).other W160 (Or.inl ne3)).keep K165 nin0).other W177 (Or.inr (slot_ne (Or.inr (hw 204 rfl)) (Or.inr (hw 202 rfl)) (by decide) (t := (.array .int)) (t' := (.array .int)) (by decide) (by decide)))) ((((((F3.ext E2).keep K10 (ninS ne3 nin0)).other W149 (Or.inl ne3)).other W160 (Or.inl ne3)).keep K165 nin0).other W177 (Or.inr (slot_ne (Or.inr (hw 212 rfl)) (Or.inr (hw 202 rfl)) (by decide) (t := (.array .int)) (t' := (.array .int)) (by decide) (by decide)))) ((((((F4.ext E2).keep K10 (ninS ne3 nin0)).other W149 (Or.inl ne3)).other W160 (Or.inl ne3)).keep K165 nin0).other W177 (Or.inr (slot_ne (Or.inr (hw 214 rfl)) (Or.inr (hw 202 rfl)) (by decide) (t := (.array .int)) (t' := (.array .int)) (by decide) (by decide)))) ((((((F5.ext E2).keep K10 (ninS ne3 nin0)).other W149 (Or.inl ne3)).other W160 (Or.inl ne3)).keep K165 nin0).other W177 (Or.inr (slot_ne (Or.inr (hw 216 rfl)) (Or.inr (hw 202 rfl)) (by decide) (t := (.array .int)) (t' := (.array .int)) (by decide) (by decide)))) ((((((F6.ext E2).keep K10 (ninS ne3 nin0)).other W149 (Or.inl ne3)).other W160 (Or.inl ne3)).keep K165 nin0).other W177 (Or.inr (slot_ne (Or.inr (hw 218 rfl)) (Or.inr (hw 202 rfl)) (by decide) (t := (.array .int)) (t' := (.array .int)) (by decide) (by decide)))) ((((((F7.ext E2).keep K10 (ninS ne3 nin0)).other W149 (Or.inl ne3)).other W160 (Or.inl ne3)).keep K165 nin0).other W177 (Or.inr (slot_ne (Or.inl (hw 266 rfl)) (Or.inr (hw 202 rfl)) (by decide) (t := .int) (t' := (.array .int)) (by decide) (by decide)))) ((((((F8.ext E2).keep K10).wr W149).wr W160).keep K165).wr W177) ((((((F9.ext E2).keep K10 (ninS ne4 nin0)).other W149 ne4).other W160 ne4).keep K165 nin0).other W177 npa) (fq165_0.other W177 (Ne.symm ne169)) (own_d2a hq10_0 c156 c159) gx_b165_nb sz176 (Ne.symm ne169) ne171
  · skip
    refine Scn X149 B 32 rfl (feq c156).1 ?_
    refine SaN X149 B 33 rfl rfl rfl ?_
    refine SiN X149 B 34 rfl rfl ?_
    refine Si X149 B 35 rfl rfl ?_
    refine Kis 1 X149 B hZ e149 f150 ⟨by decide, by decide⟩ rfl 36 rfl fun T184 h184 X184 e184 W184 f185 => ?_
    have N186 := Fr.snoc X184 N151 gx5
    have Z187 : n0 ≤ h184.size := Nat.le_trans Z152 (Nat.le_of_eq W184.size.symm)
    have K188 := K153.wr W184 (Or.inr sz8)
    refine own_st (fun t k => XS.iinc X184.here hx rfl (B.d 37 rfl) rfl (l' := #[sR a, sR pv, sR b2, sI 2, sR b2, sI 3, sI 1, sI (r10_g2 1)]) rfl k) ?_
    refine own_st (fun t k => XS.iinc X184.here hx rfl (B.d 38 rfl) rfl (l' := #[sR a, sR pv, sR b2, sI 2, sR b2, sI 3, sI 2, sI (r10_g2 1)]) rfl k) ?_
    refine Sg 68 29 X184 B 39 rfl ?_
    refine Si X184 B 17 rfl rfl ?_
    refine Si X184 B 18 rfl rfl ?_
    refine Scn X184 B 19 rfl (tlt (by decide : ((2 : Int32) < (3 : Int32)))).2.1 ?_
    refine Sa X184 B 20 rfl rfl rfl ?_
    refine Si X184 B 21 rfl rfl ?_
    refine Kil 2 X184 B hZ e184 f185 ⟨by decide, by decide⟩ rfl 22 rfl ?_
    show own_Go _ _ _ _ T184 (mkF m 41 _ [(.int (r10_g2 2))])
    refine Sis #[sR a, sR pv, sR b2, sI 2, sR b2, sI 3, sI 2, sI (r10_g2 2)] X184 B 23 rfl rfl ?_
    refine SiN X184 B 24 rfl rfl ?_
    refine Sfn X184 B 25 rfl ((if0 _ _).trans (feq (by decide : ¬ ((2 : Int32) = (0 : Int32)))).1) ?_
    refine SaN X184 B 26 rfl rfl rfl ?_
    refine SiN X184 B 27 rfl rfl ?_
    refine Sc 1 X184 B 28 rfl rfl ?_
    refine own_st (fun t k => XS.isub X184.here hx rfl (B.d 29 rfl) rfl k) ?_
    refine Kil 1 X184 B hZ e184 f185 ⟨by decide, by decide⟩ rfl 30 rfl ?_
    show own_Go _ _ _ _ T184 (mkF m 52 _ [(.int (r10_g2 1))])
    refine Si X184 B 31 rfl rfl ?_
    by_cases c191 : (r10_g2 1) = (r10_g2 2)
    · skip
      refine Scy 54 65 X184 B 32 rfl (teq c191).1 ?_
      refine own_st (fun t k => XS.iinc X184.here hx rfl (B.d 38 rfl) rfl (l' := #[sR a, sR pv, sR b2, sI 2, sR b2, sI 3, sI 3, sI (r10_g2 2)]) rfl k) ?_
      refine Sg 68 29 X184 B 39 rfl ?_
      refine Si X184 B 17 rfl rfl ?_
      refine Si X184 B 18 rfl rfl ?_
      refine Scy 33 71 X184 B 19 rfl (flt (by decide : ¬ ((3 : Int32) < (3 : Int32)))).2.1 ?_
      refine SaN X184 B 40 rfl rfl rfl ?_
      refine SaN X184 B 41 rfl rfl rfl ?_
      refine SiN X184 B 42 rfl rfl ?_
      have f193 := (((EA2.keep K10).wr W149).wr W184)
      obtain ⟨_, _, ⟨T192, L192, k192, n192⟩, -, X192, ⟨Lc192, hQ192, l192, y192, z192⟩, st192⟩ := Jvm.LawKit.callS X184 hx (y := ym38) hown (mvT hZ (hw 196 rfl)) (mvT hZ (hw 197 rfl)) (mvT hZ (hw 184 rfl)) (mvT hZ (hw 198 rfl)) (by decide) (backOf (W := 1) (rm50 hw b2 kp (own_updI (own_updI r10_g2 0 (r10_g2 0)) 1 (r10_g2 1)) h184 n0 Z187 f193 f185) hZ (hw 198 rfl) (hw 184 rfl) (by decide) (by decide)) (g := (mkF m 74 #[sR a, sR pv, sR b2, sI 2, sR b2, sI 3, sI 3, sI (r10_g2 2)] [.int 2, .ref b2, .ref a])) rfl (by rw [hml]; rfl) (argsL := [.ref b2, .int 2]) (rest := [.ref a]) (lenOf own_pd___II__I rfl) rfl (by show 2 * 0 + _ ≤ _; exact Nat.le_of_eq rfl) (B.d 43 rfl) (fun _ _ => ⟨rfl, e184, (by decide : 1 + 1 ≤ _), (by decide : 3 + 2 ≤ _)⟩)
      dsimp only [Pt.U, Pt.locs, Pt.cells, Pt.slots] at X192 l192 y192 z192 st192 hQ192
      subst l192 y192 z192
      obtain ⟨r192_k_nb, b192_nb, rfl, NQ192, K192, gx_b192_nb, sz_b192_nb, fq192_0, fq192_1⟩ := hQ192
      have N194 := Fr.app N186 NQ192
      refine own_st st192 ?_
      have Z195 : n0 ≤ T192.heap.size := Nat.le_trans Z187 K192.1
      have lt197 := ((((F0.ext E2).keep K10).wr W149).wr W184).lt
      have ne196 := own_nl lt197 sz_b192_nb
      have lt199 := ((((F8.ext E2).keep K10).wr W149).wr W184).lt
      have ne198 := own_nl lt199 sz_b192_nb
      have sz203 : h0.size ≤ b192_nb := Nat.le_trans K188.1 sz_b192_nb
      have K202 := K188.trans K192 all0
      show own_Go _ _ _ _ T192 (mkF m 77 _ [.ref b192_nb, .ref a])
      have f205 := (((((F0.ext E2).keep K10).wr W149).wr W184).keep K192)
      have f206 := (((((F1.ext E2).keep K10 (ninS ne3 nin0)).other W149 (Or.inl ne3)).other W184 (Or.inl ne3)).keep K192 nin0)
      refine Kpf (.array .int) X192 B hZ hown (hw 201 rfl) Via.refl rfl f206 f205 (Or.inr ⟨(hw 202 rfl), rfl, hnm⟩) (hw 167 rfl) 44 rfl fun T204 h204 X204 e204 W204 f207 => ?_
      have N208 := Fr.snoc X204 N194 g_a
      have Z209 : n0 ≤ h204.size := Nat.le_trans Z195 (Nat.le_of_eq W204.size.symm)
      have K210 := K202.wr W204 (own_mI 0 rfl)
      exact Bkv T204 _ h204 b192_nb _ (own_i2 (r10_g2 0) (r10_g2 1)) X204 e204 N208 Z209 K210 (f205.wr W204) f207 ((((((F2.ext E2).keep K10 (ninS ne3 nin0)).other W149 (Or.inl ne3)).other W184 (Or.inl ne3)).keep K192 nin0).other W204 (Or.inr (slot_ne (Or.inr (hw 204 rfl)) (Or.inr (hw 202 rfl)) (by decide) (t := (.array .int)) (t' := (.array .int)) (by decide) (by decide)))) ((((((F3.ext E2).keep K10 (ninS ne3 nin0)).other W149 (Or.inl ne3)).other W184 (Or.inl ne3)).keep K192 nin0).other W204 (Or.inr (slot_ne (Or.inr (hw 212 rfl)) (Or.inr (hw 202 rfl)) (by decide) (t := (.array .int)) (t' := (.array .int)) (by decide) (by decide)))) ((((((F4.ext E2).keep K10 (ninS ne3 nin0)).other W149 (Or.inl ne3)).other W184 (Or.inl ne3)).keep K192 nin0).other W204 (Or.inr (slot_ne (Or.inr (hw 214 rfl)) (Or.inr (hw 202 rfl)) (by decide) (t := (.array .int)) (t' := (.array .int)) (by decide) (by decide)))) ((((((F5.ext E2).keep K10 (ninS ne3 nin0)).other W149 (Or.inl ne3)).other W184 (Or.inl ne3)).keep K192 nin0).other W204 (Or.inr (slot_ne (Or.inr (hw 216 rfl)) (Or.inr (hw 202 rfl)) (by decide) (t := (.array .int)) (t' := (.array .int)) (by decide) (by decide)))) ((((((F6.ext E2).keep K10 (ninS ne3 nin0)).other W149 (Or.inl ne3)).other W184 (Or.inl ne3)).keep K192 nin0).other W204 (Or.inr (slot_ne (Or.inr (hw 218 rfl)) (Or.inr (hw 202 rfl)) (by decide) (t := (.array .int)) (t' := (.array .int)) (by decide) (by decide)))) ((((((F7.ext E2).keep K10 (ninS ne3 nin0)).other W149 (Or.inl ne3)).other W184 (Or.inl ne3)).keep K192 nin0).other W204 (Or.inr (slot_ne (Or.inl (hw 266 rfl)) (Or.inr (hw 202 rfl)) (by decide) (t := .int) (t' := (.array .int)) (by decide) (by decide)))) ((((((F8.ext E2).keep K10).wr W149).wr W184).keep K192).wr W204) ((((((F9.ext E2).keep K10 (ninS ne4 nin0)).other W149 ne4).other W184 ne4).keep K192 nin0).other W204 npa) (fq192_0.other W204 (Ne.symm ne196)) (own_d2b hq10_0 c156 c191) gx_b192_nb sz203 (Ne.symm ne196) ne198
    · skip
      refine Scn X184 B 32 rfl (feq c191).1 ?_
      refine SaN X184 B 33 rfl rfl rfl ?_
      refine SiN X184 B 34 rfl rfl ?_
      refine Si X184 B 35 rfl rfl ?_
      refine Kis 2 X184 B hZ e184 f185 ⟨by decide, by decide⟩ rfl 36 rfl fun T211 h211 X211 e211 W211 f212 => ?_
      have N213 := Fr.snoc X211 N186 gx5
      have Z214 : n0 ≤ h211.size := Nat.le_trans Z187 (Nat.le_of_eq W211.size.symm)
      have K215 := K188.wr W211 (Or.inr sz8)
      refine own_st (fun t k => XS.iinc X211.here hx rfl (B.d 37 rfl) rfl (l' := #[sR a, sR pv, sR b2, sI 3, sR b2, sI 3, sI 2, sI (r10_g2 2)]) rfl k) ?_
      refine own_st (fun t k => XS.iinc X211.here hx rfl (B.d 38 rfl) rfl (l' := #[sR a, sR pv, sR b2, sI 3, sR b2, sI 3, sI 3, sI (r10_g2 2)]) rfl k) ?_
      refine Sg 68 29 X211 B 39 rfl ?_
      refine Si X211 B 17 rfl rfl ?_
      refine Si X211 B 18 rfl rfl ?_
      refine Scy 33 71 X211 B 19 rfl (flt (by decide : ¬ ((3 : Int32) < (3 : Int32)))).2.1 ?_
      refine SaN X211 B 40 rfl rfl rfl ?_
      refine SaN X211 B 41 rfl rfl rfl ?_
      refine SiN X211 B 42 rfl rfl ?_
      have f217 := ((((EA2.keep K10).wr W149).wr W184).wr W211)
      obtain ⟨_, _, ⟨T216, L216, k216, n216⟩, -, X216, ⟨Lc216, hQ216, l216, y216, z216⟩, st216⟩ := Jvm.LawKit.callS X211 hx (y := ym38) hown (mvT hZ (hw 196 rfl)) (mvT hZ (hw 197 rfl)) (mvT hZ (hw 184 rfl)) (mvT hZ (hw 198 rfl)) (by decide) (backOf (W := 1) (rm49 hw b2 kp (own_updI (own_updI (own_updI r10_g2 0 (r10_g2 0)) 1 (r10_g2 1)) 2 (r10_g2 2)) h211 n0 Z214 f217 f212) hZ (hw 198 rfl) (hw 184 rfl) (by decide) (by decide)) (g := (mkF m 74 #[sR a, sR pv, sR b2, sI 3, sR b2, sI 3, sI 3, sI (r10_g2 2)] [.int 3, .ref b2, .ref a])) rfl (by rw [hml]; rfl) (argsL := [.ref b2, .int 3]) (rest := [.ref a]) (lenOf own_pd___II__I rfl) rfl (by show 2 * 0 + _ ≤ _; exact Nat.le_of_eq rfl) (B.d 43 rfl) (fun _ _ => ⟨rfl, e211, (by decide : 1 + 1 ≤ _), (by decide : 3 + 3 ≤ _)⟩)
      dsimp only [Pt.U, Pt.locs, Pt.cells, Pt.slots] at X216 l216 y216 z216 st216 hQ216
      subst l216 y216 z216
      obtain ⟨r216_k_nb, b216_nb, rfl, NQ216, K216, gx_b216_nb, sz_b216_nb, fq216_0, fq216_1⟩ := hQ216
      have N218 := Fr.app N213 NQ216
      refine own_st st216 ?_
      have Z219 : n0 ≤ T216.heap.size := Nat.le_trans Z214 K216.1
      have lt221 := (((((F0.ext E2).keep K10).wr W149).wr W184).wr W211).lt
      have ne220 := own_nl lt221 sz_b216_nb
      have sz227 : h0.size ≤ b216_nb := Nat.le_trans K215.1 sz_b216_nb
      have K226 := K215.trans K216 all0
      show own_Go _ _ _ _ T216 (mkF m 77 _ [.ref b216_nb, .ref a])
      have f229 := ((((((F0.ext E2).keep K10).wr W149).wr W184).wr W211).keep K216)
      have f230 := ((((((F1.ext E2).keep K10 (ninS ne3 nin0)).other W149 (Or.inl ne3)).other W184 (Or.inl ne3)).other W211 (Or.inl ne3)).keep K216 nin0)
      refine Kpf (.array .int) X216 B hZ hown (hw 201 rfl) Via.refl rfl f230 f229 (Or.inr ⟨(hw 202 rfl), rfl, hnm⟩) (hw 167 rfl) 44 rfl fun T228 h228 X228 e228 W228 f231 => ?_
      have N232 := Fr.snoc X228 N218 g_a
      have Z233 : n0 ≤ h228.size := Nat.le_trans Z219 (Nat.le_of_eq W228.size.symm)
      have K234 := K226.wr W228 (own_mI 0 rfl)
      refine SaN X228 B 45 rfl rfl rfl ?_
      refine SaN X228 B 46 rfl rfl rfl ?_
      have f236 := (((((((F9.ext E2).keep K10 (ninS ne4 nin0)).other W149 ne4).other W184 ne4).other W211 ne4).keep K216 nin0).other W228 npa)
      obtain ⟨c235, Ar235, q235, S235, N235, H235⟩ := id f236
      refine own_st (fun t k => X228.arraylength hx (by rw [e228]; exact Ar235.1) (State.isArrayOf_alike hZ.alike Ar235.2.1) (g := (mkF m 82 #[sR a, sR pv, sR b2, sI 3, sR b2, sI 3, sI 3, sI (r10_g2 2)] [.ref pv, .ref a])) rfl rfl (B.d 47 rfl) _ k) ?_
      rw [len_of S235 N235]
      show own_Go _ _ _ _ T228 (mkF m 83 _ [.int 3, .ref a])
      obtain ⟨T237, h237, k237, X237, e237, E237, A237, EA237, st237⟩ := newPE X228 hx hZ (hw 21 rfl) e228 (g := (mkF m 83 #[sR a, sR pv, sR b2, sI 3, sR b2, sI 3, sI 3, sI (r10_g2 2)] [.int 3, .ref a])) rfl (B.d 48 rfl) rfl (by decide) (cap := 3) (by decide) (by decide) (by decide) (by decide) (ad := "[I") (by decide)
      obtain ⟨b237, g237⟩ : ∃ z, z = h228.size := ⟨_, rfl⟩
      rw [← g237] at A237 EA237 st237
      refine own_st st237 ?_
      have ne238 : a ≠ b237 := own_nl (f229.wr W228).lt (Nat.le_of_eq g237.symm)
      have ne239 : pv ≠ b237 := own_nl (((((((F8.ext E2).keep K10).wr W149).wr W184).wr W211).keep K216).wr W228).lt (Nat.le_of_eq g237.symm)
      have ne241 : b216_nb ≠ b237 := own_nl (fq216_0.other W228 (Ne.symm ne220)).lt (Nat.le_of_eq g237.symm)
      have gx242 : n0 ≤ b237 := Nat.le_trans Z233 (Nat.le_of_eq g237.symm)
      have Z243 : n0 ≤ h237.size := Nat.le_trans Z233 E237.1
      have sz245 : h0.size ≤ b237 := Nat.le_trans K234.1 (Nat.le_of_eq g237.symm)
      have K244 := K234.ext E237
      have V237 : own_AI Z h237 b237 k237 3 (fun _ => (0 : Int32)) := own_AI.new A237 (by decide)
      show own_Go _ _ _ _ T237 (mkF m 85 _ [.ref b237, .ref a])
      have f247 := ((f229.wr W228).ext E237)
      have f248 := ((((((((F2.ext E2).keep K10 (ninS ne3 nin0)).other W149 (Or.inl ne3)).other W184 (Or.inl ne3)).other W211 (Or.inl ne3)).keep K216 nin0).other W228 (Or.inr (slot_ne (Or.inr (hw 204 rfl)) (Or.inr (hw 202 rfl)) (by decide) (t := (.array .int)) (t' := (.array .int)) (by decide) (by decide)))).ext E237)
      refine Kpf (.array .int) X237 B hZ hown (hw 203 rfl) Via.refl e237 f248 f247 (Or.inr ⟨(hw 204 rfl), rfl, hnm⟩) (hw 167 rfl) 49 rfl fun T246 h246 X246 e246 W246 f249 => ?_
      have N250 := Fr.snoc X246 N232 g_a
      have Z251 : n0 ≤ h246.size := Nat.le_trans Z243 (Nat.le_of_eq W246.size.symm)
      have K252 := K244.wr W246 (own_mI 0 rfl)
      refine Sc 0 X246 B 50 rfl rfl ?_
      refine Sis #[sR a, sR pv, sR b2, sI 3, sI 0, sI 3, sI 3, sI (r10_g2 2)] X246 B 51 rfl rfl ?_
      refine Si X246 B 52 rfl rfl ?_
      refine SaN X246 B 53 rfl rfl rfl ?_
      have f254 := ((f236.ext E237).other W246 npa)
      obtain ⟨c253, Ar253, q253, S253, N253, H253⟩ := id f254
      refine own_st (fun t k => X246.arraylength hx (by rw [e246]; exact Ar253.1) (State.isArrayOf_alike hZ.alike Ar253.2.1) (g := (mkF m 94 #[sR a, sR pv, sR b2, sI 3, sI 0, sI 3, sI 3, sI (r10_g2 2)] [.ref pv, .int 0])) rfl rfl (B.d 54 rfl) _ k) ?_
      rw [len_of S253 N253]
      show own_Go _ _ _ _ T246 (mkF m 95 _ [.int 3, .int 0])
      refine Scn X246 B 55 rfl (tlt (by decide : ((0 : Int32) < (3 : Int32)))).2.1 ?_
      refine SaN X246 B 56 rfl rfl rfl ?_
      refine Kgf X246 B hZ hown (hw 203 rfl) Via.refl e246 f249 57 rfl fun T255 X255 e255 => ?_
      refine Si X255 B 58 rfl rfl ?_
      refine SaN X255 B 59 rfl rfl rfl ?_
      have f257 := ((f231.ext E237).other W246 (Or.inr (slot_ne (Or.inr (hw 202 rfl)) (Or.inr (hw 204 rfl)) (by decide) (t := (.array .int)) (t' := (.array .int)) (by decide) (by decide))))
      refine Kgf X255 B hZ hown (hw 201 rfl) Via.refl e255 f257 60 rfl fun T256 X256 e256 => ?_
      refine SaN X256 B 61 rfl rfl rfl ?_
      refine Si X256 B 62 rfl rfl ?_
      refine Kil 0 X256 B hZ e256 f254 ⟨by decide, by decide⟩ rfl 63 rfl ?_
      have f260 := (((fq216_0.other W228 (Ne.symm ne220)).ext E237).other W246 (Ne.symm ne220))
      obtain ⟨_, _, ⟨T259, L259, k259, n259⟩, -, X259, ⟨Lc259, hQ259, l259, y259, z259⟩, st259⟩ := Jvm.LawKit.callS X256 hx (y := ym40) hown (mvT hZ (hw 205 rfl)) (mvT hZ (hw 206 rfl)) (mvT hZ (hw 184 rfl)) (mvT hZ (hw 207 rfl)) (by decide) (backOf (W := 2) (rm56 hw b216_nb (g 0) r216_k_nb (own_updI (own_updI (own_updI r10_g2 0 (r10_g2 0)) 1 (r10_g2 1)) 2 (r10_g2 2)) h246 n0 Z251 f260 (own_ltI hq10_0.1 c156) (own_ltI hq10_0.2.1 c191) (own_d3m hq10_0 0 (by decide))) hZ (hw 207 rfl) (hw 184 rfl) (by decide) (by decide)) (g := (mkF m 112 #[sR a, sR pv, sR b2, sI 3, sI 0, sI 3, sI 3, sI (r10_g2 2)] [(.int (g 0)), .ref b216_nb, .int 0, .ref b237])) rfl (by rw [hml]; rfl) (argsL := [.ref b216_nb, (.int (g 0))]) (rest := [.int 0, .ref b237]) (lenOf own_pd___II_I rfl) rfl (by show 2 * 0 + _ ≤ _; exact Nat.le_of_eq rfl) (B.d 64 rfl) (fun _ _ => ⟨rfl, e256, (by decide : 3 + 0 ≤ _), (by decide : 9 + 0 ≤ _)⟩)
      dsimp only [Pt.U, Pt.locs, Pt.cells, Pt.slots] at X259 l259 y259 z259 st259 hQ259
      subst l259 y259 z259
      obtain ⟨r259_rr, rfl, NQ259, eq259, hq259_0⟩ := hQ259
      have N261 := Fr.app N250 NQ259
      refine own_st st259 ?_
      show own_Go _ _ _ _ T259 (mkF m 115 _ [.int r259_rr, .int 0, .ref b237])
      have f263 := (V237.other W246 (Ne.symm ne238))
      refine Kis 0 X259 B hZ eq259 f263 ⟨by decide, by decide⟩ rfl 65 rfl fun T262 h262 X262 e262 W262 f264 => ?_
      have N265 := Fr.snoc X262 N261 gx242
      have Z266 : n0 ≤ h262.size := Nat.le_trans Z251 (Nat.le_of_eq W262.size.symm)
      have K267 := K252.wr W262 (Or.inr sz245)
      refine own_st (fun t k => XS.iinc X262.here hx rfl (B.d 66 rfl) rfl (l' := #[sR a, sR pv, sR b2, sI 3, sI 1, sI 3, sI 3, sI (r10_g2 2)]) rfl k) ?_
      refine Sg 119 91 X262 B 67 rfl ?_
      refine Si X262 B 52 rfl rfl ?_
      refine SaN X262 B 53 rfl rfl rfl ?_
      have f269 := (f254.other W262 ne239)
      obtain ⟨c268, Ar268, q268, S268, N268, H268⟩ := id f269
      refine own_st (fun t k => X262.arraylength hx (by rw [e262]; exact Ar268.1) (State.isArrayOf_alike hZ.alike Ar268.2.1) (g := (mkF m 94 #[sR a, sR pv, sR b2, sI 3, sI 1, sI 3, sI 3, sI (r10_g2 2)] [.ref pv, .int 1])) rfl rfl (B.d 54 rfl) _ k) ?_
      rw [len_of S268 N268]
      show own_Go _ _ _ _ T262 (mkF m 95 _ [.int 3, .int 1])
      refine Scn X262 B 55 rfl (tlt (by decide : ((1 : Int32) < (3 : Int32)))).2.1 ?_
      refine SaN X262 B 56 rfl rfl rfl ?_
      have f271 := (f249.other W262 (Or.inl ne238))
      refine Kgf X262 B hZ hown (hw 203 rfl) Via.refl e262 f271 57 rfl fun T270 X270 e270 => ?_
      refine Si X270 B 58 rfl rfl ?_
      refine SaN X270 B 59 rfl rfl rfl ?_
      have f273 := (f257.other W262 (Or.inl ne238))
      refine Kgf X270 B hZ hown (hw 201 rfl) Via.refl e270 f273 60 rfl fun T272 X272 e272 => ?_
      refine SaN X272 B 61 rfl rfl rfl ?_
      refine Si X272 B 62 rfl rfl ?_
      refine Kil 1 X272 B hZ e272 f269 ⟨by decide, by decide⟩ rfl 63 rfl ?_
      have f276 := (f260.other W262 ne241)
      obtain ⟨_, _, ⟨T275, L275, k275, n275⟩, -, X275, ⟨Lc275, hQ275, l275, y275, z275⟩, st275⟩ := Jvm.LawKit.callS X272 hx (y := ym40) hown (mvT hZ (hw 205 rfl)) (mvT hZ (hw 206 rfl)) (mvT hZ (hw 184 rfl)) (mvT hZ (hw 207 rfl)) (by decide) (backOf (W := 2) (rm56 hw b216_nb (g 1) r216_k_nb (own_updI (own_updI (own_updI r10_g2 0 (r10_g2 0)) 1 (r10_g2 1)) 2 (r10_g2 2)) h262 n0 Z266 f276 (own_ltI hq10_0.1 c156) (own_ltI hq10_0.2.1 c191) (own_d3m hq10_0 1 (by decide))) hZ (hw 207 rfl) (hw 184 rfl) (by decide) (by decide)) (g := (mkF m 112 #[sR a, sR pv, sR b2, sI 3, sI 1, sI 3, sI 3, sI (r10_g2 2)] [(.int (g 1)), .ref b216_nb, .int 1, .ref b237])) rfl (by rw [hml]; rfl) (argsL := [.ref b216_nb, (.int (g 1))]) (rest := [.int 1, .ref b237]) (lenOf own_pd___II_I rfl) rfl (by show 2 * 0 + _ ≤ _; exact Nat.le_of_eq rfl) (B.d 64 rfl) (fun _ _ => ⟨rfl, e272, (by decide : 3 + 0 ≤ _), (by decide : 9 + 0 ≤ _)⟩)
      dsimp only [Pt.U, Pt.locs, Pt.cells, Pt.slots] at X275 l275 y275 z275 st275 hQ275
      subst l275 y275 z275
      obtain ⟨r275_rr, rfl, NQ275, eq275, hq275_0⟩ := hQ275
      have N277 := Fr.app N265 NQ275
      refine own_st st275 ?_
      show own_Go _ _ _ _ T275 (mkF m 115 _ [.int r275_rr, .int 1, .ref b237])
      refine Kis 1 X275 B hZ eq275 f264 ⟨by decide, by decide⟩ rfl 65 rfl fun T278 h278 X278 e278 W278 f279 => ?_
      have N280 := Fr.snoc X278 N277 gx242
      have Z281 : n0 ≤ h278.size := Nat.le_trans Z266 (Nat.le_of_eq W278.size.symm)
      have K282 := K267.wr W278 (Or.inr sz245)
      refine own_st (fun t k => XS.iinc X278.here hx rfl (B.d 66 rfl) rfl (l' := #[sR a, sR pv, sR b2, sI 3, sI 2, sI 3, sI 3, sI (r10_g2 2)]) rfl k) ?_
      refine Sg 119 91 X278 B 67 rfl ?_
      refine Si X278 B 52 rfl rfl ?_
      refine SaN X278 B 53 rfl rfl rfl ?_
      have f284 := (f269.other W278 ne239)
      obtain ⟨c283, Ar283, q283, S283, N283, H283⟩ := id f284
      refine own_st (fun t k => X278.arraylength hx (by rw [e278]; exact Ar283.1) (State.isArrayOf_alike hZ.alike Ar283.2.1) (g := (mkF m 94 #[sR a, sR pv, sR b2, sI 3, sI 2, sI 3, sI 3, sI (r10_g2 2)] [.ref pv, .int 2])) rfl rfl (B.d 54 rfl) _ k) ?_
      rw [len_of S283 N283]
      show own_Go _ _ _ _ T278 (mkF m 95 _ [.int 3, .int 2])
      refine Scn X278 B 55 rfl (tlt (by decide : ((2 : Int32) < (3 : Int32)))).2.1 ?_
      refine SaN X278 B 56 rfl rfl rfl ?_
      have f286 := (f271.other W278 (Or.inl ne238))
      refine Kgf X278 B hZ hown (hw 203 rfl) Via.refl e278 f286 57 rfl fun T285 X285 e285 => ?_
      refine Si X285 B 58 rfl rfl ?_
      refine SaN X285 B 59 rfl rfl rfl ?_
      have f288 := (f273.other W278 (Or.inl ne238))
      refine Kgf X285 B hZ hown (hw 201 rfl) Via.refl e285 f288 60 rfl fun T287 X287 e287 => ?_
      refine SaN X287 B 61 rfl rfl rfl ?_
      refine Si X287 B 62 rfl rfl ?_
      refine Kil 2 X287 B hZ e287 f284 ⟨by decide, by decide⟩ rfl 63 rfl ?_
      have f291 := (f276.other W278 ne241)
      obtain ⟨_, _, ⟨T290, L290, k290, n290⟩, -, X290, ⟨Lc290, hQ290, l290, y290, z290⟩, st290⟩ := Jvm.LawKit.callS X287 hx (y := ym40) hown (mvT hZ (hw 205 rfl)) (mvT hZ (hw 206 rfl)) (mvT hZ (hw 184 rfl)) (mvT hZ (hw 207 rfl)) (by decide) (backOf (W := 2) (rm56 hw b216_nb (g 2) r216_k_nb (own_updI (own_updI (own_updI r10_g2 0 (r10_g2 0)) 1 (r10_g2 1)) 2 (r10_g2 2)) h278 n0 Z281 f291 (own_ltI hq10_0.1 c156) (own_ltI hq10_0.2.1 c191) (own_d3m hq10_0 2 (by decide))) hZ (hw 207 rfl) (hw 184 rfl) (by decide) (by decide)) (g := (mkF m 112 #[sR a, sR pv, sR b2, sI 3, sI 2, sI 3, sI 3, sI (r10_g2 2)] [(.int (g 2)), .ref b216_nb, .int 2, .ref b237])) rfl (by rw [hml]; rfl) (argsL := [.ref b216_nb, (.int (g 2))]) (rest := [.int 2, .ref b237]) (lenOf own_pd___II_I rfl) rfl (by show 2 * 0 + _ ≤ _; exact Nat.le_of_eq rfl) (B.d 64 rfl) (fun _ _ => ⟨rfl, e287, (by decide : 3 + 0 ≤ _), (by decide : 9 + 0 ≤ _)⟩)
      dsimp only [Pt.U, Pt.locs, Pt.cells, Pt.slots] at X290 l290 y290 z290 st290 hQ290
      subst l290 y290 z290
      obtain ⟨r290_rr, rfl, NQ290, eq290, hq290_0⟩ := hQ290
      have N292 := Fr.app N280 NQ290
      refine own_st st290 ?_
      show own_Go _ _ _ _ T290 (mkF m 115 _ [.int r290_rr, .int 2, .ref b237])
      refine Kis 2 X290 B hZ eq290 f279 ⟨by decide, by decide⟩ rfl 65 rfl fun T293 h293 X293 e293 W293 f294 => ?_
      have N295 := Fr.snoc X293 N292 gx242
      have Z296 : n0 ≤ h293.size := Nat.le_trans Z281 (Nat.le_of_eq W293.size.symm)
      have K297 := K282.wr W293 (Or.inr sz245)
      refine own_st (fun t k => XS.iinc X293.here hx rfl (B.d 66 rfl) rfl (l' := #[sR a, sR pv, sR b2, sI 3, sI 3, sI 3, sI 3, sI (r10_g2 2)]) rfl k) ?_
      refine Sg 119 91 X293 B 67 rfl ?_
      refine Si X293 B 52 rfl rfl ?_
      refine SaN X293 B 53 rfl rfl rfl ?_
      have f299 := (f284.other W293 ne239)
      obtain ⟨c298, Ar298, q298, S298, N298, H298⟩ := id f299
      refine own_st (fun t k => X293.arraylength hx (by rw [e293]; exact Ar298.1) (State.isArrayOf_alike hZ.alike Ar298.2.1) (g := (mkF m 94 #[sR a, sR pv, sR b2, sI 3, sI 3, sI 3, sI 3, sI (r10_g2 2)] [.ref pv, .int 3])) rfl rfl (B.d 54 rfl) _ k) ?_
      rw [len_of S298 N298]
      show own_Go _ _ _ _ T293 (mkF m 95 _ [.int 3, .int 3])
      refine Scy 95 122 X293 B 55 rfl (flt (by decide : ¬ ((3 : Int32) < (3 : Int32)))).2.1 ?_
      refine SaN X293 B 68 rfl rfl rfl ?_
      refine SiN X293 B 69 rfl rfl ?_
      obtain ⟨T300, h300, k300, X300, e300, E300, A300, EA300, st300⟩ := newPE X293 hx hZ (hw 21 rfl) e293 (g := (mkF m 124 #[sR a, sR pv, sR b2, sI 3, sI 3, sI 3, sI 3, sI (r10_g2 2)] [.int 3, .ref a])) rfl (B.d 70 rfl) rfl (by decide) (cap := 3) (by decide) (by decide) (by decide) (by decide) (ad := "[I") (by decide)
      obtain ⟨b300, g300⟩ : ∃ z, z = h293.size := ⟨_, rfl⟩
      rw [← g300] at A300 EA300 st300
      refine own_st st300 ?_
      have ne301 : a ≠ b300 := own_nl ((((f247.wr W246).wr W262).wr W278).wr W293).lt (Nat.le_of_eq g300.symm)
      have ne304 : b216_nb ≠ b300 := own_nl (f291.other W293 ne241).lt (Nat.le_of_eq g300.symm)
      have ne305 : b237 ≠ b300 := own_nl ((((EA237.wr W246).wr W262).wr W278).wr W293).lt (Nat.le_of_eq g300.symm)
      have gx306 : n0 ≤ b300 := Nat.le_trans Z296 (Nat.le_of_eq g300.symm)
      have Z307 : n0 ≤ h300.size := Nat.le_trans Z296 E300.1
      have sz309 : h0.size ≤ b300 := Nat.le_trans K297.1 (Nat.le_of_eq g300.symm)
      have K308 := K297.ext E300
      have V300 : own_AI Z h300 b300 k300 3 (fun _ => (0 : Int32)) := own_AI.new A300 (by decide)
      show own_Go _ _ _ _ T300 (mkF m 126 _ [.ref b300, .ref a])
      have f311 := (((((f247.wr W246).wr W262).wr W278).wr W293).ext E300)
      have f312 := (((((((((((((F3.ext E2).keep K10 (ninS ne3 nin0)).other W149 (Or.inl ne3)).other W184 (Or.inl ne3)).other W211 (Or.inl ne3)).keep K216 nin0).other W228 (Or.inr (slot_ne (Or.inr (hw 212 rfl)) (Or.inr (hw 202 rfl)) (by decide) (t := (.array .int)) (t' := (.array .int)) (by decide) (by decide)))).ext E237).other W246 (Or.inr (slot_ne (Or.inr (hw 212 rfl)) (Or.inr (hw 204 rfl)) (by decide) (t := (.array .int)) (t' := (.array .int)) (by decide) (by decide)))).other W262 (Or.inl ne238)).other W278 (Or.inl ne238)).other W293 (Or.inl ne238)).ext E300)
      refine Kpf (.array .int) X300 B hZ hown (hw 211 rfl) Via.refl e300 f312 f311 (Or.inr ⟨(hw 212 rfl), rfl, hnm⟩) (hw 167 rfl) 71 rfl fun T310 h310 X310 e310 W310 f313 => ?_
      have N314 := Fr.snoc X310 N295 g_a
      have Z315 : n0 ≤ h310.size := Nat.le_trans Z307 (Nat.le_of_eq W310.size.symm)
      have K316 := K308.wr W310 (own_mI 0 rfl)
      refine SaN X310 B 72 rfl rfl rfl ?_
      refine SiN X310 B 73 rfl rfl ?_
      obtain ⟨T317, h317, k317, X317, e317, E317, A317, EA317, st317⟩ := newPE X310 hx hZ (hw 21 rfl) e310 (g := (mkF m 131 #[sR a, sR pv, sR b2, sI 3, sI 3, sI 3, sI 3, sI (r10_g2 2)] [.int 3, .ref a])) rfl (B.d 74 rfl) rfl (by decide) (cap := 3) (by decide) (by decide) (by decide) (by decide) (ad := "[I") (by decide)
      obtain ⟨b317, g317⟩ : ∃ z, z = h310.size := ⟨_, rfl⟩
      rw [← g317] at A317 EA317 st317
      refine own_st st317 ?_
      have ne318 : a ≠ b317 := own_nl (f311.wr W310).lt (Nat.le_of_eq g317.symm)
      have ne321 : b216_nb ≠ b317 := own_nl (((f291.other W293 ne241).ext E300).other W310 (Ne.symm ne220)).lt (Nat.le_of_eq g317.symm)
      have ne322 : b237 ≠ b317 := own_nl ((((((EA237.wr W246).wr W262).wr W278).wr W293).ext E300).wr W310).lt (Nat.le_of_eq g317.symm)
      have ne323 : b300 ≠ b317 := own_nl (EA300.wr W310).lt (Nat.le_of_eq g317.symm)
      have gx324 : n0 ≤ b317 := Nat.le_trans Z315 (Nat.le_of_eq g317.symm)
      have Z325 : n0 ≤ h317.size := Nat.le_trans Z315 E317.1
      have sz327 : h0.size ≤ b317 := Nat.le_trans K316.1 (Nat.le_of_eq g317.symm)
      have K326 := K316.ext E317
      have V317 : own_AI Z h317 b317 k317 3 (fun _ => (0 : Int32)) := own_AI.new A317 (by decide)
      show own_Go _ _ _ _ T317 (mkF m 133 _ [.ref b317, .ref a])
      have f329 := ((f311.wr W310).ext E317)
      have f330 := (((((((((((((((F4.ext E2).keep K10 (ninS ne3 nin0)).other W149 (Or.inl ne3)).other W184 (Or.inl ne3)).other W211 (Or.inl ne3)).keep K216 nin0).other W228 (Or.inr (slot_ne (Or.inr (hw 214 rfl)) (Or.inr (hw 202 rfl)) (by decide) (t := (.array .int)) (t' := (.array .int)) (by decide) (by decide)))).ext E237).other W246 (Or.inr (slot_ne (Or.inr (hw 214 rfl)) (Or.inr (hw 204 rfl)) (by decide) (t := (.array .int)) (t' := (.array .int)) (by decide) (by decide)))).other W262 (Or.inl ne238)).other W278 (Or.inl ne238)).other W293 (Or.inl ne238)).ext E300).other W310 (Or.inr (slot_ne (Or.inr (hw 214 rfl)) (Or.inr (hw 212 rfl)) (by decide) (t := (.array .int)) (t' := (.array .int)) (by decide) (by decide)))).ext E317)
      refine Kpf (.array .int) X317 B hZ hown (hw 213 rfl) Via.refl e317 f330 f329 (Or.inr ⟨(hw 214 rfl), rfl, hnm⟩) (hw 167 rfl) 75 rfl fun T328 h328 X328 e328 W328 f331 => ?_
      have N332 := Fr.snoc X328 N314 g_a
      have Z333 : n0 ≤ h328.size := Nat.le_trans Z325 (Nat.le_of_eq W328.size.symm)
      have K334 := K326.wr W328 (own_mI 0 rfl)
      refine SaN X328 B 76 rfl rfl rfl ?_
      refine SiN X328 B 77 rfl rfl ?_
      obtain ⟨T335, h335, k335, X335, e335, E335, A335, EA335, st335⟩ := newPE X328 hx hZ (hw 21 rfl) e328 (g := (mkF m 138 #[sR a, sR pv, sR b2, sI 3, sI 3, sI 3, sI 3, sI (r10_g2 2)] [.int 3, .ref a])) rfl (B.d 78 rfl) rfl (by decide) (cap := 3) (by decide) (by decide) (by decide) (by decide) (ad := "[I") (by decide)
      obtain ⟨b335, g335⟩ : ∃ z, z = h328.size := ⟨_, rfl⟩
      rw [← g335] at A335 EA335 st335
      refine own_st st335 ?_
      have ne336 : a ≠ b335 := own_nl (f329.wr W328).lt (Nat.le_of_eq g335.symm)
      have ne339 : b216_nb ≠ b335 := own_nl (((((f291.other W293 ne241).ext E300).other W310 (Ne.symm ne220)).ext E317).other W328 (Ne.symm ne220)).lt (Nat.le_of_eq g335.symm)
      have ne340 : b237 ≠ b335 := own_nl ((((((((EA237.wr W246).wr W262).wr W278).wr W293).ext E300).wr W310).ext E317).wr W328).lt (Nat.le_of_eq g335.symm)
      have ne341 : b300 ≠ b335 := own_nl (((EA300.wr W310).ext E317).wr W328).lt (Nat.le_of_eq g335.symm)
      have ne342 : b317 ≠ b335 := own_nl (EA317.wr W328).lt (Nat.le_of_eq g335.symm)
      have gx343 : n0 ≤ b335 := Nat.le_trans Z333 (Nat.le_of_eq g335.symm)
      have Z344 : n0 ≤ h335.size := Nat.le_trans Z333 E335.1
      have sz346 : h0.size ≤ b335 := Nat.le_trans K334.1 (Nat.le_of_eq g335.symm)
      have K345 := K334.ext E335
      have V335 : own_AI Z h335 b335 k335 3 (fun _ => (0 : Int32)) := own_AI.new A335 (by decide)
      show own_Go _ _ _ _ T335 (mkF m 140 _ [.ref b335, .ref a])
      have f348 := ((f329.wr W328).ext E335)
      have f349 := (((((((((((((((((F5.ext E2).keep K10 (ninS ne3 nin0)).other W149 (Or.inl ne3)).other W184 (Or.inl ne3)).other W211 (Or.inl ne3)).keep K216 nin0).other W228 (Or.inr (slot_ne (Or.inr (hw 216 rfl)) (Or.inr (hw 202 rfl)) (by decide) (t := (.array .int)) (t' := (.array .int)) (by decide) (by decide)))).ext E237).other W246 (Or.inr (slot_ne (Or.inr (hw 216 rfl)) (Or.inr (hw 204 rfl)) (by decide) (t := (.array .int)) (t' := (.array .int)) (by decide) (by decide)))).other W262 (Or.inl ne238)).other W278 (Or.inl ne238)).other W293 (Or.inl ne238)).ext E300).other W310 (Or.inr (slot_ne (Or.inr (hw 216 rfl)) (Or.inr (hw 212 rfl)) (by decide) (t := (.array .int)) (t' := (.array .int)) (by decide) (by decide)))).ext E317).other W328 (Or.inr (slot_ne (Or.inr (hw 216 rfl)) (Or.inr (hw 214 rfl)) (by decide) (t := (.array .int)) (t' := (.array .int)) (by decide) (by decide)))).ext E335)
      refine Kpf (.array .int) X335 B hZ hown (hw 215 rfl) Via.refl e335 f349 f348 (Or.inr ⟨(hw 216 rfl), rfl, hnm⟩) (hw 167 rfl) 79 rfl fun T347 h347 X347 e347 W347 f350 => ?_
      have N351 := Fr.snoc X347 N332 g_a
      have Z352 : n0 ≤ h347.size := Nat.le_trans Z344 (Nat.le_of_eq W347.size.symm)
      have K353 := K345.wr W347 (own_mI 0 rfl)
      refine SaN X347 B 80 rfl rfl rfl ?_
      refine SiN X347 B 81 rfl rfl ?_
      obtain ⟨T354, h354, k354, X354, e354, E354, A354, EA354, st354⟩ := newPE X347 hx hZ (hw 21 rfl) e347 (g := (mkF m 145 #[sR a, sR pv, sR b2, sI 3, sI 3, sI 3, sI 3, sI (r10_g2 2)] [.int 3, .ref a])) rfl (B.d 82 rfl) rfl (by decide) (cap := 3) (by decide) (by decide) (by decide) (by decide) (ad := "[I") (by decide)
      obtain ⟨b354, g354⟩ : ∃ z, z = h347.size := ⟨_, rfl⟩
      rw [← g354] at A354 EA354 st354
      refine own_st st354 ?_
      have ne355 : a ≠ b354 := own_nl (f348.wr W347).lt (Nat.le_of_eq g354.symm)
      have ne358 : b216_nb ≠ b354 := own_nl (((((((f291.other W293 ne241).ext E300).other W310 (Ne.symm ne220)).ext E317).other W328 (Ne.symm ne220)).ext E335).other W347 (Ne.symm ne220)).lt (Nat.le_of_eq g354.symm)
      have ne359 : b237 ≠ b354 := own_nl ((((((((((EA237.wr W246).wr W262).wr W278).wr W293).ext E300).wr W310).ext E317).wr W328).ext E335).wr W347).lt (Nat.le_of_eq g354.symm)
      have ne360 : b300 ≠ b354 := own_nl (((((EA300.wr W310).ext E317).wr W328).ext E335).wr W347).lt (Nat.le_of_eq g354.symm)
      have ne361 : b317 ≠ b354 := own_nl (((EA317.wr W328).ext E335).wr W347).lt (Nat.le_of_eq g354.symm)
      have ne362 : b335 ≠ b354 := own_nl (EA335.wr W347).lt (Nat.le_of_eq g354.symm)
      have gx363 : n0 ≤ b354 := Nat.le_trans Z352 (Nat.le_of_eq g354.symm)
      have sz366 : h0.size ≤ b354 := Nat.le_trans K353.1 (Nat.le_of_eq g354.symm)
      have K365 := K353.ext E354
      have V354 : own_AI Z h354 b354 k354 3 (fun _ => (0 : Int32)) := own_AI.new A354 (by decide)
      show own_Go _ _ _ _ T354 (mkF m 147 _ [.ref b354, .ref a])
      have f368 := ((f348.wr W347).ext E354)
      have f369 := (((((((((((((((((((F6.ext E2).keep K10 (ninS ne3 nin0)).other W149 (Or.inl ne3)).other W184 (Or.inl ne3)).other W211 (Or.inl ne3)).keep K216 nin0).other W228 (Or.inr (slot_ne (Or.inr (hw 218 rfl)) (Or.inr (hw 202 rfl)) (by decide) (t := (.array .int)) (t' := (.array .int)) (by decide) (by decide)))).ext E237).other W246 (Or.inr (slot_ne (Or.inr (hw 218 rfl)) (Or.inr (hw 204 rfl)) (by decide) (t := (.array .int)) (t' := (.array .int)) (by decide) (by decide)))).other W262 (Or.inl ne238)).other W278 (Or.inl ne238)).other W293 (Or.inl ne238)).ext E300).other W310 (Or.inr (slot_ne (Or.inr (hw 218 rfl)) (Or.inr (hw 212 rfl)) (by decide) (t := (.array .int)) (t' := (.array .int)) (by decide) (by decide)))).ext E317).other W328 (Or.inr (slot_ne (Or.inr (hw 218 rfl)) (Or.inr (hw 214 rfl)) (by decide) (t := (.array .int)) (t' := (.array .int)) (by decide) (by decide)))).ext E335).other W347 (Or.inr (slot_ne (Or.inr (hw 218 rfl)) (Or.inr (hw 216 rfl)) (by decide) (t := (.array .int)) (t' := (.array .int)) (by decide) (by decide)))).ext E354)
      refine Kpf (.array .int) X354 B hZ hown (hw 217 rfl) Via.refl e354 f369 f368 (Or.inr ⟨(hw 218 rfl), rfl, hnm⟩) (hw 167 rfl) 83 rfl fun T367 h367 X367 e367 W367 f370 => ?_
      have N371 := Fr.snoc X367 N351 g_a
      have K373 := K365.wr W367 (own_mI 0 rfl)
      refine own_oV X367 B Bd 84 rfl hPq ?_
      rw [e367]
      exact ⟨(3 : Int32), (own_updI (own_updI (own_updI r10_g2 0 (r10_g2 0)) 1 (r10_g2 1)) 2 (r10_g2 2)), (own_updI (own_updI (own_updI (fun _ => (0 : Int32)) 0 r259_rr) 1 r275_rr) 2 r290_rr), r216_k_nb, k237, k300, k317, k335, k354, b216_nb, b237, b300, b317, b335, b354, rfl, N371, K373, gx_b216_nb, sz227, gx242, sz245, gx306, sz309, gx324, sz327, gx343, sz346, gx363, sz366, (f368.wr W367), (((((((((f288.other W293 (Or.inl ne238)).ext E300).other W310 (Or.inr (slot_ne (Or.inr (hw 202 rfl)) (Or.inr (hw 212 rfl)) (by decide) (t := (.array .int)) (t' := (.array .int)) (by decide) (by decide)))).ext E317).other W328 (Or.inr (slot_ne (Or.inr (hw 202 rfl)) (Or.inr (hw 214 rfl)) (by decide) (t := (.array .int)) (t' := (.array .int)) (by decide) (by decide)))).ext E335).other W347 (Or.inr (slot_ne (Or.inr (hw 202 rfl)) (Or.inr (hw 216 rfl)) (by decide) (t := (.array .int)) (t' := (.array .int)) (by decide) (by decide)))).ext E354).other W367 (Or.inr (slot_ne (Or.inr (hw 202 rfl)) (Or.inr (hw 218 rfl)) (by decide) (t := (.array .int)) (t' := (.array .int)) (by decide) (by decide)))), (((((((((f286.other W293 (Or.inl ne238)).ext E300).other W310 (Or.inr (slot_ne (Or.inr (hw 204 rfl)) (Or.inr (hw 212 rfl)) (by decide) (t := (.array .int)) (t' := (.array .int)) (by decide) (by decide)))).ext E317).other W328 (Or.inr (slot_ne (Or.inr (hw 204 rfl)) (Or.inr (hw 214 rfl)) (by decide) (t := (.array .int)) (t' := (.array .int)) (by decide) (by decide)))).ext E335).other W347 (Or.inr (slot_ne (Or.inr (hw 204 rfl)) (Or.inr (hw 216 rfl)) (by decide) (t := (.array .int)) (t' := (.array .int)) (by decide) (by decide)))).ext E354).other W367 (Or.inr (slot_ne (Or.inr (hw 204 rfl)) (Or.inr (hw 218 rfl)) (by decide) (t := (.array .int)) (t' := (.array .int)) (by decide) (by decide)))), ((((((f313.ext E317).other W328 (Or.inr (slot_ne (Or.inr (hw 212 rfl)) (Or.inr (hw 214 rfl)) (by decide) (t := (.array .int)) (t' := (.array .int)) (by decide) (by decide)))).ext E335).other W347 (Or.inr (slot_ne (Or.inr (hw 212 rfl)) (Or.inr (hw 216 rfl)) (by decide) (t := (.array .int)) (t' := (.array .int)) (by decide) (by decide)))).ext E354).other W367 (Or.inr (slot_ne (Or.inr (hw 212 rfl)) (Or.inr (hw 218 rfl)) (by decide) (t := (.array .int)) (t' := (.array .int)) (by decide) (by decide)))), ((((f331.ext E335).other W347 (Or.inr (slot_ne (Or.inr (hw 214 rfl)) (Or.inr (hw 216 rfl)) (by decide) (t := (.array .int)) (t' := (.array .int)) (by decide) (by decide)))).ext E354).other W367 (Or.inr (slot_ne (Or.inr (hw 214 rfl)) (Or.inr (hw 218 rfl)) (by decide) (t := (.array .int)) (t' := (.array .int)) (by decide) (by decide)))), ((f350.ext E354).other W367 (Or.inr (slot_ne (Or.inr (hw 216 rfl)) (Or.inr (hw 218 rfl)) (by decide) (t := (.array .int)) (t' := (.array .int)) (by decide) (by decide)))), f370, ((((((((((((((((((((F7.ext E2).keep K10 (ninS ne3 nin0)).other W149 (Or.inl ne3)).other W184 (Or.inl ne3)).other W211 (Or.inl ne3)).keep K216 nin0).other W228 (Or.inr (slot_ne (Or.inl (hw 266 rfl)) (Or.inr (hw 202 rfl)) (by decide) (t := .int) (t' := (.array .int)) (by decide) (by decide)))).ext E237).other W246 (Or.inr (slot_ne (Or.inl (hw 266 rfl)) (Or.inr (hw 204 rfl)) (by decide) (t := .int) (t' := (.array .int)) (by decide) (by decide)))).other W262 (Or.inl ne238)).other W278 (Or.inl ne238)).other W293 (Or.inl ne238)).ext E300).other W310 (Or.inr (slot_ne (Or.inl (hw 266 rfl)) (Or.inr (hw 212 rfl)) (by decide) (t := .int) (t' := (.array .int)) (by decide) (by decide)))).ext E317).other W328 (Or.inr (slot_ne (Or.inl (hw 266 rfl)) (Or.inr (hw 214 rfl)) (by decide) (t := .int) (t' := (.array .int)) (by decide) (by decide)))).ext E335).other W347 (Or.inr (slot_ne (Or.inl (hw 266 rfl)) (Or.inr (hw 216 rfl)) (by decide) (t := .int) (t' := (.array .int)) (by decide) (by decide)))).ext E354).other W367 (Or.inr (slot_ne (Or.inl (hw 266 rfl)) (Or.inr (hw 218 rfl)) (by decide) (t := .int) (t' := (.array .int)) (by decide) (by decide)))), (((((((((f291.other W293 ne241).ext E300).other W310 (Ne.symm ne220)).ext E317).other W328 (Ne.symm ne220)).ext E335).other W347 (Ne.symm ne220)).ext E354).other W367 (Ne.symm ne220)), ((((((((f294.ext E300).other W310 (Ne.symm ne238)).ext E317).other W328 (Ne.symm ne238)).ext E335).other W347 (Ne.symm ne238)).ext E354).other W367 (Ne.symm ne238)), (((((((V300.other W310 (Ne.symm ne301)).ext E317).other W328 (Ne.symm ne301)).ext E335).other W347 (Ne.symm ne301)).ext E354).other W367 (Ne.symm ne301)), (((((V317.other W328 (Ne.symm ne318)).ext E335).other W347 (Ne.symm ne318)).ext E354).other W367 (Ne.symm ne318)), (((V335.other W347 (Ne.symm ne336)).ext E354).other W367 (Ne.symm ne336)), (V354.other W367 (Ne.symm ne355)), (own_dv3 (own_ltI hq10_0.1 c156) (own_ltI hq10_0.2.1 c191) hq259_0 hq275_0 hq290_0), ne241, ne304, ne321, ne339, ne358, ne305, ne322, ne340, ne359, ne323, ne341, ne360, ne342, ne361, ne362⟩
theorem own_ef58 (m : MethodId) (a pi : Addr) : entryFrame m #[.ref a, .ref pi, .int 0] 4 = mkF m 0 #[sR a, sR pi, sI 0, sU] [] := by first | (simp [entryFrame, mkF, argsToLocals, Value.category]; done) | rfl
def Q58 (Z : State) (a pi : Addr) (un : Int32) (dv dp : Addr) (ki k_dv k_dp : ClassId) (gx gv gp : Nat → Int32) (h0 : Heap) (n0 : Nat) (v : Option Value) (h : Heap) (L : List Loc) : Prop := v = none ∧ Fr n0 L ∧ Keep h0 h [pi] ∧ own_AI Z h pi ki 2 (own_cvf 0 gx gp gv)
set_option maxRecDepth 65536 in
set_option maxHeartbeats 4000000 in
theorem rm58 {l : Launch} {Z : State} {a0 : Array Value} (hw : own_T a0 Z) (a pi : Addr) (un : Int32) (dv dp : Addr) (ki k_dv k_dp : ClassId) (gx gv gp : Nat → Int32) (h0 : Heap) (n0 : Nat) (Z0 : n0 ≤ h0.size) (F0 : Exa Z h0 a kDV) (F1 : Fld Z h0 a kDV "distinct" "I" (.int 2)) (F2 : Fld Z h0 a kDV "values" "[I" (.ref dv)) (F3 : Fld Z h0 a kDV "present" "[I" (.ref dp)) (F4 : own_AI Z h0 dv k_dv un gv) (F5 : own_AI Z h0 dp k_dp un gp) (F6 : own_AI Z h0 pi ki 2 gx) (hu : (1 : Int32) < un) (hp0 : ¬ (gp 0) < 0 ∧ (gp 0) < un) (hp1 : ¬ (gp 1) < 0 ∧ (gp 1) < un) (na1 : pi ≠ a) (na2 : pi ≠ dv) (na3 : pi ≠ dp) (g_pi : n0 ≤ pi) :
    own_M l Z ym42 prog_28_method_5_code 4 none ⟨4, 0, 0, 81⟩ #[.ref a, .ref pi, .int 0] h0 (Q58 Z a pi un dv dp ki k_dv k_dp gx gv gp h0 n0) := by
  refine own_open kDV #[sR a, sR pi, sI 0, sU] (plainFor_of_name own_pn24) DL42 rfl (fun m => own_ef58 m a pi) fun p e s m below meth c s₁ Bd B hZ hown X0 e0 Pq hPq => ?_
  have hx := B.x
  have N0 := Fr.nil n0
  have K0 : Keep h0 h0 [pi] := Keep.refl _ _
  refine Sc 0 X0 B 0 rfl rfl ?_
  refine SisN #[sR a, sR pi, sI 0, sI 0] X0 B 1 rfl rfl ?_
  refine SiN X0 B 2 rfl rfl ?_
  refine SaN X0 B 3 rfl rfl rfl ?_
  refine Kgf X0 B hZ hown (hw 265 rfl) Via.refl e0 F1 4 rfl fun T1 X1 e1 => ?_
  refine Scn X1 B 5 rfl (tlt (by decide : ((0 : Int32) < (2 : Int32)))).2.1 ?_
  refine SaN X1 B 6 rfl rfl rfl ?_
  refine SiN X1 B 7 rfl rfl ?_
  refine SiN X1 B 8 rfl rfl ?_
  refine own_st (fun t k => XS.iadd X1.here hx rfl (B.d 9 rfl) rfl k) ?_
  refine SaN X1 B 10 rfl rfl rfl ?_
  refine Kgf X1 B hZ hown (hw 215 rfl) Via.refl e1 F3 11 rfl fun T2 X2 e2 => ?_
  refine SiN X2 B 12 rfl rfl ?_
  refine Kil 0 X2 B hZ e2 F5 (own_u01 hu).1 rfl 13 rfl ?_
  refine Kis 0 X2 B hZ e2 F6 ⟨by decide, by decide⟩ rfl 14 rfl fun T4 h4 X4 e4 W4 f5 => ?_
  have N6 := Fr.snoc X4 N0 g_pi
  have Z7 : n0 ≤ h4.size := Nat.le_trans Z0 (Nat.le_of_eq W4.size.symm)
  have K8 := K0.wr W4 (own_mI 0 rfl)
  refine own_st (fun t k => XS.iinc X4.here hx rfl (B.d 15 rfl) rfl (l' := #[sR a, sR pi, sI 0, sI 1]) rfl k) ?_
  refine Sg 24 2 X4 B 16 rfl ?_
  refine SiN X4 B 2 rfl rfl ?_
  refine SaN X4 B 3 rfl rfl rfl ?_
  have f10 := (F1.other W4 (Or.inl (Ne.symm na1)))
  refine Kgf X4 B hZ hown (hw 265 rfl) Via.refl e4 f10 4 rfl fun T9 X9 e9 => ?_
  refine Scn X9 B 5 rfl (tlt (by decide : ((1 : Int32) < (2 : Int32)))).2.1 ?_
  refine SaN X9 B 6 rfl rfl rfl ?_
  refine SiN X9 B 7 rfl rfl ?_
  refine SiN X9 B 8 rfl rfl ?_
  refine own_st (fun t k => XS.iadd X9.here hx rfl (B.d 9 rfl) rfl k) ?_
  refine SaN X9 B 10 rfl rfl rfl ?_
  have f12 := (F3.other W4 (Or.inl (Ne.symm na1)))
  refine Kgf X9 B hZ hown (hw 215 rfl) Via.refl e9 f12 11 rfl fun T11 X11 e11 => ?_
  refine SiN X11 B 12 rfl rfl ?_
  have f14 := (F5.other W4 (Ne.symm na3))
  refine Kil 1 X11 B hZ e11 f14 (own_u01 hu).2 rfl 13 rfl ?_
  refine Kis 1 X11 B hZ e11 f5 ⟨by decide, by decide⟩ rfl 14 rfl fun T15 h15 X15 e15 W15 f16 => ?_
  have N17 := Fr.snoc X15 N6 g_pi
  have Z18 : n0 ≤ h15.size := Nat.le_trans Z7 (Nat.le_of_eq W15.size.symm)
  have K19 := K8.wr W15 (own_mI 0 rfl)
  refine own_st (fun t k => XS.iinc X15.here hx rfl (B.d 15 rfl) rfl (l' := #[sR a, sR pi, sI 0, sI 2]) rfl k) ?_
  show own_Go _ _ _ _ T15 (mkF m 24 _ [])
  show own_Go _ _ _ _ T15 (mkF m 24 _ [])
  refine Sg 24 2 X15 B 16 rfl ?_
  refine SiN X15 B 2 rfl rfl ?_
  refine SaN X15 B 3 rfl rfl rfl ?_
  have f21 := (f10.other W15 (Or.inl (Ne.symm na1)))
  refine Kgf X15 B hZ hown (hw 265 rfl) Via.refl e15 f21 4 rfl fun T20 X20 e20 => ?_
  refine Scy 7 27 X20 B 5 rfl (flt (by decide : ¬ ((2 : Int32) < (2 : Int32)))).2.1 ?_
  refine SaN X20 B 17 rfl rfl rfl ?_
  refine SiN X20 B 18 rfl rfl ?_
  refine SiN X20 B 19 rfl rfl ?_
  refine SaN X20 B 20 rfl rfl rfl ?_
  refine Kgf X20 B hZ hown (hw 265 rfl) Via.refl e20 f21 21 rfl fun T22 X22 e22 => ?_
  refine own_st (fun t k => XS.iadd X22.here hx rfl (B.d 22 rfl) rfl k) ?_
  refine Kst (wt := 0) (y := ym32) none X22 B hZ hown (hw 302 rfl) (hw 303 rfl) (hw 184 rfl) (hw 304 rfl) (rm35 hw pi ki (own_updI (own_updI gx 0 (gp 0)) 1 (gp 1)) h15 n0 Z18 f16 g_pi) e22 own_pd___III_V 23 rfl rfl rfl (fun _ _ _ q => by obtain ⟨_, e, _⟩ := q; exact e) fun T23 Lc23 X23 hQ23 => ?_
  obtain ⟨r23_g2, -, NQ23, K23, fq23_0, hq23_0⟩ := hQ23
  have N24 := Fr.app N17 NQ23
  have K26 := K19.trans K23 (allS (own_mI 0 rfl) all0)
  show own_Go _ _ _ _ T23 (mkF m 38 _ [])
  refine SiN X23 B 24 rfl rfl ?_
  refine SisN #[sR a, sR pi, sI 0, sI 0] X23 B 25 rfl rfl ?_
  refine SiN X23 B 26 rfl rfl ?_
  refine SiN X23 B 27 rfl rfl ?_
  refine SaN X23 B 28 rfl rfl rfl ?_
  have f28 := (f21.keep K23 (ninS (Ne.symm na1) nin0))
  refine Kgf X23 B hZ hown (hw 265 rfl) Via.refl rfl f28 29 rfl fun T27 X27 e27 => ?_
  refine own_st (fun t k => XS.iadd X27.here hx rfl (B.d 30 rfl) rfl k) ?_
  refine Scn X27 B 31 rfl (tlt (by decide : ((0 : Int32) < (2 : Int32)))).2.1 ?_
  refine SaN X27 B 32 rfl rfl rfl ?_
  refine SiN X27 B 33 rfl rfl ?_
  refine SaN X27 B 34 rfl rfl rfl ?_
  have f30 := (((F2.other W4 (Or.inl (Ne.symm na1))).other W15 (Or.inl (Ne.symm na1))).keep K23 (ninS (Ne.symm na1) nin0))
  refine Kgf X27 B hZ hown (hw 201 rfl) Via.refl e27 f30 35 rfl fun T29 X29 e29 => ?_
  refine SaN X29 B 36 rfl rfl rfl ?_
  refine SiN X29 B 37 rfl rfl ?_
  refine Kil 0 X29 B hZ e29 fq23_0 ⟨by decide, by decide⟩ rfl 38 rfl ?_
  have f33 := (((F4.other W4 (Ne.symm na2)).other W15 (Ne.symm na2)).keep K23 (ninS (Ne.symm na2) nin0))
  refine Kil _ X29 B hZ e29 f33 (own_s2b (lo := 0) hq23_0 hp0 hp1).1 rfl 39 rfl ?_
  refine Kis 0 X29 B hZ e29 fq23_0 ⟨by decide, by decide⟩ rfl 40 rfl fun T34 h34 X34 e34 W34 f35 => ?_
  have N36 := Fr.snoc X34 N24 g_pi
  have K38 := K26.wr W34 (own_mI 0 rfl)
  refine own_st (fun t k => XS.iinc X34.here hx rfl (B.d 41 rfl) rfl (l' := #[sR a, sR pi, sI 0, sI 1]) rfl k) ?_
  refine Sg 64 40 X34 B 42 rfl ?_
  refine SiN X34 B 26 rfl rfl ?_
  refine SiN X34 B 27 rfl rfl ?_
  refine SaN X34 B 28 rfl rfl rfl ?_
  have f40 := (f28.other W34 (Or.inl (Ne.symm na1)))
  refine Kgf X34 B hZ hown (hw 265 rfl) Via.refl e34 f40 29 rfl fun T39 X39 e39 => ?_
  refine own_st (fun t k => XS.iadd X39.here hx rfl (B.d 30 rfl) rfl k) ?_
  refine Scn X39 B 31 rfl (tlt (by decide : ((1 : Int32) < (2 : Int32)))).2.1 ?_
  refine SaN X39 B 32 rfl rfl rfl ?_
  refine SiN X39 B 33 rfl rfl ?_
  refine SaN X39 B 34 rfl rfl rfl ?_
  have f42 := (f30.other W34 (Or.inl (Ne.symm na1)))
  refine Kgf X39 B hZ hown (hw 201 rfl) Via.refl e39 f42 35 rfl fun T41 X41 e41 => ?_
  refine SaN X41 B 36 rfl rfl rfl ?_
  refine SiN X41 B 37 rfl rfl ?_
  refine Kil 1 X41 B hZ e41 f35 ⟨by decide, by decide⟩ rfl 38 rfl ?_
  show own_Go _ _ _ _ T41 (mkF m 59 _ [(.int (r23_g2 1)), .ref dv, .int 1, .ref pi])
  have f45 := (f33.other W34 (Ne.symm na2))
  refine Kil _ X41 B hZ e41 f45 (own_s2b (lo := 0) hq23_0 hp0 hp1).2 rfl 39 rfl ?_
  refine Kis 1 X41 B hZ e41 f35 ⟨by decide, by decide⟩ rfl 40 rfl fun T46 h46 X46 e46 W46 f47 => ?_
  have N48 := Fr.snoc X46 N36 g_pi
  have K50 := K38.wr W46 (own_mI 0 rfl)
  refine own_st (fun t k => XS.iinc X46.here hx rfl (B.d 41 rfl) rfl (l' := #[sR a, sR pi, sI 0, sI 2]) rfl k) ?_
  refine Sg 64 40 X46 B 42 rfl ?_
  refine SiN X46 B 26 rfl rfl ?_
  refine SiN X46 B 27 rfl rfl ?_
  refine SaN X46 B 28 rfl rfl rfl ?_
  have f52 := (f40.other W46 (Or.inl (Ne.symm na1)))
  refine Kgf X46 B hZ hown (hw 265 rfl) Via.refl e46 f52 29 rfl fun T51 X51 e51 => ?_
  refine own_st (fun t k => XS.iadd X51.here hx rfl (B.d 30 rfl) rfl k) ?_
  refine Scy 47 67 X51 B 31 rfl (flt (by decide : ¬ ((2 : Int32) < (2 : Int32)))).2.1 ?_
  refine own_oV X51 B Bd 43 rfl hPq ?_
  rw [e51]
  have fz := f47
  rw [hq23_0] at fz
  exact ⟨rfl, N48, K50, fz⟩
theorem own_ef59 (m : MethodId) (a pi : Addr) : entryFrame m #[.ref a, .ref pi, .int 2] 4 = mkF m 0 #[sR a, sR pi, sI 2, sU] [] := by first | (simp [entryFrame, mkF, argsToLocals, Value.category]; done) | rfl
def Q59 (Z : State) (a pi : Addr) (un : Int32) (dv dp : Addr) (ki k_dv k_dp : ClassId) (gx gv gp : Nat → Int32) (h0 : Heap) (n0 : Nat) (v : Option Value) (h : Heap) (L : List Loc) : Prop := v = none ∧ Fr n0 L ∧ Keep h0 h [pi] ∧ own_AI Z h pi ki 4 (own_cvf 2 gx gp gv)
set_option maxRecDepth 65536 in
set_option maxHeartbeats 4000000 in
theorem rm59 {l : Launch} {Z : State} {a0 : Array Value} (hw : own_T a0 Z) (a pi : Addr) (un : Int32) (dv dp : Addr) (ki k_dv k_dp : ClassId) (gx gv gp : Nat → Int32) (h0 : Heap) (n0 : Nat) (Z0 : n0 ≤ h0.size) (F0 : Exa Z h0 a kDV) (F1 : Fld Z h0 a kDV "distinct" "I" (.int 2)) (F2 : Fld Z h0 a kDV "values" "[I" (.ref dv)) (F3 : Fld Z h0 a kDV "present" "[I" (.ref dp)) (F4 : own_AI Z h0 dv k_dv un gv) (F5 : own_AI Z h0 dp k_dp un gp) (F6 : own_AI Z h0 pi ki 4 gx) (hu : (1 : Int32) < un) (hp0 : ¬ (gp 0) < 0 ∧ (gp 0) < un) (hp1 : ¬ (gp 1) < 0 ∧ (gp 1) < un) (na1 : pi ≠ a) (na2 : pi ≠ dv) (na3 : pi ≠ dp) (g_pi : n0 ≤ pi) :
    own_M l Z ym42 prog_28_method_5_code 4 none ⟨4, 0, 0, 81⟩ #[.ref a, .ref pi, .int 2] h0 (Q59 Z a pi un dv dp ki k_dv k_dp gx gv gp h0 n0) := by
  refine own_open kDV #[sR a, sR pi, sI 2, sU] (plainFor_of_name own_pn24) DL42 rfl (fun m => own_ef59 m a pi) fun p e s m below meth c s₁ Bd B hZ hown X0 e0 Pq hPq => ?_
  have hx := B.x
  have N0 := Fr.nil n0
  have K0 : Keep h0 h0 [pi] := Keep.refl _ _
  refine Sc 0 X0 B 0 rfl rfl ?_
  refine SisN #[sR a, sR pi, sI 2, sI 0] X0 B 1 rfl rfl ?_
  refine SiN X0 B 2 rfl rfl ?_
  refine SaN X0 B 3 rfl rfl rfl ?_
  refine Kgf X0 B hZ hown (hw 265 rfl) Via.refl e0 F1 4 rfl fun T1 X1 e1 => ?_
  refine Scn X1 B 5 rfl (tlt (by decide : ((0 : Int32) < (2 : Int32)))).2.1 ?_
  refine SaN X1 B 6 rfl rfl rfl ?_
  refine SiN X1 B 7 rfl rfl ?_
  refine SiN X1 B 8 rfl rfl ?_
  refine own_st (fun t k => XS.iadd X1.here hx rfl (B.d 9 rfl) rfl k) ?_
  refine SaN X1 B 10 rfl rfl rfl ?_
  refine Kgf X1 B hZ hown (hw 215 rfl) Via.refl e1 F3 11 rfl fun T2 X2 e2 => ?_
  refine SiN X2 B 12 rfl rfl ?_
  refine Kil 0 X2 B hZ e2 F5 (own_u01 hu).1 rfl 13 rfl ?_
  refine Kis 2 X2 B hZ e2 F6 ⟨by decide, by decide⟩ rfl 14 rfl fun T4 h4 X4 e4 W4 f5 => ?_
  have N6 := Fr.snoc X4 N0 g_pi
  have Z7 : n0 ≤ h4.size := Nat.le_trans Z0 (Nat.le_of_eq W4.size.symm)
  have K8 := K0.wr W4 (own_mI 0 rfl)
  refine own_st (fun t k => XS.iinc X4.here hx rfl (B.d 15 rfl) rfl (l' := #[sR a, sR pi, sI 2, sI 1]) rfl k) ?_
  refine Sg 24 2 X4 B 16 rfl ?_
  refine SiN X4 B 2 rfl rfl ?_
  refine SaN X4 B 3 rfl rfl rfl ?_
  have f10 := (F1.other W4 (Or.inl (Ne.symm na1)))
  refine Kgf X4 B hZ hown (hw 265 rfl) Via.refl e4 f10 4 rfl fun T9 X9 e9 => ?_
  refine Scn X9 B 5 rfl (tlt (by decide : ((1 : Int32) < (2 : Int32)))).2.1 ?_
  refine SaN X9 B 6 rfl rfl rfl ?_
  refine SiN X9 B 7 rfl rfl ?_
  refine SiN X9 B 8 rfl rfl ?_
  refine own_st (fun t k => XS.iadd X9.here hx rfl (B.d 9 rfl) rfl k) ?_
  refine SaN X9 B 10 rfl rfl rfl ?_
  have f12 := (F3.other W4 (Or.inl (Ne.symm na1)))
  refine Kgf X9 B hZ hown (hw 215 rfl) Via.refl e9 f12 11 rfl fun T11 X11 e11 => ?_
  refine SiN X11 B 12 rfl rfl ?_
  have f14 := (F5.other W4 (Ne.symm na3))
  refine Kil 1 X11 B hZ e11 f14 (own_u01 hu).2 rfl 13 rfl ?_
  refine Kis 3 X11 B hZ e11 f5 ⟨by decide, by decide⟩ rfl 14 rfl fun T15 h15 X15 e15 W15 f16 => ?_
  have N17 := Fr.snoc X15 N6 g_pi
  have Z18 : n0 ≤ h15.size := Nat.le_trans Z7 (Nat.le_of_eq W15.size.symm)
  have K19 := K8.wr W15 (own_mI 0 rfl)
  refine own_st (fun t k => XS.iinc X15.here hx rfl (B.d 15 rfl) rfl (l' := #[sR a, sR pi, sI 2, sI 2]) rfl k) ?_
  show own_Go _ _ _ _ T15 (mkF m 24 _ [])
  show own_Go _ _ _ _ T15 (mkF m 24 _ [])
  refine Sg 24 2 X15 B 16 rfl ?_
  refine SiN X15 B 2 rfl rfl ?_
  refine SaN X15 B 3 rfl rfl rfl ?_
  have f21 := (f10.other W15 (Or.inl (Ne.symm na1)))
  refine Kgf X15 B hZ hown (hw 265 rfl) Via.refl e15 f21 4 rfl fun T20 X20 e20 => ?_
  refine Scy 7 27 X20 B 5 rfl (flt (by decide : ¬ ((2 : Int32) < (2 : Int32)))).2.1 ?_
  refine SaN X20 B 17 rfl rfl rfl ?_
  refine SiN X20 B 18 rfl rfl ?_
  refine SiN X20 B 19 rfl rfl ?_
  refine SaN X20 B 20 rfl rfl rfl ?_
  refine Kgf X20 B hZ hown (hw 265 rfl) Via.refl e20 f21 21 rfl fun T22 X22 e22 => ?_
  refine own_st (fun t k => XS.iadd X22.here hx rfl (B.d 22 rfl) rfl k) ?_
  refine Kst (wt := 0) (y := ym32) none X22 B hZ hown (hw 302 rfl) (hw 303 rfl) (hw 184 rfl) (hw 304 rfl) (rm39 hw pi ki (own_updI (own_updI gx 2 (gp 0)) 3 (gp 1)) h15 n0 Z18 f16 g_pi) e22 own_pd___III_V 23 rfl rfl rfl (fun _ _ _ q => by obtain ⟨_, e, _⟩ := q; exact e) fun T23 Lc23 X23 hQ23 => ?_
  obtain ⟨r23_g2, -, NQ23, K23, fq23_0, hq23_0⟩ := hQ23
  have N24 := Fr.app N17 NQ23
  have K26 := K19.trans K23 (allS (own_mI 0 rfl) all0)
  show own_Go _ _ _ _ T23 (mkF m 38 _ [])
  refine SiN X23 B 24 rfl rfl ?_
  refine SisN #[sR a, sR pi, sI 2, sI 2] X23 B 25 rfl rfl ?_
  refine SiN X23 B 26 rfl rfl ?_
  refine SiN X23 B 27 rfl rfl ?_
  refine SaN X23 B 28 rfl rfl rfl ?_
  have f28 := (f21.keep K23 (ninS (Ne.symm na1) nin0))
  refine Kgf X23 B hZ hown (hw 265 rfl) Via.refl rfl f28 29 rfl fun T27 X27 e27 => ?_
  refine own_st (fun t k => XS.iadd X27.here hx rfl (B.d 30 rfl) rfl k) ?_
  refine Scn X27 B 31 rfl (tlt (by decide : ((2 : Int32) < (4 : Int32)))).2.1 ?_
  refine SaN X27 B 32 rfl rfl rfl ?_
  refine SiN X27 B 33 rfl rfl ?_
  refine SaN X27 B 34 rfl rfl rfl ?_
  have f30 := (((F2.other W4 (Or.inl (Ne.symm na1))).other W15 (Or.inl (Ne.symm na1))).keep K23 (ninS (Ne.symm na1) nin0))
  refine Kgf X27 B hZ hown (hw 201 rfl) Via.refl e27 f30 35 rfl fun T29 X29 e29 => ?_
  refine SaN X29 B 36 rfl rfl rfl ?_
  refine SiN X29 B 37 rfl rfl ?_
  refine Kil 2 X29 B hZ e29 fq23_0 ⟨by decide, by decide⟩ rfl 38 rfl ?_
  have f33 := (((F4.other W4 (Ne.symm na2)).other W15 (Ne.symm na2)).keep K23 (ninS (Ne.symm na2) nin0))
  refine Kil _ X29 B hZ e29 f33 (own_s2b (lo := 2) hq23_0 hp0 hp1).1 rfl 39 rfl ?_
  refine Kis 2 X29 B hZ e29 fq23_0 ⟨by decide, by decide⟩ rfl 40 rfl fun T34 h34 X34 e34 W34 f35 => ?_
  have N36 := Fr.snoc X34 N24 g_pi
  have K38 := K26.wr W34 (own_mI 0 rfl)
  refine own_st (fun t k => XS.iinc X34.here hx rfl (B.d 41 rfl) rfl (l' := #[sR a, sR pi, sI 2, sI 3]) rfl k) ?_
  refine Sg 64 40 X34 B 42 rfl ?_
  refine SiN X34 B 26 rfl rfl ?_
  refine SiN X34 B 27 rfl rfl ?_
  refine SaN X34 B 28 rfl rfl rfl ?_
  have f40 := (f28.other W34 (Or.inl (Ne.symm na1)))
  refine Kgf X34 B hZ hown (hw 265 rfl) Via.refl e34 f40 29 rfl fun T39 X39 e39 => ?_
  refine own_st (fun t k => XS.iadd X39.here hx rfl (B.d 30 rfl) rfl k) ?_
  refine Scn X39 B 31 rfl (tlt (by decide : ((3 : Int32) < (4 : Int32)))).2.1 ?_
  refine SaN X39 B 32 rfl rfl rfl ?_
  refine SiN X39 B 33 rfl rfl ?_
  refine SaN X39 B 34 rfl rfl rfl ?_
  have f42 := (f30.other W34 (Or.inl (Ne.symm na1)))
  refine Kgf X39 B hZ hown (hw 201 rfl) Via.refl e39 f42 35 rfl fun T41 X41 e41 => ?_
  refine SaN X41 B 36 rfl rfl rfl ?_
  refine SiN X41 B 37 rfl rfl ?_
  refine Kil 3 X41 B hZ e41 f35 ⟨by decide, by decide⟩ rfl 38 rfl ?_
  show own_Go _ _ _ _ T41 (mkF m 59 _ [(.int (r23_g2 3)), .ref dv, .int 3, .ref pi])
  have f45 := (f33.other W34 (Ne.symm na2))
  refine Kil _ X41 B hZ e41 f45 (own_s2b (lo := 2) hq23_0 hp0 hp1).2 rfl 39 rfl ?_
  refine Kis 3 X41 B hZ e41 f35 ⟨by decide, by decide⟩ rfl 40 rfl fun T46 h46 X46 e46 W46 f47 => ?_
  have N48 := Fr.snoc X46 N36 g_pi
  have K50 := K38.wr W46 (own_mI 0 rfl)
  refine own_st (fun t k => XS.iinc X46.here hx rfl (B.d 41 rfl) rfl (l' := #[sR a, sR pi, sI 2, sI 4]) rfl k) ?_
  refine Sg 64 40 X46 B 42 rfl ?_
  refine SiN X46 B 26 rfl rfl ?_
  refine SiN X46 B 27 rfl rfl ?_
  refine SaN X46 B 28 rfl rfl rfl ?_
  have f52 := (f40.other W46 (Or.inl (Ne.symm na1)))
  refine Kgf X46 B hZ hown (hw 265 rfl) Via.refl e46 f52 29 rfl fun T51 X51 e51 => ?_
  refine own_st (fun t k => XS.iadd X51.here hx rfl (B.d 30 rfl) rfl k) ?_
  refine Scy 47 67 X51 B 31 rfl (flt (by decide : ¬ ((4 : Int32) < (4 : Int32)))).2.1 ?_
  refine own_oV X51 B Bd 43 rfl hPq ?_
  rw [e51]
  have fz := f47
  rw [hq23_0] at fz
  exact ⟨rfl, N48, K50, fz⟩
theorem own_ni {l : List Addr} (h : l.Nodup) (i j : Nat) {x y : Addr} (hi : l[i]? = some x) (hj : l[j]? = some y) (q : i < j := by decide) : x ≠ y := by
  obtain ⟨hi', rfl⟩ := List.getElem?_eq_some_iff.mp hi
  obtain ⟨hj', rfl⟩ := List.getElem?_eq_some_iff.mp hj
  exact (List.pairwise_iff_getElem.mp h) i j hi' hj' q
theorem own_ef60 (m : MethodId)  : entryFrame m #[.int 0, .int 2] 4 = mkF m 0 #[sI 0, sI 2, sU, sU] [] := by first | (simp [entryFrame, mkF, argsToLocals, Value.category]; done) | rfl
def Q60 (Z : State)  (h0 : Heap) (n0 : Nat) (v : Option Value) (h : Heap) (L : List Loc) : Prop := v = some (.int 0) ∧ Fr n0 L ∧ h = h0
set_option maxRecDepth 65536 in
set_option maxHeartbeats 4000000 in
theorem rm60 {l : Launch} {Z : State} {a0 : Array Value} (hw : own_T a0 Z)  (h0 : Heap) (n0 : Nat) (Z0 : n0 ≤ h0.size) :
    own_M l Z ym43 jdk_29_method_28_code 4 (some .int) ⟨0, 0, 0, 0⟩ #[.int 0, .int 2] h0 (Q60 Z  h0 n0) := by
  refine own_open "java/lang/Math" #[sI 0, sI 2, sU, sU] (Jvm.Free.JP.mathPlain rfl (by decide +kernel)) DL43 rfl (fun m => own_ef60 m ) fun p e s m below meth c s₁ Bd B hZ hown X0 e0 Pq hPq => ?_
  have hx := B.x
  have N0 := Fr.nil n0
  refine SiN X0 B 0 rfl rfl ?_
  refine own_st (fun t k => XS.i2l X0.here hx rfl (B.d 1 rfl) rfl k) ?_
  refine SiN X0 B 2 rfl rfl ?_
  refine own_st (fun t k => XS.i2l X0.here hx rfl (B.d 3 rfl) rfl k) ?_
  refine own_st (fun t k => XS.lmul X0.here hx rfl (B.d 4 rfl) rfl k) ?_
  refine own_st (fun t k => XS.lstoreN X0.here hx rfl (B.d 5 rfl) rfl (l' := #[sI 0, sI 2, sJ (0 : Int64), .second]) rfl k) ?_
  refine own_st (fun t k => XS.lloadN X0.here hx rfl (B.d 6 rfl) rfl k) ?_
  show own_Go _ _ _ _ s₁ (mkF m 7 _ [(.long (0 : Int64))])
  refine own_st (fun t k => XS.l2i X0.here hx rfl (B.d 7 rfl) rfl k) ?_
  refine own_st (fun t k => XS.i2l X0.here hx rfl (B.d 8 rfl) rfl k) ?_
  refine own_st (fun t k => XS.lloadN X0.here hx rfl (B.d 9 rfl) rfl k) ?_
  refine own_st (fun t k => XS.lcmp X0.here hx rfl (B.d 10 rfl) rfl k) ?_
  refine Sfy 11 24 X0 B 11 rfl (own_lcT (cd := .eq) (by decide : ((0 : Int64) = (0 : Int64)))) ?_
  refine own_st (fun t k => XS.lloadN X0.here hx rfl (B.d 12 rfl) rfl k) ?_
  show own_Go _ _ _ _ s₁ (mkF m 25 _ [(.long (0 : Int64))])
  refine own_st (fun t k => XS.l2i X0.here hx rfl (B.d 13 rfl) rfl k) ?_
  refine own_oI X0 B Bd 14 rfl hPq ?_
  rw [e0]
  exact ⟨rfl, N0, rfl⟩
theorem own_ef61 (m : MethodId)  : entryFrame m #[.int 1, .int 2] 4 = mkF m 0 #[sI 1, sI 2, sU, sU] [] := by first | (simp [entryFrame, mkF, argsToLocals, Value.category]; done) | rfl
def Q61 (Z : State)  (h0 : Heap) (n0 : Nat) (v : Option Value) (h : Heap) (L : List Loc) : Prop := v = some (.int 2) ∧ Fr n0 L ∧ h = h0
set_option maxRecDepth 65536 in
set_option maxHeartbeats 4000000 in
theorem rm61 {l : Launch} {Z : State} {a0 : Array Value} (hw : own_T a0 Z)  (h0 : Heap) (n0 : Nat) (Z0 : n0 ≤ h0.size) :
    own_M l Z ym43 jdk_29_method_28_code 4 (some .int) ⟨0, 0, 0, 0⟩ #[.int 1, .int 2] h0 (Q61 Z  h0 n0) := by
  refine own_open "java/lang/Math" #[sI 1, sI 2, sU, sU] (Jvm.Free.JP.mathPlain rfl (by decide +kernel)) DL43 rfl (fun m => own_ef61 m ) fun p e s m below meth c s₁ Bd B hZ hown X0 e0 Pq hPq => ?_
  have hx := B.x
  have N0 := Fr.nil n0
  refine SiN X0 B 0 rfl rfl ?_
  refine own_st (fun t k => XS.i2l X0.here hx rfl (B.d 1 rfl) rfl k) ?_
  refine SiN X0 B 2 rfl rfl ?_
  refine own_st (fun t k => XS.i2l X0.here hx rfl (B.d 3 rfl) rfl k) ?_
  refine own_st (fun t k => XS.lmul X0.here hx rfl (B.d 4 rfl) rfl k) ?_
  refine own_st (fun t k => XS.lstoreN X0.here hx rfl (B.d 5 rfl) rfl (l' := #[sI 1, sI 2, sJ (2 : Int64), .second]) rfl k) ?_
  refine own_st (fun t k => XS.lloadN X0.here hx rfl (B.d 6 rfl) rfl k) ?_
  show own_Go _ _ _ _ s₁ (mkF m 7 _ [(.long (2 : Int64))])
  refine own_st (fun t k => XS.l2i X0.here hx rfl (B.d 7 rfl) rfl k) ?_
  refine own_st (fun t k => XS.i2l X0.here hx rfl (B.d 8 rfl) rfl k) ?_
  refine own_st (fun t k => XS.lloadN X0.here hx rfl (B.d 9 rfl) rfl k) ?_
  refine own_st (fun t k => XS.lcmp X0.here hx rfl (B.d 10 rfl) rfl k) ?_
  refine Sfy 11 24 X0 B 11 rfl (own_lcT (cd := .eq) (by decide : ((2 : Int64) = (2 : Int64)))) ?_
  refine own_st (fun t k => XS.lloadN X0.here hx rfl (B.d 12 rfl) rfl k) ?_
  show own_Go _ _ _ _ s₁ (mkF m 25 _ [(.long (2 : Int64))])
  refine own_st (fun t k => XS.l2i X0.here hx rfl (B.d 13 rfl) rfl k) ?_
  refine own_oI X0 B Bd 14 rfl hPq ?_
  rw [e0]
  exact ⟨rfl, N0, rfl⟩
theorem own_ef62 (m : MethodId) (a d : Addr) (x0 x1 : Int32) : entryFrame m #[.ref a, .ref d, .int x0, .int x1] 5 = mkF m 0 #[sR a, sR d, sI x0, sI x1, sU] [] := by first | (simp [entryFrame, mkF, argsToLocals, Value.category]; done) | rfl
def Q62 (Z : State) (a d : Addr) (x0 x1 : Int32) (sa ea : Addr) (sw co : Addr) (dv dp : Addr) (un : Int32) (ka kb : ClassId) (kc k_dv k_dp : ClassId) (gA gB : Nat → Int32) (gk gv gp : Nat → Int32) (h0 : Heap) (n0 : Nat) (v : Option Value) (h : Heap) (L : List Loc) : Prop := ∃ (k_nb : ClassId) (nb : Addr), v = some (.int 0) ∧ Fr n0 L ∧ Keep h0 h [a, sa, ea] ∧ n0 ≤ nb ∧ h0.size ≤ nb ∧ Exa Z h a kCP ∧ Fld Z h a kST "size" "I" (.int 1) ∧ Fld Z h a kST "starts" "[I" (.ref sa) ∧ Fld Z h a kST "ends" "[I" (.ref ea) ∧ Fld Z h a kCP "limit" "I" (.int 2) ∧ Fld Z h a kCP "sweep" "Lcom/example/tidemark/tidemark/core/Sweep;" (.ref sw) ∧ Fld Z h a kCP "colours" "[I" (.ref nb) ∧ own_AI Z h sa ka 6 (own_updI gA 0 x0) ∧ own_AI Z h ea kb 6 (own_updI gB 0 x1) ∧ Exa Z h nb "[I" ∧ own_AI Z h nb k_nb 2 (own_cvf 0 (own_i2 0 0) gp gv)
set_option maxRecDepth 65536 in
set_option maxHeartbeats 4000000 in
theorem rm62 {l : Launch} {Z : State} {a0 : Array Value} (hw : own_T a0 Z) (a d : Addr) (x0 x1 : Int32) (sa ea : Addr) (sw co : Addr) (dv dp : Addr) (un : Int32) (ka kb : ClassId) (kc k_dv k_dp : ClassId) (gA gB : Nat → Int32) (gk gv gp : Nat → Int32) (h0 : Heap) (n0 : Nat) (Z0 : n0 ≤ h0.size) (F0 : Exa Z h0 a kCP) (F1 : Fld Z h0 a kST "size" "I" (.int 0)) (F2 : Fld Z h0 a kST "starts" "[I" (.ref sa)) (F3 : Fld Z h0 a kST "ends" "[I" (.ref ea)) (F4 : Fld Z h0 a kCP "limit" "I" (.int 2)) (F5 : Fld Z h0 a kCP "sweep" "Lcom/example/tidemark/tidemark/core/Sweep;" (.ref sw)) (F6 : Fld Z h0 a kCP "colours" "[I" (.ref co)) (F7 : own_AI Z h0 sa ka 6 gA) (F8 : own_AI Z h0 ea kb 6 gB) (F9 : Exa Z h0 co "[I") (F10 : own_AI Z h0 co kc 0 gk) (F11 : Exa Z h0 d kDV) (F12 : Fld Z h0 d kDV "distinct" "I" (.int 2)) (F13 : Fld Z h0 d kDV "values" "[I" (.ref dv)) (F14 : Fld Z h0 d kDV "present" "[I" (.ref dp)) (F15 : own_AI Z h0 dv k_dv un gv) (F16 : own_AI Z h0 dp k_dp un gp) (hu : (1 : Int32) < un) (hp0 : ¬ (gp 0) < 0 ∧ (gp 0) < un) (hp1 : ¬ (gp 1) < 0 ∧ (gp 1) < un) (ND : [a, sa, ea, co, d, dv, dp].Nodup) (g_a : n0 ≤ a) (g_sa : n0 ≤ sa) (g_ea : n0 ≤ ea) :
    own_M l Z ym45 prog_17_method_3_code 5 (some .boolean) ⟨5, 1, 2, 96⟩ #[.ref a, .ref d, .int x0, .int x1] h0 (Q62 Z a d x0 x1 sa ea sw co dv dp un ka kb kc k_dv k_dp gA gB gk gv gp h0 n0) := by
  refine own_open kCP #[sR a, sR d, sI x0, sI x1, sU] (plainFor_of_name own_pn21) DL44 rfl (fun m => own_ef62 m a d x0 x1) fun p e s m below meth c s₁ Bd B hZ hown X0 e0 Pq hPq => ?_
  have hx := B.x
  have hml := B.2.1
  have N0 := Fr.nil n0
  have K0 : Keep h0 h0 [a, sa, ea] := Keep.refl _ _
  have z0_1 := own_ni ND 0 1 rfl rfl
  have z0_2 := own_ni ND 0 2 rfl rfl
  have z0_3 := own_ni ND 0 3 rfl rfl
  have z0_4 := own_ni ND 0 4 rfl rfl
  have z0_5 := own_ni ND 0 5 rfl rfl
  have z0_6 := own_ni ND 0 6 rfl rfl
  have z1_2 := own_ni ND 1 2 rfl rfl
  have z1_3 := own_ni ND 1 3 rfl rfl
  have z1_4 := own_ni ND 1 4 rfl rfl
  have z1_5 := own_ni ND 1 5 rfl rfl
  have z1_6 := own_ni ND 1 6 rfl rfl
  have z2_3 := own_ni ND 2 3 rfl rfl
  have z2_4 := own_ni ND 2 4 rfl rfl
  have z2_5 := own_ni ND 2 5 rfl rfl
  have z2_6 := own_ni ND 2 6 rfl rfl
  refine SaN X0 B 0 rfl rfl rfl ?_
  refine Kvi (wt := 0) (y := ym24) (some (.int 2)) X0 B hZ hown (hw 277 rfl) (hw 278 rfl) (hw 280 rfl) (hw 279 rfl) (hw 168 rfl) (hw 281 rfl) (rm24 hw d 2 h0 n0 Z0 F11 F12) e0 F11 own_pd___I 1 rfl rfl rfl (fun _ _ _ q => q.1) fun T1 Lc1 X1 hQ1 => ?_
  obtain ⟨-, NQ1, eq1⟩ := hQ1
  have N2 := Fr.app N0 NQ1
  show own_Go _ _ _ _ T1 (mkF m 4 _ [.int 2])
  refine SaN X1 B 2 rfl rfl rfl ?_
  refine Kgf X1 B hZ hown (hw 95 rfl) Via.refl eq1 F4 3 rfl fun T3 X3 e3 => ?_
  refine Scn X3 B 4 rfl (teq (by decide : ((2 : Int32) = (2 : Int32)))).2 ?_
  refine SaN X3 B 5 rfl rfl rfl ?_
  refine SiN X3 B 6 rfl rfl ?_
  refine SiN X3 B 7 rfl rfl ?_
  refine Kup (wt := 0) (x := ym44) (z := ym23) (some (.int 0)) X3 B hZ hown (hw 282 rfl) (hw 283 rfl) (hw 284 rfl) (hw 286 rfl) (hw 285 rfl) (hw 86 rfl) (hw 287 rfl) (rm23 hw a x0 x1 0 ka kb gA gB sa ea sw co h0 n0 Z0 F0 F1 F2 F3 F4 F5 F6 F7 F8 ⟨by decide, by decide⟩ z1_2 (Ne.symm z0_1) (Ne.symm z0_2) g_a g_sa g_ea) e3 F0 own_pd__II_I 8 rfl rfl rfl (fun _ _ _ q => q.1) fun T4 Lc4 X4 hQ4 => ?_
  obtain ⟨-, NQ4, K4, fq4_0, fq4_1, fq4_2, fq4_3, fq4_4, fq4_5, fq4_6, fq4_7, fq4_8⟩ := hQ4
  have N5 := Fr.app N2 NQ4
  have Z6 : n0 ≤ T4.heap.size := Nat.le_trans Z0 K4.1
  have K7 := K0.trans K4 (allS (own_mI 0 rfl) (allS (own_mI 1 rfl) (allS (own_mI 2 rfl) all0)))
  show own_Go _ _ _ _ T4 (mkF m 17 _ [.int 0])
  refine SaN X4 B 9 rfl rfl rfl ?_
  refine Kgf X4 B hZ hown (hw 95 rfl) Via.refl rfl fq4_4 10 rfl fun T8 X8 e8 => ?_
  refine Kst (wt := 0) (y := ym43) (some (.int 0)) X8 B hZ hown (hw 288 rfl) (hw 289 rfl) (hw 81 rfl) (hw 290 rfl) (rm60 hw  T4.heap n0 Z6 ) e8 own_pd__II_I 11 rfl rfl rfl (fun _ _ _ q => q.1) fun T9 Lc9 X9 hQ9 => ?_
  obtain ⟨-, NQ9, eq9⟩ := hQ9
  have N10 := Fr.app N5 NQ9
  show own_Go _ _ _ _ T9 (mkF m 24 _ [.int 0])
  refine Sis #[sR a, sR d, sI x0, sI x1, sI 0] X9 B 12 rfl rfl ?_
  refine SaN X9 B 13 rfl rfl rfl ?_
  refine Kgf X9 B hZ hown (hw 93 rfl) Via.refl eq9 fq4_6 14 rfl fun T11 X11 e11 => ?_
  have f13 := (F10.keep K4 (ninS (Ne.symm z0_3) (ninS (Ne.symm z1_3) (ninS (Ne.symm z2_3) nin0))))
  obtain ⟨c12, Ar12, q12, S12, N12, H12⟩ := id f13
  refine own_st (fun t k => X11.arraylength hx (by rw [e11]; exact Ar12.1) (State.isArrayOf_alike hZ.alike Ar12.2.1) (g := (mkF m 30 #[sR a, sR d, sI x0, sI x1, sI 0] [.ref co])) rfl rfl (B.d 15 rfl) _ k) ?_
  rw [len_of S12 N12]
  show own_Go _ _ _ _ T11 (mkF m 31 _ [.int 0])
  refine Si X11 B 16 rfl rfl ?_
  refine SaN X11 B 17 rfl rfl rfl ?_
  refine Kgf X11 B hZ hown (hw 95 rfl) Via.refl e11 fq4_4 18 rfl fun T14 X14 e14 => ?_
  refine own_st (fun t k => XS.iadd X14.here hx rfl (B.d 19 rfl) rfl k) ?_
  refine Scn X14 B 20 rfl (tlt (by decide : ((0 : Int32) < (2 : Int32)))).2.1 ?_
  refine SaN X14 B 21 rfl rfl rfl ?_
  refine SaN X14 B 22 rfl rfl rfl ?_
  refine Kgf X14 B hZ hown (hw 93 rfl) Via.refl e14 fq4_6 23 rfl fun T15 X15 e15 => ?_
  refine Si X15 B 24 rfl rfl ?_
  refine SaN X15 B 25 rfl rfl rfl ?_
  refine Kgf X15 B hZ hown (hw 95 rfl) Via.refl e15 fq4_4 26 rfl fun T16 X16 e16 => ?_
  refine own_st (fun t k => XS.iadd X16.here hx rfl (B.d 27 rfl) rfl k) ?_
  refine Sc 2 X16 B 28 rfl rfl ?_
  refine SaN X16 B 29 rfl rfl rfl ?_
  refine Kgf X16 B hZ hown (hw 93 rfl) Via.refl e16 fq4_6 30 rfl fun T17 X17 e17 => ?_
  obtain ⟨c18, Ar18, q18, S18, N18, H18⟩ := id f13
  refine own_st (fun t k => X17.arraylength hx (by rw [e17]; exact Ar18.1) (State.isArrayOf_alike hZ.alike Ar18.2.1) (g := (mkF m 58 #[sR a, sR d, sI x0, sI x1, sI 0] [.ref co, .int 2, .int 2, .ref co, .ref a])) rfl rfl (B.d 31 rfl) _ k) ?_
  rw [len_of S18 N18]
  show own_Go _ _ _ _ T17 (mkF m 59 _ [.int 0, .int 2, .int 2, .ref co, .ref a])
  refine own_st (fun t k => XS.imul X17.here hx rfl (B.d 32 rfl) rfl k) ?_
  refine Kst (wt := 2) (y := ym19) (some (.int (own_mxi (2 : Int32) (0 : Int32)))) X17 B hZ hown (hw 79 rfl) (hw 80 rfl) (hw 81 rfl) (hw 82 rfl) (rm19 hw 2 0 T4.heap n0 Z6 ) e17 own_pd__II_I 33 rfl rfl rfl (fun _ _ _ q => q.1) fun T19 Lc19 X19 hQ19 => ?_
  obtain ⟨-, NQ19, eq19⟩ := hQ19
  have N20 := Fr.app N10 NQ19
  rw [show (own_mxi (2 : Int32) (0 : Int32)) = (2 : Int32) by decide]
  show own_Go _ _ _ _ T19 (mkF m 63 _ [.int 2, .ref co, .ref a])
  have f22 := (F9.keep K4)
  obtain ⟨_, _, ⟨T21, L21, k21, n21⟩, -, X21, ⟨Lc21, hQ21, l21, y21, z21⟩, st21⟩ := Jvm.LawKit.callS X19 hx (y := ym38) hown (mvT hZ (hw 291 rfl)) (mvT hZ (hw 197 rfl)) (mvT hZ (hw 184 rfl)) (mvT hZ (hw 198 rfl)) (by decide) (backOf (W := 1) (rm51 hw co kc gk T4.heap n0 Z6 f22 f13) hZ (hw 198 rfl) (hw 184 rfl) (by decide) (by decide)) (g := (mkF m 63 #[sR a, sR d, sI x0, sI x1, sI 0] [.int 2, .ref co, .ref a])) rfl (by rw [hml]; rfl) (argsL := [.ref co, .int 2]) (rest := [.ref a]) (lenOf own_pd___II__I rfl) rfl (by show 2 * 0 + _ ≤ _; exact Nat.le_of_eq rfl) (B.d 34 rfl) (fun _ _ => ⟨rfl, eq19, (by decide : 0 + 1 ≤ _), (by decide : 0 + 2 ≤ _)⟩)
  dsimp only [Pt.U, Pt.locs, Pt.cells, Pt.slots] at X21 l21 y21 z21 st21 hQ21
  subst l21 y21 z21
  obtain ⟨r21_k_nb, b21_nb, rfl, NQ21, K21, gx_b21_nb, sz_b21_nb, fq21_0, fq21_1⟩ := hQ21
  have N23 := Fr.app N20 NQ21
  refine own_st st21 ?_
  have Z24 : n0 ≤ T21.heap.size := Nat.le_trans Z6 K21.1
  have lt26 := fq4_0.lt
  have ne25 := own_nl lt26 sz_b21_nb
  have lt30 := (F11.keep K4).lt
  have ne29 := own_nl lt30 sz_b21_nb
  have lt32 := (F15.keep K4 (ninS (Ne.symm z0_5) (ninS (Ne.symm z1_5) (ninS (Ne.symm z2_5) nin0)))).lt
  have ne31 := own_nl lt32 sz_b21_nb
  have lt34 := (F16.keep K4 (ninS (Ne.symm z0_6) (ninS (Ne.symm z1_6) (ninS (Ne.symm z2_6) nin0)))).lt
  have ne33 := own_nl lt34 sz_b21_nb
  have lt36 := fq4_7.lt
  have ne35 := own_nl lt36 sz_b21_nb
  have lt38 := fq4_8.lt
  have ne37 := own_nl lt38 sz_b21_nb
  have sz40 : h0.size ≤ b21_nb := Nat.le_trans K7.1 sz_b21_nb
  have K39 := K7.trans K21 all0
  show own_Go _ _ _ _ T21 (mkF m 66 _ [.ref b21_nb, .ref a])
  have f42 := (fq4_0.keep K21)
  have f43 := (fq4_6.keep K21 nin0)
  refine Kpf (.array .int) X21 B hZ hown (hw 93 rfl) Via.refl rfl f43 f42 (Or.inl (hw 94 rfl)) (hw 74 rfl) 35 rfl fun T41 h41 X41 e41 W41 f44 => ?_
  have N45 := Fr.snoc X41 N23 g_a
  have Z46 : n0 ≤ h41.size := Nat.le_trans Z24 (Nat.le_of_eq W41.size.symm)
  have K47 := K39.wr W41 (own_mI 0 rfl)
  refine SaN X41 B 36 rfl rfl rfl ?_
  refine SaN X41 B 37 rfl rfl rfl ?_
  refine Kgf X41 B hZ hown (hw 93 rfl) Via.refl e41 f44 38 rfl fun T48 X48 e48 => ?_
  refine Si X48 B 39 rfl rfl ?_
  have f50 := (((F11.keep K4).keep K21).wr W41)
  have f51 := (((F12.keep K4 (ninS (Ne.symm z0_4) (ninS (Ne.symm z1_4) (ninS (Ne.symm z2_4) nin0)))).keep K21 nin0).other W41 (Or.inl (Ne.symm z0_4)))
  have f52 := (((F13.keep K4 (ninS (Ne.symm z0_4) (ninS (Ne.symm z1_4) (ninS (Ne.symm z2_4) nin0)))).keep K21 nin0).other W41 (Or.inl (Ne.symm z0_4)))
  have f53 := (((F14.keep K4 (ninS (Ne.symm z0_4) (ninS (Ne.symm z1_4) (ninS (Ne.symm z2_4) nin0)))).keep K21 nin0).other W41 (Or.inl (Ne.symm z0_4)))
  have f54 := (((F15.keep K4 (ninS (Ne.symm z0_5) (ninS (Ne.symm z1_5) (ninS (Ne.symm z2_5) nin0)))).keep K21 nin0).other W41 (Ne.symm z0_5))
  have f55 := (((F16.keep K4 (ninS (Ne.symm z0_6) (ninS (Ne.symm z1_6) (ninS (Ne.symm z2_6) nin0)))).keep K21 nin0).other W41 (Ne.symm z0_6))
  have f56 := (fq21_0.other W41 (Ne.symm ne25))
  refine Kvi (wt := 0) (y := ym42) none X48 B hZ hown (hw 297 rfl) (hw 298 rfl) (hw 300 rfl) (hw 299 rfl) (hw 168 rfl) (hw 301 rfl) (rm58 hw d b21_nb un dv dp r21_k_nb k_dv k_dp (own_i2 0 0) gv gp h41 n0 Z46 f50 f51 f52 f53 f54 f55 f56 hu hp0 hp1 (Ne.symm ne29) (Ne.symm ne31) (Ne.symm ne33) gx_b21_nb) e48 f50 own_pd___II_V 40 rfl rfl rfl (fun _ _ _ q => q.1) fun T49 Lc49 X49 hQ49 => ?_
  obtain ⟨-, NQ49, K49, fq49_0⟩ := hQ49
  have N57 := Fr.app N45 NQ49
  have Z58 : n0 ≤ T49.heap.size := Nat.le_trans Z46 K49.1
  have K59 := K47.trans K49 (allS (Or.inr sz40) all0)
  show own_Go _ _ _ _ T49 (mkF m 79 _ [])
  refine SaN X49 B 41 rfl rfl rfl ?_
  have f61 := (f50.keep K49)
  have f62 := (f51.keep K49 (ninS ne29 nin0))
  refine Kvi (wt := 0) (y := ym24) (some (.int 2)) X49 B hZ hown (hw 277 rfl) (hw 278 rfl) (hw 280 rfl) (hw 279 rfl) (hw 168 rfl) (hw 281 rfl) (rm24 hw d 2 T49.heap n0 Z58 f61 f62) rfl f61 own_pd___I 42 rfl rfl rfl (fun _ _ _ q => q.1) fun T60 Lc60 X60 hQ60 => ?_
  obtain ⟨-, NQ60, eq60⟩ := hQ60
  have N63 := Fr.app N57 NQ60
  show own_Go _ _ _ _ T60 (mkF m 83 _ [.int 2])
  refine SaN X60 B 43 rfl rfl rfl ?_
  have f65 := (((fq4_4.keep K21 nin0).other W41 (Or.inr (slot_ne (Or.inr (hw 96 rfl)) (Or.inl (hw 94 rfl)) (by decide) (t := .int) (t' := (.array .int)) (by decide) (by decide)))).keep K49 (ninS ne25 nin0))
  refine Kgf X60 B hZ hown (hw 95 rfl) Via.refl eq60 f65 44 rfl fun T64 X64 e64 => ?_
  refine Scy 87 94 X64 B 45 rfl (flt (by decide : ¬ ((2 : Int32) < (2 : Int32)))).2.2.2 ?_
  refine Sc 0 X64 B 46 rfl rfl ?_
  refine own_oZ X64 B Bd 47 rfl hPq ?_
  rw [e64]
  exact ⟨r21_k_nb, b21_nb, rfl, N63, K59, gx_b21_nb, sz40, ((f42.wr W41).keep K49), (((fq4_1.keep K21 nin0).other W41 (Or.inr (slot_ne (Or.inl (hw 165 rfl)) (Or.inl (hw 94 rfl)) (by decide) (t := .int) (t' := (.array .int)) (by decide) (by decide)))).keep K49 (ninS ne25 nin0)), (((fq4_2.keep K21 nin0).other W41 (Or.inr (slot_ne (Or.inr (hw 90 rfl)) (Or.inl (hw 94 rfl)) (by decide) (t := (.array .int)) (t' := (.array .int)) (by decide) (by decide)))).keep K49 (ninS ne25 nin0)), (((fq4_3.keep K21 nin0).other W41 (Or.inr (slot_ne (Or.inr (hw 92 rfl)) (Or.inl (hw 94 rfl)) (by decide) (t := (.array .int)) (t' := (.array .int)) (by decide) (by decide)))).keep K49 (ninS ne25 nin0)), f65, (((fq4_5.keep K21 nin0).other W41 (Or.inr (slot_ne (Or.inr (hw 110 rfl)) (Or.inl (hw 94 rfl)) (by decide) (t := (.object kSW)) (t' := (.array .int)) (by decide) (by decide)))).keep K49 (ninS ne25 nin0)), (f44.keep K49 (ninS ne25 nin0)), (((fq4_7.keep K21 nin0).other W41 (Ne.symm z0_1)).keep K49 (ninS ne35 nin0)), (((fq4_8.keep K21 nin0).other W41 (Ne.symm z0_2)).keep K49 (ninS ne37 nin0)), ((fq21_1.wr W41).keep K49), fq49_0⟩
theorem own_ef63 (m : MethodId) (a d : Addr) (x0 x1 : Int32) : entryFrame m #[.ref a, .ref d, .int x0, .int x1] 4 = mkF m 0 #[sR a, sR d, sI x0, sI x1] [] := by first | (simp [entryFrame, mkF, argsToLocals, Value.category]; done) | rfl
def Q63 (Z : State) (a d : Addr) (x0 x1 : Int32) (sa ea : Addr) (sw co : Addr) (dv dp : Addr) (un : Int32) (ka kb : ClassId) (kc k_dv k_dp : ClassId) (gA gB : Nat → Int32) (gk gv gp : Nat → Int32) (h0 : Heap) (n0 : Nat) (v : Option Value) (h : Heap) (L : List Loc) : Prop := ∃ (k_nb : ClassId) (nb : Addr), v = some (.int 0) ∧ Fr n0 L ∧ Keep h0 h [a, sa, ea] ∧ n0 ≤ nb ∧ h0.size ≤ nb ∧ Exa Z h a kCP ∧ Fld Z h a kST "size" "I" (.int 1) ∧ Fld Z h a kST "starts" "[I" (.ref sa) ∧ Fld Z h a kST "ends" "[I" (.ref ea) ∧ Fld Z h a kCP "limit" "I" (.int 2) ∧ Fld Z h a kCP "sweep" "Lcom/example/tidemark/tidemark/core/Sweep;" (.ref sw) ∧ Fld Z h a kCP "colours" "[I" (.ref nb) ∧ own_AI Z h sa ka 6 (own_updI gA 0 x0) ∧ own_AI Z h ea kb 6 (own_updI gB 0 x1) ∧ Exa Z h nb "[I" ∧ own_AI Z h nb k_nb 2 (own_cvf 0 (own_i2 0 0) gp gv)
set_option maxRecDepth 65536 in
set_option maxHeartbeats 4000000 in
theorem rm63 {l : Launch} {Z : State} {a0 : Array Value} (hw : own_T a0 Z) (a d : Addr) (x0 x1 : Int32) (sa ea : Addr) (sw co : Addr) (dv dp : Addr) (un : Int32) (ka kb : ClassId) (kc k_dv k_dp : ClassId) (gA gB : Nat → Int32) (gk gv gp : Nat → Int32) (h0 : Heap) (n0 : Nat) (Z0 : n0 ≤ h0.size) (F0 : Exa Z h0 a kCP) (F1 : Fld Z h0 a kST "size" "I" (.int 0)) (F2 : Fld Z h0 a kST "starts" "[I" (.ref sa)) (F3 : Fld Z h0 a kST "ends" "[I" (.ref ea)) (F4 : Fld Z h0 a kCP "limit" "I" (.int 2)) (F5 : Fld Z h0 a kCP "sweep" "Lcom/example/tidemark/tidemark/core/Sweep;" (.ref sw)) (F6 : Fld Z h0 a kCP "colours" "[I" (.ref co)) (F7 : own_AI Z h0 sa ka 6 gA) (F8 : own_AI Z h0 ea kb 6 gB) (F9 : Exa Z h0 co "[I") (F10 : own_AI Z h0 co kc 0 gk) (F11 : Exa Z h0 d kDV) (F12 : Fld Z h0 d kDV "distinct" "I" (.int 2)) (F13 : Fld Z h0 d kDV "values" "[I" (.ref dv)) (F14 : Fld Z h0 d kDV "present" "[I" (.ref dp)) (F15 : own_AI Z h0 dv k_dv un gv) (F16 : own_AI Z h0 dp k_dp un gp) (hu : (1 : Int32) < un) (hp0 : ¬ (gp 0) < 0 ∧ (gp 0) < un) (hp1 : ¬ (gp 1) < 0 ∧ (gp 1) < un) (ND : [a, sa, ea, co, d, dv, dp].Nodup) (g_a : n0 ≤ a) (g_sa : n0 ≤ sa) (g_ea : n0 ≤ ea) :
    own_M l Z ym46 prog_17_method_9_code 4 (some .boolean) ⟨6, 1, 2, 112⟩ #[.ref a, .ref d, .int x0, .int x1] h0 (Q63 Z a d x0 x1 sa ea sw co dv dp un ka kb kc k_dv k_dp gA gB gk gv gp h0 n0) := by
  refine own_open kCP #[sR a, sR d, sI x0, sI x1] (plainFor_of_name own_pn21) DL45 rfl (fun m => own_ef63 m a d x0 x1) fun p e s m below meth c s₁ Bd B hZ hown X0 e0 Pq hPq => ?_
  have hx := B.x
  have N0 := Fr.nil n0
  have K0 : Keep h0 h0 [a, sa, ea] := Keep.refl _ _
  refine SaN X0 B 0 rfl rfl rfl ?_
  refine SaN X0 B 1 rfl rfl rfl ?_
  refine SiN X0 B 2 rfl rfl ?_
  refine SiN X0 B 3 rfl rfl ?_
  refine Kpr (wt := 0) (y := ym45) (some (.int 0)) X0 B hZ hown (hw 273 rfl) (hw 274 rfl) (own_selp (y := ym45) (mvT hZ (hw 74 rfl)) (Cond.privateMethod_at (mvP hZ (hw 275 rfl) (args := #[]))) (mvT hZ (hw 274 rfl)) (by decide)) (hw 275 rfl) (hw 75 rfl) (hw 276 rfl) (rm62 hw a d x0 x1 sa ea sw co dv dp un ka kb kc k_dv k_dp gA gB gk gv gp h0 n0 Z0 F0 F1 F2 F3 F4 F5 F6 F7 F8 F9 F10 F11 F12 F13 F14 F15 F16 hu hp0 hp1 ND g_a g_sa g_ea) e0 F0 own_pd__Lcom_example_tidemark_tidemark_core_DistinctValues_II_Z 4 rfl rfl rfl (fun _ _ _ q => by obtain ⟨_, _, e, _⟩ := q; exact e) fun T1 Lc1 X1 hQ1 => ?_
  obtain ⟨r1_k_nb, b1_nb, -, NQ1, K1, gx_b1_nb, sz_b1_nb, fq1_0, fq1_1, fq1_2, fq1_3, fq1_4, fq1_5, fq1_6, fq1_7, fq1_8, fq1_9, fq1_10⟩ := hQ1
  have N2 := Fr.app N0 NQ1
  have sz19 : h0.size ≤ b1_nb := Nat.le_trans K0.1 sz_b1_nb
  have K18 := K0.trans K1 (allS (own_mI 0 rfl) (allS (own_mI 1 rfl) (allS (own_mI 2 rfl) all0)))
  show own_Go _ _ _ _ T1 (mkF m 7 _ [.int 0])
  refine own_oZ X1 B Bd 5 rfl hPq ?_
  exact ⟨r1_k_nb, b1_nb, rfl, N2, K18, gx_b1_nb, sz19, fq1_0, fq1_1, fq1_2, fq1_3, fq1_4, fq1_5, fq1_6, fq1_7, fq1_8, fq1_9, fq1_10⟩
theorem own_ef64 (m : MethodId) (a d : Addr) (x0 x1 : Int32) : entryFrame m #[.ref a, .ref d, .int x0, .int x1] 5 = mkF m 0 #[sR a, sR d, sI x0, sI x1, sU] [] := by first | (simp [entryFrame, mkF, argsToLocals, Value.category]; done) | rfl
def Q64 (Z : State) (a d : Addr) (x0 x1 : Int32) (sa ea : Addr) (sw co : Addr) (dv dp : Addr) (un : Int32) (ka kb : ClassId) (kc k_dv k_dp : ClassId) (gA gB : Nat → Int32) (gk gv gp : Nat → Int32) (h0 : Heap) (n0 : Nat) (v : Option Value) (h : Heap) (L : List Loc) : Prop := ∃ (k_nb : ClassId) (nb : Addr), v = some (.int 0) ∧ Fr n0 L ∧ Keep h0 h [a, sa, ea] ∧ n0 ≤ nb ∧ h0.size ≤ nb ∧ Exa Z h a kCP ∧ Fld Z h a kST "size" "I" (.int 2) ∧ Fld Z h a kST "starts" "[I" (.ref sa) ∧ Fld Z h a kST "ends" "[I" (.ref ea) ∧ Fld Z h a kCP "limit" "I" (.int 2) ∧ Fld Z h a kCP "sweep" "Lcom/example/tidemark/tidemark/core/Sweep;" (.ref sw) ∧ Fld Z h a kCP "colours" "[I" (.ref nb) ∧ own_AI Z h sa ka 6 (own_updI gA 1 x0) ∧ own_AI Z h ea kb 6 (own_updI gB 1 x1) ∧ Exa Z h nb "[I" ∧ own_AI Z h nb k_nb 4 (own_cvf 2 (own_i4 (gk 0) (gk 1) 0 0) gp gv)
set_option maxRecDepth 65536 in
set_option maxHeartbeats 4000000 in
theorem rm64 {l : Launch} {Z : State} {a0 : Array Value} (hw : own_T a0 Z) (a d : Addr) (x0 x1 : Int32) (sa ea : Addr) (sw co : Addr) (dv dp : Addr) (un : Int32) (ka kb : ClassId) (kc k_dv k_dp : ClassId) (gA gB : Nat → Int32) (gk gv gp : Nat → Int32) (h0 : Heap) (n0 : Nat) (Z0 : n0 ≤ h0.size) (F0 : Exa Z h0 a kCP) (F1 : Fld Z h0 a kST "size" "I" (.int 1)) (F2 : Fld Z h0 a kST "starts" "[I" (.ref sa)) (F3 : Fld Z h0 a kST "ends" "[I" (.ref ea)) (F4 : Fld Z h0 a kCP "limit" "I" (.int 2)) (F5 : Fld Z h0 a kCP "sweep" "Lcom/example/tidemark/tidemark/core/Sweep;" (.ref sw)) (F6 : Fld Z h0 a kCP "colours" "[I" (.ref co)) (F7 : own_AI Z h0 sa ka 6 gA) (F8 : own_AI Z h0 ea kb 6 gB) (F9 : Exa Z h0 co "[I") (F10 : own_AI Z h0 co kc 2 gk) (F11 : Exa Z h0 d kDV) (F12 : Fld Z h0 d kDV "distinct" "I" (.int 2)) (F13 : Fld Z h0 d kDV "values" "[I" (.ref dv)) (F14 : Fld Z h0 d kDV "present" "[I" (.ref dp)) (F15 : own_AI Z h0 dv k_dv un gv) (F16 : own_AI Z h0 dp k_dp un gp) (hu : (1 : Int32) < un) (hp0 : ¬ (gp 0) < 0 ∧ (gp 0) < un) (hp1 : ¬ (gp 1) < 0 ∧ (gp 1) < un) (ND : [a, sa, ea, co, d, dv, dp].Nodup) (g_a : n0 ≤ a) (g_sa : n0 ≤ sa) (g_ea : n0 ≤ ea) :
    own_M l Z ym45 prog_17_method_3_code 5 (some .boolean) ⟨5, 1, 4, 96⟩ #[.ref a, .ref d, .int x0, .int x1] h0 (Q64 Z a d x0 x1 sa ea sw co dv dp un ka kb kc k_dv k_dp gA gB gk gv gp h0 n0) := by
  refine own_open kCP #[sR a, sR d, sI x0, sI x1, sU] (plainFor_of_name own_pn21) DL44 rfl (fun m => own_ef64 m a d x0 x1) fun p e s m below meth c s₁ Bd B hZ hown X0 e0 Pq hPq => ?_
  have hx := B.x
  have hml := B.2.1
  have N0 := Fr.nil n0
  have K0 : Keep h0 h0 [a, sa, ea] := Keep.refl _ _
  have z0_1 := own_ni ND 0 1 rfl rfl
  have z0_2 := own_ni ND 0 2 rfl rfl
  have z0_3 := own_ni ND 0 3 rfl rfl
  have z0_4 := own_ni ND 0 4 rfl rfl
  have z0_5 := own_ni ND 0 5 rfl rfl
  have z0_6 := own_ni ND 0 6 rfl rfl
  have z1_2 := own_ni ND 1 2 rfl rfl
  have z1_3 := own_ni ND 1 3 rfl rfl
  have z1_4 := own_ni ND 1 4 rfl rfl
  have z1_5 := own_ni ND 1 5 rfl rfl
  have z1_6 := own_ni ND 1 6 rfl rfl
  have z2_3 := own_ni ND 2 3 rfl rfl
  have z2_4 := own_ni ND 2 4 rfl rfl
  have z2_5 := own_ni ND 2 5 rfl rfl
  have z2_6 := own_ni ND 2 6 rfl rfl
  refine SaN X0 B 0 rfl rfl rfl ?_
  refine Kvi (wt := 0) (y := ym24) (some (.int 2)) X0 B hZ hown (hw 277 rfl) (hw 278 rfl) (hw 280 rfl) (hw 279 rfl) (hw 168 rfl) (hw 281 rfl) (rm24 hw d 2 h0 n0 Z0 F11 F12) e0 F11 own_pd___I 1 rfl rfl rfl (fun _ _ _ q => q.1) fun T1 Lc1 X1 hQ1 => ?_
  obtain ⟨-, NQ1, eq1⟩ := hQ1
  have N2 := Fr.app N0 NQ1
  show own_Go _ _ _ _ T1 (mkF m 4 _ [.int 2])
  refine SaN X1 B 2 rfl rfl rfl ?_
  refine Kgf X1 B hZ hown (hw 95 rfl) Via.refl eq1 F4 3 rfl fun T3 X3 e3 => ?_
  refine Scn X3 B 4 rfl (teq (by decide : ((2 : Int32) = (2 : Int32)))).2 ?_
  refine SaN X3 B 5 rfl rfl rfl ?_
  refine SiN X3 B 6 rfl rfl ?_
  refine SiN X3 B 7 rfl rfl ?_
  refine Kup (wt := 0) (x := ym44) (z := ym23) (some (.int 1)) X3 B hZ hown (hw 282 rfl) (hw 283 rfl) (hw 284 rfl) (hw 286 rfl) (hw 285 rfl) (hw 86 rfl) (hw 287 rfl) (rm23 hw a x0 x1 1 ka kb gA gB sa ea sw co h0 n0 Z0 F0 F1 F2 F3 F4 F5 F6 F7 F8 ⟨by decide, by decide⟩ z1_2 (Ne.symm z0_1) (Ne.symm z0_2) g_a g_sa g_ea) e3 F0 own_pd__II_I 8 rfl rfl rfl (fun _ _ _ q => q.1) fun T4 Lc4 X4 hQ4 => ?_
  obtain ⟨-, NQ4, K4, fq4_0, fq4_1, fq4_2, fq4_3, fq4_4, fq4_5, fq4_6, fq4_7, fq4_8⟩ := hQ4
  have N5 := Fr.app N2 NQ4
  have Z6 : n0 ≤ T4.heap.size := Nat.le_trans Z0 K4.1
  have K7 := K0.trans K4 (allS (own_mI 0 rfl) (allS (own_mI 1 rfl) (allS (own_mI 2 rfl) all0)))
  show own_Go _ _ _ _ T4 (mkF m 17 _ [.int 1])
  refine SaN X4 B 9 rfl rfl rfl ?_
  refine Kgf X4 B hZ hown (hw 95 rfl) Via.refl rfl fq4_4 10 rfl fun T8 X8 e8 => ?_
  refine Kst (wt := 0) (y := ym43) (some (.int 2)) X8 B hZ hown (hw 288 rfl) (hw 289 rfl) (hw 81 rfl) (hw 290 rfl) (rm61 hw  T4.heap n0 Z6 ) e8 own_pd__II_I 11 rfl rfl rfl (fun _ _ _ q => q.1) fun T9 Lc9 X9 hQ9 => ?_
  obtain ⟨-, NQ9, eq9⟩ := hQ9
  have N10 := Fr.app N5 NQ9
  show own_Go _ _ _ _ T9 (mkF m 24 _ [.int 2])
  refine Sis #[sR a, sR d, sI x0, sI x1, sI 2] X9 B 12 rfl rfl ?_
  refine SaN X9 B 13 rfl rfl rfl ?_
  refine Kgf X9 B hZ hown (hw 93 rfl) Via.refl eq9 fq4_6 14 rfl fun T11 X11 e11 => ?_
  have f13 := (F10.keep K4 (ninS (Ne.symm z0_3) (ninS (Ne.symm z1_3) (ninS (Ne.symm z2_3) nin0))))
  obtain ⟨c12, Ar12, q12, S12, N12, H12⟩ := id f13
  refine own_st (fun t k => X11.arraylength hx (by rw [e11]; exact Ar12.1) (State.isArrayOf_alike hZ.alike Ar12.2.1) (g := (mkF m 30 #[sR a, sR d, sI x0, sI x1, sI 2] [.ref co])) rfl rfl (B.d 15 rfl) _ k) ?_
  rw [len_of S12 N12]
  show own_Go _ _ _ _ T11 (mkF m 31 _ [.int 2])
  refine Si X11 B 16 rfl rfl ?_
  refine SaN X11 B 17 rfl rfl rfl ?_
  refine Kgf X11 B hZ hown (hw 95 rfl) Via.refl e11 fq4_4 18 rfl fun T14 X14 e14 => ?_
  refine own_st (fun t k => XS.iadd X14.here hx rfl (B.d 19 rfl) rfl k) ?_
  refine Scn X14 B 20 rfl (tlt (by decide : ((2 : Int32) < (4 : Int32)))).2.1 ?_
  refine SaN X14 B 21 rfl rfl rfl ?_
  refine SaN X14 B 22 rfl rfl rfl ?_
  refine Kgf X14 B hZ hown (hw 93 rfl) Via.refl e14 fq4_6 23 rfl fun T15 X15 e15 => ?_
  refine Si X15 B 24 rfl rfl ?_
  refine SaN X15 B 25 rfl rfl rfl ?_
  refine Kgf X15 B hZ hown (hw 95 rfl) Via.refl e15 fq4_4 26 rfl fun T16 X16 e16 => ?_
  refine own_st (fun t k => XS.iadd X16.here hx rfl (B.d 27 rfl) rfl k) ?_
  refine Sc 2 X16 B 28 rfl rfl ?_
  refine SaN X16 B 29 rfl rfl rfl ?_
  refine Kgf X16 B hZ hown (hw 93 rfl) Via.refl e16 fq4_6 30 rfl fun T17 X17 e17 => ?_
  obtain ⟨c18, Ar18, q18, S18, N18, H18⟩ := id f13
  refine own_st (fun t k => X17.arraylength hx (by rw [e17]; exact Ar18.1) (State.isArrayOf_alike hZ.alike Ar18.2.1) (g := (mkF m 58 #[sR a, sR d, sI x0, sI x1, sI 2] [.ref co, .int 2, .int 4, .ref co, .ref a])) rfl rfl (B.d 31 rfl) _ k) ?_
  rw [len_of S18 N18]
  show own_Go _ _ _ _ T17 (mkF m 59 _ [.int 2, .int 2, .int 4, .ref co, .ref a])
  refine own_st (fun t k => XS.imul X17.here hx rfl (B.d 32 rfl) rfl k) ?_
  refine Kst (wt := 2) (y := ym19) (some (.int (own_mxi (4 : Int32) (4 : Int32)))) X17 B hZ hown (hw 79 rfl) (hw 80 rfl) (hw 81 rfl) (hw 82 rfl) (rm19 hw 4 4 T4.heap n0 Z6 ) e17 own_pd__II_I 33 rfl rfl rfl (fun _ _ _ q => q.1) fun T19 Lc19 X19 hQ19 => ?_
  obtain ⟨-, NQ19, eq19⟩ := hQ19
  have N20 := Fr.app N10 NQ19
  rw [show (own_mxi (4 : Int32) (4 : Int32)) = (4 : Int32) by decide]
  show own_Go _ _ _ _ T19 (mkF m 63 _ [.int 4, .ref co, .ref a])
  have f22 := (F9.keep K4)
  obtain ⟨_, _, ⟨T21, L21, k21, n21⟩, -, X21, ⟨Lc21, hQ21, l21, y21, z21⟩, st21⟩ := Jvm.LawKit.callS X19 hx (y := ym38) hown (mvT hZ (hw 291 rfl)) (mvT hZ (hw 197 rfl)) (mvT hZ (hw 184 rfl)) (mvT hZ (hw 198 rfl)) (by decide) (backOf (W := 1) (rm52 hw co kc gk T4.heap n0 Z6 f22 f13) hZ (hw 198 rfl) (hw 184 rfl) (by decide) (by decide)) (g := (mkF m 63 #[sR a, sR d, sI x0, sI x1, sI 2] [.int 4, .ref co, .ref a])) rfl (by rw [hml]; rfl) (argsL := [.ref co, .int 4]) (rest := [.ref a]) (lenOf own_pd___II__I rfl) rfl (by show 2 * 0 + _ ≤ _; exact Nat.le_of_eq rfl) (B.d 34 rfl) (fun _ _ => ⟨rfl, eq19, (by decide : 0 + 1 ≤ _), (by decide : 0 + 4 ≤ _)⟩)
  dsimp only [Pt.U, Pt.locs, Pt.cells, Pt.slots] at X21 l21 y21 z21 st21 hQ21
  subst l21 y21 z21
  obtain ⟨r21_k_nb, b21_nb, rfl, NQ21, K21, gx_b21_nb, sz_b21_nb, fq21_0, fq21_1⟩ := hQ21
  have N23 := Fr.app N20 NQ21
  refine own_st st21 ?_
  have Z24 : n0 ≤ T21.heap.size := Nat.le_trans Z6 K21.1
  have lt26 := fq4_0.lt
  have ne25 := own_nl lt26 sz_b21_nb
  have lt30 := (F11.keep K4).lt
  have ne29 := own_nl lt30 sz_b21_nb
  have lt32 := (F15.keep K4 (ninS (Ne.symm z0_5) (ninS (Ne.symm z1_5) (ninS (Ne.symm z2_5) nin0)))).lt
  have ne31 := own_nl lt32 sz_b21_nb
  have lt34 := (F16.keep K4 (ninS (Ne.symm z0_6) (ninS (Ne.symm z1_6) (ninS (Ne.symm z2_6) nin0)))).lt
  have ne33 := own_nl lt34 sz_b21_nb
  have lt36 := fq4_7.lt
  have ne35 := own_nl lt36 sz_b21_nb
  have lt38 := fq4_8.lt
  have ne37 := own_nl lt38 sz_b21_nb
  have sz40 : h0.size ≤ b21_nb := Nat.le_trans K7.1 sz_b21_nb
  have K39 := K7.trans K21 all0
  show own_Go _ _ _ _ T21 (mkF m 66 _ [.ref b21_nb, .ref a])
  have f42 := (fq4_0.keep K21)
  have f43 := (fq4_6.keep K21 nin0)
  refine Kpf (.array .int) X21 B hZ hown (hw 93 rfl) Via.refl rfl f43 f42 (Or.inl (hw 94 rfl)) (hw 74 rfl) 35 rfl fun T41 h41 X41 e41 W41 f44 => ?_
  have N45 := Fr.snoc X41 N23 g_a
  have Z46 : n0 ≤ h41.size := Nat.le_trans Z24 (Nat.le_of_eq W41.size.symm)
  have K47 := K39.wr W41 (own_mI 0 rfl)
  refine SaN X41 B 36 rfl rfl rfl ?_
  refine SaN X41 B 37 rfl rfl rfl ?_
  refine Kgf X41 B hZ hown (hw 93 rfl) Via.refl e41 f44 38 rfl fun T48 X48 e48 => ?_
  refine Si X48 B 39 rfl rfl ?_
  have f50 := (((F11.keep K4).keep K21).wr W41)
  have f51 := (((F12.keep K4 (ninS (Ne.symm z0_4) (ninS (Ne.symm z1_4) (ninS (Ne.symm z2_4) nin0)))).keep K21 nin0).other W41 (Or.inl (Ne.symm z0_4)))
  have f52 := (((F13.keep K4 (ninS (Ne.symm z0_4) (ninS (Ne.symm z1_4) (ninS (Ne.symm z2_4) nin0)))).keep K21 nin0).other W41 (Or.inl (Ne.symm z0_4)))
  have f53 := (((F14.keep K4 (ninS (Ne.symm z0_4) (ninS (Ne.symm z1_4) (ninS (Ne.symm z2_4) nin0)))).keep K21 nin0).other W41 (Or.inl (Ne.symm z0_4)))
  have f54 := (((F15.keep K4 (ninS (Ne.symm z0_5) (ninS (Ne.symm z1_5) (ninS (Ne.symm z2_5) nin0)))).keep K21 nin0).other W41 (Ne.symm z0_5))
  have f55 := (((F16.keep K4 (ninS (Ne.symm z0_6) (ninS (Ne.symm z1_6) (ninS (Ne.symm z2_6) nin0)))).keep K21 nin0).other W41 (Ne.symm z0_6))
  have f56 := (fq21_0.other W41 (Ne.symm ne25))
  refine Kvi (wt := 0) (y := ym42) none X48 B hZ hown (hw 297 rfl) (hw 298 rfl) (hw 300 rfl) (hw 299 rfl) (hw 168 rfl) (hw 301 rfl) (rm59 hw d b21_nb un dv dp r21_k_nb k_dv k_dp (own_i4 (gk 0) (gk 1) 0 0) gv gp h41 n0 Z46 f50 f51 f52 f53 f54 f55 f56 hu hp0 hp1 (Ne.symm ne29) (Ne.symm ne31) (Ne.symm ne33) gx_b21_nb) e48 f50 own_pd___II_V 40 rfl rfl rfl (fun _ _ _ q => q.1) fun T49 Lc49 X49 hQ49 => ?_
  obtain ⟨-, NQ49, K49, fq49_0⟩ := hQ49
  have N57 := Fr.app N45 NQ49
  have Z58 : n0 ≤ T49.heap.size := Nat.le_trans Z46 K49.1
  have K59 := K47.trans K49 (allS (Or.inr sz40) all0)
  show own_Go _ _ _ _ T49 (mkF m 79 _ [])
  refine SaN X49 B 41 rfl rfl rfl ?_
  have f61 := (f50.keep K49)
  have f62 := (f51.keep K49 (ninS ne29 nin0))
  refine Kvi (wt := 0) (y := ym24) (some (.int 2)) X49 B hZ hown (hw 277 rfl) (hw 278 rfl) (hw 280 rfl) (hw 279 rfl) (hw 168 rfl) (hw 281 rfl) (rm24 hw d 2 T49.heap n0 Z58 f61 f62) rfl f61 own_pd___I 42 rfl rfl rfl (fun _ _ _ q => q.1) fun T60 Lc60 X60 hQ60 => ?_
  obtain ⟨-, NQ60, eq60⟩ := hQ60
  have N63 := Fr.app N57 NQ60
  show own_Go _ _ _ _ T60 (mkF m 83 _ [.int 2])
  refine SaN X60 B 43 rfl rfl rfl ?_
  have f65 := (((fq4_4.keep K21 nin0).other W41 (Or.inr (slot_ne (Or.inr (hw 96 rfl)) (Or.inl (hw 94 rfl)) (by decide) (t := .int) (t' := (.array .int)) (by decide) (by decide)))).keep K49 (ninS ne25 nin0))
  refine Kgf X60 B hZ hown (hw 95 rfl) Via.refl eq60 f65 44 rfl fun T64 X64 e64 => ?_
  refine Scy 87 94 X64 B 45 rfl (flt (by decide : ¬ ((2 : Int32) < (2 : Int32)))).2.2.2 ?_
  refine Sc 0 X64 B 46 rfl rfl ?_
  refine own_oZ X64 B Bd 47 rfl hPq ?_
  rw [e64]
  exact ⟨r21_k_nb, b21_nb, rfl, N63, K59, gx_b21_nb, sz40, ((f42.wr W41).keep K49), (((fq4_1.keep K21 nin0).other W41 (Or.inr (slot_ne (Or.inl (hw 165 rfl)) (Or.inl (hw 94 rfl)) (by decide) (t := .int) (t' := (.array .int)) (by decide) (by decide)))).keep K49 (ninS ne25 nin0)), (((fq4_2.keep K21 nin0).other W41 (Or.inr (slot_ne (Or.inr (hw 90 rfl)) (Or.inl (hw 94 rfl)) (by decide) (t := (.array .int)) (t' := (.array .int)) (by decide) (by decide)))).keep K49 (ninS ne25 nin0)), (((fq4_3.keep K21 nin0).other W41 (Or.inr (slot_ne (Or.inr (hw 92 rfl)) (Or.inl (hw 94 rfl)) (by decide) (t := (.array .int)) (t' := (.array .int)) (by decide) (by decide)))).keep K49 (ninS ne25 nin0)), f65, (((fq4_5.keep K21 nin0).other W41 (Or.inr (slot_ne (Or.inr (hw 110 rfl)) (Or.inl (hw 94 rfl)) (by decide) (t := (.object kSW)) (t' := (.array .int)) (by decide) (by decide)))).keep K49 (ninS ne25 nin0)), (f44.keep K49 (ninS ne25 nin0)), (((fq4_7.keep K21 nin0).other W41 (Ne.symm z0_1)).keep K49 (ninS ne35 nin0)), (((fq4_8.keep K21 nin0).other W41 (Ne.symm z0_2)).keep K49 (ninS ne37 nin0)), ((fq21_1.wr W41).keep K49), fq49_0⟩
theorem own_ef65 (m : MethodId) (a d : Addr) (x0 x1 : Int32) : entryFrame m #[.ref a, .ref d, .int x0, .int x1] 4 = mkF m 0 #[sR a, sR d, sI x0, sI x1] [] := by first | (simp [entryFrame, mkF, argsToLocals, Value.category]; done) | rfl
def Q65 (Z : State) (a d : Addr) (x0 x1 : Int32) (sa ea : Addr) (sw co : Addr) (dv dp : Addr) (un : Int32) (ka kb : ClassId) (kc k_dv k_dp : ClassId) (gA gB : Nat → Int32) (gk gv gp : Nat → Int32) (h0 : Heap) (n0 : Nat) (v : Option Value) (h : Heap) (L : List Loc) : Prop := ∃ (k_nb : ClassId) (nb : Addr), v = some (.int 0) ∧ Fr n0 L ∧ Keep h0 h [a, sa, ea] ∧ n0 ≤ nb ∧ h0.size ≤ nb ∧ Exa Z h a kCP ∧ Fld Z h a kST "size" "I" (.int 2) ∧ Fld Z h a kST "starts" "[I" (.ref sa) ∧ Fld Z h a kST "ends" "[I" (.ref ea) ∧ Fld Z h a kCP "limit" "I" (.int 2) ∧ Fld Z h a kCP "sweep" "Lcom/example/tidemark/tidemark/core/Sweep;" (.ref sw) ∧ Fld Z h a kCP "colours" "[I" (.ref nb) ∧ own_AI Z h sa ka 6 (own_updI gA 1 x0) ∧ own_AI Z h ea kb 6 (own_updI gB 1 x1) ∧ Exa Z h nb "[I" ∧ own_AI Z h nb k_nb 4 (own_cvf 2 (own_i4 (gk 0) (gk 1) 0 0) gp gv)
set_option maxRecDepth 65536 in
set_option maxHeartbeats 4000000 in
theorem rm65 {l : Launch} {Z : State} {a0 : Array Value} (hw : own_T a0 Z) (a d : Addr) (x0 x1 : Int32) (sa ea : Addr) (sw co : Addr) (dv dp : Addr) (un : Int32) (ka kb : ClassId) (kc k_dv k_dp : ClassId) (gA gB : Nat → Int32) (gk gv gp : Nat → Int32) (h0 : Heap) (n0 : Nat) (Z0 : n0 ≤ h0.size) (F0 : Exa Z h0 a kCP) (F1 : Fld Z h0 a kST "size" "I" (.int 1)) (F2 : Fld Z h0 a kST "starts" "[I" (.ref sa)) (F3 : Fld Z h0 a kST "ends" "[I" (.ref ea)) (F4 : Fld Z h0 a kCP "limit" "I" (.int 2)) (F5 : Fld Z h0 a kCP "sweep" "Lcom/example/tidemark/tidemark/core/Sweep;" (.ref sw)) (F6 : Fld Z h0 a kCP "colours" "[I" (.ref co)) (F7 : own_AI Z h0 sa ka 6 gA) (F8 : own_AI Z h0 ea kb 6 gB) (F9 : Exa Z h0 co "[I") (F10 : own_AI Z h0 co kc 2 gk) (F11 : Exa Z h0 d kDV) (F12 : Fld Z h0 d kDV "distinct" "I" (.int 2)) (F13 : Fld Z h0 d kDV "values" "[I" (.ref dv)) (F14 : Fld Z h0 d kDV "present" "[I" (.ref dp)) (F15 : own_AI Z h0 dv k_dv un gv) (F16 : own_AI Z h0 dp k_dp un gp) (hu : (1 : Int32) < un) (hp0 : ¬ (gp 0) < 0 ∧ (gp 0) < un) (hp1 : ¬ (gp 1) < 0 ∧ (gp 1) < un) (ND : [a, sa, ea, co, d, dv, dp].Nodup) (g_a : n0 ≤ a) (g_sa : n0 ≤ sa) (g_ea : n0 ≤ ea) :
    own_M l Z ym46 prog_17_method_9_code 4 (some .boolean) ⟨6, 1, 4, 112⟩ #[.ref a, .ref d, .int x0, .int x1] h0 (Q65 Z a d x0 x1 sa ea sw co dv dp un ka kb kc k_dv k_dp gA gB gk gv gp h0 n0) := by
  refine own_open kCP #[sR a, sR d, sI x0, sI x1] (plainFor_of_name own_pn21) DL45 rfl (fun m => own_ef65 m a d x0 x1) fun p e s m below meth c s₁ Bd B hZ hown X0 e0 Pq hPq => ?_
  have hx := B.x
  have N0 := Fr.nil n0
  have K0 : Keep h0 h0 [a, sa, ea] := Keep.refl _ _
  refine SaN X0 B 0 rfl rfl rfl ?_
  refine SaN X0 B 1 rfl rfl rfl ?_
  refine SiN X0 B 2 rfl rfl ?_
  refine SiN X0 B 3 rfl rfl ?_
  refine Kpr (wt := 0) (y := ym45) (some (.int 0)) X0 B hZ hown (hw 273 rfl) (hw 274 rfl) (own_selp (y := ym45) (mvT hZ (hw 74 rfl)) (Cond.privateMethod_at (mvP hZ (hw 275 rfl) (args := #[]))) (mvT hZ (hw 274 rfl)) (by decide)) (hw 275 rfl) (hw 75 rfl) (hw 276 rfl) (rm64 hw a d x0 x1 sa ea sw co dv dp un ka kb kc k_dv k_dp gA gB gk gv gp h0 n0 Z0 F0 F1 F2 F3 F4 F5 F6 F7 F8 F9 F10 F11 F12 F13 F14 F15 F16 hu hp0 hp1 ND g_a g_sa g_ea) e0 F0 own_pd__Lcom_example_tidemark_tidemark_core_DistinctValues_II_Z 4 rfl rfl rfl (fun _ _ _ q => by obtain ⟨_, _, e, _⟩ := q; exact e) fun T1 Lc1 X1 hQ1 => ?_
  obtain ⟨r1_k_nb, b1_nb, -, NQ1, K1, gx_b1_nb, sz_b1_nb, fq1_0, fq1_1, fq1_2, fq1_3, fq1_4, fq1_5, fq1_6, fq1_7, fq1_8, fq1_9, fq1_10⟩ := hQ1
  have N2 := Fr.app N0 NQ1
  have sz19 : h0.size ≤ b1_nb := Nat.le_trans K0.1 sz_b1_nb
  have K18 := K0.trans K1 (allS (own_mI 0 rfl) (allS (own_mI 1 rfl) (allS (own_mI 2 rfl) all0)))
  show own_Go _ _ _ _ T1 (mkF m 7 _ [.int 0])
  refine own_oZ X1 B Bd 5 rfl hPq ?_
  exact ⟨r1_k_nb, b1_nb, rfl, N2, K18, gx_b1_nb, sz19, fq1_0, fq1_1, fq1_2, fq1_3, fq1_4, fq1_5, fq1_6, fq1_7, fq1_8, fq1_9, fq1_10⟩
theorem own_staK2 {Z : State} {h h' : Heap} {C n d : String} {v : Value} {ws : List Addr} (F : Sta Z h C n d v) (K : Keep h h' ws) (q : ∀ x ∈ ws, ∃ c : Cell, h[x]? = some c ∧ c.vm.isStatics = false) : Sta Z h' C n d v := by
  obtain ⟨cf, i, k, f, st, cell, h1, h2, h3, h4, h5, h6, h7⟩ := F
  refine ⟨cf, i, k, f, st, cell, h1, h2, h3, h4, K.2.1 st cell h5 (fun hm => ?_), h6, h7⟩
  obtain ⟨c', e1, e4⟩ := q st hm
  cases h5.symm.trans e1
  rw [h6] at e4; cases e4
theorem own_nsE {Z : State} {h : Heap} {a : Addr} {C : String} (E : Exa Z h a C) : ∃ c : Cell, h[a]? = some c ∧ c.vm.isStatics = false := by obtain ⟨c, k, h1, -, -, h4, -⟩ := E; exact ⟨c, h1, h4⟩
theorem own_nsI {Z : State} {h : Heap} {a : Addr} {k : ClassId} {z : Int32} {g : Nat → Int32} (F : own_AI Z h a k z g) : ∃ c : Cell, h[a]? = some c ∧ c.vm.isStatics = false := by obtain ⟨c, A, -⟩ := F; exact ⟨c, A.1, A.plain⟩
theorem own_nsJ {Z : State} {h : Heap} {a : Addr} {k : ClassId} {z : Int32} {g : Nat → Int64} (F : own_AJ Z h a k z g) : ∃ c : Cell, h[a]? = some c ∧ c.vm.isStatics = false := by obtain ⟨c, A, -⟩ := F; exact ⟨c, A.1, A.plain⟩
theorem own_nsR {Z : State} {h : Heap} {a : Addr} {k : ClassId} {z : Int32} (F : own_AR Z h a k z) : ∃ c : Cell, h[a]? = some c ∧ c.vm.isStatics = false := by obtain ⟨c, A, -⟩ := F; exact ⟨c, A.1, A.plain⟩
theorem own_nsQ {Z : State} {h : Heap} {a : Addr} {C : String} (E : Exa Z h a C) : ∃ c : Cell, h[a]? = some c ∧ ∀ q, c.vm ≠ .statics q := by obtain ⟨c, k, h1, -, -, h4, -⟩ := E; exact ⟨c, h1, fun q z => by rw [z] at h4; cases h4⟩
/-- the origins and the ends as they are laid -/
def own_go : Nat → Int64
  | 0 => 0 | 1 => 1 | _ => 4294967298
def own_ge : Nat → Int64
  | 0 => 8589934592 | 1 => 4294967297 | _ => 8589934594
/-- the colours of the two stretches -/
def own_cl (gV : Nat → Int32) (a b c : Int32) (gC : Nat → Int32) : Prop := ∃ p q : Nat → Int32, p 0 = a ∧ p 1 = b ∧ q 0 = a ∧ q 1 = c ∧ gC = own_cvf 2 (own_i4 (own_cvf 0 (own_i2 0 0) p gV 0) (own_cvf 0 (own_i2 0 0) p gV 1) 0 0) q gV
def own_En (gc gp gl : Nat → Int32) (ds A ds2 : Int32) (gc3 gp3 gl3 : Nat → Int32) : Prop := gc3 = own_updI gc A.toNatClampNeg ((gc A.toNatClampNeg) + (1 : Int32)) ∧ ds2 = (if (gc A.toNatClampNeg) = (0 : Int32) then (ds + (1 : Int32)) else ds) ∧ gp3 = (if (gc A.toNatClampNeg) = (0 : Int32) then (own_updI gp ds.toNatClampNeg A) else gp) ∧ gl3 = (if (gc A.toNatClampNeg) = (0 : Int32) then (own_updI gl A.toNatClampNeg ds) else gl)
def own_Le (gc gp gl : Nat → Int32) (ds A ds2 : Int32) (gc3 gp3 gl3 : Nat → Int32) : Prop := gc3 = own_updI gc A.toNatClampNeg ((gc A.toNatClampNeg) - (1 : Int32)) ∧ ds2 = (if ((gc A.toNatClampNeg) - (1 : Int32)) = (0 : Int32) then (ds - (1 : Int32)) else ds) ∧ gp3 = (if ((gc A.toNatClampNeg) - (1 : Int32)) = (0 : Int32) then (own_updI gp (gl A.toNatClampNeg).toNatClampNeg (gp (ds - (1 : Int32)).toNatClampNeg)) else gp) ∧ gl3 = (if ((gc A.toNatClampNeg) - (1 : Int32)) = (0 : Int32) then (own_updI gl (gp (ds - (1 : Int32)).toNatClampNeg).toNatClampNeg (gl A.toNatClampNeg)) else gl)
def own_T1 (a ds : Int32) (gc gp gl : Nat → Int32) : Prop := ds = 1 ∧ gp 0 = a ∧ gl a.toNatClampNeg = 0 ∧ ∀ n, gc n = if n = a.toNatClampNeg then 1 else 0
def own_T2 (a b ds : Int32) (gc gp gl : Nat → Int32) : Prop := ds = 2 ∧ gp 0 = a ∧ gp 1 = b ∧ gl a.toNatClampNeg = 0 ∧ gl b.toNatClampNeg = 1 ∧ ∀ n, gc n = if n = b.toNatClampNeg then 1 else if n = a.toNatClampNeg then 1 else 0
def own_T3 (a b c ds : Int32) (gc gp gl : Nat → Int32) : Prop := (c = b ∧ ds = 2 ∧ gp 0 = a ∧ gp 1 = b ∧ gl a.toNatClampNeg = 0 ∧ gl b.toNatClampNeg = 1 ∧ ∀ n, gc n = if n = b.toNatClampNeg then 2 else if n = a.toNatClampNeg then 1 else 0) ∨ (c ≠ b ∧ ds = 3 ∧ gp 0 = a ∧ gp 1 = b ∧ gp 2 = c ∧ gl a.toNatClampNeg = 0 ∧ gl b.toNatClampNeg = 1 ∧ gl c.toNatClampNeg = 2 ∧ ∀ n, gc n = if n = c.toNatClampNeg then 1 else if n = b.toNatClampNeg then 1 else if n = a.toNatClampNeg then 1 else 0)
/-- three numbers of tasks -/
def own_I3 (un a b c : Int32) : Prop := (un = 2 ∨ un = 3) ∧ (¬ a < 0 ∧ a < un) ∧ (¬ b < 0 ∧ b < un) ∧ (¬ c < 0 ∧ c < un) ∧ a ≠ b ∧ a ≠ c
theorem own_tn {a b : Int32} (ha : ¬ a < 0) (hb : ¬ b < 0) (h : a ≠ b) : a.toNatClampNeg ≠ b.toNatClampNeg := fun q => h (by
  rw [Int32.lt_iff_toInt_lt, show (0 : Int32).toInt = 0 from rfl] at ha hb
  simp only [Int32.toNatClampNeg] at q
  exact Int32.toInt_inj.mp (by omega))
theorem own_un {un : Int32} (h : un = 2 ∨ un = 3) : (¬ (0 : Int32) < 0 ∧ (0 : Int32) < un) ∧ (¬ (1 : Int32) < 0 ∧ (1 : Int32) < un) := by rcases h with rfl | rfl <;> decide
section
variable {un a b c ds ds2 : Int32} {gc gp gl gc3 gp3 gl3 : Nat → Int32}
theorem own_t1 (E : own_En (fun _ => 0) gp gl 0 a ds2 gc3 gp3 gl3) : own_T1 a ds2 gc3 gp3 gl3 := by
  obtain ⟨rfl, e2, e3, e4⟩ := E
  rw [if_pos rfl] at e2 e3 e4
  subst e2 e3 e4
  refine ⟨by decide, rfl, if_pos rfl, fun n => ?_⟩
  show (if n = _ then (0 : Int32) + 1 else 0) = _
  rfl
theorem own_t2 (I : own_I3 un a b c) (T : own_T1 a 1 gc gp gl) (E : own_En gc gp gl 1 b ds2 gc3 gp3 gl3) : own_T2 a b ds2 gc3 gp3 gl3 := by
  obtain ⟨-, t1, t2, t3⟩ := T
  obtain ⟨-, ha, hb, hc, hab, hac⟩ := I
  have n1 := own_tn ha.1 hb.1 hab
  obtain ⟨rfl, e2, e3, e4⟩ := E
  have z : gc b.toNatClampNeg = 0 := by rw [t3, if_neg (Ne.symm n1)]
  rw [if_pos z] at e2 e3 e4
  subst e2 e3 e4
  refine ⟨by decide, ?_, rfl, ?_, if_pos rfl, fun n => ?_⟩
  · show (if 0 = (1 : Int32).toNatClampNeg then b else gp 0) = a
    rw [if_neg (by decide)]; exact t1
  · show (if a.toNatClampNeg = b.toNatClampNeg then (1 : Int32) else gl a.toNatClampNeg) = 0
    rw [if_neg n1]; exact t2
  · show (if n = b.toNatClampNeg then gc b.toNatClampNeg + 1 else gc n) = _
    rw [z, t3]; rfl
theorem own_t3 (I : own_I3 un a b c) (T : own_T2 a b 2 gc gp gl) (E : own_En gc gp gl 2 c ds2 gc3 gp3 gl3) : own_T3 a b c ds2 gc3 gp3 gl3 := by
  obtain ⟨-, t1, t2, t3, t4, t5⟩ := T
  obtain ⟨-, ha, hb, hc, hab, hac⟩ := I
  have n1 := own_tn ha.1 hb.1 hab; have n2 := own_tn ha.1 hc.1 hac
  obtain ⟨rfl, e2, e3, e4⟩ := E
  by_cases q : c = b
  · subst q
    have z : gc c.toNatClampNeg = 1 := by rw [t5, if_pos rfl]
    rw [z, if_neg (by decide)] at e2 e3 e4
    subst e2 e3 e4
    refine Or.inl ⟨rfl, rfl, t1, t2, t3, t4, fun n => ?_⟩
    show (if n = c.toNatClampNeg then gc c.toNatClampNeg + 1 else gc n) = _
    rw [z, t5]
    split
    · rfl
    · rfl
  · have n3 := own_tn hc.1 hb.1 q
    have z : gc c.toNatClampNeg = 0 := by rw [t5, if_neg n3, if_neg (Ne.symm n2)]
    rw [if_pos z] at e2 e3 e4
    subst e2 e3 e4
    refine Or.inr ⟨q, by decide, ?_, ?_, rfl, ?_, ?_, if_pos rfl, fun n => ?_⟩
    · show (if 0 = (2 : Int32).toNatClampNeg then c else gp 0) = a
      rw [if_neg (by decide)]; exact t1
    · show (if 1 = (2 : Int32).toNatClampNeg then c else gp 1) = b
      rw [if_neg (by decide)]; exact t2
    · show (if a.toNatClampNeg = c.toNatClampNeg then (2 : Int32) else gl a.toNatClampNeg) = 0
      rw [if_neg n2]; exact t3
    · show (if b.toNatClampNeg = c.toNatClampNeg then (2 : Int32) else gl b.toNatClampNeg) = 1
      rw [if_neg (Ne.symm n3)]; exact t4
    · show (if n = c.toNatClampNeg then gc c.toNatClampNeg + 1 else gc n) = _
      rw [z, t5]; rfl
theorem own_u3 (I : own_I3 un a b c) (q : c ≠ b) : un = 3 := by
  obtain ⟨hu, ha, hb, hc, hab, hac⟩ := I
  rcases hu with rfl | rfl
  · have e := own_tn ha.1 hb.1 hab; have e2 := own_tn ha.1 hc.1 hac; have e3 := own_tn hc.1 hb.1 q
    simp only [Int32.lt_iff_toInt_lt, show (0 : Int32).toInt = 0 from rfl, show (2 : Int32).toInt = 2 from rfl] at ha hb hc
    simp only [Int32.toNatClampNeg] at e e2 e3
    omega
  · rfl
theorem own_p2 (I : own_I3 un a b c) (T : own_T2 a b 2 gc gp gl) : (gc c.toNatClampNeg) = (0 : Int32) → ¬ (2 : Int32) < 0 ∧ (2 : Int32) < un := fun z => by
  have q : c ≠ b := fun q => by
    rw [T.2.2.2.2.2, q, if_pos rfl] at z
    exact absurd z (by decide)
  rw [own_u3 I q]; decide
theorem own_t4 (I : own_I3 un a b c) (T : own_T3 a b c ds gc gp gl) (E : own_Le gc gp gl ds b ds2 gc3 gp3 gl3) : own_T2 a c ds2 gc3 gp3 gl3 := by
  obtain ⟨-, ha, hb, hc, hab, hac⟩ := I
  have n1 := own_tn ha.1 hb.1 hab; have n2 := own_tn ha.1 hc.1 hac
  obtain ⟨rfl, e2, e3, e4⟩ := E
  rcases T with ⟨rfl, rfl, t1, t2, t3, t4, t5⟩ | ⟨q, rfl, t1, t2, t3, t4, t5, t6, t7⟩
  · have z : gc c.toNatClampNeg = 2 := by rw [t5, if_pos rfl]
    rw [z, if_neg (by decide)] at e2 e3 e4
    subst e2 e3 e4
    refine ⟨rfl, t1, t2, t3, t4, fun n => ?_⟩
    show (if n = c.toNatClampNeg then gc c.toNatClampNeg - 1 else gc n) = _
    rw [z, t5]
    split
    · rfl
    · rfl
  · have n3 := own_tn hc.1 hb.1 q
    have z : gc b.toNatClampNeg = 1 := by rw [t7, if_neg (Ne.symm n3), if_pos rfl]
    rw [z, if_pos (by decide), t5, show ((3 : Int32) - 1).toNatClampNeg = 2 by decide, t3] at e3 e4
    rw [z, if_pos (by decide)] at e2
    subst e2 e3 e4
    refine ⟨by decide, ?_, ?_, ?_, if_pos rfl, fun n => ?_⟩
    · show (if 0 = (1 : Int32).toNatClampNeg then c else gp 0) = a
      rw [if_neg (by decide)]; exact t1
    · exact if_pos (by decide)
    · show (if a.toNatClampNeg = c.toNatClampNeg then (1 : Int32) else gl a.toNatClampNeg) = 0
      rw [if_neg n2]; exact t4
    · show (if n = b.toNatClampNeg then gc b.toNatClampNeg - 1 else gc n) = _
      rw [z, t7]
      by_cases x : n = b.toNatClampNeg
      · rw [if_pos x, if_neg (fun y => n3 (y.symm.trans x)), if_neg (fun y => n1 (y.symm.trans x))]; decide
      · rw [if_neg x, if_neg x]
theorem own_q1 (I : own_I3 un a b c) (T : own_T3 a b c ds gc gp gl) : ((gc b.toNatClampNeg) - (1 : Int32)) = (0 : Int32) → (¬ (ds - (1 : Int32)) < 0 ∧ (ds - (1 : Int32)) < un) ∧ (¬ (gl b.toNatClampNeg) < 0 ∧ (gl b.toNatClampNeg) < un) ∧ ¬ (gp (ds - (1 : Int32)).toNatClampNeg) < 0 ∧ (gp (ds - (1 : Int32)).toNatClampNeg) < un := fun z => by
  rcases T with ⟨rfl, rfl, t1, t2, t3, t4, t5⟩ | ⟨q, rfl, t1, t2, t3, t4, t5, t6, t7⟩
  · rw [t5, if_pos rfl] at z
    exact absurd z (by decide)
  · rw [t5, show ((3 : Int32) - 1).toNatClampNeg = 2 by decide, t3]
    have u := own_u3 I q
    obtain ⟨-, ha, hb, hc, hab, hac⟩ := I
    refine ⟨?_, ?_, hc⟩
    · rw [u]; decide
    · rw [u]; decide
theorem own_t5 (I : own_I3 un a b c) (T : own_T2 a c 2 gc gp gl) (E : own_Le gc gp gl 2 a ds2 gc3 gp3 gl3) : own_T1 c ds2 gc3 gp3 gl3 := by
  obtain ⟨-, ha, hb, hc, hab, hac⟩ := I
  have n2 := own_tn ha.1 hc.1 hac
  obtain ⟨rfl, e2, e3, e4⟩ := E
  obtain ⟨-, t1, t2, t3, t4, t5⟩ := T
  have z : gc a.toNatClampNeg = 1 := by rw [t5, if_neg n2, if_pos rfl]
  rw [z, if_pos (by decide), t3, show ((2 : Int32) - 1).toNatClampNeg = 1 by decide, t2] at e3 e4
  rw [z, if_pos (by decide)] at e2
  subst e2 e3 e4
  refine ⟨by decide, if_pos (by decide), if_pos rfl, fun n => ?_⟩
  show (if n = a.toNatClampNeg then gc a.toNatClampNeg - 1 else gc n) = _
  rw [z, t5]
  by_cases x : n = a.toNatClampNeg
  · rw [if_pos x, if_neg (fun y => n2 (x.symm.trans y))]; decide
  · rw [if_neg x, if_neg x]
theorem own_q0 (I : own_I3 un a b c) (T : own_T2 a c 2 gc gp gl) : ((gc a.toNatClampNeg) - (1 : Int32)) = (0 : Int32) → (¬ ((2 : Int32) - (1 : Int32)) < 0 ∧ ((2 : Int32) - (1 : Int32)) < un) ∧ (¬ (gl a.toNatClampNeg) < 0 ∧ (gl a.toNatClampNeg) < un) ∧ ¬ (gp ((2 : Int32) - (1 : Int32)).toNatClampNeg) < 0 ∧ (gp ((2 : Int32) - (1 : Int32)).toNatClampNeg) < un := fun z => by
  obtain ⟨-, t1, t2, t3, t4, t5⟩ := T
  rw [t3, show ((2 : Int32) - 1).toNatClampNeg = 1 by decide, t2]
  obtain ⟨hu, ha, hb, hc, hab, hac⟩ := I
  exact ⟨by rcases hu with rfl | rfl <;> decide, (own_un hu).1, hc⟩
theorem own_q2 (I : own_I3 un a b c) (T : own_T1 c 1 gc gp gl) : ((gc c.toNatClampNeg) - (1 : Int32)) = (0 : Int32) → (¬ ((1 : Int32) - (1 : Int32)) < 0 ∧ ((1 : Int32) - (1 : Int32)) < un) ∧ (¬ (gl c.toNatClampNeg) < 0 ∧ (gl c.toNatClampNeg) < un) ∧ ¬ (gp ((1 : Int32) - (1 : Int32)).toNatClampNeg) < 0 ∧ (gp ((1 : Int32) - (1 : Int32)).toNatClampNeg) < un := fun z => by
  obtain ⟨-, t1, t2, t3⟩ := T
  rw [t2, show ((1 : Int32) - 1).toNatClampNeg = 0 by decide, t1]
  obtain ⟨hu, ha, hb, hc, hab, hac⟩ := I
  exact ⟨by rcases hu with rfl | rfl <;> decide, (own_un hu).1, hc⟩
end
abbrev own_HOST : String := "com/example/tidemark/tidemark/core/ColourProfile"
abbrev own_XI : MethodName := ⟨"com/example/tidemark/tidemark/core/Sweep$Visitor", "stopsAt", "(II)Z"⟩
abbrev own_YL : MethodName := ⟨kCP, "lambda$build$0", "(Lcom/example/tidemark/tidemark/core/DistinctValues;II)Z"⟩
abbrev own_sig : Lambda.Shape := Lambda.Shape.mk "com/example/tidemark/tidemark/core/Sweep$Visitor" "stopsAt" (MethodDescriptor.mk ([FieldType.int, FieldType.int] : List FieldType) (Option.some FieldType.boolean)) ([(FieldType.object kCP), (FieldType.object kDV)] : List FieldType) 5 kCP "lambda$build$0" (MethodDescriptor.mk ([(FieldType.object kDV), FieldType.int, FieldType.int] : List FieldType) (Option.some FieldType.boolean)) false (MethodDescriptor.mk ([FieldType.int, FieldType.int] : List FieldType) (Option.some FieldType.boolean))
def own_fc : ByteArray := ⟨#[0x2a, 0xb4, 0x00, 0x11, 0x2a, 0xb4, 0x00, 0x13, 0x1b, 0x1c, 0xb6, 0x00, 0x1b, 0xac]⟩
theorem own_fwd : Jvm.LamKit.fwdOK own_sig own_HOST own_fc 3 (some .boolean) 27 23 = true := by decide +kernel
theorem own_cap0 : Jvm.LamKit.capOK own_sig own_HOST 17 0 = true := by decide +kernel
theorem own_cap1 : Jvm.LamKit.capOK own_sig own_HOST 19 1 = true := by decide +kernel
theorem own_f0 : decode own_fc 0 = .ok (.aload_n 0, 1) := by decide +kernel
theorem own_f1 : decode own_fc 1 = .ok (.getfield 17, 3) := by decide +kernel
theorem own_f4 : decode own_fc 4 = .ok (.aload_n 0, 1) := by decide +kernel
theorem own_f5 : decode own_fc 5 = .ok (.getfield 19, 3) := by decide +kernel
theorem own_f8 : decode own_fc 8 = .ok (.iload_n 1, 1) := by decide +kernel
theorem own_f9 : decode own_fc 9 = .ok (.iload_n 2, 1) := by decide +kernel
theorem own_f10 : decode own_fc 10 = .ok (.invokevirtual 27, 3) := by decide +kernel
theorem own_f13 : decode own_fc 13 = .ok (.ireturn, 1) := by decide +kernel
/-- a made class stays one where strings have been interned too -/
theorem own_made39 {s : State} {vm' : Vm} (hW : s.Warmed39 vm') {d c : ClassId} {σ : Lambda.Shape} (h : Lambda.isMade { classPath := fun _ => none } s.vm d σ c = true) : Lambda.isMade { classPath := fun _ => none } vm' d σ c = true := by
  have hA := hW.alike
  simp only [Lambda.isMade, Option.bind_eq_bind, Option.pure_def, Option.getD_eq_iff, Option.bind_eq_some_iff, Bool.false_eq_true, and_false, or_false] at h ⊢
  obtain ⟨dk, h2, k, h3, file, h4, cf, h5, object, ho, iface, hi, ok, h6, lay, h7, methods, h8, t, ht, tk, htk, h⟩ := h
  obtain ⟨dk', h2', e2⟩ := hA.2.2 _ _ h2
  obtain ⟨k', h3', e3, -, hres, -⟩ := hW.2.2.2 _ _ h3
  obtain ⟨ok', h6', e6⟩ := hA.2.2 _ _ h6
  obtain ⟨tk', htk', e7⟩ := hA.2.2 _ _ htk
  have n2 : dk'.name = dk.name := by rw [e2]
  have n6 : ok'.instanceTypes = ok.instanceTypes := by rw [e6]
  have n7 : tk'.isInterface = tk.isInterface := by rw [e7]; rfl
  refine ⟨dk', h2', k', h3', file, by rw [e3]; exact h4, cf, by rw [n2]; exact h5, object, by rw [hA.findClass]; exact ho, iface, by rw [hA.findClass]; exact hi, ok', h6', lay, by rw [n6]; exact h7, methods, h8, t, by rw [hA.findClass]; exact ht, tk', htk', ?_⟩
  rw [n7, Lambda.methodIn_ask_alike hA, Lambda.methodIn_ask_alike hA]
  cases hg : ((methodIn t σ.implName σ.implDesc.toString tk.isInterface none).ask { classPath := fun _ => none } s.vm).1 with
  | error x => simp [hg] at h
  | ok target =>
    cases hf : ((methodIn iface σ.name σ.sam.toString true none).ask { classPath := fun _ => none } s.vm).1 with
    | error x => simp [hg, hf] at h
    | ok found =>
      simp only [hg, hf, Option.some.injEq, Bool.and_eq_true] at h ⊢
      obtain ⟨⟨⟨⟨⟨⟨⟨⟨⟨⟨⟨⟨⟨⟨b1, b2⟩, b3⟩, b4⟩, b5a⟩, b5b⟩, b6⟩, b7⟩, b8⟩, b9⟩, b10⟩, b11⟩, b12⟩, b13⟩, b14⟩ := h
      rw [show k'.name = k.name by rw [e3], show k'.kind = k.kind by rw [e3], show k'.accessFlags = k.accessFlags by rw [e3], show k'.super = k.super by rw [e3], show k'.interfaces = k.interfaces by rw [e3], show k'.init = k.init by rw [e3], show k'.loader = k.loader by rw [e3], show k'.hidden = k.hidden by rw [e3],
        show k'.linked = k.linked by rw [e3], show k'.callSites = k.callSites by rw [e3], show k'.invokers = k.invokers by rw [e3], show k'.methods = k.methods by rw [e3], show k'.fields = k.fields by rw [e3], show k'.instanceTypes = k.instanceTypes by rw [e3], show k'.staticTypes = k.staticTypes by rw [e3], n2, n6, Lambda.resolvedOf_alike hA, hA.selectMethod]
      refine ⟨⟨⟨⟨⟨⟨⟨⟨⟨⟨⟨⟨⟨⟨b1, b2⟩, b3⟩, b4⟩, b5a⟩, b5b⟩, b6⟩, b7⟩, b8⟩, b9⟩, b10⟩, b11⟩, b12⟩, ?_⟩, b14⟩
      rw [List.all_eq_true] at b13 ⊢
      intro y hy
      have := b13 y hy
      obtain ⟨x, i⟩ := y
      cases x with
      | none => rfl
      | some r =>
        simp only [Option.isNone_some, Bool.false_or, decide_eq_true_eq] at this ⊢
        rcases hres i with h1 | ⟨h1, -⟩
        · rw [h1]; exact this
        · rw [this] at h1; cases h1
theorem own_can39 {Z s : State} (hA : Z.vm.Alike s.vm) {σ : Lambda.Shape} {c : ClassId} (h : Z.lambdaCallable σ c = true) : s.lambdaCallable σ c = true := by
  simp only [State.lambdaCallable, hA.findClass, hA.assignable, hA.superclasses, hA.declaredIn] at h ⊢
  exact h
/-- what is known of the function object's class, at a state with warmer tables -/
theorem own_mk39 {Z s : State} (hZ : Z.Warmed39 s.vm) {host : String} {σ : Lambda.Shape} {cK : ClassId} (h : Jvm.LamKit.Made Z host σ cK) : Jvm.LamKit.Made s host σ cK := by
  obtain ⟨d, dk, h1, h2, h3, h4⟩ := h
  obtain ⟨dk', h1', e⟩ := hZ.alike.2.2 _ _ h1
  exact ⟨d, dk', h1', by rw [e]; exact h2, own_made39 hZ h3, own_can39 hZ.alike h4⟩
section own_lam
variable {p : Program} {l : Launch} {e : Env} {R : Room} {s : State} {m : MethodId} {args : Array Value} {below : List Frame} {meth : Method} {c : Code} {T : State} {locs : List Loc} {cells slots : Nat} {Z : State} {a0 : Array Value}
/-- the call of the visitor: the interface's method on the made object, its forwarder, the private method of the captured receiver, and back -/
theorem own_lam {h : Heap} {rm : Room} {Q : Option Value → Heap → List Loc → Prop} {fn a d : Addr} {cK : ClassId} {x z : Int32} {nh : Nat}
    (X : Stand p l e R s m args below meth c T locs cells slots) (hx : p.tables.exec = Jvm.exec) (hZ : Z.Warmed39 s.vm) (hown : s.vm.findClass kSW = some m.cls)
    (wl : (Cond.methodLink kSW 63 own_XI).before args s = true) (wd : (Cond.declares own_XI).before args s = true) (wi : (Cond.interfaceMethod own_XI.cls own_XI.cls own_XI.name own_XI.desc).before args s = true)
    (wc : (Cond.code own_YL prog_17_method_9_code 4 (some .boolean)).before a0 Z = true) (wn : (Cond.instanceMethod own_YL).before a0 Z = true) (wp : (Cond.privateMethod own_YL).before a0 Z = true) (wz : (Cond.initialized own_YL.cls).before a0 Z = true)
    (wO : (Cond.instantiable "java/lang/Object" 0).before a0 Z = true) (wC : (Cond.instantiable own_HOST nh).before a0 Z = true) (hmd : Jvm.LamKit.Made Z own_HOST own_sig cK)
    (hfn : ∃ cell, h[fn]? = some cell ∧ cell.cls = cK ∧ cell.vm = .none ∧ cell.slots = #[.ref a, .ref d]) (hrec : ∃ cell, h[a]? = some cell ∧ ∀ q, cell.vm ≠ .statics q) (eT : T.heap = h)
    (hM : MetFree l own_YL (head1 [Cond.code own_YL prog_17_method_9_code 4 (some .boolean)] rm) (fun aW U => aW = #[.ref a, .ref d, .int x, .int z] ∧ Z.Warmed39 U.vm ∧ U.heap = h) (fun _ _ _ _ _ => True) (fun _ U o U' => ∃ v L, o = .returned v ∧ Q v U'.heap L ∧ FrameEnd U o U' L rm.cells rm.slots))
    (hQ : ∀ v h' L, Q v h' L → ∃ w : Int32, v = some (.int w) ∧ (w = 0 ∨ w = 1))
    {g : JFrame} (hg : g.method = m) (hsize : g.locals.size = c.maxLocals) {rest : List Value} (hstack : g.stack = [.int x, .int z].reverse ++ .ref fn :: rest) (hdg : decode c.code g.pc = .ok (.invokeinterface 63 3, 5))
    (hfr : rm.frames + 2 ≤ R.frames) (hlo : 2 * g.monitorRoom + (rest.map fun v => v.category).sum + (3 + 11) + (4 + (4 + 11) + rm.locals) ≤ R.locals) (hcells : cells + rm.cells ≤ R.cells) (hslots : slots + rm.slots ≤ R.slots) :
    ∃ (v : Option Value) (T' : State) (L : List Loc), Stand p l e R s m args below meth c T' (locs ++ L) (cells + rm.cells) (slots + rm.slots) ∧ Q v T'.heap L ∧
      ∀ target, Steps p.tables e below (T'.setTop { g with pc := g.pc + 5, stack := v.toList ++ rest }) target → Steps p.tables e below (T.setTop g) target := by
  obtain ⟨cell, hcell, hcls, hvmc, hsl⟩ := hfn
  obtain ⟨cellA, hcellA, hobjA⟩ := hrec
  have hmds := own_mk39 hZ hmd
  obtain ⟨kK, methk, hkK, hmk, hpub, habs, hsel⟩ := Jvm.LamKit.madeSelects hmds own_fwd wi ⟨rfl, rfl, rfl⟩
  obtain ⟨r0, r, hn, hrm, hstR, hsigR⟩ := Cond.declares_spec wd
  obtain ⟨cL, kL, r1, hcL, hkL, hiL, -, -⟩ := Cond.interfaceMethod_spec wi
  have hr0cls : r0.cls = cL := Option.some.inj ((findClass_of_methodNamed hn).symm.trans hcL)
  obtain ⟨hasg, hsel', hway⟩ := hsel r0 r hn hrm
  have hlen : ([.int x, .int z] : List Value).length = r.sig.parameters.length := by
    have q : parseMethodDescriptor "(II)Z" = some ⟨[.int, .int], some .boolean⟩ := by decide +kernel
    have q2 : parseMethodDescriptor own_XI.desc = some r.sig := hsigR
    rw [show own_XI.desc = "(II)Z" from rfl, q] at q2
    rw [← Option.some.inj q2]; rfl
  subst eT hcls
  obtain ⟨vm₁, X₁, hstep₁⟩ := X.invokeinterface hx hown wl hn hrm hstR (by rw [hr0cls]; exact hkL) hiL (by decide) (a := fn) (cell := cell) (kcell := kK) hcell (fun z h => by rw [hvmc] at h; cases h) hkK hasg
    (m' := ⟨cell.cls, 1⟩) (meth' := methk) (by rw [Launch.admits_selectMethod X.admits]; exact hsel') hmk hway hpub habs hg hlen hstack hdg
  -- the forwarder
  generalize hT₁ : T.setVm vm₁ = T₁ at X₁ hstep₁
  have hheap₁ : T₁.heap = T.heap := by rw [← hT₁]; rfl
  have hZ₁ : Z.Warmed39 T₁.vm := wtrans hZ X₁.warmed
  obtain ⟨d', dk, hd, hdn, hmade, hcan⟩ := own_mk39 hZ₁ hmd
  have hmdT : Jvm.LamKit.Made T₁ own_HOST own_sig cell.cls := ⟨d', dk, hd, hdn, hmade, hcan⟩
  obtain ⟨kK₁, tk₁, file₁, methk₁, ck₁, toy₁, t₁, nt, hkK₁, hpn₁, hfile₁, hidx₁, hnt₁, hmk₁, hck₁, hbytes₁, hml₁, hlk₁, -, hretk₁, htoy₁, htk₁, hlook₁, hready₁, hclsR₁⟩ := Jvm.LamKit.made_static own_fwd hd hdn hmade
  have wn₁ := mvT (args := args) hZ₁ wn
  obtain ⟨mT, methT, hmT, hmethT, hstT, habT⟩ := Cond.instanceMethod_spec wn₁
  have hfT₁ : T₁.vm.findClass own_HOST = some mT.cls := findClass_of_methodNamed hmT
  obtain rfl : toy₁ = mT.cls := Option.some.inj (htoy₁.symm.trans hfT₁)
  have ht₁ : t₁ = mT := by
    have h1 : T₁.methodFound? own_YL.cls own_YL.name own_YL.desc = some mT := State.methodFound?_of_named hmT (by decide)
    have h1' : T₁.methodFound? own_sig.implClass own_sig.implName own_sig.implDesc.toString = some mT := h1
    simp only [State.methodFound?, show T₁.vm.findClass own_sig.implClass = some mT.cls from hfT₁, htk₁, Option.bind_eq_bind, Option.bind_some] at h1'
    rw [hlook₁] at h1'
    exact Option.some.inj h1'
  subst ht₁
  have wC₁ := mvT (args := args) hZ₁ wC
  obtain ⟨cC, kC, hC1, hC2, -, hC4, -⟩ := Cond.instantiable_spec wC₁
  obtain rfl : cC = t₁.cls := Option.some.inj (hC1.symm.trans hfT₁)
  obtain rfl : tk₁ = kC := Option.some.inj (htk₁.symm.trans hC2)
  have hni : tk₁.isInterface = false := (Bool.or_eq_false_iff.mp hC4).1
  have hpk : T₁.plainMethod ⟨cell.cls, 1⟩ := State.plainMethod.of_name (fun k' hk' => by cases hkK₁.symm.trans hk'; exact hpn₁)
  have hL0 : entryFrame ⟨cell.cls, 1⟩ #[.ref fn, .int x, .int z] 3 = mkF ⟨cell.cls, 1⟩ 0 #[.val (.ref fn), .val (.int x), .val (.int z)] [] := by first | rfl | simp [entryFrame, mkF, argsToLocals, Value.category]
  obtain ⟨Y₀, hin⟩ := X₁.into (g := { g with stack := rest }) hg hsize hdg #[.ref fn, .int x, .int z] (R' := { frames := rm.frames + 1, cells := rm.cells, slots := rm.slots, locals := 4 + (4 + 11) + rm.locals }) hmk₁ hck₁ hlk₁ hpk hfr (by rw [hml₁]; exact hlo) hcells hslots
  rw [hml₁, hL0] at Y₀ hin
  generalize hU : (T₁.setTop { g with stack := rest }).pushFrame (.java (mkF ⟨cell.cls, 1⟩ 0 #[.val (.ref fn), .val (.int x), .val (.int z)] [])) = U at Y₀ hin
  have hvmU : U.vm = T₁.vm := by rw [← hU]; rfl
  have hheapU : U.heap = T.heap := by rw [← hheap₁, ← hU]; rfl
  generalize hs' : T₁.calling { g with stack := rest } ⟨cell.cls, 1⟩ #[.ref fn, .int x, .int z] = s' at Y₀
  have hvm' : s'.vm = T₁.vm := by rw [← hs']; rfl
  have hZ' : Z.Warmed39 s'.vm := by rw [hvm']; exact hZ₁
  have hK := backOf (R := { frames := rm.frames + 1, cells := rm.cells, slots := rm.slots, locals := 4 + (4 + 11) + rm.locals }) (p := p) (e := e) (below := .java { g with stack := rest } :: below) (s := s') (args := #[.ref fn, .int x, .int z]) (len := 3) (W := 4) hM hZ' wc wz (Nat.le_refl _) (Nat.le_refl _)
  have hnamedU : U.methodNamed? own_YL = some t₁ := by rw [← hU]; exact hmT
  obtain ⟨v, ⟨U', ls, cc, sl⟩, Y₁, ⟨L, hq, hl, hc, hs⟩, hsteps⟩ := hK ⟨cell.cls, 1⟩ methk₁ ck₁ ⟨U, [], 0, 0⟩ (mkF ⟨cell.cls, 1⟩ 10 #[.val (.ref fn), .val (.int x), .val (.int z)] []) (.invokevirtual 27) t₁ #[.ref a, .ref d, .int x, .int z] Y₀ rfl (by rw [hml₁]; rfl)
    (by rw [hbytes₁]; exact own_f10) (by show 2 * 0 + 0 ≤ 4; decide) hnamedU ⟨rfl, hheapU, by show 0 + rm.cells ≤ rm.cells; omega, by show 0 + rm.slots ≤ rm.slots; omega⟩
  dsimp only [Pt.U, Pt.locs, Pt.cells, Pt.slots] at Y₁ hq hl hc hs hsteps
  subst hl hc hs
  obtain ⟨w, rfl, hw01⟩ := hQ _ _ _ hq
  obtain ⟨fs, hleave, -, hended, hWe, hsame⟩ := Y₁.leave (v := some (.int w)) (fun h => by rw [hretk₁] at h; cases h) hlk₁
  subst hs'
  obtain ⟨T', X', -, -, ht⟩ := X₁.outOf (g := { g with stack := rest }) hg hdg hended hWe hsame
  have hheap' : T'.heap = U'.heap := by
    have q : (U'.setFrames fs).heap = (T'.setTop { g with pc := g.pc + 5, stack := (some (Value.int w)).toList ++ rest }).heap := congrArg State.heap ht
    exact q.symm
  refine ⟨some (.int w), T', _, by simpa using X', by rw [hheap']; exact hq, fun target hk => ?_⟩
  refine hstep₁ _ fun acts => ?_
  refine Steps.trans ?_ hk
  rw [hin acts, ← ht]
  refine Steps.weaken (mid := [.java { g with stack := rest }]) ?_
  have hW1 : T₁.WarmedH U.vm := by rw [hvmU]; exact State.WarmedH.refl T₁
  have wO₁ := mvT (args := args) hZ₁ wO
  have hby : ck₁.code = own_fc := hbytes₁
  have hcU : U.heap[fn]? = some cell := by rw [hheapU]; exact hcell
  refine XS.aloadN Y₀.here hx rfl (hb hby own_f0) rfl rfl ?_
  refine Jvm.LamKit.getCap (s := T₁) (args := args) hx Y₀.here hW1 hmdT own_cap0 wO₁ hcU hvmc (v := .ref a) (by rw [hsl]; rfl) rfl rfl (hb hby own_f1) ?_
  refine XS.aloadN Y₀.here hx rfl (hb hby own_f4) rfl rfl ?_
  refine Jvm.LamKit.getCap (s := T₁) (args := args) hx Y₀.here hW1 hmdT own_cap1 wO₁ hcU hvmc (v := .ref d) (by rw [hsl]; rfl) rfl rfl (hb hby own_f5) ?_
  refine XS.iloadN Y₀.here hx rfl (hb hby own_f8) rfl ?_
  refine XS.iloadN Y₀.here hx rfl (hb hby own_f9) rfl ?_
  have hsU : U.topJava?.isSome := Y₀.here.top
  have hdI' : decode ck₁.code 10 = .ok (.invokevirtual 27, 3) := hb hby own_f10
  have hpriv : methT.isPrivate = true := Cond.privateMethod_at (mvP hZ₁ wp (args := args)) t₁ methT hmT hmethT
  have hselP : selectMethod e.platform U.vm cellA.cls t₁ = .method t₁ := by rw [hvmU]; exact selectMethod_private hmethT hpriv
  have hsp : ∀ y : Method, signaturePolymorphic tk₁ y = false := fun y => by
    obtain ⟨kN, hkN, hnm⟩ := Vm.findClass_spec hfT₁
    cases htk₁.symm.trans hkN
    have hnm' : tk₁.name = own_HOST := hnm
    simp [signaturePolymorphic, hnm', own_HOST]
  have hlenT : ([.ref d, .int x, .int z] : List Value).length = methT.sig.parameters.length := by
    obtain ⟨methT', cT, hmethT', -, -, -, -, -, -, hsigT⟩ := Cond.code_spec hmT (mvT (args := args) hZ₁ wc)
    cases hmethT.symm.trans hmethT'
    have q : parseMethodDescriptor "(Lcom/example/tidemark/tidemark/core/DistinctValues;II)Z" = some ⟨[.object kDV, .int, .int], some .boolean⟩ := by decide +kernel
    have q2 : parseMethodDescriptor own_YL.desc = some methT.sig := hsigT
    rw [show own_YL.desc = "(Lcom/example/tidemark/tidemark/core/DistinctValues;II)Z" from rfl, q] at q2
    rw [← Option.some.inj q2]; rfl
  show Steps p.tables e _ (U.setTop (mkF ⟨cell.cls, 1⟩ 10 #[.val (.ref fn), .val (.int x), .val (.int z)] [.int z, .int x, .ref d, .ref a])) _
  jvm_step Y₀.here [hx, hdI', mkF, invokevirtual.wp_ready (e := e) (s := U) (r := t₁) (m := t₁) (k := tk₁) (mk := tk₁) (rmeth := methT) (meth := methT) (a := a) (args := [.ref d, .int x, .int z]) (rest := []) (cell := cellA)
    (f := (mkF ⟨cell.cls, 1⟩ 10 #[.val (.ref fn), .val (.int x), .val (.int z)] [.int z, .int x, .ref d, .ref a])) hsU ⟨kK₁, file₁, 23, nt, t₁.cls, tk₁, by rw [hvmU]; exact hkK₁, hfile₁, hidx₁, by rw [hvmU]; exact hclsR₁, by rw [hvmU]; exact htk₁, hni⟩ (by rw [hvmU]; exact hready₁) (by rw [hvmU]; exact htk₁) (by rw [hvmU]; exact hmethT) (hsp _) hstT hlenT rfl
    (by rw [hheapU]; exact hcellA) hobjA hselP (by rw [hvmU]; exact hmethT) habT (by rw [hvmU]; exact htk₁) hni]
  intro acts'
  rw [doInvoke_state]
  refine hsteps.trans ?_
  have e1 : nar .boolean w = w := by rcases hw01 with rfl | rfl <;> decide
  exact retN Y₁ hx hretk₁ (Or.inl rfl) (hb hby own_f13) (by rw [e1]; exact hleave)
theorem own_lamK {h : Heap} {rm : Room} {Q : Option Value → Heap → List Loc → Prop} {fn a d : Addr} {cK : ClassId} {x z : Int32} (nh : Nat) {P : State → Prop} {pc : Nat} {Ls : Array Slot} {cb : ByteArray}
    (X : Stand p l e R s m args below meth c T locs cells slots) (hx : p.tables.exec = Jvm.exec) (hZ : Z.Warmed39 s.vm) (hown : s.vm.findClass kSW = some m.cls) (hby : c.code = cb) (hml : Ls.size = c.maxLocals)
    (wl : (Cond.methodLink kSW 63 own_XI).before args s = true) (wd : (Cond.declares own_XI).before args s = true) (wi : (Cond.interfaceMethod own_XI.cls own_XI.cls own_XI.name own_XI.desc).before args s = true)
    (wc : (Cond.code own_YL prog_17_method_9_code 4 (some .boolean)).before a0 Z = true) (wn : (Cond.instanceMethod own_YL).before a0 Z = true) (wp : (Cond.privateMethod own_YL).before a0 Z = true) (wz : (Cond.initialized own_YL.cls).before a0 Z = true)
    (wO : (Cond.instantiable "java/lang/Object" 0).before a0 Z = true) (wC : (Cond.instantiable own_HOST nh).before a0 Z = true) (hmd : Jvm.LamKit.Made Z own_HOST own_sig cK)
    (hfn : ∃ cell, h[fn]? = some cell ∧ cell.cls = cK ∧ cell.vm = .none ∧ cell.slots = #[.ref a, .ref d]) (hrec : ∃ cell, h[a]? = some cell ∧ ∀ q, cell.vm ≠ .statics q) (eT : T.heap = h)
    (hM : MetFree l own_YL (head1 [Cond.code own_YL prog_17_method_9_code 4 (some .boolean)] rm) (fun aW U => aW = #[.ref a, .ref d, .int x, .int z] ∧ Z.Warmed39 U.vm ∧ U.heap = h) (fun _ _ _ _ _ => True) (fun _ U o U' => ∃ v L, o = .returned v ∧ Q v U'.heap L ∧ FrameEnd U o U' L rm.cells rm.slots))
    (hQ : ∀ v h' L, Q v h' L → v = some (.int 0)) (hd : decode cb pc = .ok (.invokeinterface 63 3, 5))
    (k : ∀ T' L, Stand p l e R s m args below meth c T' (locs ++ L) (cells + rm.cells) (slots + rm.slots) → Q (some (.int 0)) T'.heap L → own_Go p.tables e below P T' (mkF m (pc + 5) Ls [.int 0]))
    (hfr : rm.frames + 2 ≤ R.frames := by decide) (hlo : 2 * 0 + 0 + (3 + 11) + (4 + (4 + 11) + rm.locals) ≤ R.locals := by decide) (hcells : cells + rm.cells ≤ R.cells := by decide) (hslots : slots + rm.slots ≤ R.slots := by decide) : own_Go p.tables e below P T (mkF m pc Ls [.int z, .int x, .ref fn]) := by
  obtain ⟨v, T', L, X', q, st⟩ := own_lam (rm := rm) (nh := nh) X hx hZ hown wl wd wi wc wn wp wz wO wC hmd hfn hrec eT hM (fun v h' L q => ⟨0, hQ v h' L q, Or.inl rfl⟩) (g := mkF m pc Ls [.int z, .int x, .ref fn]) rfl hml (rest := []) rfl (hb hby hd) hfr hlo hcells hslots
  obtain rfl := hQ _ _ _ q
  exact own_st st (k T' L X' q)
end own_lam
/-- the visitor: a made object that holds the profile and the tally -/
def own_Fn (h : Heap) (fn : Addr) (cK : ClassId) (a d : Addr) : Prop := ∃ cell : Cell, h[fn]? = some cell ∧ cell.cls = cK ∧ cell.vm = .none ∧ cell.slots = #[.ref a, .ref d]
section own_Fn
variable {h h' : Heap} {fn a d b : Addr} {cK : ClassId} {sl : Nat} {v : Value} {ws : List Addr}
theorem own_Fn.lt (F : own_Fn h fn cK a d) : fn < h.size := by obtain ⟨c, A, -⟩ := F; exact (Array.getElem?_eq_some_iff.mp A).1
theorem own_Fn.ext (F : own_Fn h fn cK a d) (E : Ext h h') : own_Fn h' fn cK a d := by obtain ⟨c, A, r⟩ := F; exact ⟨c, E.2 _ _ A, r⟩
theorem own_Fn.other (F : own_Fn h fn cK a d) (W : Wr h h' b sl v) (q : fn ≠ b) : own_Fn h' fn cK a d := by
  obtain ⟨c, A, r⟩ := F
  obtain ⟨cell, -, -, -, rfl⟩ := W
  exact ⟨c, by rw [Array.getElem?_setIfInBounds_ne (Ne.symm q)]; exact A, r⟩
theorem own_Fn.keep (F : own_Fn h fn cK a d) (K : Keep h h' ws) (q : fn ∉ ws) : own_Fn h' fn cK a d := by obtain ⟨c, A, r⟩ := F; exact ⟨c, K.2.1 _ c A q, r⟩
end own_Fn
abbrev own_BY : MethodName := ⟨kCP, "build", "(Lcom/example/tidemark/tidemark/core/TaskBounds;Lcom/example/tidemark/tidemark/core/TaskColours;)Z"⟩
theorem own_site {p : Program} {l : Launch} {e : Env} {R : Room} {s : State} {m : MethodId} {args : Array Value} {below : List Frame} {meth : Method} {c : Code} {T : State} {locs : List Loc} {cells slots : Nat} {Z : State} {a0 : Array Value} {h : Heap}
    (X : Stand p l e R s m args below meth c T locs cells slots) (hx : p.tables.exec = Jvm.exec) (hZ : Z.Warmed39 s.vm) (hnamed : s.methodNamed? own_BY = some m)
    (hsite : (Cond.lambdaSite own_BY 110 66 own_sig).before a0 Z = true) (wO : (Cond.instantiable "java/lang/Object" 0).before a0 Z = true) (eT : T.heap = h)
    {g : JFrame} (hg : g.method = m) (hpc : g.pc = 110) (hsize : g.locals.size = c.maxLocals) (hdg : decode c.code g.pc = .ok (.invokedynamic 66, 5)) {a d : Addr} {rest : List Value} (hstack : g.stack = [.ref a, .ref d].reverse ++ rest)
    (hwords : 2 * g.monitorRoom + (g.stack.map fun v => v.category).sum + 3072 ≤ R.locals) (hcells : cells + 1 ≤ R.cells) (hslots : slots + 2 ≤ R.slots) :
    ∃ (cK : ClassId) (T' : State) (h' : Heap), Jvm.LamKit.Made Z own_HOST own_sig cK ∧ Stand p l e R s m args below meth c T' locs (cells + 1) (slots + 2) ∧ T'.heap = h' ∧ Ext h h' ∧ own_Fn h' h.size cK a d ∧
      ∀ target, Steps p.tables e below (T'.setTop { g with pc := g.pc + 5, stack := .ref h.size :: rest }) target → Steps p.tables e below (T.setTop g) target := by
  subst eT
  obtain ⟨cK, one, hat⟩ := Cond.lambdaSite_spec hsite
  obtain ⟨mD, kD, cfD, i0, p0, lk, hmD, hkD, hcfD, hsh, -, hfind, hmade, hcan, hl⟩ := State.lambdaAt?_spec hat
  have hmD' : (Z.setVm s.vm).methodNamed? own_BY = some mD := by rw [State.methodNamed?_setVm hZ.alike]; exact hmD
  obtain rfl : mD = m := Option.some.inj ((show s.methodNamed? own_BY = some mD from hmD').symm.trans hnamed)
  obtain ⟨kZ, hkZ, hnameD⟩ := className_of_methodNamed hmD
  cases hkD.symm.trans hkZ
  obtain ⟨kD', hkD', he⟩ := hZ.alike.2.2 _ _ hkD
  rcases hl with ⟨b, cell, -, -, hc0, -⟩ | ⟨rfl, -, -⟩
  · cases hc0
  · obtain ⟨b, nt, desc, site, h1, h2, h3, h4⟩ := Lambda.shapeOf?_site hsh
    have hms := own_made39 hZ hmade
    obtain ⟨kc, f, hkc, hkind, hty, -⟩ := Jvm.LamKit.made_cap own_cap0 hkD' (by rw [he]; exact hnameD) hms (Jvm.LamKit.noFields (mvT (args := args) hZ wO) (State.WarmedH.refl s))
    have hz : ((kc.instanceTypes.toList.zip [Value.ref a, Value.ref d]).map fun (t, v) => narrow t v) = [Value.ref a, Value.ref d] := by rw [hty]; rfl
    have hw : e.platform.lambdaLinkWords = 3072 := by rw [X.admits.platform]
    have q := X.lambdaMakes hx hg hsize hdg (vals := [.ref a, .ref d]) (rest := rest) hkD' (by rw [hpc, he]; exact hfind) (by rw [he]; exact hcfD) h1 h2 (parseLong_of_parse h3) (by rw [h4]; rfl) hstack hkc (by rw [hw]; exact hwords) hcells (by rw [hz]; exact hslots)
      (fun i v hv => by
        rw [hz] at hv
        have hv' : ([.ref a, .ref d] : List Value)[i]? = some v := by simpa using hv
        have hi : i < 2 := (List.getElem?_eq_some_iff.mp hv').1
        rcases (show i = 0 ∨ i = 1 by omega) with rfl | rfl
        · cases hv'; simp [State.fitsSlot, State.slotType?, hkc, hkind, hty, fits]
        · cases hv'; simp [State.fitsSlot, State.slotType?, hkc, hkind, hty, fits])
    rw [hz] at q
    refine ⟨cK, T.pushCell { cls := cK, slots := #[.ref a, .ref d], vm := .none }, T.heap.push { cls := cK, slots := #[.ref a, .ref d], vm := .none }, ⟨_, kD, hkD, hnameD, hmade, hcan⟩, by simpa using q.1, rfl, ⟨by simp, fun b c hb => ?_⟩, ⟨{ cls := cK, slots := #[.ref a, .ref d], vm := .none }, by simp, rfl, rfl, rfl⟩, q.2⟩
    show (T.heap.push _)[b]? = _
    rw [Array.getElem?_push_lt (Array.getElem?_eq_some_iff.mp hb).1]; exact (Array.getElem?_eq_getElem _).symm.trans hb
theorem own_ef66 (m : MethodId) (a : Addr) : entryFrame m #[.ref a, .int 0, .int 0] 4 = mkF m 0 #[sR a, sI 0, sI 0, sU] [] := by first | (simp [entryFrame, mkF, argsToLocals, Value.category]; done) | rfl
def Q66 (Z : State) (a so se : Addr) (ko ke : ClassId) (h0 : Heap) (n0 : Nat) (v : Option Value) (h : Heap) (L : List Loc) : Prop := v = some (.int 0) ∧ Fr n0 L ∧ h = h0
set_option maxRecDepth 65536 in
set_option maxHeartbeats 4000000 in
theorem rm66 {l : Launch} {Z : State} {a0 : Array Value} (hw : own_T a0 Z) (a so se : Addr) (ko ke : ClassId) (h0 : Heap) (n0 : Nat) (Z0 : n0 ≤ h0.size) (F0 : Exa Z h0 a kSW) (F1 : Fld Z h0 a kSW "origins" "[J" (.ref so)) (F2 : Fld Z h0 a kSW "ends" "[J" (.ref se)) (F3 : Fld Z h0 a kSW "count" "I" (.int 3)) (F4 : own_AJ Z h0 so ko (3 : Int32) own_go) (F5 : own_AJ Z h0 se ke (3 : Int32) (own_updJ (own_updJ own_ge 1 (own_ge 0)) 0 (own_ge 1))) :
    own_M l Z ym47 prog_40_method_5_code 4 (some .int) ⟨1, 0, 0, 14⟩ #[.ref a, .int 0, .int 0] h0 (Q66 Z a so se ko ke h0 n0) := by
  refine own_open kSW #[sR a, sI 0, sI 0, sU] (plainFor_of_name own_pn13) DL46 rfl (fun m => own_ef66 m a) fun p e s m below meth c s₁ Bd B hZ hown X0 e0 Pq hPq => ?_
  have hx := B.x
  have N0 := Fr.nil n0
  refine SaN X0 B 0 rfl rfl rfl ?_
  refine Kgf X0 B hZ hown (hw 107 rfl) Via.refl e0 F2 1 rfl fun T1 X1 e1 => ?_
  refine SiN X1 B 2 rfl rfl ?_
  refine Kjl 0 X1 B hZ e1 F5 ⟨by decide, by decide⟩ rfl 3 rfl ?_
  show own_Go _ _ _ _ T1 (mkF m 6 _ [(.long (own_ge 1))])
  refine Kst (wt := 0) (y := ym14) (some (.int (own_pt (own_ge 1)))) X1 B hZ hown (hw 247 rfl) (hw 248 rfl) (hw 99 rfl) (hw 249 rfl) (rm14 hw (own_ge 1) h0 n0 Z0 ) e1 own_pd__J_I 4 rfl rfl rfl (fun _ _ _ q => q.1) fun T3 Lc3 X3 hQ3 => ?_
  obtain ⟨-, NQ3, eq3⟩ := hQ3
  have N4 := Fr.app N0 NQ3
  rw [show (own_pt (own_ge 1)) = (1 : Int32) by decide]
  show own_Go _ _ _ _ T3 (mkF m 9 _ [.int 1])
  refine SisN #[sR a, sI 0, sI 0, sI 1] X3 B 5 rfl rfl ?_
  refine SiN X3 B 6 rfl rfl ?_
  refine SaN X3 B 7 rfl rfl rfl ?_
  refine Kgf X3 B hZ hown (hw 126 rfl) Via.refl eq3 F3 8 rfl fun T5 X5 e5 => ?_
  refine Scn X5 B 9 rfl (tlt (by decide : ((0 : Int32) < (3 : Int32)))).2.1 ?_
  refine SiN X5 B 10 rfl rfl ?_
  refine SaN X5 B 11 rfl rfl rfl ?_
  refine Kgf X5 B hZ hown (hw 105 rfl) Via.refl e5 F1 12 rfl fun T6 X6 e6 => ?_
  refine SiN X6 B 13 rfl rfl ?_
  refine Kjl 0 X6 B hZ e6 F4 ⟨by decide, by decide⟩ rfl 14 rfl ?_
  refine Kst (wt := 1) (y := ym14) (some (.int (own_pt (own_go 0)))) X6 B hZ hown (hw 247 rfl) (hw 248 rfl) (hw 99 rfl) (hw 249 rfl) (rm14 hw (own_go 0) h0 n0 Z0 ) e6 own_pd__J_I 15 rfl rfl rfl (fun _ _ _ q => q.1) fun T8 Lc8 X8 hQ8 => ?_
  obtain ⟨-, NQ8, eq8⟩ := hQ8
  have N9 := Fr.app N4 NQ8
  rw [show (own_pt (own_go 0)) = (0 : Int32) by decide]
  show own_Go _ _ _ _ T8 (mkF m 28 _ [.int 0, .int 1])
  refine Kst (wt := 0) (y := ym37) (some (.int (own_min (1 : Int32) (0 : Int32)))) X8 B hZ hown (hw 250 rfl) (hw 251 rfl) (hw 81 rfl) (hw 252 rfl) (rm48 hw 1 0 h0 n0 Z0 ) eq8 own_pd__II_I 16 rfl rfl rfl (fun _ _ _ q => q.1) fun T10 Lc10 X10 hQ10 => ?_
  obtain ⟨-, NQ10, eq10⟩ := hQ10
  have N11 := Fr.app N9 NQ10
  rw [show (own_min (1 : Int32) (0 : Int32)) = (0 : Int32) by decide]
  show own_Go _ _ _ _ T10 (mkF m 31 _ [.int 0])
  refine SisN #[sR a, sI 0, sI 0, sI 0] X10 B 17 rfl rfl ?_
  refine SiN X10 B 18 rfl rfl ?_
  refine own_oI X10 B Bd 19 rfl hPq ?_
  rw [eq10]
  exact ⟨rfl, N11, rfl⟩
theorem own_ef67 (m : MethodId) (a : Addr) : entryFrame m #[.ref a, .int 2, .int 0] 4 = mkF m 0 #[sR a, sI 2, sI 0, sU] [] := by first | (simp [entryFrame, mkF, argsToLocals, Value.category]; done) | rfl
def Q67 (Z : State) (a so se : Addr) (ko ke : ClassId) (h0 : Heap) (n0 : Nat) (v : Option Value) (h : Heap) (L : List Loc) : Prop := v = some (.int 1) ∧ Fr n0 L ∧ h = h0
set_option maxRecDepth 65536 in
set_option maxHeartbeats 4000000 in
theorem rm67 {l : Launch} {Z : State} {a0 : Array Value} (hw : own_T a0 Z) (a so se : Addr) (ko ke : ClassId) (h0 : Heap) (n0 : Nat) (Z0 : n0 ≤ h0.size) (F0 : Exa Z h0 a kSW) (F1 : Fld Z h0 a kSW "origins" "[J" (.ref so)) (F2 : Fld Z h0 a kSW "ends" "[J" (.ref se)) (F3 : Fld Z h0 a kSW "count" "I" (.int 3)) (F4 : own_AJ Z h0 so ko (3 : Int32) own_go) (F5 : own_AJ Z h0 se ke (3 : Int32) (own_updJ (own_updJ own_ge 1 (own_ge 0)) 0 (own_ge 1))) :
    own_M l Z ym47 prog_40_method_5_code 4 (some .int) ⟨1, 0, 0, 14⟩ #[.ref a, .int 2, .int 0] h0 (Q67 Z a so se ko ke h0 n0) := by
  refine own_open kSW #[sR a, sI 2, sI 0, sU] (plainFor_of_name own_pn13) DL46 rfl (fun m => own_ef67 m a) fun p e s m below meth c s₁ Bd B hZ hown X0 e0 Pq hPq => ?_
  have hx := B.x
  have N0 := Fr.nil n0
  refine SaN X0 B 0 rfl rfl rfl ?_
  refine Kgf X0 B hZ hown (hw 107 rfl) Via.refl e0 F2 1 rfl fun T1 X1 e1 => ?_
  refine SiN X1 B 2 rfl rfl ?_
  refine Kjl 0 X1 B hZ e1 F5 ⟨by decide, by decide⟩ rfl 3 rfl ?_
  show own_Go _ _ _ _ T1 (mkF m 6 _ [(.long (own_ge 1))])
  refine Kst (wt := 0) (y := ym14) (some (.int (own_pt (own_ge 1)))) X1 B hZ hown (hw 247 rfl) (hw 248 rfl) (hw 99 rfl) (hw 249 rfl) (rm14 hw (own_ge 1) h0 n0 Z0 ) e1 own_pd__J_I 4 rfl rfl rfl (fun _ _ _ q => q.1) fun T3 Lc3 X3 hQ3 => ?_
  obtain ⟨-, NQ3, eq3⟩ := hQ3
  have N4 := Fr.app N0 NQ3
  rw [show (own_pt (own_ge 1)) = (1 : Int32) by decide]
  show own_Go _ _ _ _ T3 (mkF m 9 _ [.int 1])
  refine SisN #[sR a, sI 2, sI 0, sI 1] X3 B 5 rfl rfl ?_
  refine SiN X3 B 6 rfl rfl ?_
  refine SaN X3 B 7 rfl rfl rfl ?_
  refine Kgf X3 B hZ hown (hw 126 rfl) Via.refl eq3 F3 8 rfl fun T5 X5 e5 => ?_
  refine Scn X5 B 9 rfl (tlt (by decide : ((2 : Int32) < (3 : Int32)))).2.1 ?_
  refine SiN X5 B 10 rfl rfl ?_
  refine SaN X5 B 11 rfl rfl rfl ?_
  refine Kgf X5 B hZ hown (hw 105 rfl) Via.refl e5 F1 12 rfl fun T6 X6 e6 => ?_
  refine SiN X6 B 13 rfl rfl ?_
  refine Kjl 2 X6 B hZ e6 F4 ⟨by decide, by decide⟩ rfl 14 rfl ?_
  refine Kst (wt := 1) (y := ym14) (some (.int (own_pt (own_go 2)))) X6 B hZ hown (hw 247 rfl) (hw 248 rfl) (hw 99 rfl) (hw 249 rfl) (rm14 hw (own_go 2) h0 n0 Z0 ) e6 own_pd__J_I 15 rfl rfl rfl (fun _ _ _ q => q.1) fun T8 Lc8 X8 hQ8 => ?_
  obtain ⟨-, NQ8, eq8⟩ := hQ8
  have N9 := Fr.app N4 NQ8
  rw [show (own_pt (own_go 2)) = (1 : Int32) by decide]
  show own_Go _ _ _ _ T8 (mkF m 28 _ [.int 1, .int 1])
  refine Kst (wt := 0) (y := ym37) (some (.int (own_min (1 : Int32) (1 : Int32)))) X8 B hZ hown (hw 250 rfl) (hw 251 rfl) (hw 81 rfl) (hw 252 rfl) (rm48 hw 1 1 h0 n0 Z0 ) eq8 own_pd__II_I 16 rfl rfl rfl (fun _ _ _ q => q.1) fun T10 Lc10 X10 hQ10 => ?_
  obtain ⟨-, NQ10, eq10⟩ := hQ10
  have N11 := Fr.app N9 NQ10
  rw [show (own_min (1 : Int32) (1 : Int32)) = (1 : Int32) by decide]
  show own_Go _ _ _ _ T10 (mkF m 31 _ [.int 1])
  refine SisN #[sR a, sI 2, sI 0, sI 1] X10 B 17 rfl rfl ?_
  refine SiN X10 B 18 rfl rfl ?_
  refine own_oI X10 B Bd 19 rfl hPq ?_
  rw [eq10]
  exact ⟨rfl, N11, rfl⟩
theorem own_ef68 (m : MethodId) (a : Addr) : entryFrame m #[.ref a, .int 3, .int 1] 4 = mkF m 0 #[sR a, sI 3, sI 1, sU] [] := by first | (simp [entryFrame, mkF, argsToLocals, Value.category]; done) | rfl
def Q68 (Z : State) (a so se : Addr) (ko ke : ClassId) (h0 : Heap) (n0 : Nat) (v : Option Value) (h : Heap) (L : List Loc) : Prop := v = some (.int 2) ∧ Fr n0 L ∧ h = h0
set_option maxRecDepth 65536 in
set_option maxHeartbeats 4000000 in
theorem rm68 {l : Launch} {Z : State} {a0 : Array Value} (hw : own_T a0 Z) (a so se : Addr) (ko ke : ClassId) (h0 : Heap) (n0 : Nat) (Z0 : n0 ≤ h0.size) (F0 : Exa Z h0 a kSW) (F1 : Fld Z h0 a kSW "origins" "[J" (.ref so)) (F2 : Fld Z h0 a kSW "ends" "[J" (.ref se)) (F3 : Fld Z h0 a kSW "count" "I" (.int 3)) (F4 : own_AJ Z h0 so ko (3 : Int32) own_go) (F5 : own_AJ Z h0 se ke (3 : Int32) (own_updJ (own_updJ own_ge 1 (own_ge 0)) 0 (own_ge 1))) :
    own_M l Z ym47 prog_40_method_5_code 4 (some .int) ⟨1, 0, 0, 13⟩ #[.ref a, .int 3, .int 1] h0 (Q68 Z a so se ko ke h0 n0) := by
  refine own_open kSW #[sR a, sI 3, sI 1, sU] (plainFor_of_name own_pn13) DL46 rfl (fun m => own_ef68 m a) fun p e s m below meth c s₁ Bd B hZ hown X0 e0 Pq hPq => ?_
  have hx := B.x
  have N0 := Fr.nil n0
  refine SaN X0 B 0 rfl rfl rfl ?_
  refine Kgf X0 B hZ hown (hw 107 rfl) Via.refl e0 F2 1 rfl fun T1 X1 e1 => ?_
  refine SiN X1 B 2 rfl rfl ?_
  refine Kjl 1 X1 B hZ e1 F5 ⟨by decide, by decide⟩ rfl 3 rfl ?_
  show own_Go _ _ _ _ T1 (mkF m 6 _ [(.long (own_ge 0))])
  refine Kst (wt := 0) (y := ym14) (some (.int (own_pt (own_ge 0)))) X1 B hZ hown (hw 247 rfl) (hw 248 rfl) (hw 99 rfl) (hw 249 rfl) (rm14 hw (own_ge 0) h0 n0 Z0 ) e1 own_pd__J_I 4 rfl rfl rfl (fun _ _ _ q => q.1) fun T3 Lc3 X3 hQ3 => ?_
  obtain ⟨-, NQ3, eq3⟩ := hQ3
  have N4 := Fr.app N0 NQ3
  rw [show (own_pt (own_ge 0)) = (2 : Int32) by decide]
  show own_Go _ _ _ _ T3 (mkF m 9 _ [.int 2])
  refine SisN #[sR a, sI 3, sI 1, sI 2] X3 B 5 rfl rfl ?_
  refine SiN X3 B 6 rfl rfl ?_
  refine SaN X3 B 7 rfl rfl rfl ?_
  refine Kgf X3 B hZ hown (hw 126 rfl) Via.refl eq3 F3 8 rfl fun T5 X5 e5 => ?_
  refine Scy 15 32 X5 B 9 rfl (flt (by decide : ¬ ((3 : Int32) < (3 : Int32)))).2.1 ?_
  refine SiN X5 B 18 rfl rfl ?_
  refine own_oI X5 B Bd 19 rfl hPq ?_
  rw [e5]
  exact ⟨rfl, N4, rfl⟩
theorem own_pn69 : plainName "java/util/OptionalInt" = true := by first | (simp [plainName, overriddenIn]; done) | decide +kernel
theorem own_ef69 (m : MethodId)  : entryFrame m #[] 0 = mkF m 0 #[] [] := by first | (simp [entryFrame, mkF, argsToLocals, Value.category]; done) | rfl
def Q69 (Z : State) (em : Addr) (h0 : Heap) (n0 : Nat) (v : Option Value) (h : Heap) (L : List Loc) : Prop := v = some (.ref em) ∧ Fr n0 L ∧ h = h0
set_option maxRecDepth 65536 in
set_option maxHeartbeats 4000000 in
theorem rm69 {l : Launch} {Z : State} {a0 : Array Value} (hw : own_T a0 Z) (em : Addr) (h0 : Heap) (n0 : Nat) (Z0 : n0 ≤ h0.size) (F0 : Sta Z h0 kOI "EMPTY" "Ljava/util/OptionalInt;" (.ref em)) :
    own_M l Z ym48 jdk_2649_method_2_code 0 (some (.object kOI)) ⟨0, 0, 0, 0⟩ #[] h0 (Q69 Z em h0 n0) := by
  refine own_open kOI #[] (plainFor_of_name own_pn69) DL47 rfl (fun m => own_ef69 m ) fun p e s m below meth c s₁ Bd B hZ hown X0 e0 Pq hPq => ?_
  have hx := B.x
  have N0 := Fr.nil n0
  obtain ⟨T1, X1, e1, st1⟩ := getS2 X0 hx hZ hown (host := "") (Or.inl (hw 317 rfl)) Via.refl e0 F0 (g := (mkF m 0 #[] [])) rfl (B.d 0 rfl)
  refine own_st st1 ?_
  show own_Go _ _ _ _ T1 (mkF m 3 _ [.ref em])
  subst hPq
  refine own_out X1 (v := some (.ref em)) (fun h => by rw [Bd.returns] at h; cases h) Bd.notSynchronized (own_retR X1 hx (t := (.object kOI)) Bd.returns rfl rfl rfl (B.d 1 rfl)) (by decide) (by decide) ?_
  show Q69 Z em h0 n0 _ T1.heap _
  rw [e1]
  exact ⟨rfl, N0, rfl⟩
theorem own_ef70 (m : MethodId) (a d fn : Addr) : entryFrame m #[.ref a, .ref d, .ref fn] 6 = mkF m 0 #[sR a, sR d, sR fn, sU, sU, sU] [] := by first | (simp [entryFrame, mkF, argsToLocals, Value.category]; done) | rfl
def Q70 (Z : State) (a d : Addr) (fn so : Addr) (se dv : Addr) (di dc : Addr) (dr dp : Addr) (dl cp : Addr) (sa ea : Addr) (co em : Addr) (un : Int32) (cK ko : ClassId) (ke ka : ClassId) (kb kc : ClassId) (k_dv k_di : ClassId) (k_dc k_dr : ClassId) (k_dp k_dl : ClassId) (gV gi : Nat → Int32) (gA gB gk : Nat → Int32) (h0 : Heap) (n0 : Nat) (v : Option Value) (h : Heap) (L : List Loc) : Prop := ∃ (k_nb : ClassId) (gC : Nat → Int32) (nb : Addr), v = some (.ref em) ∧ Fr n0 L ∧ Keep h0 h [a, so, se, d, dc, dr, dp, dl, cp, sa, ea] ∧ n0 ≤ nb ∧ h0.size ≤ nb ∧ Exa Z h cp kCP ∧ Fld Z h cp kCP "limit" "I" (.int 2) ∧ Fld Z h cp kCP "colours" "[I" (.ref nb) ∧ own_AI Z h nb k_nb 4 gC ∧ own_cl gV (gi (0 : Int32).toNatClampNeg) (gi (1 : Int32).toNatClampNeg) (gi (2 : Int32).toNatClampNeg) gC
set_option maxRecDepth 65536 in
set_option maxHeartbeats 4000000 in
theorem rm70 {l : Launch} {Z : State} {a0 : Array Value} (hw : own_T a0 Z) (a d : Addr) (fn so : Addr) (se dv : Addr) (di dc : Addr) (dr dp : Addr) (dl cp : Addr) (sa ea : Addr) (co em : Addr) (un : Int32) (cK ko : ClassId) (ke ka : ClassId) (kb kc : ClassId) (k_dv k_di : ClassId) (k_dc k_dr : ClassId) (k_dp k_dl : ClassId) (gV gi : Nat → Int32) (gA gB gk : Nat → Int32) (h0 : Heap) (n0 : Nat) (Z0 : n0 ≤ h0.size) (F0 : Exa Z h0 a "com/example/tidemark/tidemark/core/Sweep") (F1 : Fld Z h0 a "com/example/tidemark/tidemark/core/Sweep" "origins" "[J" (.ref so)) (F2 : Fld Z h0 a "com/example/tidemark/tidemark/core/Sweep" "ends" "[J" (.ref se)) (F3 : Fld Z h0 a "com/example/tidemark/tidemark/core/Sweep" "count" "I" (.int 3)) (F4 : Fld Z h0 a "com/example/tidemark/tidemark/core/Sweep" "sorted" "Z" (.int 0)) (F5 : own_AJ Z h0 so ko (3 : Int32) own_go) (F6 : own_AJ Z h0 se ke (3 : Int32) own_ge) (F7 : Exa Z h0 d "com/example/tidemark/tidemark/core/DistinctValues") (F8 : Fld Z h0 d "com/example/tidemark/tidemark/core/DistinctValues" "values" "[I" (.ref dv)) (F9 : Fld Z h0 d "com/example/tidemark/tidemark/core/DistinctValues" "ids" "[I" (.ref di)) (F10 : Fld Z h0 d "com/example/tidemark/tidemark/core/DistinctValues" "counts" "[I" (.ref dc)) (F11 : Fld Z h0 d "com/example/tidemark/tidemark/core/DistinctValues" "carriers" "[I" (.ref dr)) (F12 : Fld Z h0 d "com/example/tidemark/tidemark/core/DistinctValues" "present" "[I" (.ref dp)) (F13 : Fld Z h0 d "com/example/tidemark/tidemark/core/DistinctValues" "places" "[I" (.ref dl)) (F14 : Fld Z h0 d "com/example/tidemark/tidemark/core/DistinctValues" "distinct" "I" (.int 0)) (F15 : own_AI Z h0 dv k_dv un gV) (F16 : own_AI Z h0 di k_di 3 gi) (F17 : own_AI Z h0 dc k_dc un (fun _ => 0)) (F18 : own_AI Z h0 dr k_dr un (fun _ => 0)) (F19 : own_AI Z h0 dp k_dp un (fun _ => 0)) (F20 : own_AI Z h0 dl k_dl un (fun _ => 0)) (F21 : own_Fn h0 fn cK cp d) (F22 : Exa Z h0 cp "com/example/tidemark/tidemark/core/ColourProfile") (F23 : Fld Z h0 cp "com/example/tidemark/tidemark/core/Stretches" "size" "I" (.int 0)) (F24 : Fld Z h0 cp "com/example/tidemark/tidemark/core/Stretches" "starts" "[I" (.ref sa)) (F25 : Fld Z h0 cp "com/example/tidemark/tidemark/core/Stretches" "ends" "[I" (.ref ea)) (F26 : Fld Z h0 cp "com/example/tidemark/tidemark/core/ColourProfile" "limit" "I" (.int 2)) (F27 : Fld Z h0 cp "com/example/tidemark/tidemark/core/ColourProfile" "sweep" "Lcom/example/tidemark/tidemark/core/Sweep;" (.ref a)) (F28 : Fld Z h0 cp "com/example/tidemark/tidemark/core/ColourProfile" "colours" "[I" (.ref co)) (F29 : own_AI Z h0 sa ka 6 gA) (F30 : own_AI Z h0 ea kb 6 gB) (F31 : Exa Z h0 co "[I") (F32 : own_AI Z h0 co kc 0 gk) (F33 : Sta Z h0 "java/util/OptionalInt" "EMPTY" "Ljava/util/OptionalInt;" (.ref em)) (F34 : Exa Z h0 em "java/util/OptionalInt") (hI : own_I3 un (gi (0 : Int32).toNatClampNeg) (gi (1 : Int32).toNatClampNeg) (gi (2 : Int32).toNatClampNeg)) (hmd : Jvm.LamKit.Made Z own_HOST own_sig cK) (ND : [a, so, se, d, dv, di, dc, dr, dp, dl, cp, sa, ea, co, fn, em].Nodup) (g_a : n0 ≤ a) (g_so : n0 ≤ so) (g_se : n0 ≤ se) (g_d : n0 ≤ d) (g_dc : n0 ≤ dc) (g_dr : n0 ≤ dr) (g_dp : n0 ≤ dp) (g_dl : n0 ≤ dl) (g_cp : n0 ≤ cp) (g_sa : n0 ≤ sa) (g_ea : n0 ≤ ea) :
    own_M l Z ym51 prog_40_method_4_code 6 (some (.object kOI)) ⟨8, 2, 6, 145⟩ #[.ref a, .ref d, .ref fn] h0 (Q70 Z a d fn so se dv di dc dr dp dl cp sa ea co em un cK ko ke ka kb kc k_dv k_di k_dc k_dr k_dp k_dl gV gi gA gB gk h0 n0) := by
  refine own_open kSW #[sR a, sR d, sR fn, sU, sU, sU] (plainFor_of_name own_pn13) DL48 rfl (fun m => own_ef70 m a d fn) fun p e s m below meth c s₁ Bd B hZ hown X0 e0 Pq hPq => ?_
  have hx := B.x
  have hby := Bd.bytes
  have hml := B.2.1
  have N0 := Fr.nil n0
  have K0 : Keep h0 h0 [a, so, se, d, dc, dr, dp, dl, cp, sa, ea] := Keep.refl _ _
  have z0_1 := own_ni ND 0 1 rfl rfl
  have z0_2 := own_ni ND 0 2 rfl rfl
  have z0_3 := own_ni ND 0 3 rfl rfl
  have z0_4 := own_ni ND 0 4 rfl rfl
  have z0_5 := own_ni ND 0 5 rfl rfl
  have z0_6 := own_ni ND 0 6 rfl rfl
  have z0_7 := own_ni ND 0 7 rfl rfl
  have z0_8 := own_ni ND 0 8 rfl rfl
  have z0_9 := own_ni ND 0 9 rfl rfl
  have z0_10 := own_ni ND 0 10 rfl rfl
  have z0_11 := own_ni ND 0 11 rfl rfl
  have z0_12 := own_ni ND 0 12 rfl rfl
  have z0_13 := own_ni ND 0 13 rfl rfl
  have z0_14 := own_ni ND 0 14 rfl rfl
  have z1_2 := own_ni ND 1 2 rfl rfl
  have z1_3 := own_ni ND 1 3 rfl rfl
  have z1_4 := own_ni ND 1 4 rfl rfl
  have z1_5 := own_ni ND 1 5 rfl rfl
  have z1_6 := own_ni ND 1 6 rfl rfl
  have z1_7 := own_ni ND 1 7 rfl rfl
  have z1_8 := own_ni ND 1 8 rfl rfl
  have z1_9 := own_ni ND 1 9 rfl rfl
  have z1_10 := own_ni ND 1 10 rfl rfl
  have z1_11 := own_ni ND 1 11 rfl rfl
  have z1_12 := own_ni ND 1 12 rfl rfl
  have z1_13 := own_ni ND 1 13 rfl rfl
  have z1_14 := own_ni ND 1 14 rfl rfl
  have z2_3 := own_ni ND 2 3 rfl rfl
  have z2_4 := own_ni ND 2 4 rfl rfl
  have z2_5 := own_ni ND 2 5 rfl rfl
  have z2_6 := own_ni ND 2 6 rfl rfl
  have z2_7 := own_ni ND 2 7 rfl rfl
  have z2_8 := own_ni ND 2 8 rfl rfl
  have z2_9 := own_ni ND 2 9 rfl rfl
  have z2_10 := own_ni ND 2 10 rfl rfl
  have z2_11 := own_ni ND 2 11 rfl rfl
  have z2_12 := own_ni ND 2 12 rfl rfl
  have z2_13 := own_ni ND 2 13 rfl rfl
  have z2_14 := own_ni ND 2 14 rfl rfl
  have z3_4 := own_ni ND 3 4 rfl rfl
  have z3_5 := own_ni ND 3 5 rfl rfl
  have z3_6 := own_ni ND 3 6 rfl rfl
  have z3_7 := own_ni ND 3 7 rfl rfl
  have z3_8 := own_ni ND 3 8 rfl rfl
  have z3_9 := own_ni ND 3 9 rfl rfl
  have z3_10 := own_ni ND 3 10 rfl rfl
  have z3_11 := own_ni ND 3 11 rfl rfl
  have z3_12 := own_ni ND 3 12 rfl rfl
  have z3_13 := own_ni ND 3 13 rfl rfl
  have z3_14 := own_ni ND 3 14 rfl rfl
  have z4_6 := own_ni ND 4 6 rfl rfl
  have z4_7 := own_ni ND 4 7 rfl rfl
  have z4_8 := own_ni ND 4 8 rfl rfl
  have z4_9 := own_ni ND 4 9 rfl rfl
  have z4_10 := own_ni ND 4 10 rfl rfl
  have z4_11 := own_ni ND 4 11 rfl rfl
  have z4_12 := own_ni ND 4 12 rfl rfl
  have z4_13 := own_ni ND 4 13 rfl rfl
  have z5_6 := own_ni ND 5 6 rfl rfl
  have z5_7 := own_ni ND 5 7 rfl rfl
  have z5_8 := own_ni ND 5 8 rfl rfl
  have z5_9 := own_ni ND 5 9 rfl rfl
  have z5_10 := own_ni ND 5 10 rfl rfl
  have z5_11 := own_ni ND 5 11 rfl rfl
  have z5_12 := own_ni ND 5 12 rfl rfl
  have z6_7 := own_ni ND 6 7 rfl rfl
  have z6_8 := own_ni ND 6 8 rfl rfl
  have z6_9 := own_ni ND 6 9 rfl rfl
  have z6_10 := own_ni ND 6 10 rfl rfl
  have z6_11 := own_ni ND 6 11 rfl rfl
  have z6_12 := own_ni ND 6 12 rfl rfl
  have z6_13 := own_ni ND 6 13 rfl rfl
  have z6_14 := own_ni ND 6 14 rfl rfl
  have z7_8 := own_ni ND 7 8 rfl rfl
  have z7_9 := own_ni ND 7 9 rfl rfl
  have z7_10 := own_ni ND 7 10 rfl rfl
  have z7_11 := own_ni ND 7 11 rfl rfl
  have z7_12 := own_ni ND 7 12 rfl rfl
  have z7_13 := own_ni ND 7 13 rfl rfl
  have z7_14 := own_ni ND 7 14 rfl rfl
  have z8_9 := own_ni ND 8 9 rfl rfl
  have z8_10 := own_ni ND 8 10 rfl rfl
  have z8_11 := own_ni ND 8 11 rfl rfl
  have z8_12 := own_ni ND 8 12 rfl rfl
  have z8_13 := own_ni ND 8 13 rfl rfl
  have z8_14 := own_ni ND 8 14 rfl rfl
  have z9_10 := own_ni ND 9 10 rfl rfl
  have z9_11 := own_ni ND 9 11 rfl rfl
  have z9_12 := own_ni ND 9 12 rfl rfl
  have z9_13 := own_ni ND 9 13 rfl rfl
  have z9_14 := own_ni ND 9 14 rfl rfl
  have z10_11 := own_ni ND 10 11 rfl rfl
  have z10_12 := own_ni ND 10 12 rfl rfl
  have z10_13 := own_ni ND 10 13 rfl rfl
  have z10_14 := own_ni ND 10 14 rfl rfl
  have z11_12 := own_ni ND 11 12 rfl rfl
  have z11_13 := own_ni ND 11 13 rfl rfl
  have z11_14 := own_ni ND 11 14 rfl rfl
  have z12_13 := own_ni ND 12 13 rfl rfl
  have z12_14 := own_ni ND 12 14 rfl rfl
  refine SaN X0 B 0 rfl rfl rfl ?_
  refine Kgf X0 B hZ hown (hw 128 rfl) Via.refl e0 F4 1 rfl fun T1 X1 e1 => ?_
  refine Sfn X1 B 2 rfl ((if0 _ _).trans (teq (by decide : ((0 : Int32) = (0 : Int32)))).2) ?_
  refine SaN X1 B 3 rfl rfl rfl ?_
  refine Kgf X1 B hZ hown (hw 105 rfl) Via.refl e1 F1 4 rfl fun T2 X2 e2 => ?_
  refine Sc 0 X2 B 5 rfl rfl ?_
  refine SaN X2 B 6 rfl rfl rfl ?_
  refine Kgf X2 B hZ hown (hw 126 rfl) Via.refl e2 F3 7 rfl fun T3 X3 e3 => ?_
  refine Kst (wt := 0) (y := ym36) none X3 B hZ hown (hw 228 rfl) (hw 229 rfl) (hw 184 rfl) (hw 230 rfl) (rm43 hw so ko own_go h0 n0 Z0 F5 (by decide) (by decide) g_so) e3 own_pd___JII_V 8 rfl rfl rfl (fun _ _ _ q => q.1) fun T4 Lc4 X4 hQ4 => ?_
  obtain ⟨-, NQ4, K4, fq4_0⟩ := hQ4
  have N5 := Fr.app N0 NQ4
  have Z6 : n0 ≤ T4.heap.size := Nat.le_trans Z0 K4.1
  have K7 := K0.trans K4 (allS (own_mI 1 rfl) all0)
  show own_Go _ _ _ _ T4 (mkF m 19 _ [])
  refine SaN X4 B 9 rfl rfl rfl ?_
  have f9 := (F2.keep K4 (ninS z0_1 nin0))
  refine Kgf X4 B hZ hown (hw 107 rfl) Via.refl rfl f9 10 rfl fun T8 X8 e8 => ?_
  refine Sc 0 X8 B 11 rfl rfl ?_
  refine SaN X8 B 12 rfl rfl rfl ?_
  have f11 := (F3.keep K4 (ninS z0_1 nin0))
  refine Kgf X8 B hZ hown (hw 126 rfl) Via.refl e8 f11 13 rfl fun T10 X10 e10 => ?_
  have f13 := (F6.keep K4 (ninS (Ne.symm z1_2) nin0))
  refine Kst (wt := 0) (y := ym36) none X10 B hZ hown (hw 228 rfl) (hw 229 rfl) (hw 184 rfl) (hw 230 rfl) (rm47 hw se ke own_ge T4.heap n0 Z6 f13 (by decide) (by decide) g_se) e10 own_pd___JII_V 14 rfl rfl rfl (fun _ _ _ q => q.1) fun T12 Lc12 X12 hQ12 => ?_
  obtain ⟨-, NQ12, K12, fq12_0⟩ := hQ12
  have N14 := Fr.app N5 NQ12
  have Z15 : n0 ≤ T12.heap.size := Nat.le_trans Z6 K12.1
  have K16 := K7.trans K12 (allS (own_mI 2 rfl) all0)
  show own_Go _ _ _ _ T12 (mkF m 31 _ [])
  refine SaN X12 B 15 rfl rfl rfl ?_
  refine Sc 1 X12 B 16 rfl rfl ?_
  have f18 := ((F0.keep K4).keep K12)
  have f19 := ((F4.keep K4 (ninS z0_1 nin0)).keep K12 (ninS z0_2 nin0))
  refine Kpf .boolean X12 B hZ hown (hw 128 rfl) Via.refl rfl f19 f18 (Or.inl (hw 129 rfl)) (hw 98 rfl) 17 rfl fun T17 h17 X17 e17 W17 f20 => ?_
  have N21 := Fr.snoc X17 N14 g_a
  have Z22 : n0 ≤ h17.size := Nat.le_trans Z15 (Nat.le_of_eq W17.size.symm)
  have K23 := K16.wr W17 (own_mI 0 rfl)
  refine Sc 0 X17 B 18 rfl rfl ?_
  refine SisN #[sR a, sR d, sR fn, sI 0, sU, sU] X17 B 19 rfl rfl ?_
  refine Sc 0 X17 B 20 rfl rfl ?_
  refine Sis #[sR a, sR d, sR fn, sI 0, sI 0, sU] X17 B 21 rfl rfl ?_
  refine Si X17 B 22 rfl rfl ?_
  refine SaN X17 B 23 rfl rfl rfl ?_
  have f25 := ((f11.keep K12 (ninS z0_2 nin0)).other W17 (Or.inr (slot_ne (Or.inl (hw 127 rfl)) (Or.inl (hw 129 rfl)) (by decide) (t := .int) (t' := .boolean) (by decide) (by decide))))
  refine Kgf X17 B hZ hown (hw 126 rfl) Via.refl e17 f25 24 rfl fun T24 X24 e24 => ?_
  refine Scn X24 B 25 rfl (tlt (by decide : ((0 : Int32) < (3 : Int32)))).2.1 ?_
  refine SaN X24 B 26 rfl rfl rfl ?_
  refine SiN X24 B 27 rfl rfl ?_
  refine Si X24 B 28 rfl rfl ?_
  have f27 := (f18.wr W17)
  have f28 := (((F1.keep K4 (ninS z0_1 nin0)).keep K12 (ninS z0_2 nin0)).other W17 (Or.inr (slot_ne (Or.inl (hw 106 rfl)) (Or.inl (hw 129 rfl)) (by decide) (t := (.array .long)) (t' := .boolean) (by decide) (by decide))))
  have f29 := ((f9.keep K12 (ninS z0_2 nin0)).other W17 (Or.inr (slot_ne (Or.inl (hw 108 rfl)) (Or.inl (hw 129 rfl)) (by decide) (t := (.array .long)) (t' := .boolean) (by decide) (by decide))))
  have f30 := ((fq4_0.keep K12 (ninS z1_2 nin0)).other W17 (Ne.symm z0_1))
  have f31 := (fq12_0.other W17 (Ne.symm z0_2))
  refine Kpr (wt := 0) (y := ym47) (some (.int 0)) X24 B hZ hown (hw 243 rfl) (hw 244 rfl) (own_selp (y := ym47) (mvT hZ (hw 98 rfl)) (Cond.privateMethod_at (mvP hZ (hw 245 rfl) (args := #[]))) (mvT hZ (hw 244 rfl)) (by decide)) (hw 245 rfl) (hw 99 rfl) (hw 246 rfl) (rm66 hw a so se ko ke h17 n0 Z22 f27 f28 f29 f25 f30 f31) e24 f27 own_pd__II_I 29 rfl rfl rfl (fun _ _ _ q => q.1) fun T26 Lc26 X26 hQ26 => ?_
  obtain ⟨-, NQ26, eq26⟩ := hQ26
  have N32 := Fr.app N21 NQ26
  show own_Go _ _ _ _ T26 (mkF m 57 _ [.int 0])
  refine Sis #[sR a, sR d, sR fn, sI 0, sI 0, sI 0] X26 B 30 rfl rfl ?_
  refine SiN X26 B 31 rfl rfl ?_
  refine SaN X26 B 32 rfl rfl rfl ?_
  refine Kgf X26 B hZ hown (hw 126 rfl) Via.refl eq26 f25 33 rfl fun T33 X33 e33 => ?_
  refine Scn X33 B 34 rfl (tlt (by decide : ((0 : Int32) < (3 : Int32)))).2.1 ?_
  refine SaN X33 B 35 rfl rfl rfl ?_
  refine Kgf X33 B hZ hown (hw 105 rfl) Via.refl e33 f28 36 rfl fun T34 X34 e34 => ?_
  refine SiN X34 B 37 rfl rfl ?_
  refine Kjl 0 X34 B hZ e34 f30 ⟨by decide, by decide⟩ rfl 38 rfl ?_
  refine Kst (wt := 0) (y := ym14) (some (.int (own_pt (own_go 0)))) X34 B hZ hown (hw 247 rfl) (hw 248 rfl) (hw 99 rfl) (hw 249 rfl) (rm14 hw (own_go 0) h17 n0 Z22 ) e34 own_pd__J_I 39 rfl rfl rfl (fun _ _ _ q => q.1) fun T36 Lc36 X36 hQ36 => ?_
  obtain ⟨-, NQ36, eq36⟩ := hQ36
  have N37 := Fr.app N32 NQ36
  rw [show (own_pt (own_go 0)) = (0 : Int32) by decide]
  show own_Go _ _ _ _ T36 (mkF m 76 _ [.int 0])
  refine Si X36 B 40 rfl rfl ?_
  refine Scn X36 B 41 rfl (teq (by decide : ((0 : Int32) = (0 : Int32)))).2 ?_
  refine SaN X36 B 42 rfl rfl rfl ?_
  refine SaN X36 B 43 rfl rfl rfl ?_
  refine Kgf X36 B hZ hown (hw 105 rfl) Via.refl eq36 f28 44 rfl fun T38 X38 e38 => ?_
  refine SiN X38 B 45 rfl rfl ?_
  refine Kjl 0 X38 B hZ e38 f30 ⟨by decide, by decide⟩ rfl 46 rfl ?_
  refine Kst (wt := 1) (y := ym15) (some (.int (own_tk (own_go 0)))) X38 B hZ hown (hw 253 rfl) (hw 254 rfl) (hw 99 rfl) (hw 255 rfl) (rm15 hw (own_go 0) h17 n0 Z22 ) e38 own_pd__J_I 47 rfl rfl rfl (fun _ _ _ q => q.1) fun T40 Lc40 X40 hQ40 => ?_
  obtain ⟨-, NQ40, eq40⟩ := hQ40
  have N41 := Fr.app N37 NQ40
  rw [show (own_tk (own_go 0)) = (0 : Int32) by decide]
  show own_Go _ _ _ _ T40 (mkF m 91 _ [.int 0, .ref d])
  have f43 := (((F7.keep K4).keep K12).wr W17)
  have f44 := (((F14.keep K4 (ninS (Ne.symm z1_3) nin0)).keep K12 (ninS (Ne.symm z2_3) nin0)).other W17 (Or.inl (Ne.symm z0_3)))
  have f45 := (((F8.keep K4 (ninS (Ne.symm z1_3) nin0)).keep K12 (ninS (Ne.symm z2_3) nin0)).other W17 (Or.inl (Ne.symm z0_3)))
  have f46 := (((F9.keep K4 (ninS (Ne.symm z1_3) nin0)).keep K12 (ninS (Ne.symm z2_3) nin0)).other W17 (Or.inl (Ne.symm z0_3)))
  have f47 := (((F10.keep K4 (ninS (Ne.symm z1_3) nin0)).keep K12 (ninS (Ne.symm z2_3) nin0)).other W17 (Or.inl (Ne.symm z0_3)))
  have f48 := (((F11.keep K4 (ninS (Ne.symm z1_3) nin0)).keep K12 (ninS (Ne.symm z2_3) nin0)).other W17 (Or.inl (Ne.symm z0_3)))
  have f49 := (((F12.keep K4 (ninS (Ne.symm z1_3) nin0)).keep K12 (ninS (Ne.symm z2_3) nin0)).other W17 (Or.inl (Ne.symm z0_3)))
  have f50 := (((F13.keep K4 (ninS (Ne.symm z1_3) nin0)).keep K12 (ninS (Ne.symm z2_3) nin0)).other W17 (Or.inl (Ne.symm z0_3)))
  have f51 := (((F16.keep K4 (ninS (Ne.symm z1_5) nin0)).keep K12 (ninS (Ne.symm z2_5) nin0)).other W17 (Ne.symm z0_5))
  have f52 := (((F17.keep K4 (ninS (Ne.symm z1_6) nin0)).keep K12 (ninS (Ne.symm z2_6) nin0)).other W17 (Ne.symm z0_6))
  have f53 := (((F18.keep K4 (ninS (Ne.symm z1_7) nin0)).keep K12 (ninS (Ne.symm z2_7) nin0)).other W17 (Ne.symm z0_7))
  have f54 := (((F19.keep K4 (ninS (Ne.symm z1_8) nin0)).keep K12 (ninS (Ne.symm z2_8) nin0)).other W17 (Ne.symm z0_8))
  have f55 := (((F20.keep K4 (ninS (Ne.symm z1_9) nin0)).keep K12 (ninS (Ne.symm z2_9) nin0)).other W17 (Ne.symm z0_9))
  refine Kin (wt := 0) (x := ym49) (z := ym25) none X40 B hZ hown (hw 256 rfl) (hw 257 rfl) (mvT hZ (hw 258 rfl)) (hw 259 rfl) (hw 260 rfl) (hw 261 rfl) (hw 262 rfl) (hw 263 rfl) (hw 168 rfl) (hw 264 rfl) (rm25 hw d 0 0 un dv di dc dr dp dl k_di k_dc k_dr k_dp k_dl gi (fun _ => 0) (fun _ => 0) (fun _ => 0) (fun _ => 0) h17 n0 Z22 f43 f44 f45 f46 f47 f48 f49 f50 f51 f52 f53 f54 f55 ⟨by decide, by decide⟩ hI.2.1 (fun _ => (own_un hI.1).1) z3_5 z3_6 z3_7 z3_8 z3_9 z5_6 z5_7 z5_8 z5_9 z6_7 z6_8 z6_9 z7_8 z7_9 z8_9 g_d g_dr g_dc g_dp g_dl) eq40 f43 own_pd__I_V 48 rfl rfl rfl (fun _ _ _ q => by obtain ⟨_, _, _, _, _, e, _⟩ := q; exact e) fun T42 Lc42 X42 hQ42 => ?_
  obtain ⟨r42_ds2, r42_gr3, r42_gc3, r42_gp3, r42_gl3, -, NQ42, K42, fq42_0, fq42_1, fq42_2, fq42_3, fq42_4, fq42_5, fq42_6, fq42_7, fq42_8, fq42_9, fq42_10, fq42_11, fq42_12, hq42_0, hq42_1, hq42_2, hq42_3⟩ := hQ42
  have N56 := Fr.app N41 NQ42
  have Z57 : n0 ≤ T42.heap.size := Nat.le_trans Z22 K42.1
  have K58 := K23.trans K42 (allS (own_mI 3 rfl) (allS (own_mI 5 rfl) (allS (own_mI 4 rfl) (allS (own_mI 6 rfl) (allS (own_mI 7 rfl) all0)))))
  have HT1 := own_t1 ⟨hq42_0, hq42_1, hq42_2, hq42_3⟩
  obtain rfl : r42_ds2 = (1 : Int32) := HT1.1
  show own_Go _ _ _ _ T42 (mkF m 96 _ [])
  refine own_st (fun t k => XS.iinc X42.here hx rfl (B.d 49 rfl) rfl (l' := #[sR a, sR d, sR fn, sI 1, sI 0, sI 0]) rfl k) ?_
  refine Sg 99 59 X42 B 50 rfl ?_
  refine SiN X42 B 31 rfl rfl ?_
  refine SaN X42 B 32 rfl rfl rfl ?_
  have f60 := (f25.keep K42 (ninS z0_3 (ninS z0_7 (ninS z0_6 (ninS z0_8 (ninS z0_9 nin0))))))
  refine Kgf X42 B hZ hown (hw 126 rfl) Via.refl rfl f60 33 rfl fun T59 X59 e59 => ?_
  refine Scn X59 B 34 rfl (tlt (by decide : ((1 : Int32) < (3 : Int32)))).2.1 ?_
  refine SaN X59 B 35 rfl rfl rfl ?_
  have f62 := (f28.keep K42 (ninS z0_3 (ninS z0_7 (ninS z0_6 (ninS z0_8 (ninS z0_9 nin0))))))
  refine Kgf X59 B hZ hown (hw 105 rfl) Via.refl e59 f62 36 rfl fun T61 X61 e61 => ?_
  refine SiN X61 B 37 rfl rfl ?_
  have f64 := (f30.keep K42 (ninS z1_3 (ninS z1_7 (ninS z1_6 (ninS z1_8 (ninS z1_9 nin0))))))
  refine Kjl 1 X61 B hZ e61 f64 ⟨by decide, by decide⟩ rfl 38 rfl ?_
  refine Kst (wt := 0) (y := ym14) (some (.int (own_pt (own_go 1)))) X61 B hZ hown (hw 247 rfl) (hw 248 rfl) (hw 99 rfl) (hw 249 rfl) (rm14 hw (own_go 1) T42.heap n0 Z57 ) e61 own_pd__J_I 39 rfl rfl rfl (fun _ _ _ q => q.1) fun T65 Lc65 X65 hQ65 => ?_
  obtain ⟨-, NQ65, eq65⟩ := hQ65
  have N66 := Fr.app N56 NQ65
  rw [show (own_pt (own_go 1)) = (0 : Int32) by decide]
  show own_Go _ _ _ _ T65 (mkF m 76 _ [.int 0])
  refine Si X65 B 40 rfl rfl ?_
  refine Scn X65 B 41 rfl (teq (by decide : ((0 : Int32) = (0 : Int32)))).2 ?_
  refine SaN X65 B 42 rfl rfl rfl ?_
  refine SaN X65 B 43 rfl rfl rfl ?_
  refine Kgf X65 B hZ hown (hw 105 rfl) Via.refl eq65 f62 44 rfl fun T67 X67 e67 => ?_
  refine SiN X67 B 45 rfl rfl ?_
  refine Kjl 1 X67 B hZ e67 f64 ⟨by decide, by decide⟩ rfl 46 rfl ?_
  refine Kst (wt := 1) (y := ym15) (some (.int (own_tk (own_go 1)))) X67 B hZ hown (hw 253 rfl) (hw 254 rfl) (hw 99 rfl) (hw 255 rfl) (rm15 hw (own_go 1) T42.heap n0 Z57 ) e67 own_pd__J_I 47 rfl rfl rfl (fun _ _ _ q => q.1) fun T69 Lc69 X69 hQ69 => ?_
  obtain ⟨-, NQ69, eq69⟩ := hQ69
  have N70 := Fr.app N66 NQ69
  rw [show (own_tk (own_go 1)) = (1 : Int32) by decide]
  show own_Go _ _ _ _ T69 (mkF m 91 _ [.int 1, .ref d])
  refine Kin (wt := 0) (x := ym49) (z := ym25) none X69 B hZ hown (hw 256 rfl) (hw 257 rfl) (mvT hZ (hw 258 rfl)) (hw 259 rfl) (hw 260 rfl) (hw 261 rfl) (hw 262 rfl) (hw 263 rfl) (hw 168 rfl) (hw 264 rfl) (rm25 hw d 1 1 un dv di dc dr dp dl k_di k_dc k_dr k_dp k_dl gi r42_gc3 r42_gr3 r42_gp3 r42_gl3 T42.heap n0 Z57 fq42_0 fq42_1 fq42_2 fq42_3 fq42_4 fq42_5 fq42_6 fq42_7 fq42_8 fq42_9 fq42_10 fq42_11 fq42_12 ⟨by decide, by decide⟩ hI.2.2.1 (fun _ => (own_un hI.1).2) z3_5 z3_6 z3_7 z3_8 z3_9 z5_6 z5_7 z5_8 z5_9 z6_7 z6_8 z6_9 z7_8 z7_9 z8_9 g_d g_dr g_dc g_dp g_dl) eq69 fq42_0 own_pd__I_V 48 rfl rfl rfl (fun _ _ _ q => by obtain ⟨_, _, _, _, _, e, _⟩ := q; exact e) fun T71 Lc71 X71 hQ71 => ?_
  obtain ⟨r71_ds2, r71_gr3, r71_gc3, r71_gp3, r71_gl3, -, NQ71, K71, fq71_0, fq71_1, fq71_2, fq71_3, fq71_4, fq71_5, fq71_6, fq71_7, fq71_8, fq71_9, fq71_10, fq71_11, fq71_12, hq71_0, hq71_1, hq71_2, hq71_3⟩ := hQ71
  have N72 := Fr.app N70 NQ71
  have Z73 : n0 ≤ T71.heap.size := Nat.le_trans Z57 K71.1
  have K74 := K58.trans K71 (allS (own_mI 3 rfl) (allS (own_mI 5 rfl) (allS (own_mI 4 rfl) (allS (own_mI 6 rfl) (allS (own_mI 7 rfl) all0)))))
  have HT2 := own_t2 hI HT1 ⟨hq71_0, hq71_1, hq71_2, hq71_3⟩
  obtain rfl : r71_ds2 = (2 : Int32) := HT2.1
  show own_Go _ _ _ _ T71 (mkF m 96 _ [])
  refine own_st (fun t k => XS.iinc X71.here hx rfl (B.d 49 rfl) rfl (l' := #[sR a, sR d, sR fn, sI 2, sI 0, sI 0]) rfl k) ?_
  refine Sg 99 59 X71 B 50 rfl ?_
  refine SiN X71 B 31 rfl rfl ?_
  refine SaN X71 B 32 rfl rfl rfl ?_
  have f76 := (f60.keep K71 (ninS z0_3 (ninS z0_7 (ninS z0_6 (ninS z0_8 (ninS z0_9 nin0))))))
  refine Kgf X71 B hZ hown (hw 126 rfl) Via.refl rfl f76 33 rfl fun T75 X75 e75 => ?_
  refine Scn X75 B 34 rfl (tlt (by decide : ((2 : Int32) < (3 : Int32)))).2.1 ?_
  refine SaN X75 B 35 rfl rfl rfl ?_
  have f78 := (f62.keep K71 (ninS z0_3 (ninS z0_7 (ninS z0_6 (ninS z0_8 (ninS z0_9 nin0))))))
  refine Kgf X75 B hZ hown (hw 105 rfl) Via.refl e75 f78 36 rfl fun T77 X77 e77 => ?_
  refine SiN X77 B 37 rfl rfl ?_
  have f80 := (f64.keep K71 (ninS z1_3 (ninS z1_7 (ninS z1_6 (ninS z1_8 (ninS z1_9 nin0))))))
  refine Kjl 2 X77 B hZ e77 f80 ⟨by decide, by decide⟩ rfl 38 rfl ?_
  refine Kst (wt := 0) (y := ym14) (some (.int (own_pt (own_go 2)))) X77 B hZ hown (hw 247 rfl) (hw 248 rfl) (hw 99 rfl) (hw 249 rfl) (rm14 hw (own_go 2) T71.heap n0 Z73 ) e77 own_pd__J_I 39 rfl rfl rfl (fun _ _ _ q => q.1) fun T81 Lc81 X81 hQ81 => ?_
  obtain ⟨-, NQ81, eq81⟩ := hQ81
  have N82 := Fr.app N72 NQ81
  rw [show (own_pt (own_go 2)) = (1 : Int32) by decide]
  show own_Go _ _ _ _ T81 (mkF m 76 _ [.int 1])
  refine Si X81 B 40 rfl rfl ?_
  refine Scy 78 102 X81 B 41 rfl (feq (by decide : ¬ ((1 : Int32) = (0 : Int32)))).2 ?_
  refine Si X81 B 51 rfl rfl ?_
  refine SaN X81 B 52 rfl rfl rfl ?_
  refine Kgf X81 B hZ hown (hw 126 rfl) Via.refl eq81 f76 53 rfl fun T83 X83 e83 => ?_
  refine Scn X83 B 54 rfl (tlt (by decide : ((0 : Int32) < (3 : Int32)))).2.1 ?_
  refine SaN X83 B 55 rfl rfl rfl ?_
  have f85 := ((f29.keep K42 (ninS z0_3 (ninS z0_7 (ninS z0_6 (ninS z0_8 (ninS z0_9 nin0)))))).keep K71 (ninS z0_3 (ninS z0_7 (ninS z0_6 (ninS z0_8 (ninS z0_9 nin0))))))
  refine Kgf X83 B hZ hown (hw 107 rfl) Via.refl e83 f85 56 rfl fun T84 X84 e84 => ?_
  refine Si X84 B 57 rfl rfl ?_
  have f87 := ((f31.keep K42 (ninS z2_3 (ninS z2_7 (ninS z2_6 (ninS z2_8 (ninS z2_9 nin0)))))).keep K71 (ninS z2_3 (ninS z2_7 (ninS z2_6 (ninS z2_8 (ninS z2_9 nin0))))))
  refine Kjl 0 X84 B hZ e84 f87 ⟨by decide, by decide⟩ rfl 58 rfl ?_
  show own_Go _ _ _ _ T84 (mkF m 118 _ [(.long (own_ge 1))])
  refine Kst (wt := 0) (y := ym14) (some (.int (own_pt (own_ge 1)))) X84 B hZ hown (hw 247 rfl) (hw 248 rfl) (hw 99 rfl) (hw 249 rfl) (rm14 hw (own_ge 1) T71.heap n0 Z73 ) e84 own_pd__J_I 59 rfl rfl rfl (fun _ _ _ q => q.1) fun T88 Lc88 X88 hQ88 => ?_
  obtain ⟨-, NQ88, eq88⟩ := hQ88
  have N89 := Fr.app N82 NQ88
  rw [show (own_pt (own_ge 1)) = (1 : Int32) by decide]
  show own_Go _ _ _ _ T88 (mkF m 121 _ [.int 1])
  refine Si X88 B 60 rfl rfl ?_
  refine Scy 123 148 X88 B 61 rfl (feq (by decide : ¬ ((1 : Int32) = (0 : Int32)))).2 ?_
  refine Si X88 B 71 rfl rfl ?_
  refine SaN X88 B 72 rfl rfl rfl ?_
  refine Kgf X88 B hZ hown (hw 126 rfl) Via.refl eq88 f76 73 rfl fun T90 X90 e90 => ?_
  refine Scn X90 B 74 rfl (tlt (by decide : ((0 : Int32) < (3 : Int32)))).2.1 ?_
  refine SaN X90 B 75 rfl rfl rfl ?_
  refine Si X90 B 76 rfl rfl ?_
  refine SaN X90 B 77 rfl rfl rfl ?_
  refine SiN X90 B 78 rfl rfl ?_
  refine Si X90 B 79 rfl rfl ?_
  have f92 := ((f27.keep K42).keep K71)
  refine Kpr (wt := 2) (y := ym47) (some (.int 1)) X90 B hZ hown (hw 243 rfl) (hw 244 rfl) (own_selp (y := ym47) (mvT hZ (hw 98 rfl)) (Cond.privateMethod_at (mvP hZ (hw 245 rfl) (args := #[]))) (mvT hZ (hw 244 rfl)) (by decide)) (hw 245 rfl) (hw 99 rfl) (hw 246 rfl) (rm67 hw a so se ko ke T71.heap n0 Z73 f92 f78 f85 f76 f80 f87) e90 f92 own_pd__II_I 80 rfl rfl rfl (fun _ _ _ q => q.1) fun T91 Lc91 X91 hQ91 => ?_
  obtain ⟨-, NQ91, eq91⟩ := hQ91
  have N93 := Fr.app N89 NQ91
  show own_Go _ _ _ _ T91 (mkF m 167 _ [.int 1, .int 0, .ref fn])
  have f95 := (((((F22.keep K4).keep K12).wr W17).keep K42).keep K71)
  have f96 := (((((F23.keep K4 (ninS (Ne.symm z1_10) nin0)).keep K12 (ninS (Ne.symm z2_10) nin0)).other W17 (Or.inl (Ne.symm z0_10))).keep K42 (ninS (Ne.symm z3_10) (ninS (Ne.symm z7_10) (ninS (Ne.symm z6_10) (ninS (Ne.symm z8_10) (ninS (Ne.symm z9_10) nin0)))))).keep K71 (ninS (Ne.symm z3_10) (ninS (Ne.symm z7_10) (ninS (Ne.symm z6_10) (ninS (Ne.symm z8_10) (ninS (Ne.symm z9_10) nin0))))))
  have f97 := (((((F24.keep K4 (ninS (Ne.symm z1_10) nin0)).keep K12 (ninS (Ne.symm z2_10) nin0)).other W17 (Or.inl (Ne.symm z0_10))).keep K42 (ninS (Ne.symm z3_10) (ninS (Ne.symm z7_10) (ninS (Ne.symm z6_10) (ninS (Ne.symm z8_10) (ninS (Ne.symm z9_10) nin0)))))).keep K71 (ninS (Ne.symm z3_10) (ninS (Ne.symm z7_10) (ninS (Ne.symm z6_10) (ninS (Ne.symm z8_10) (ninS (Ne.symm z9_10) nin0))))))
  have f98 := (((((F25.keep K4 (ninS (Ne.symm z1_10) nin0)).keep K12 (ninS (Ne.symm z2_10) nin0)).other W17 (Or.inl (Ne.symm z0_10))).keep K42 (ninS (Ne.symm z3_10) (ninS (Ne.symm z7_10) (ninS (Ne.symm z6_10) (ninS (Ne.symm z8_10) (ninS (Ne.symm z9_10) nin0)))))).keep K71 (ninS (Ne.symm z3_10) (ninS (Ne.symm z7_10) (ninS (Ne.symm z6_10) (ninS (Ne.symm z8_10) (ninS (Ne.symm z9_10) nin0))))))
  have f99 := (((((F26.keep K4 (ninS (Ne.symm z1_10) nin0)).keep K12 (ninS (Ne.symm z2_10) nin0)).other W17 (Or.inl (Ne.symm z0_10))).keep K42 (ninS (Ne.symm z3_10) (ninS (Ne.symm z7_10) (ninS (Ne.symm z6_10) (ninS (Ne.symm z8_10) (ninS (Ne.symm z9_10) nin0)))))).keep K71 (ninS (Ne.symm z3_10) (ninS (Ne.symm z7_10) (ninS (Ne.symm z6_10) (ninS (Ne.symm z8_10) (ninS (Ne.symm z9_10) nin0))))))
  have f100 := (((((F27.keep K4 (ninS (Ne.symm z1_10) nin0)).keep K12 (ninS (Ne.symm z2_10) nin0)).other W17 (Or.inl (Ne.symm z0_10))).keep K42 (ninS (Ne.symm z3_10) (ninS (Ne.symm z7_10) (ninS (Ne.symm z6_10) (ninS (Ne.symm z8_10) (ninS (Ne.symm z9_10) nin0)))))).keep K71 (ninS (Ne.symm z3_10) (ninS (Ne.symm z7_10) (ninS (Ne.symm z6_10) (ninS (Ne.symm z8_10) (ninS (Ne.symm z9_10) nin0))))))
  have f101 := (((((F28.keep K4 (ninS (Ne.symm z1_10) nin0)).keep K12 (ninS (Ne.symm z2_10) nin0)).other W17 (Or.inl (Ne.symm z0_10))).keep K42 (ninS (Ne.symm z3_10) (ninS (Ne.symm z7_10) (ninS (Ne.symm z6_10) (ninS (Ne.symm z8_10) (ninS (Ne.symm z9_10) nin0)))))).keep K71 (ninS (Ne.symm z3_10) (ninS (Ne.symm z7_10) (ninS (Ne.symm z6_10) (ninS (Ne.symm z8_10) (ninS (Ne.symm z9_10) nin0))))))
  have f102 := (((((F29.keep K4 (ninS (Ne.symm z1_11) nin0)).keep K12 (ninS (Ne.symm z2_11) nin0)).other W17 (Ne.symm z0_11)).keep K42 (ninS (Ne.symm z3_11) (ninS (Ne.symm z7_11) (ninS (Ne.symm z6_11) (ninS (Ne.symm z8_11) (ninS (Ne.symm z9_11) nin0)))))).keep K71 (ninS (Ne.symm z3_11) (ninS (Ne.symm z7_11) (ninS (Ne.symm z6_11) (ninS (Ne.symm z8_11) (ninS (Ne.symm z9_11) nin0))))))
  have f103 := (((((F30.keep K4 (ninS (Ne.symm z1_12) nin0)).keep K12 (ninS (Ne.symm z2_12) nin0)).other W17 (Ne.symm z0_12)).keep K42 (ninS (Ne.symm z3_12) (ninS (Ne.symm z7_12) (ninS (Ne.symm z6_12) (ninS (Ne.symm z8_12) (ninS (Ne.symm z9_12) nin0)))))).keep K71 (ninS (Ne.symm z3_12) (ninS (Ne.symm z7_12) (ninS (Ne.symm z6_12) (ninS (Ne.symm z8_12) (ninS (Ne.symm z9_12) nin0))))))
  have f104 := (((((F31.keep K4).keep K12).wr W17).keep K42).keep K71)
  have f105 := (((((F32.keep K4 (ninS (Ne.symm z1_13) nin0)).keep K12 (ninS (Ne.symm z2_13) nin0)).other W17 (Ne.symm z0_13)).keep K42 (ninS (Ne.symm z3_13) (ninS (Ne.symm z7_13) (ninS (Ne.symm z6_13) (ninS (Ne.symm z8_13) (ninS (Ne.symm z9_13) nin0)))))).keep K71 (ninS (Ne.symm z3_13) (ninS (Ne.symm z7_13) (ninS (Ne.symm z6_13) (ninS (Ne.symm z8_13) (ninS (Ne.symm z9_13) nin0))))))
  have f106 := (((((F15.keep K4 (ninS (Ne.symm z1_4) nin0)).keep K12 (ninS (Ne.symm z2_4) nin0)).other W17 (Ne.symm z0_4)).keep K42 (ninS (Ne.symm z3_4) (ninS z4_7 (ninS z4_6 (ninS z4_8 (ninS z4_9 nin0)))))).keep K71 (ninS (Ne.symm z3_4) (ninS z4_7 (ninS z4_6 (ninS z4_8 (ninS z4_9 nin0))))))
  have f107 := (((((F21.keep K4 (ninS (Ne.symm z1_14) nin0)).keep K12 (ninS (Ne.symm z2_14) nin0)).other W17 (Ne.symm z0_14)).keep K42 (ninS (Ne.symm z3_14) (ninS (Ne.symm z7_14) (ninS (Ne.symm z6_14) (ninS (Ne.symm z8_14) (ninS (Ne.symm z9_14) nin0)))))).keep K71 (ninS (Ne.symm z3_14) (ninS (Ne.symm z7_14) (ninS (Ne.symm z6_14) (ninS (Ne.symm z8_14) (ninS (Ne.symm z9_14) nin0))))))
  refine own_lamK 6 X91 hx hZ hown hby (by rw [hml]; rfl) (mvT hZ (hw 267 rfl)) (mvT hZ (hw 268 rfl)) (mvT hZ (hw 269 rfl)) (hw 272 rfl) (hw 270 rfl) (hw 271 rfl) (hw 75 rfl) (hw 222 rfl) (hw 74 rfl) hmd f107 (own_nsQ f95) eq91 (rm63 hw cp d 0 1 sa ea a co dv dp un ka kb kc k_dv k_dp gA gB gk gV r71_gp3 T71.heap n0 Z73 f95 f96 f97 f98 f99 f100 f101 f102 f103 f104 f105 fq71_0 fq71_1 fq71_2 fq71_6 f106 fq71_11 (own_un hI.1).2.2 (by rw [HT2.2.1]; exact hI.2.1) (by rw [HT2.2.2.1]; exact hI.2.2.1) (List.nodup_cons.mpr ⟨(ninS z10_11 (ninS z10_12 (ninS z10_13 (ninS (Ne.symm z3_10) (ninS (Ne.symm z4_10) (ninS (Ne.symm z8_10) nin0)))))), (List.nodup_cons.mpr ⟨(ninS z11_12 (ninS z11_13 (ninS (Ne.symm z3_11) (ninS (Ne.symm z4_11) (ninS (Ne.symm z8_11) nin0))))), (List.nodup_cons.mpr ⟨(ninS z12_13 (ninS (Ne.symm z3_12) (ninS (Ne.symm z4_12) (ninS (Ne.symm z8_12) nin0)))), (List.nodup_cons.mpr ⟨(ninS (Ne.symm z3_13) (ninS (Ne.symm z4_13) (ninS (Ne.symm z8_13) nin0))), (List.nodup_cons.mpr ⟨(ninS z3_4 (ninS z3_8 nin0)), (List.nodup_cons.mpr ⟨(ninS z4_8 nin0), (List.nodup_cons.mpr ⟨nin0, List.nodup_nil⟩)⟩)⟩)⟩)⟩)⟩)⟩) g_cp g_sa g_ea) (fun _ _ _ q => by obtain ⟨_, _, e, _⟩ := q; exact e) (dd DL48 81 rfl) fun T94 Lc94 X94 hQ94 => ?_
  obtain ⟨r94_k_nb, b94_nb, -, NQ94, K94, gx_b94_nb, sz_b94_nb, fq94_0, fq94_1, fq94_2, fq94_3, fq94_4, fq94_5, fq94_6, fq94_7, fq94_8, fq94_9, fq94_10⟩ := hQ94
  have N108 := Fr.app N93 NQ94
  have Z109 : n0 ≤ T94.heap.size := Nat.le_trans Z73 K94.1
  have lt113 := fq71_0.lt
  have ne112 := own_nl lt113 sz_b94_nb
  have lt115 := f106.lt
  have ne114 := own_nl lt115 sz_b94_nb
  have lt121 := f95.lt
  have ne120 := own_nl lt121 sz_b94_nb
  have lt123 := f102.lt
  have ne122 := own_nl lt123 sz_b94_nb
  have lt125 := f103.lt
  have ne124 := own_nl lt125 sz_b94_nb
  have lt135 := fq71_9.lt
  have ne134 := own_nl lt135 sz_b94_nb
  have lt137 := fq71_10.lt
  have ne136 := own_nl lt137 sz_b94_nb
  have lt139 := fq71_11.lt
  have ne138 := own_nl lt139 sz_b94_nb
  have lt141 := fq71_12.lt
  have ne140 := own_nl lt141 sz_b94_nb
  have K142 := K74.trans K94 (allS (own_mI 8 rfl) (allS (own_mI 9 rfl) (allS (own_mI 10 rfl) all0)))
  show own_Go _ _ _ _ T94 (mkF m 172 _ [.int 0])
  refine Sfy 172 181 X94 B 82 rfl ((if0 _ _).trans (teq (by decide : ((0 : Int32) = (0 : Int32)))).1) ?_
  refine Sg 181 41 X94 B 83 rfl ?_
  refine Si X94 B 22 rfl rfl ?_
  refine SaN X94 B 23 rfl rfl rfl ?_
  have f145 := (f76.keep K94 (ninS z0_10 (ninS z0_11 (ninS z0_12 nin0))))
  refine Kgf X94 B hZ hown (hw 126 rfl) Via.refl rfl f145 24 rfl fun T144 X144 e144 => ?_
  refine Scn X144 B 25 rfl (tlt (by decide : ((0 : Int32) < (3 : Int32)))).2.1 ?_
  refine SaN X144 B 26 rfl rfl rfl ?_
  refine SiN X144 B 27 rfl rfl ?_
  refine Si X144 B 28 rfl rfl ?_
  have f147 := (f92.keep K94)
  have f148 := (f78.keep K94 (ninS z0_10 (ninS z0_11 (ninS z0_12 nin0))))
  have f149 := (f85.keep K94 (ninS z0_10 (ninS z0_11 (ninS z0_12 nin0))))
  have f150 := (f80.keep K94 (ninS z1_10 (ninS z1_11 (ninS z1_12 nin0))))
  have f151 := (f87.keep K94 (ninS z2_10 (ninS z2_11 (ninS z2_12 nin0))))
  refine Kpr (wt := 0) (y := ym47) (some (.int 1)) X144 B hZ hown (hw 243 rfl) (hw 244 rfl) (own_selp (y := ym47) (mvT hZ (hw 98 rfl)) (Cond.privateMethod_at (mvP hZ (hw 245 rfl) (args := #[]))) (mvT hZ (hw 244 rfl)) (by decide)) (hw 245 rfl) (hw 99 rfl) (hw 246 rfl) (rm67 hw a so se ko ke T94.heap n0 Z109 f147 f148 f149 f145 f150 f151) e144 f147 own_pd__II_I 29 rfl rfl rfl (fun _ _ _ q => q.1) fun T146 Lc146 X146 hQ146 => ?_
  obtain ⟨-, NQ146, eq146⟩ := hQ146
  have N152 := Fr.app N108 NQ146
  show own_Go _ _ _ _ T146 (mkF m 57 _ [.int 1])
  refine Sis #[sR a, sR d, sR fn, sI 2, sI 0, sI 1] X146 B 30 rfl rfl ?_
  refine SiN X146 B 31 rfl rfl ?_
  refine SaN X146 B 32 rfl rfl rfl ?_
  refine Kgf X146 B hZ hown (hw 126 rfl) Via.refl eq146 f145 33 rfl fun T153 X153 e153 => ?_
  refine Scn X153 B 34 rfl (tlt (by decide : ((2 : Int32) < (3 : Int32)))).2.1 ?_
  refine SaN X153 B 35 rfl rfl rfl ?_
  refine Kgf X153 B hZ hown (hw 105 rfl) Via.refl e153 f148 36 rfl fun T154 X154 e154 => ?_
  refine SiN X154 B 37 rfl rfl ?_
  refine Kjl 2 X154 B hZ e154 f150 ⟨by decide, by decide⟩ rfl 38 rfl ?_
  refine Kst (wt := 0) (y := ym14) (some (.int (own_pt (own_go 2)))) X154 B hZ hown (hw 247 rfl) (hw 248 rfl) (hw 99 rfl) (hw 249 rfl) (rm14 hw (own_go 2) T94.heap n0 Z109 ) e154 own_pd__J_I 39 rfl rfl rfl (fun _ _ _ q => q.1) fun T156 Lc156 X156 hQ156 => ?_
  obtain ⟨-, NQ156, eq156⟩ := hQ156
  have N157 := Fr.app N152 NQ156
  rw [show (own_pt (own_go 2)) = (1 : Int32) by decide]
  show own_Go _ _ _ _ T156 (mkF m 76 _ [.int 1])
  refine Si X156 B 40 rfl rfl ?_
  refine Scn X156 B 41 rfl (teq (by decide : ((1 : Int32) = (1 : Int32)))).2 ?_
  refine SaN X156 B 42 rfl rfl rfl ?_
  refine SaN X156 B 43 rfl rfl rfl ?_
  refine Kgf X156 B hZ hown (hw 105 rfl) Via.refl eq156 f148 44 rfl fun T158 X158 e158 => ?_
  refine SiN X158 B 45 rfl rfl ?_
  refine Kjl 2 X158 B hZ e158 f150 ⟨by decide, by decide⟩ rfl 46 rfl ?_
  refine Kst (wt := 1) (y := ym15) (some (.int (own_tk (own_go 2)))) X158 B hZ hown (hw 253 rfl) (hw 254 rfl) (hw 99 rfl) (hw 255 rfl) (rm15 hw (own_go 2) T94.heap n0 Z109 ) e158 own_pd__J_I 47 rfl rfl rfl (fun _ _ _ q => q.1) fun T160 Lc160 X160 hQ160 => ?_
  obtain ⟨-, NQ160, eq160⟩ := hQ160
  have N161 := Fr.app N157 NQ160
  rw [show (own_tk (own_go 2)) = (2 : Int32) by decide]
  show own_Go _ _ _ _ T160 (mkF m 91 _ [.int 2, .ref d])
  have f163 := (fq71_0.keep K94)
  have f164 := (fq71_1.keep K94 (ninS z3_10 (ninS z3_11 (ninS z3_12 nin0))))
  have f165 := (fq71_2.keep K94 (ninS z3_10 (ninS z3_11 (ninS z3_12 nin0))))
  have f166 := (fq71_3.keep K94 (ninS z3_10 (ninS z3_11 (ninS z3_12 nin0))))
  have f167 := (fq71_4.keep K94 (ninS z3_10 (ninS z3_11 (ninS z3_12 nin0))))
  have f168 := (fq71_5.keep K94 (ninS z3_10 (ninS z3_11 (ninS z3_12 nin0))))
  have f169 := (fq71_6.keep K94 (ninS z3_10 (ninS z3_11 (ninS z3_12 nin0))))
  have f170 := (fq71_7.keep K94 (ninS z3_10 (ninS z3_11 (ninS z3_12 nin0))))
  have f171 := (fq71_8.keep K94 (ninS z5_10 (ninS z5_11 (ninS z5_12 nin0))))
  have f172 := (fq71_9.keep K94 (ninS z6_10 (ninS z6_11 (ninS z6_12 nin0))))
  have f173 := (fq71_10.keep K94 (ninS z7_10 (ninS z7_11 (ninS z7_12 nin0))))
  have f174 := (fq71_11.keep K94 (ninS z8_10 (ninS z8_11 (ninS z8_12 nin0))))
  have f175 := (fq71_12.keep K94 (ninS z9_10 (ninS z9_11 (ninS z9_12 nin0))))
  refine Kin (wt := 0) (x := ym49) (z := ym25) none X160 B hZ hown (hw 256 rfl) (hw 257 rfl) (mvT hZ (hw 258 rfl)) (hw 259 rfl) (hw 260 rfl) (hw 261 rfl) (hw 262 rfl) (hw 263 rfl) (hw 168 rfl) (hw 264 rfl) (rm25 hw d 2 2 un dv di dc dr dp dl k_di k_dc k_dr k_dp k_dl gi r71_gc3 r71_gr3 r71_gp3 r71_gl3 T94.heap n0 Z109 f163 f164 f165 f166 f167 f168 f169 f170 f171 f172 f173 f174 f175 ⟨by decide, by decide⟩ hI.2.2.2.1 (own_p2 hI HT2) z3_5 z3_6 z3_7 z3_8 z3_9 z5_6 z5_7 z5_8 z5_9 z6_7 z6_8 z6_9 z7_8 z7_9 z8_9 g_d g_dr g_dc g_dp g_dl) eq160 f163 own_pd__I_V 48 rfl rfl rfl (fun _ _ _ q => by obtain ⟨_, _, _, _, _, e, _⟩ := q; exact e) fun T162 Lc162 X162 hQ162 => ?_
  obtain ⟨r162_ds2, r162_gr3, r162_gc3, r162_gp3, r162_gl3, -, NQ162, K162, fq162_0, fq162_1, fq162_2, fq162_3, fq162_4, fq162_5, fq162_6, fq162_7, fq162_8, fq162_9, fq162_10, fq162_11, fq162_12, hq162_0, hq162_1, hq162_2, hq162_3⟩ := hQ162
  have N176 := Fr.app N161 NQ162
  have Z177 : n0 ≤ T162.heap.size := Nat.le_trans Z109 K162.1
  have K178 := K142.trans K162 (allS (own_mI 3 rfl) (allS (own_mI 5 rfl) (allS (own_mI 4 rfl) (allS (own_mI 6 rfl) (allS (own_mI 7 rfl) all0)))))
  have HT3 := own_t3 hI HT2 ⟨hq162_0, hq162_1, hq162_2, hq162_3⟩
  show own_Go _ _ _ _ T162 (mkF m 96 _ [])
  refine own_st (fun t k => XS.iinc X162.here hx rfl (B.d 49 rfl) rfl (l' := #[sR a, sR d, sR fn, sI 3, sI 0, sI 1]) rfl k) ?_
  refine Sg 99 59 X162 B 50 rfl ?_
  refine SiN X162 B 31 rfl rfl ?_
  refine SaN X162 B 32 rfl rfl rfl ?_
  have f180 := (f145.keep K162 (ninS z0_3 (ninS z0_7 (ninS z0_6 (ninS z0_8 (ninS z0_9 nin0))))))
  refine Kgf X162 B hZ hown (hw 126 rfl) Via.refl rfl f180 33 rfl fun T179 X179 e179 => ?_
  refine Scy 64 102 X179 B 34 rfl (flt (by decide : ¬ ((3 : Int32) < (3 : Int32)))).2.1 ?_
  refine Si X179 B 51 rfl rfl ?_
  refine SaN X179 B 52 rfl rfl rfl ?_
  refine Kgf X179 B hZ hown (hw 126 rfl) Via.refl e179 f180 53 rfl fun T181 X181 e181 => ?_
  refine Scn X181 B 54 rfl (tlt (by decide : ((0 : Int32) < (3 : Int32)))).2.1 ?_
  refine SaN X181 B 55 rfl rfl rfl ?_
  have f183 := (f149.keep K162 (ninS z0_3 (ninS z0_7 (ninS z0_6 (ninS z0_8 (ninS z0_9 nin0))))))
  refine Kgf X181 B hZ hown (hw 107 rfl) Via.refl e181 f183 56 rfl fun T182 X182 e182 => ?_
  refine Si X182 B 57 rfl rfl ?_
  have f185 := (f151.keep K162 (ninS z2_3 (ninS z2_7 (ninS z2_6 (ninS z2_8 (ninS z2_9 nin0))))))
  refine Kjl 0 X182 B hZ e182 f185 ⟨by decide, by decide⟩ rfl 58 rfl ?_
  show own_Go _ _ _ _ T182 (mkF m 118 _ [(.long (own_ge 1))])
  refine Kst (wt := 0) (y := ym14) (some (.int (own_pt (own_ge 1)))) X182 B hZ hown (hw 247 rfl) (hw 248 rfl) (hw 99 rfl) (hw 249 rfl) (rm14 hw (own_ge 1) T162.heap n0 Z177 ) e182 own_pd__J_I 59 rfl rfl rfl (fun _ _ _ q => q.1) fun T186 Lc186 X186 hQ186 => ?_
  obtain ⟨-, NQ186, eq186⟩ := hQ186
  have N187 := Fr.app N176 NQ186
  rw [show (own_pt (own_ge 1)) = (1 : Int32) by decide]
  show own_Go _ _ _ _ T186 (mkF m 121 _ [.int 1])
  refine Si X186 B 60 rfl rfl ?_
  refine Scn X186 B 61 rfl (teq (by decide : ((1 : Int32) = (1 : Int32)))).2 ?_
  refine SaN X186 B 62 rfl rfl rfl ?_
  refine SaN X186 B 63 rfl rfl rfl ?_
  refine Kgf X186 B hZ hown (hw 107 rfl) Via.refl eq186 f183 64 rfl fun T188 X188 e188 => ?_
  refine Si X188 B 65 rfl rfl ?_
  refine Kjl 0 X188 B hZ e188 f185 ⟨by decide, by decide⟩ rfl 66 rfl ?_
  show own_Go _ _ _ _ T188 (mkF m 134 _ [(.long (own_ge 1)), .ref d])
  refine Kst (wt := 1) (y := ym15) (some (.int (own_tk (own_ge 1)))) X188 B hZ hown (hw 253 rfl) (hw 254 rfl) (hw 99 rfl) (hw 255 rfl) (rm15 hw (own_ge 1) T162.heap n0 Z177 ) e188 own_pd__J_I 67 rfl rfl rfl (fun _ _ _ q => q.1) fun T190 Lc190 X190 hQ190 => ?_
  obtain ⟨-, NQ190, eq190⟩ := hQ190
  have N191 := Fr.app N187 NQ190
  rw [show (own_tk (own_ge 1)) = (1 : Int32) by decide]
  show own_Go _ _ _ _ T190 (mkF m 137 _ [.int 1, .ref d])
  refine Kin (wt := 0) (x := ym50) (z := ym26) none X190 B hZ hown (hw 305 rfl) (hw 306 rfl) (mvT hZ (hw 307 rfl)) (hw 308 rfl) (hw 309 rfl) (hw 310 rfl) (hw 311 rfl) (hw 263 rfl) (hw 168 rfl) (hw 312 rfl) (rm26 hw d 1 r162_ds2 un dv di dc dr dp dl k_di k_dc k_dr k_dp k_dl gi r162_gc3 r162_gr3 r162_gp3 r162_gl3 T162.heap n0 Z177 fq162_0 fq162_1 fq162_2 fq162_3 fq162_4 fq162_5 fq162_6 fq162_7 fq162_8 fq162_9 fq162_10 fq162_11 fq162_12 ⟨by decide, by decide⟩ hI.2.2.1 (own_q1 hI HT3) z3_5 z3_6 z3_7 z3_8 z3_9 z5_6 z5_7 z5_8 z5_9 z6_7 z6_8 z6_9 z7_8 z7_9 z8_9 g_d g_dr g_dc g_dp g_dl) eq190 fq162_0 own_pd__I_V 68 rfl rfl rfl (fun _ _ _ q => by obtain ⟨_, _, _, _, _, e, _⟩ := q; exact e) fun T192 Lc192 X192 hQ192 => ?_
  obtain ⟨r192_ds2, r192_gr3, r192_gc3, r192_gp3, r192_gl3, -, NQ192, K192, fq192_0, fq192_1, fq192_2, fq192_3, fq192_4, fq192_5, fq192_6, fq192_7, fq192_8, fq192_9, fq192_10, fq192_11, fq192_12, hq192_0, hq192_1, hq192_2, hq192_3⟩ := hQ192
  have N193 := Fr.app N191 NQ192
  have Z194 : n0 ≤ T192.heap.size := Nat.le_trans Z177 K192.1
  have K195 := K178.trans K192 (allS (own_mI 3 rfl) (allS (own_mI 5 rfl) (allS (own_mI 4 rfl) (allS (own_mI 6 rfl) (allS (own_mI 7 rfl) all0)))))
  have HT4 := own_t4 hI HT3 ⟨hq192_0, hq192_1, hq192_2, hq192_3⟩
  obtain rfl : r192_ds2 = (2 : Int32) := HT4.1
  show own_Go _ _ _ _ T192 (mkF m 142 _ [])
  refine own_st (fun t k => XS.iinc X192.here hx rfl (B.d 69 rfl) rfl (l' := #[sR a, sR d, sR fn, sI 3, sI 1, sI 1]) rfl k) ?_
  refine Sg 145 102 X192 B 70 rfl ?_
  refine Si X192 B 51 rfl rfl ?_
  refine SaN X192 B 52 rfl rfl rfl ?_
  have f197 := (f180.keep K192 (ninS z0_3 (ninS z0_7 (ninS z0_6 (ninS z0_8 (ninS z0_9 nin0))))))
  refine Kgf X192 B hZ hown (hw 126 rfl) Via.refl rfl f197 53 rfl fun T196 X196 e196 => ?_
  refine Scn X196 B 54 rfl (tlt (by decide : ((1 : Int32) < (3 : Int32)))).2.1 ?_
  refine SaN X196 B 55 rfl rfl rfl ?_
  have f199 := (f183.keep K192 (ninS z0_3 (ninS z0_7 (ninS z0_6 (ninS z0_8 (ninS z0_9 nin0))))))
  refine Kgf X196 B hZ hown (hw 107 rfl) Via.refl e196 f199 56 rfl fun T198 X198 e198 => ?_
  refine Si X198 B 57 rfl rfl ?_
  have f201 := (f185.keep K192 (ninS z2_3 (ninS z2_7 (ninS z2_6 (ninS z2_8 (ninS z2_9 nin0))))))
  refine Kjl 1 X198 B hZ e198 f201 ⟨by decide, by decide⟩ rfl 58 rfl ?_
  show own_Go _ _ _ _ T198 (mkF m 118 _ [(.long (own_ge 0))])
  refine Kst (wt := 0) (y := ym14) (some (.int (own_pt (own_ge 0)))) X198 B hZ hown (hw 247 rfl) (hw 248 rfl) (hw 99 rfl) (hw 249 rfl) (rm14 hw (own_ge 0) T192.heap n0 Z194 ) e198 own_pd__J_I 59 rfl rfl rfl (fun _ _ _ q => q.1) fun T202 Lc202 X202 hQ202 => ?_
  obtain ⟨-, NQ202, eq202⟩ := hQ202
  have N203 := Fr.app N193 NQ202
  rw [show (own_pt (own_ge 0)) = (2 : Int32) by decide]
  show own_Go _ _ _ _ T202 (mkF m 121 _ [.int 2])
  refine Si X202 B 60 rfl rfl ?_
  refine Scy 123 148 X202 B 61 rfl (feq (by decide : ¬ ((2 : Int32) = (1 : Int32)))).2 ?_
  refine Si X202 B 71 rfl rfl ?_
  refine SaN X202 B 72 rfl rfl rfl ?_
  refine Kgf X202 B hZ hown (hw 126 rfl) Via.refl eq202 f197 73 rfl fun T204 X204 e204 => ?_
  refine Scn X204 B 74 rfl (tlt (by decide : ((1 : Int32) < (3 : Int32)))).2.1 ?_
  refine SaN X204 B 75 rfl rfl rfl ?_
  refine Si X204 B 76 rfl rfl ?_
  refine SaN X204 B 77 rfl rfl rfl ?_
  refine SiN X204 B 78 rfl rfl ?_
  refine Si X204 B 79 rfl rfl ?_
  have f206 := ((f147.keep K162).keep K192)
  have f207 := ((f148.keep K162 (ninS z0_3 (ninS z0_7 (ninS z0_6 (ninS z0_8 (ninS z0_9 nin0)))))).keep K192 (ninS z0_3 (ninS z0_7 (ninS z0_6 (ninS z0_8 (ninS z0_9 nin0))))))
  have f208 := ((f150.keep K162 (ninS z1_3 (ninS z1_7 (ninS z1_6 (ninS z1_8 (ninS z1_9 nin0)))))).keep K192 (ninS z1_3 (ninS z1_7 (ninS z1_6 (ninS z1_8 (ninS z1_9 nin0))))))
  refine Kpr (wt := 2) (y := ym47) (some (.int 2)) X204 B hZ hown (hw 243 rfl) (hw 244 rfl) (own_selp (y := ym47) (mvT hZ (hw 98 rfl)) (Cond.privateMethod_at (mvP hZ (hw 245 rfl) (args := #[]))) (mvT hZ (hw 244 rfl)) (by decide)) (hw 245 rfl) (hw 99 rfl) (hw 246 rfl) (rm68 hw a so se ko ke T192.heap n0 Z194 f206 f207 f199 f197 f208 f201) e204 f206 own_pd__II_I 80 rfl rfl rfl (fun _ _ _ q => q.1) fun T205 Lc205 X205 hQ205 => ?_
  obtain ⟨-, NQ205, eq205⟩ := hQ205
  have N209 := Fr.app N203 NQ205
  show own_Go _ _ _ _ T205 (mkF m 167 _ [.int 2, .int 1, .ref fn])
  have f211 := ((fq94_0.keep K162).keep K192)
  have f212 := ((fq94_1.keep K162 (ninS (Ne.symm z3_10) (ninS (Ne.symm z7_10) (ninS (Ne.symm z6_10) (ninS (Ne.symm z8_10) (ninS (Ne.symm z9_10) nin0)))))).keep K192 (ninS (Ne.symm z3_10) (ninS (Ne.symm z7_10) (ninS (Ne.symm z6_10) (ninS (Ne.symm z8_10) (ninS (Ne.symm z9_10) nin0))))))
  have f213 := ((fq94_2.keep K162 (ninS (Ne.symm z3_10) (ninS (Ne.symm z7_10) (ninS (Ne.symm z6_10) (ninS (Ne.symm z8_10) (ninS (Ne.symm z9_10) nin0)))))).keep K192 (ninS (Ne.symm z3_10) (ninS (Ne.symm z7_10) (ninS (Ne.symm z6_10) (ninS (Ne.symm z8_10) (ninS (Ne.symm z9_10) nin0))))))
  have f214 := ((fq94_3.keep K162 (ninS (Ne.symm z3_10) (ninS (Ne.symm z7_10) (ninS (Ne.symm z6_10) (ninS (Ne.symm z8_10) (ninS (Ne.symm z9_10) nin0)))))).keep K192 (ninS (Ne.symm z3_10) (ninS (Ne.symm z7_10) (ninS (Ne.symm z6_10) (ninS (Ne.symm z8_10) (ninS (Ne.symm z9_10) nin0))))))
  have f215 := ((fq94_4.keep K162 (ninS (Ne.symm z3_10) (ninS (Ne.symm z7_10) (ninS (Ne.symm z6_10) (ninS (Ne.symm z8_10) (ninS (Ne.symm z9_10) nin0)))))).keep K192 (ninS (Ne.symm z3_10) (ninS (Ne.symm z7_10) (ninS (Ne.symm z6_10) (ninS (Ne.symm z8_10) (ninS (Ne.symm z9_10) nin0))))))
  have f216 := ((fq94_5.keep K162 (ninS (Ne.symm z3_10) (ninS (Ne.symm z7_10) (ninS (Ne.symm z6_10) (ninS (Ne.symm z8_10) (ninS (Ne.symm z9_10) nin0)))))).keep K192 (ninS (Ne.symm z3_10) (ninS (Ne.symm z7_10) (ninS (Ne.symm z6_10) (ninS (Ne.symm z8_10) (ninS (Ne.symm z9_10) nin0))))))
  have f217 := ((fq94_6.keep K162 (ninS (Ne.symm z3_10) (ninS (Ne.symm z7_10) (ninS (Ne.symm z6_10) (ninS (Ne.symm z8_10) (ninS (Ne.symm z9_10) nin0)))))).keep K192 (ninS (Ne.symm z3_10) (ninS (Ne.symm z7_10) (ninS (Ne.symm z6_10) (ninS (Ne.symm z8_10) (ninS (Ne.symm z9_10) nin0))))))
  have f218 := ((fq94_7.keep K162 (ninS (Ne.symm z3_11) (ninS (Ne.symm z7_11) (ninS (Ne.symm z6_11) (ninS (Ne.symm z8_11) (ninS (Ne.symm z9_11) nin0)))))).keep K192 (ninS (Ne.symm z3_11) (ninS (Ne.symm z7_11) (ninS (Ne.symm z6_11) (ninS (Ne.symm z8_11) (ninS (Ne.symm z9_11) nin0))))))
  have f219 := ((fq94_8.keep K162 (ninS (Ne.symm z3_12) (ninS (Ne.symm z7_12) (ninS (Ne.symm z6_12) (ninS (Ne.symm z8_12) (ninS (Ne.symm z9_12) nin0)))))).keep K192 (ninS (Ne.symm z3_12) (ninS (Ne.symm z7_12) (ninS (Ne.symm z6_12) (ninS (Ne.symm z8_12) (ninS (Ne.symm z9_12) nin0))))))
  have f220 := ((fq94_9.keep K162).keep K192)
  have f221 := ((fq94_10.keep K162 (ninS (Ne.symm ne112) (ninS (Ne.symm ne136) (ninS (Ne.symm ne134) (ninS (Ne.symm ne138) (ninS (Ne.symm ne140) nin0)))))).keep K192 (ninS (Ne.symm ne112) (ninS (Ne.symm ne136) (ninS (Ne.symm ne134) (ninS (Ne.symm ne138) (ninS (Ne.symm ne140) nin0))))))
  have f222 := (((f106.keep K94 (ninS z4_10 (ninS z4_11 (ninS z4_12 nin0)))).keep K162 (ninS (Ne.symm z3_4) (ninS z4_7 (ninS z4_6 (ninS z4_8 (ninS z4_9 nin0)))))).keep K192 (ninS (Ne.symm z3_4) (ninS z4_7 (ninS z4_6 (ninS z4_8 (ninS z4_9 nin0))))))
  have f223 := (((f107.keep K94 (ninS (Ne.symm z10_14) (ninS (Ne.symm z11_14) (ninS (Ne.symm z12_14) nin0)))).keep K162 (ninS (Ne.symm z3_14) (ninS (Ne.symm z7_14) (ninS (Ne.symm z6_14) (ninS (Ne.symm z8_14) (ninS (Ne.symm z9_14) nin0)))))).keep K192 (ninS (Ne.symm z3_14) (ninS (Ne.symm z7_14) (ninS (Ne.symm z6_14) (ninS (Ne.symm z8_14) (ninS (Ne.symm z9_14) nin0))))))
  refine own_lamK 6 X205 hx hZ hown hby (by rw [hml]; rfl) (mvT hZ (hw 267 rfl)) (mvT hZ (hw 268 rfl)) (mvT hZ (hw 269 rfl)) (hw 272 rfl) (hw 270 rfl) (hw 271 rfl) (hw 75 rfl) (hw 222 rfl) (hw 74 rfl) hmd f223 (own_nsQ f211) eq205 (rm65 hw cp d 1 2 sa ea a b94_nb dv dp un ka kb r94_k_nb k_dv k_dp (own_updI gA 0 (0 : Int32)) (own_updI gB 0 (1 : Int32)) (own_cvf 0 (own_i2 0 0) r71_gp3 gV) gV r192_gp3 T192.heap n0 Z194 f211 f212 f213 f214 f215 f216 f217 f218 f219 f220 f221 fq192_0 fq192_1 fq192_2 fq192_6 f222 fq192_11 (own_un hI.1).2.2 (by rw [HT4.2.1]; exact hI.2.1) (by rw [HT4.2.2.1]; exact hI.2.2.2.1) (List.nodup_cons.mpr ⟨(ninS z10_11 (ninS z10_12 (ninS ne120 (ninS (Ne.symm z3_10) (ninS (Ne.symm z4_10) (ninS (Ne.symm z8_10) nin0)))))), (List.nodup_cons.mpr ⟨(ninS z11_12 (ninS ne122 (ninS (Ne.symm z3_11) (ninS (Ne.symm z4_11) (ninS (Ne.symm z8_11) nin0))))), (List.nodup_cons.mpr ⟨(ninS ne124 (ninS (Ne.symm z3_12) (ninS (Ne.symm z4_12) (ninS (Ne.symm z8_12) nin0)))), (List.nodup_cons.mpr ⟨(ninS (Ne.symm ne112) (ninS (Ne.symm ne114) (ninS (Ne.symm ne138) nin0))), (List.nodup_cons.mpr ⟨(ninS z3_4 (ninS z3_8 nin0)), (List.nodup_cons.mpr ⟨(ninS z4_8 nin0), (List.nodup_cons.mpr ⟨nin0, List.nodup_nil⟩)⟩)⟩)⟩)⟩)⟩)⟩) g_cp g_sa g_ea) (fun _ _ _ q => by obtain ⟨_, _, e, _⟩ := q; exact e) (dd DL48 81 rfl) fun T210 Lc210 X210 hQ210 => ?_
  obtain ⟨r210_k_nb, b210_nb, -, NQ210, K210, gx_b210_nb, sz_b210_nb, fq210_0, fq210_1, fq210_2, fq210_3, fq210_4, fq210_5, fq210_6, fq210_7, fq210_8, fq210_9, fq210_10⟩ := hQ210
  have N224 := Fr.app N209 NQ210
  have Z225 : n0 ≤ T210.heap.size := Nat.le_trans Z194 K210.1
  have lt229 := fq192_0.lt
  have ne228 := own_nl lt229 sz_b210_nb
  have lt253 := fq192_9.lt
  have ne252 := own_nl lt253 sz_b210_nb
  have lt255 := fq192_10.lt
  have ne254 := own_nl lt255 sz_b210_nb
  have lt257 := fq192_11.lt
  have ne256 := own_nl lt257 sz_b210_nb
  have lt259 := fq192_12.lt
  have ne258 := own_nl lt259 sz_b210_nb
  have sz261 : h0.size ≤ b210_nb := Nat.le_trans K195.1 sz_b210_nb
  have K260 := K195.trans K210 (allS (own_mI 8 rfl) (allS (own_mI 9 rfl) (allS (own_mI 10 rfl) all0)))
  show own_Go _ _ _ _ T210 (mkF m 172 _ [.int 0])
  refine Sfy 172 181 X210 B 82 rfl ((if0 _ _).trans (teq (by decide : ((0 : Int32) = (0 : Int32)))).1) ?_
  refine Sg 181 41 X210 B 83 rfl ?_
  refine Si X210 B 22 rfl rfl ?_
  refine SaN X210 B 23 rfl rfl rfl ?_
  have f263 := (f197.keep K210 (ninS z0_10 (ninS z0_11 (ninS z0_12 nin0))))
  refine Kgf X210 B hZ hown (hw 126 rfl) Via.refl rfl f263 24 rfl fun T262 X262 e262 => ?_
  refine Scn X262 B 25 rfl (tlt (by decide : ((1 : Int32) < (3 : Int32)))).2.1 ?_
  refine SaN X262 B 26 rfl rfl rfl ?_
  refine SiN X262 B 27 rfl rfl ?_
  refine Si X262 B 28 rfl rfl ?_
  have f265 := (f206.keep K210)
  have f266 := (f207.keep K210 (ninS z0_10 (ninS z0_11 (ninS z0_12 nin0))))
  have f267 := (f199.keep K210 (ninS z0_10 (ninS z0_11 (ninS z0_12 nin0))))
  have f268 := (f208.keep K210 (ninS z1_10 (ninS z1_11 (ninS z1_12 nin0))))
  have f269 := (f201.keep K210 (ninS z2_10 (ninS z2_11 (ninS z2_12 nin0))))
  refine Kpr (wt := 0) (y := ym47) (some (.int 2)) X262 B hZ hown (hw 243 rfl) (hw 244 rfl) (own_selp (y := ym47) (mvT hZ (hw 98 rfl)) (Cond.privateMethod_at (mvP hZ (hw 245 rfl) (args := #[]))) (mvT hZ (hw 244 rfl)) (by decide)) (hw 245 rfl) (hw 99 rfl) (hw 246 rfl) (rm68 hw a so se ko ke T210.heap n0 Z225 f265 f266 f267 f263 f268 f269) e262 f265 own_pd__II_I 29 rfl rfl rfl (fun _ _ _ q => q.1) fun T264 Lc264 X264 hQ264 => ?_
  obtain ⟨-, NQ264, eq264⟩ := hQ264
  have N270 := Fr.app N224 NQ264
  show own_Go _ _ _ _ T264 (mkF m 57 _ [.int 2])
  refine Sis #[sR a, sR d, sR fn, sI 3, sI 1, sI 2] X264 B 30 rfl rfl ?_
  refine SiN X264 B 31 rfl rfl ?_
  refine SaN X264 B 32 rfl rfl rfl ?_
  refine Kgf X264 B hZ hown (hw 126 rfl) Via.refl eq264 f263 33 rfl fun T271 X271 e271 => ?_
  refine Scy 64 102 X271 B 34 rfl (flt (by decide : ¬ ((3 : Int32) < (3 : Int32)))).2.1 ?_
  refine Si X271 B 51 rfl rfl ?_
  refine SaN X271 B 52 rfl rfl rfl ?_
  refine Kgf X271 B hZ hown (hw 126 rfl) Via.refl e271 f263 53 rfl fun T272 X272 e272 => ?_
  refine Scn X272 B 54 rfl (tlt (by decide : ((1 : Int32) < (3 : Int32)))).2.1 ?_
  refine SaN X272 B 55 rfl rfl rfl ?_
  refine Kgf X272 B hZ hown (hw 107 rfl) Via.refl e272 f267 56 rfl fun T273 X273 e273 => ?_
  refine Si X273 B 57 rfl rfl ?_
  refine Kjl 1 X273 B hZ e273 f269 ⟨by decide, by decide⟩ rfl 58 rfl ?_
  show own_Go _ _ _ _ T273 (mkF m 118 _ [(.long (own_ge 0))])
  refine Kst (wt := 0) (y := ym14) (some (.int (own_pt (own_ge 0)))) X273 B hZ hown (hw 247 rfl) (hw 248 rfl) (hw 99 rfl) (hw 249 rfl) (rm14 hw (own_ge 0) T210.heap n0 Z225 ) e273 own_pd__J_I 59 rfl rfl rfl (fun _ _ _ q => q.1) fun T275 Lc275 X275 hQ275 => ?_
  obtain ⟨-, NQ275, eq275⟩ := hQ275
  have N276 := Fr.app N270 NQ275
  rw [show (own_pt (own_ge 0)) = (2 : Int32) by decide]
  show own_Go _ _ _ _ T275 (mkF m 121 _ [.int 2])
  refine Si X275 B 60 rfl rfl ?_
  refine Scn X275 B 61 rfl (teq (by decide : ((2 : Int32) = (2 : Int32)))).2 ?_
  refine SaN X275 B 62 rfl rfl rfl ?_
  refine SaN X275 B 63 rfl rfl rfl ?_
  refine Kgf X275 B hZ hown (hw 107 rfl) Via.refl eq275 f267 64 rfl fun T277 X277 e277 => ?_
  refine Si X277 B 65 rfl rfl ?_
  refine Kjl 1 X277 B hZ e277 f269 ⟨by decide, by decide⟩ rfl 66 rfl ?_
  show own_Go _ _ _ _ T277 (mkF m 134 _ [(.long (own_ge 0)), .ref d])
  refine Kst (wt := 1) (y := ym15) (some (.int (own_tk (own_ge 0)))) X277 B hZ hown (hw 253 rfl) (hw 254 rfl) (hw 99 rfl) (hw 255 rfl) (rm15 hw (own_ge 0) T210.heap n0 Z225 ) e277 own_pd__J_I 67 rfl rfl rfl (fun _ _ _ q => q.1) fun T279 Lc279 X279 hQ279 => ?_
  obtain ⟨-, NQ279, eq279⟩ := hQ279
  have N280 := Fr.app N276 NQ279
  rw [show (own_tk (own_ge 0)) = (0 : Int32) by decide]
  show own_Go _ _ _ _ T279 (mkF m 137 _ [.int 0, .ref d])
  have f282 := (fq192_0.keep K210)
  have f283 := (fq192_1.keep K210 (ninS z3_10 (ninS z3_11 (ninS z3_12 nin0))))
  have f284 := (fq192_2.keep K210 (ninS z3_10 (ninS z3_11 (ninS z3_12 nin0))))
  have f285 := (fq192_3.keep K210 (ninS z3_10 (ninS z3_11 (ninS z3_12 nin0))))
  have f286 := (fq192_4.keep K210 (ninS z3_10 (ninS z3_11 (ninS z3_12 nin0))))
  have f287 := (fq192_5.keep K210 (ninS z3_10 (ninS z3_11 (ninS z3_12 nin0))))
  have f288 := (fq192_6.keep K210 (ninS z3_10 (ninS z3_11 (ninS z3_12 nin0))))
  have f289 := (fq192_7.keep K210 (ninS z3_10 (ninS z3_11 (ninS z3_12 nin0))))
  have f290 := (fq192_8.keep K210 (ninS z5_10 (ninS z5_11 (ninS z5_12 nin0))))
  have f291 := (fq192_9.keep K210 (ninS z6_10 (ninS z6_11 (ninS z6_12 nin0))))
  have f292 := (fq192_10.keep K210 (ninS z7_10 (ninS z7_11 (ninS z7_12 nin0))))
  have f293 := (fq192_11.keep K210 (ninS z8_10 (ninS z8_11 (ninS z8_12 nin0))))
  have f294 := (fq192_12.keep K210 (ninS z9_10 (ninS z9_11 (ninS z9_12 nin0))))
  refine Kin (wt := 0) (x := ym50) (z := ym26) none X279 B hZ hown (hw 305 rfl) (hw 306 rfl) (mvT hZ (hw 307 rfl)) (hw 308 rfl) (hw 309 rfl) (hw 310 rfl) (hw 311 rfl) (hw 263 rfl) (hw 168 rfl) (hw 312 rfl) (rm26 hw d 0 2 un dv di dc dr dp dl k_di k_dc k_dr k_dp k_dl gi r192_gc3 r192_gr3 r192_gp3 r192_gl3 T210.heap n0 Z225 f282 f283 f284 f285 f286 f287 f288 f289 f290 f291 f292 f293 f294 ⟨by decide, by decide⟩ hI.2.1 (own_q0 hI HT4) z3_5 z3_6 z3_7 z3_8 z3_9 z5_6 z5_7 z5_8 z5_9 z6_7 z6_8 z6_9 z7_8 z7_9 z8_9 g_d g_dr g_dc g_dp g_dl) eq279 f282 own_pd__I_V 68 rfl rfl rfl (fun _ _ _ q => by obtain ⟨_, _, _, _, _, e, _⟩ := q; exact e) fun T281 Lc281 X281 hQ281 => ?_
  obtain ⟨r281_ds2, r281_gr3, r281_gc3, r281_gp3, r281_gl3, -, NQ281, K281, fq281_0, fq281_1, fq281_2, fq281_3, fq281_4, fq281_5, fq281_6, fq281_7, fq281_8, fq281_9, fq281_10, fq281_11, fq281_12, hq281_0, hq281_1, hq281_2, hq281_3⟩ := hQ281
  have N295 := Fr.app N280 NQ281
  have Z296 : n0 ≤ T281.heap.size := Nat.le_trans Z225 K281.1
  have K297 := K260.trans K281 (allS (own_mI 3 rfl) (allS (own_mI 5 rfl) (allS (own_mI 4 rfl) (allS (own_mI 6 rfl) (allS (own_mI 7 rfl) all0)))))
  have HT5 := own_t5 hI HT4 ⟨hq281_0, hq281_1, hq281_2, hq281_3⟩
  obtain rfl : r281_ds2 = (1 : Int32) := HT5.1
  show own_Go _ _ _ _ T281 (mkF m 142 _ [])
  refine own_st (fun t k => XS.iinc X281.here hx rfl (B.d 69 rfl) rfl (l' := #[sR a, sR d, sR fn, sI 3, sI 2, sI 2]) rfl k) ?_
  refine Sg 145 102 X281 B 70 rfl ?_
  refine Si X281 B 51 rfl rfl ?_
  refine SaN X281 B 52 rfl rfl rfl ?_
  have f299 := (f263.keep K281 (ninS z0_3 (ninS z0_7 (ninS z0_6 (ninS z0_8 (ninS z0_9 nin0))))))
  refine Kgf X281 B hZ hown (hw 126 rfl) Via.refl rfl f299 53 rfl fun T298 X298 e298 => ?_
  refine Scn X298 B 54 rfl (tlt (by decide : ((2 : Int32) < (3 : Int32)))).2.1 ?_
  refine SaN X298 B 55 rfl rfl rfl ?_
  have f301 := (f267.keep K281 (ninS z0_3 (ninS z0_7 (ninS z0_6 (ninS z0_8 (ninS z0_9 nin0))))))
  refine Kgf X298 B hZ hown (hw 107 rfl) Via.refl e298 f301 56 rfl fun T300 X300 e300 => ?_
  refine Si X300 B 57 rfl rfl ?_
  have f303 := (f269.keep K281 (ninS z2_3 (ninS z2_7 (ninS z2_6 (ninS z2_8 (ninS z2_9 nin0))))))
  refine Kjl 2 X300 B hZ e300 f303 ⟨by decide, by decide⟩ rfl 58 rfl ?_
  show own_Go _ _ _ _ T300 (mkF m 118 _ [(.long (own_ge 2))])
  refine Kst (wt := 0) (y := ym14) (some (.int (own_pt (own_ge 2)))) X300 B hZ hown (hw 247 rfl) (hw 248 rfl) (hw 99 rfl) (hw 249 rfl) (rm14 hw (own_ge 2) T281.heap n0 Z296 ) e300 own_pd__J_I 59 rfl rfl rfl (fun _ _ _ q => q.1) fun T304 Lc304 X304 hQ304 => ?_
  obtain ⟨-, NQ304, eq304⟩ := hQ304
  have N305 := Fr.app N295 NQ304
  rw [show (own_pt (own_ge 2)) = (2 : Int32) by decide]
  show own_Go _ _ _ _ T304 (mkF m 121 _ [.int 2])
  refine Si X304 B 60 rfl rfl ?_
  refine Scn X304 B 61 rfl (teq (by decide : ((2 : Int32) = (2 : Int32)))).2 ?_
  refine SaN X304 B 62 rfl rfl rfl ?_
  refine SaN X304 B 63 rfl rfl rfl ?_
  refine Kgf X304 B hZ hown (hw 107 rfl) Via.refl eq304 f301 64 rfl fun T306 X306 e306 => ?_
  refine Si X306 B 65 rfl rfl ?_
  refine Kjl 2 X306 B hZ e306 f303 ⟨by decide, by decide⟩ rfl 66 rfl ?_
  show own_Go _ _ _ _ T306 (mkF m 134 _ [(.long (own_ge 2)), .ref d])
  refine Kst (wt := 1) (y := ym15) (some (.int (own_tk (own_ge 2)))) X306 B hZ hown (hw 253 rfl) (hw 254 rfl) (hw 99 rfl) (hw 255 rfl) (rm15 hw (own_ge 2) T281.heap n0 Z296 ) e306 own_pd__J_I 67 rfl rfl rfl (fun _ _ _ q => q.1) fun T308 Lc308 X308 hQ308 => ?_
  obtain ⟨-, NQ308, eq308⟩ := hQ308
  have N309 := Fr.app N305 NQ308
  rw [show (own_tk (own_ge 2)) = (2 : Int32) by decide]
  show own_Go _ _ _ _ T308 (mkF m 137 _ [.int 2, .ref d])
  refine Kin (wt := 0) (x := ym50) (z := ym26) none X308 B hZ hown (hw 305 rfl) (hw 306 rfl) (mvT hZ (hw 307 rfl)) (hw 308 rfl) (hw 309 rfl) (hw 310 rfl) (hw 311 rfl) (hw 263 rfl) (hw 168 rfl) (hw 312 rfl) (rm26 hw d 2 1 un dv di dc dr dp dl k_di k_dc k_dr k_dp k_dl gi r281_gc3 r281_gr3 r281_gp3 r281_gl3 T281.heap n0 Z296 fq281_0 fq281_1 fq281_2 fq281_3 fq281_4 fq281_5 fq281_6 fq281_7 fq281_8 fq281_9 fq281_10 fq281_11 fq281_12 ⟨by decide, by decide⟩ hI.2.2.2.1 (own_q2 hI HT5) z3_5 z3_6 z3_7 z3_8 z3_9 z5_6 z5_7 z5_8 z5_9 z6_7 z6_8 z6_9 z7_8 z7_9 z8_9 g_d g_dr g_dc g_dp g_dl) eq308 fq281_0 own_pd__I_V 68 rfl rfl rfl (fun _ _ _ q => by obtain ⟨_, _, _, _, _, e, _⟩ := q; exact e) fun T310 Lc310 X310 hQ310 => ?_
  obtain ⟨r310_ds2, r310_gr3, r310_gc3, r310_gp3, r310_gl3, -, NQ310, K310, fq310_0, fq310_1, fq310_2, fq310_3, fq310_4, fq310_5, fq310_6, fq310_7, fq310_8, fq310_9, fq310_10, fq310_11, fq310_12, hq310_0, hq310_1, hq310_2, hq310_3⟩ := hQ310
  have N311 := Fr.app N309 NQ310
  have Z312 : n0 ≤ T310.heap.size := Nat.le_trans Z296 K310.1
  have K313 := K297.trans K310 (allS (own_mI 3 rfl) (allS (own_mI 5 rfl) (allS (own_mI 4 rfl) (allS (own_mI 6 rfl) (allS (own_mI 7 rfl) all0)))))
  show own_Go _ _ _ _ T310 (mkF m 142 _ [])
  refine own_st (fun t k => XS.iinc X310.here hx rfl (B.d 69 rfl) rfl (l' := #[sR a, sR d, sR fn, sI 3, sI 3, sI 2]) rfl k) ?_
  refine Sg 145 102 X310 B 70 rfl ?_
  refine Si X310 B 51 rfl rfl ?_
  refine SaN X310 B 52 rfl rfl rfl ?_
  have f315 := (f299.keep K310 (ninS z0_3 (ninS z0_7 (ninS z0_6 (ninS z0_8 (ninS z0_9 nin0))))))
  refine Kgf X310 B hZ hown (hw 126 rfl) Via.refl rfl f315 53 rfl fun T314 X314 e314 => ?_
  refine Scy 108 148 X314 B 54 rfl (flt (by decide : ¬ ((3 : Int32) < (3 : Int32)))).2.1 ?_
  refine Si X314 B 71 rfl rfl ?_
  refine SaN X314 B 72 rfl rfl rfl ?_
  refine Kgf X314 B hZ hown (hw 126 rfl) Via.refl e314 f315 73 rfl fun T316 X316 e316 => ?_
  refine Scy 154 181 X316 B 74 rfl (flt (by decide : ¬ ((3 : Int32) < (3 : Int32)))).2.1 ?_
  refine Sg 181 41 X316 B 83 rfl ?_
  refine Si X316 B 22 rfl rfl ?_
  refine SaN X316 B 23 rfl rfl rfl ?_
  refine Kgf X316 B hZ hown (hw 126 rfl) Via.refl e316 f315 24 rfl fun T317 X317 e317 => ?_
  refine Scy 47 184 X317 B 25 rfl (flt (by decide : ¬ ((3 : Int32) < (3 : Int32)))).2.1 ?_
  have f319 := (own_staK2 (own_staK2 (own_staK2 (own_staK2 (own_staK2 (own_staK2 (own_staK2 (own_staK2 ((own_staK2 (own_staK2 F33 K4 (allS (own_nsJ F5) all0)) K12 (allS (own_nsJ f13) all0)).wr W17) K42 (allS (own_nsE f43) (allS (own_nsI f53) (allS (own_nsI f52) (allS (own_nsI f54) (allS (own_nsI f55) all0)))))) K71 (allS (own_nsE fq42_0) (allS (own_nsI fq42_10) (allS (own_nsI fq42_9) (allS (own_nsI fq42_11) (allS (own_nsI fq42_12) all0)))))) K94 (allS (own_nsE f95) (allS (own_nsI f102) (allS (own_nsI f103) all0)))) K162 (allS (own_nsE f163) (allS (own_nsI f173) (allS (own_nsI f172) (allS (own_nsI f174) (allS (own_nsI f175) all0)))))) K192 (allS (own_nsE fq162_0) (allS (own_nsI fq162_10) (allS (own_nsI fq162_9) (allS (own_nsI fq162_11) (allS (own_nsI fq162_12) all0)))))) K210 (allS (own_nsE f211) (allS (own_nsI f218) (allS (own_nsI f219) all0)))) K281 (allS (own_nsE f282) (allS (own_nsI f292) (allS (own_nsI f291) (allS (own_nsI f293) (allS (own_nsI f294) all0)))))) K310 (allS (own_nsE fq281_0) (allS (own_nsI fq281_10) (allS (own_nsI fq281_9) (allS (own_nsI fq281_11) (allS (own_nsI fq281_12) all0))))))
  refine Kst (wt := 0) (y := ym48) (some (.ref em)) X317 B hZ hown (hw 313 rfl) (hw 314 rfl) (hw 315 rfl) (hw 316 rfl) (rm69 hw em T310.heap n0 Z312 f319) e317 own_pd___Ljava_util_OptionalInt_ 84 rfl rfl rfl (fun _ _ _ q => q.1) fun T318 Lc318 X318 hQ318 => ?_
  obtain ⟨-, NQ318, eq318⟩ := hQ318
  have N320 := Fr.app N311 NQ318
  show own_Go _ _ _ _ T318 (mkF m 187 _ [.ref em])
  subst hPq
  refine own_out X318 (v := some (.ref em)) (fun h => by rw [Bd.returns] at h; cases h) Bd.notSynchronized (own_retR X318 hx (t := (.object kOI)) Bd.returns rfl rfl rfl (B.d 85 rfl)) (by decide) (by decide) ?_
  show Q70 Z a d fn so se dv di dc dr dp dl cp sa ea co em un cK ko ke ka kb kc k_dv k_di k_dc k_dr k_dp k_dl gV gi gA gB gk h0 n0 _ T318.heap _
  rw [eq318]
  exact ⟨r210_k_nb, (own_cvf 2 (own_i4 ((own_cvf 0 (own_i2 0 0) r71_gp3 gV) 0) ((own_cvf 0 (own_i2 0 0) r71_gp3 gV) 1) 0 0) r192_gp3 gV), b210_nb, rfl, N320, K313, gx_b210_nb, sz261, ((fq210_0.keep K281).keep K310), ((fq210_4.keep K281 (ninS (Ne.symm z3_10) (ninS (Ne.symm z7_10) (ninS (Ne.symm z6_10) (ninS (Ne.symm z8_10) (ninS (Ne.symm z9_10) nin0)))))).keep K310 (ninS (Ne.symm z3_10) (ninS (Ne.symm z7_10) (ninS (Ne.symm z6_10) (ninS (Ne.symm z8_10) (ninS (Ne.symm z9_10) nin0)))))), ((fq210_6.keep K281 (ninS (Ne.symm z3_10) (ninS (Ne.symm z7_10) (ninS (Ne.symm z6_10) (ninS (Ne.symm z8_10) (ninS (Ne.symm z9_10) nin0)))))).keep K310 (ninS (Ne.symm z3_10) (ninS (Ne.symm z7_10) (ninS (Ne.symm z6_10) (ninS (Ne.symm z8_10) (ninS (Ne.symm z9_10) nin0)))))), ((fq210_10.keep K281 (ninS (Ne.symm ne228) (ninS (Ne.symm ne254) (ninS (Ne.symm ne252) (ninS (Ne.symm ne256) (ninS (Ne.symm ne258) nin0)))))).keep K310 (ninS (Ne.symm ne228) (ninS (Ne.symm ne254) (ninS (Ne.symm ne252) (ninS (Ne.symm ne256) (ninS (Ne.symm ne258) nin0)))))), ⟨r71_gp3, r192_gp3, HT2.2.1, HT2.2.2.1, HT4.2.1, HT4.2.2.1, rfl⟩⟩
theorem own_AJ.cong3 {Z : State} {h : Heap} {a : Addr} {k : ClassId} {g g2 : Nat → Int64} (F : own_AJ Z h a k 3 g) (e0 : g 0 = g2 0) (e1 : g 1 = g2 1) (e2 : g 2 = g2 2) : own_AJ Z h a k 3 g2 := by
  obtain ⟨c, r1, r2, r3, r4, r5⟩ := F
  have s : c.slots.size = 3 := r3
  refine ⟨c, r1, r2, r3, r4, fun i hi => ?_⟩
  rw [r5 i hi]
  rcases (show i = 0 ∨ i = 1 ∨ i = 2 by omega) with rfl | rfl | rfl
  · rw [e0]
  · rw [e1]
  · rw [e2]
theorem own_AI.cong3 {Z : State} {h : Heap} {a : Addr} {k : ClassId} {g g2 : Nat → Int32} (F : own_AI Z h a k 3 g) (e0 : g 0 = g2 0) (e1 : g 1 = g2 1) (e2 : g 2 = g2 2) : own_AI Z h a k 3 g2 := by
  obtain ⟨c, r1, r2, r3, r4, r5⟩ := F
  have s : c.slots.size = 3 := r3
  refine ⟨c, r1, r2, r3, r4, fun i hi => ?_⟩
  rw [r5 i hi]
  rcases (show i = 0 ∨ i = 1 ∨ i = 2 by omega) with rfl | rfl | rfl
  · rw [e0]
  · rw [e1]
  · rw [e2]
/-- the tasks' times -/
def own_tO : Nat → Int32
  | 2 => 1 | _ => 0
def own_tE : Nat → Int32
  | 1 => 1 | _ => 2
/-- what build lays of the colours -/
def own_bd (gA gC : Nat → Int32) : Prop := ∃ (un : Int32) (gV gi g : Nat → Int32), (g 0 = gA 0 ∧ g 1 = gA 1 ∧ g 2 = gA 2) ∧ own_dvp g un gV gi ∧ own_cl gV (gi (0 : Int32).toNatClampNeg) (gi (1 : Int32).toNatClampNeg) (gi (2 : Int32).toNatClampNeg) gC
theorem own_i3 {g gV gi : Nat → Int32} {un : Int32} (D : own_dvp g un gV gi) (h1 : ¬ g 0 = g 1) (h2 : ¬ g 0 = g 2) : own_I3 un (gi (0 : Int32).toNatClampNeg) (gi (1 : Int32).toNatClampNeg) (gi (2 : Int32).toNatClampNeg) := by
  rw [show (0 : Int32).toNatClampNeg = 0 by decide, show (1 : Int32).toNatClampNeg = 1 by decide, show (2 : Int32).toNatClampNeg = 2 by decide]
  obtain ⟨hu, hD, -⟩ := D
  have d0 := hD 0 (by decide); have d1 := hD 1 (by decide); have d2 := hD 2 (by decide)
  refine ⟨hu, d0.1, d1.1, d2.1, fun q => h1 ?_, fun q => h2 ?_⟩
  · rw [← d0.2, ← d1.2, q]
  · rw [← d0.2, ← d2.2, q]
theorem own_ef71 (m : MethodId) (a : Addr) : entryFrame m #[.ref a] 1 = mkF m 0 #[sR a] [] := by first | (simp [entryFrame, mkF, argsToLocals, Value.category]; done) | rfl
def Q71 (Z : State) (a : Addr) (h0 : Heap) (n0 : Nat) (v : Option Value) (h : Heap) (L : List Loc) : Prop := v = some (.int 1) ∧ Fr n0 L ∧ h = h0
set_option maxRecDepth 65536 in
set_option maxHeartbeats 4000000 in
theorem rm71 {l : Launch} {Z : State} {a0 : Array Value} (hw : own_T a0 Z) (a : Addr) (h0 : Heap) (n0 : Nat) (Z0 : n0 ≤ h0.size) (F0 : Exa Z h0 a kOI) (F1 : Fld Z h0 a kOI "isPresent" "Z" (.int 0)) :
    own_M l Z ym52 jdk_2649_method_7_code 1 (some .boolean) ⟨0, 0, 0, 0⟩ #[.ref a] h0 (Q71 Z a h0 n0) := by
  refine own_open kOI #[sR a] (plainFor_of_name own_pn69) DL49 rfl (fun m => own_ef71 m a) fun p e s m below meth c s₁ Bd B hZ hown X0 e0 Pq hPq => ?_
  have hx := B.x
  have N0 := Fr.nil n0
  refine SaN X0 B 0 rfl rfl rfl ?_
  refine Kgf X0 B hZ hown (hw 323 rfl) Via.refl e0 F1 1 rfl fun T1 X1 e1 => ?_
  refine Sfn X1 B 2 rfl ((if0 _ _).trans (teq (by decide : ((0 : Int32) = (0 : Int32)))).2) ?_
  refine Sc 1 X1 B 3 rfl rfl ?_
  refine Sg 8 12 X1 B 4 rfl ?_
  refine own_oZ X1 B Bd 5 rfl hPq ?_
  rw [e1]
  exact ⟨rfl, N0, rfl⟩
theorem own_ef72 (m : MethodId) (a tb tc : Addr) : entryFrame m #[.ref a, .ref tb, .ref tc] 7 = mkF m 0 #[sR a, sR tb, sR tc, sU, sU, sU, sU] [] := by first | (simp [entryFrame, mkF, argsToLocals, Value.category]; done) | rfl
def Q72 (Z : State) (a tb : Addr) (tc om : Addr) (oM en : Addr) (cmi cma : Addr) (sa ea : Addr) (co sw : Addr) (so se em : Addr) (kM kO : ClassId) (kE kx : ClassId) (ky ka : ClassId) (kb kc : ClassId) (ko ke : ClassId) (gM gA : Nat → Int32) (gk gs gt : Nat → Int32) (ct sd : Int32) (h0 : Heap) (n0 : Nat) (v : Option Value) (h : Heap) (L : List Loc) : Prop := ∃ (k_nb : ClassId) (gC : Nat → Int32) (nb : Addr), v = some (.int 1) ∧ Fr n0 L ∧ Keep h0 h [a, sw, so, se, sa, ea] ∧ n0 ≤ nb ∧ h0.size ≤ nb ∧ Exa Z h a kCP ∧ Fld Z h a kCP "limit" "I" (.int 2) ∧ Fld Z h a kCP "colours" "[I" (.ref nb) ∧ own_AI Z h nb k_nb 4 gC ∧ own_bd gA gC
set_option maxRecDepth 65536 in
set_option maxHeartbeats 4000000 in
theorem rm72 {l : Launch} {Z : State} {a0 : Array Value} (hw : own_T a0 Z) (a tb : Addr) (tc om : Addr) (oM en : Addr) (cmi cma : Addr) (sa ea : Addr) (co sw : Addr) (so se em : Addr) (kM kO : ClassId) (kE kx : ClassId) (ky ka : ClassId) (kb kc : ClassId) (ko ke : ClassId) (gM gA : Nat → Int32) (gk gs gt : Nat → Int32) (ct sd : Int32) (h0 : Heap) (n0 : Nat) (Z0 : n0 ≤ h0.size) (F0 : Exa Z h0 tb kTB) (F1 : Fld Z h0 tb kTB "originMin" "[I" (.ref om)) (F2 : Fld Z h0 tb kTB "originMax" "[I" (.ref oM)) (F3 : Fld Z h0 tb kTB "endMin" "[I" (.ref en)) (F4 : own_AI Z h0 om kM 3 gM) (F5 : own_AI Z h0 oM kO 3 own_tO) (F6 : own_AI Z h0 en kE 3 own_tE) (F7 : Exa Z h0 tc kTC) (F8 : Fld Z h0 tc kTC "min" "[I" (.ref cmi)) (F9 : Fld Z h0 tc kTC "max" "[I" (.ref cma)) (F10 : own_AI Z h0 cmi kx 3 gA) (F11 : own_AI Z h0 cma ky 3 gA) (F12 : Exa Z h0 a kCP) (F13 : Fld Z h0 a kST "size" "I" (.int 0)) (F14 : Fld Z h0 a kST "starts" "[I" (.ref sa)) (F15 : Fld Z h0 a kST "ends" "[I" (.ref ea)) (F16 : Fld Z h0 a kCP "limit" "I" (.int 2)) (F17 : Fld Z h0 a kCP "sweep" "Lcom/example/tidemark/tidemark/core/Sweep;" (.ref sw)) (F18 : Fld Z h0 a kCP "colours" "[I" (.ref co)) (F19 : own_AI Z h0 sa ka 6 gs) (F20 : own_AI Z h0 ea kb 6 gt) (F21 : Exa Z h0 co "[I") (F22 : own_AI Z h0 co kc 0 gk) (F23 : Exa Z h0 sw kSW) (F24 : Fld Z h0 sw kSW "origins" "[J" (.ref so)) (F25 : Fld Z h0 sw kSW "ends" "[J" (.ref se)) (F26 : Fld Z h0 sw kSW "count" "I" (.int ct)) (F27 : Fld Z h0 sw kSW "sorted" "Z" (.int sd)) (F28 : own_AJ Z h0 so ko (3 : Int32) (fun _ => 0)) (F29 : own_AJ Z h0 se ke (3 : Int32) (fun _ => 0)) (F30 : Sta Z h0 kOI "EMPTY" "Ljava/util/OptionalInt;" (.ref em)) (F31 : Exa Z h0 em kOI) (F32 : Fld Z h0 em kOI "isPresent" "Z" (.int 0)) (hc1 : ¬ (gA 0) = (gA 1)) (hc2 : ¬ (gA 0) = (gA 2)) (ND : [a, tb, om, oM, en, tc, cmi, cma, sa, ea, co, sw, so, se, em].Nodup) (g_a : n0 ≤ a) (g_sw : n0 ≤ sw) (g_so : n0 ≤ so) (g_se : n0 ≤ se) (g_sa : n0 ≤ sa) (g_ea : n0 ≤ ea) :
    own_M l Z ym54 prog_17_method_2_code 7 (some .boolean) ⟨9, 12, 39, 3076⟩ #[.ref a, .ref tb, .ref tc] h0 (Q72 Z a tb tc om oM en cmi cma sa ea co sw so se em kM kO kE kx ky ka kb kc ko ke gM gA gk gs gt ct sd h0 n0) := by
  refine own_open kCP #[sR a, sR tb, sR tc, sU, sU, sU, sU] (plainFor_of_name own_pn21) DL50 rfl (fun m => own_ef72 m a tb tc) fun p e s m below meth c s₁ Bd B hZ hown X0 e0 Pq hPq => ?_
  have hx := B.x
  have hml := B.2.1
  have N0 := Fr.nil n0
  have K0 : Keep h0 h0 [a, sw, so, se, sa, ea] := Keep.refl _ _
  have z0_8 := own_ni ND 0 8 rfl rfl
  have z0_9 := own_ni ND 0 9 rfl rfl
  have z0_10 := own_ni ND 0 10 rfl rfl
  have z0_11 := own_ni ND 0 11 rfl rfl
  have z0_12 := own_ni ND 0 12 rfl rfl
  have z0_13 := own_ni ND 0 13 rfl rfl
  have z0_14 := own_ni ND 0 14 rfl rfl
  have z1_11 := own_ni ND 1 11 rfl rfl
  have z1_12 := own_ni ND 1 12 rfl rfl
  have z1_13 := own_ni ND 1 13 rfl rfl
  have z2_11 := own_ni ND 2 11 rfl rfl
  have z2_12 := own_ni ND 2 12 rfl rfl
  have z2_13 := own_ni ND 2 13 rfl rfl
  have z3_11 := own_ni ND 3 11 rfl rfl
  have z3_12 := own_ni ND 3 12 rfl rfl
  have z3_13 := own_ni ND 3 13 rfl rfl
  have z4_11 := own_ni ND 4 11 rfl rfl
  have z4_12 := own_ni ND 4 12 rfl rfl
  have z4_13 := own_ni ND 4 13 rfl rfl
  have z5_11 := own_ni ND 5 11 rfl rfl
  have z5_12 := own_ni ND 5 12 rfl rfl
  have z5_13 := own_ni ND 5 13 rfl rfl
  have z6_11 := own_ni ND 6 11 rfl rfl
  have z6_12 := own_ni ND 6 12 rfl rfl
  have z6_13 := own_ni ND 6 13 rfl rfl
  have z7_11 := own_ni ND 7 11 rfl rfl
  have z7_12 := own_ni ND 7 12 rfl rfl
  have z7_13 := own_ni ND 7 13 rfl rfl
  have z8_9 := own_ni ND 8 9 rfl rfl
  have z8_10 := own_ni ND 8 10 rfl rfl
  have z8_11 := own_ni ND 8 11 rfl rfl
  have z8_12 := own_ni ND 8 12 rfl rfl
  have z8_13 := own_ni ND 8 13 rfl rfl
  have z8_14 := own_ni ND 8 14 rfl rfl
  have z9_10 := own_ni ND 9 10 rfl rfl
  have z9_11 := own_ni ND 9 11 rfl rfl
  have z9_12 := own_ni ND 9 12 rfl rfl
  have z9_13 := own_ni ND 9 13 rfl rfl
  have z9_14 := own_ni ND 9 14 rfl rfl
  have z10_11 := own_ni ND 10 11 rfl rfl
  have z10_12 := own_ni ND 10 12 rfl rfl
  have z10_13 := own_ni ND 10 13 rfl rfl
  have z10_14 := own_ni ND 10 14 rfl rfl
  have z11_12 := own_ni ND 11 12 rfl rfl
  have z11_13 := own_ni ND 11 13 rfl rfl
  have z11_14 := own_ni ND 11 14 rfl rfl
  have z12_13 := own_ni ND 12 13 rfl rfl
  have z12_14 := own_ni ND 12 14 rfl rfl
  have z13_14 := own_ni ND 13 14 rfl rfl
  refine SaN X0 B 0 rfl rfl rfl ?_
  refine Kvi (wt := 0) (y := ym6) (some (.int 3)) X0 B hZ hown (hw 116 rfl) (hw 117 rfl) (hw 119 rfl) (hw 118 rfl) (hw 2 rfl) (hw 120 rfl) (rm6 hw tb om kM gM h0 n0 Z0 F0 F1 F4) e0 F0 own_pd___I 1 rfl rfl rfl (fun _ _ _ q => q.1) fun T1 Lc1 X1 hQ1 => ?_
  obtain ⟨-, NQ1, eq1⟩ := hQ1
  have N2 := Fr.app N0 NQ1
  show own_Go _ _ _ _ T1 (mkF m 4 _ [.int 3])
  obtain ⟨T3, h3, k3, X3, e3, E3, A3, EA3, st3⟩ := newPE X1 hx hZ (hw 21 rfl) eq1 (g := (mkF m 4 #[sR a, sR tb, sR tc, sU, sU, sU, sU] [.int 3])) rfl (B.d 2 rfl) rfl (by decide) (cap := 3) (by decide) (by decide) (by decide) (by decide) (ad := "[I") (by decide)
  obtain ⟨b3, g3⟩ : ∃ z, z = h0.size := ⟨_, rfl⟩
  rw [← g3] at A3 EA3 st3
  refine own_st st3 ?_
  have ne4 : tb ≠ b3 := own_nl F0.lt (Nat.le_of_eq g3.symm)
  have ne5 : om ≠ b3 := own_nl F4.lt (Nat.le_of_eq g3.symm)
  have ne6 : oM ≠ b3 := own_nl F5.lt (Nat.le_of_eq g3.symm)
  have ne7 : en ≠ b3 := own_nl F6.lt (Nat.le_of_eq g3.symm)
  have ne8 : tc ≠ b3 := own_nl F7.lt (Nat.le_of_eq g3.symm)
  have ne9 : cmi ≠ b3 := own_nl F10.lt (Nat.le_of_eq g3.symm)
  have ne10 : cma ≠ b3 := own_nl F11.lt (Nat.le_of_eq g3.symm)
  have ne11 : a ≠ b3 := own_nl F12.lt (Nat.le_of_eq g3.symm)
  have ne12 : sa ≠ b3 := own_nl F19.lt (Nat.le_of_eq g3.symm)
  have ne13 : ea ≠ b3 := own_nl F20.lt (Nat.le_of_eq g3.symm)
  have ne14 : co ≠ b3 := own_nl F21.lt (Nat.le_of_eq g3.symm)
  have ne15 : sw ≠ b3 := own_nl F23.lt (Nat.le_of_eq g3.symm)
  have ne16 : so ≠ b3 := own_nl F28.lt (Nat.le_of_eq g3.symm)
  have ne17 : se ≠ b3 := own_nl F29.lt (Nat.le_of_eq g3.symm)
  have ne18 : em ≠ b3 := own_nl F31.lt (Nat.le_of_eq g3.symm)
  have gx19 : n0 ≤ b3 := Nat.le_trans Z0 (Nat.le_of_eq g3.symm)
  have Z20 : n0 ≤ h3.size := Nat.le_trans Z0 E3.1
  have sz22 : h0.size ≤ b3 := Nat.le_trans K0.1 (Nat.le_of_eq g3.symm)
  have K21 := K0.ext E3
  have V3 : own_AI Z h3 b3 k3 3 (fun _ => (0 : Int32)) := own_AI.new A3 (by decide)
  show own_Go _ _ _ _ T3 (mkF m 6 _ [.ref b3])
  refine SasN #[sR a, sR tb, sR tc, sR b3, sU, sU, sU] X3 B 3 rfl rfl rfl ?_
  refine SaN X3 B 4 rfl rfl rfl ?_
  have f24 := (F17.ext E3)
  refine Kgf X3 B hZ hown (hw 109 rfl) Via.refl e3 f24 5 rfl fun T23 X23 e23 => ?_
  have f26 := (F23.ext E3)
  have f27 := (F24.ext E3)
  have f28 := (F25.ext E3)
  have f29 := (F26.ext E3)
  have f30 := (F27.ext E3)
  refine Kvi (wt := 0) (y := ym17) none X23 B hZ hown (hw 121 rfl) (hw 122 rfl) (hw 124 rfl) (hw 123 rfl) (hw 99 rfl) (hw 125 rfl) (rm17 hw sw so se ct sd h3 n0 Z20 f26 f27 f28 f29 f30 g_sw) e23 f26 own_pd___V 6 rfl rfl rfl (fun _ _ _ q => q.1) fun T25 Lc25 X25 hQ25 => ?_
  obtain ⟨-, NQ25, K25, fq25_0, fq25_1, fq25_2, fq25_3, fq25_4⟩ := hQ25
  have N31 := Fr.app N2 NQ25
  have Z32 : n0 ≤ T25.heap.size := Nat.le_trans Z20 K25.1
  have K33 := K21.trans K25 (allS (own_mI 1 rfl) all0)
  show own_Go _ _ _ _ T25 (mkF m 14 _ [])
  refine Sc 0 X25 B 7 rfl rfl ?_
  refine Sis #[sR a, sR tb, sR tc, sR b3, sI 0, sU, sU] X25 B 8 rfl rfl ?_
  refine Si X25 B 9 rfl rfl ?_
  refine SaN X25 B 10 rfl rfl rfl ?_
  have f35 := ((F0.ext E3).keep K25)
  have f36 := ((F1.ext E3).keep K25 (ninS z1_11 nin0))
  have f37 := ((F4.ext E3).keep K25 (ninS z2_11 nin0))
  refine Kvi (wt := 1) (y := ym6) (some (.int 3)) X25 B hZ hown (hw 116 rfl) (hw 117 rfl) (hw 119 rfl) (hw 118 rfl) (hw 2 rfl) (hw 120 rfl) (rm6 hw tb om kM gM T25.heap n0 Z32 f35 f36 f37) rfl f35 own_pd___I 11 rfl rfl rfl (fun _ _ _ q => q.1) fun T34 Lc34 X34 hQ34 => ?_
  obtain ⟨-, NQ34, eq34⟩ := hQ34
  have N38 := Fr.app N31 NQ34
  show own_Go _ _ _ _ T34 (mkF m 23 _ [.int 3, .int 0])
  refine Scn X34 B 12 rfl (tlt (by decide : ((0 : Int32) < (3 : Int32)))).2.1 ?_
  refine SaN X34 B 13 rfl rfl rfl ?_
  refine Si X34 B 14 rfl rfl ?_
  refine SaN X34 B 15 rfl rfl rfl ?_
  refine Si X34 B 16 rfl rfl ?_
  have f40 := ((F7.ext E3).keep K25)
  have f41 := ((F8.ext E3).keep K25 (ninS z5_11 nin0))
  have f42 := ((F10.ext E3).keep K25 (ninS z6_11 nin0))
  refine Kvi (wt := 2) (y := ym11) (some (.int (gA (0 : Int32).toNatClampNeg))) X34 B hZ hown (hw 130 rfl) (hw 131 rfl) (hw 133 rfl) (hw 132 rfl) (hw 53 rfl) (hw 134 rfl) (rm11 hw tc 0 cmi kx gA T25.heap n0 Z32 f40 f41 f42 ⟨by decide, by decide⟩) eq34 f40 own_pd__I_I 17 rfl rfl rfl (fun _ _ _ q => q.1) fun T39 Lc39 X39 hQ39 => ?_
  obtain ⟨-, NQ39, eq39⟩ := hQ39
  have N43 := Fr.app N38 NQ39
  show own_Go _ _ _ _ T39 (mkF m 35 _ [(.int (gA (0 : Int32).toNatClampNeg)), .int 0, .ref b3])
  have f45 := (V3.keep K25 (ninS (Ne.symm ne15) nin0))
  refine Kis 0 X39 B hZ eq39 f45 ⟨by decide, by decide⟩ rfl 18 rfl fun T44 h44 X44 e44 W44 f46 => ?_
  have N47 := Fr.snoc X44 N43 gx19
  have Z48 : n0 ≤ h44.size := Nat.le_trans Z32 (Nat.le_of_eq W44.size.symm)
  have K49 := K33.wr W44 (Or.inr sz22)
  refine SaN X44 B 19 rfl rfl rfl ?_
  refine Si X44 B 20 rfl rfl ?_
  have f51 := (f35.wr W44)
  have f52 := (((F2.ext E3).keep K25 (ninS z1_11 nin0)).other W44 (Or.inl ne4))
  have f53 := (((F5.ext E3).keep K25 (ninS z3_11 nin0)).other W44 ne6)
  refine Kvi (wt := 0) (y := ym7) (some (.int (own_tO (0 : Int32).toNatClampNeg))) X44 B hZ hown (hw 135 rfl) (hw 136 rfl) (hw 138 rfl) (hw 137 rfl) (hw 2 rfl) (hw 139 rfl) (rm7 hw tb 0 oM kO own_tO h44 n0 Z48 f51 f52 f53 ⟨by decide, by decide⟩) e44 f51 own_pd__I_I 21 rfl rfl rfl (fun _ _ _ q => q.1) fun T50 Lc50 X50 hQ50 => ?_
  obtain ⟨-, NQ50, eq50⟩ := hQ50
  have N54 := Fr.app N47 NQ50
  rw [show (own_tO (0 : Int32).toNatClampNeg) = (0 : Int32) by decide]
  show own_Go _ _ _ _ T50 (mkF m 42 _ [.int 0])
  refine Sis #[sR a, sR tb, sR tc, sR b3, sI 0, sI 0, sU] X50 B 22 rfl rfl ?_
  refine SaN X50 B 23 rfl rfl rfl ?_
  refine Si X50 B 24 rfl rfl ?_
  have f56 := (((F3.ext E3).keep K25 (ninS z1_11 nin0)).other W44 (Or.inl ne4))
  have f57 := (((F6.ext E3).keep K25 (ninS z4_11 nin0)).other W44 ne7)
  refine Kvi (wt := 0) (y := ym8) (some (.int (own_tE (0 : Int32).toNatClampNeg))) X50 B hZ hown (hw 140 rfl) (hw 141 rfl) (hw 143 rfl) (hw 142 rfl) (hw 2 rfl) (hw 144 rfl) (rm8 hw tb 0 en kE own_tE h44 n0 Z48 f51 f56 f57 ⟨by decide, by decide⟩) eq50 f51 own_pd__I_I 25 rfl rfl rfl (fun _ _ _ q => q.1) fun T55 Lc55 X55 hQ55 => ?_
  obtain ⟨-, NQ55, eq55⟩ := hQ55
  have N58 := Fr.app N54 NQ55
  rw [show (own_tE (0 : Int32).toNatClampNeg) = (2 : Int32) by decide]
  show own_Go _ _ _ _ T55 (mkF m 50 _ [.int 2])
  refine Sis #[sR a, sR tb, sR tc, sR b3, sI 0, sI 0, sI 2] X55 B 26 rfl rfl ?_
  refine SaN X55 B 27 rfl rfl rfl ?_
  refine Si X55 B 28 rfl rfl ?_
  have f60 := (f40.wr W44)
  have f61 := (f41.other W44 (Or.inl ne8))
  have f62 := (((F9.ext E3).keep K25 (ninS z5_11 nin0)).other W44 (Or.inl ne8))
  have f63 := (f42.other W44 ne9)
  have f64 := (((F11.ext E3).keep K25 (ninS z7_11 nin0)).other W44 ne10)
  refine Kvi (wt := 0) (y := ym12) (some (.int 1)) X55 B hZ hown (hw 145 rfl) (hw 146 rfl) (hw 148 rfl) (hw 147 rfl) (hw 53 rfl) (hw 149 rfl) (rm12 hw tc 0 cmi cma kx ky gA h44 n0 Z48 f60 f61 f62 f63 f64 ⟨by decide, by decide⟩) eq55 f60 own_pd__I_Z 29 rfl rfl rfl (fun _ _ _ q => q.1) fun T59 Lc59 X59 hQ59 => ?_
  obtain ⟨-, NQ59, eq59⟩ := hQ59
  have N65 := Fr.app N58 NQ59
  show own_Go _ _ _ _ T59 (mkF m 58 _ [.int 1])
  refine Sfn X59 B 30 rfl ((if0 _ _).trans (feq (by decide : ¬ ((1 : Int32) = (0 : Int32)))).1) ?_
  refine Si X59 B 31 rfl rfl ?_
  refine Si X59 B 32 rfl rfl ?_
  refine Scn X59 B 33 rfl (tlt (by decide : ((0 : Int32) < (2 : Int32)))).2.1 ?_
  refine SaN X59 B 34 rfl rfl rfl ?_
  have f67 := ((f24.keep K25 (ninS z0_11 nin0)).other W44 (Or.inl ne11))
  refine Kgf X59 B hZ hown (hw 109 rfl) Via.refl eq59 f67 35 rfl fun T66 X66 e66 => ?_
  refine Si X66 B 36 rfl rfl ?_
  refine Si X66 B 37 rfl rfl ?_
  refine Si X66 B 38 rfl rfl ?_
  have f69 := (fq25_0.wr W44)
  have f70 := (fq25_1.other W44 (Or.inl ne15))
  have f71 := (fq25_2.other W44 (Or.inl ne15))
  have f72 := (fq25_3.other W44 (Or.inl ne15))
  have f73 := (fq25_4.other W44 (Or.inl ne15))
  have f74 := (((F28.ext E3).keep K25 (ninS (Ne.symm z11_12) nin0)).other W44 ne16)
  have f75 := (((F29.ext E3).keep K25 (ninS (Ne.symm z11_13) nin0)).other W44 ne17)
  refine Kvi (wt := 0) (y := ym18) none X66 B hZ hown (hw 150 rfl) (hw 151 rfl) (hw 153 rfl) (hw 152 rfl) (hw 99 rfl) (hw 154 rfl) (rm18 hw sw 0 0 2 so se 0 0 ko ke (fun _ => 0) (fun _ => 0) h44 n0 Z48 f69 f70 f71 f72 f73 f74 f75 (by decide) ⟨by decide, by decide⟩ z12_13 (Ne.symm z11_12) (Ne.symm z11_13) g_sw g_so g_se) e66 f69 own_pd__III_V 39 rfl rfl rfl (fun _ _ _ q => q.1) fun T68 Lc68 X68 hQ68 => ?_
  obtain ⟨-, NQ68, K68, fq68_0, fq68_1, fq68_2, fq68_3, fq68_4, fq68_5, fq68_6⟩ := hQ68
  have N76 := Fr.app N65 NQ68
  have Z77 : n0 ≤ T68.heap.size := Nat.le_trans Z48 K68.1
  have K78 := K49.trans K68 (allS (own_mI 1 rfl) (allS (own_mI 2 rfl) (allS (own_mI 3 rfl) all0)))
  have fc68 : Fld Z T68.heap sw kSW "count" "I" (.int 1) := fq68_3
  show own_Go _ _ _ _ T68 (mkF m 81 _ [])
  refine own_st (fun t k => XS.iinc X68.here hx rfl (B.d 40 rfl) rfl (l' := #[sR a, sR tb, sR tc, sR b3, sI 1, sI 0, sI 2]) rfl k) ?_
  refine Sg 84 17 X68 B 41 rfl ?_
  refine Si X68 B 9 rfl rfl ?_
  refine SaN X68 B 10 rfl rfl rfl ?_
  have f80 := (f51.keep K68)
  have f81 := ((f36.other W44 (Or.inl ne4)).keep K68 (ninS z1_11 (ninS z1_12 (ninS z1_13 nin0))))
  have f82 := ((f37.other W44 ne5).keep K68 (ninS z2_11 (ninS z2_12 (ninS z2_13 nin0))))
  refine Kvi (wt := 1) (y := ym6) (some (.int 3)) X68 B hZ hown (hw 116 rfl) (hw 117 rfl) (hw 119 rfl) (hw 118 rfl) (hw 2 rfl) (hw 120 rfl) (rm6 hw tb om kM gM T68.heap n0 Z77 f80 f81 f82) rfl f80 own_pd___I 11 rfl rfl rfl (fun _ _ _ q => q.1) fun T79 Lc79 X79 hQ79 => ?_
  obtain ⟨-, NQ79, eq79⟩ := hQ79
  have N83 := Fr.app N76 NQ79
  show own_Go _ _ _ _ T79 (mkF m 23 _ [.int 3, .int 1])
  refine Scn X79 B 12 rfl (tlt (by decide : ((1 : Int32) < (3 : Int32)))).2.1 ?_
  refine SaN X79 B 13 rfl rfl rfl ?_
  refine Si X79 B 14 rfl rfl ?_
  refine SaN X79 B 15 rfl rfl rfl ?_
  refine Si X79 B 16 rfl rfl ?_
  have f85 := (f60.keep K68)
  have f86 := (f61.keep K68 (ninS z5_11 (ninS z5_12 (ninS z5_13 nin0))))
  have f87 := (f63.keep K68 (ninS z6_11 (ninS z6_12 (ninS z6_13 nin0))))
  refine Kvi (wt := 2) (y := ym11) (some (.int (gA (1 : Int32).toNatClampNeg))) X79 B hZ hown (hw 130 rfl) (hw 131 rfl) (hw 133 rfl) (hw 132 rfl) (hw 53 rfl) (hw 134 rfl) (rm11 hw tc 1 cmi kx gA T68.heap n0 Z77 f85 f86 f87 ⟨by decide, by decide⟩) eq79 f85 own_pd__I_I 17 rfl rfl rfl (fun _ _ _ q => q.1) fun T84 Lc84 X84 hQ84 => ?_
  obtain ⟨-, NQ84, eq84⟩ := hQ84
  have N88 := Fr.app N83 NQ84
  show own_Go _ _ _ _ T84 (mkF m 35 _ [(.int (gA (1 : Int32).toNatClampNeg)), .int 1, .ref b3])
  have f90 := (f46.keep K68 (ninS (Ne.symm ne15) (ninS (Ne.symm ne16) (ninS (Ne.symm ne17) nin0))))
  refine Kis 1 X84 B hZ eq84 f90 ⟨by decide, by decide⟩ rfl 18 rfl fun T89 h89 X89 e89 W89 f91 => ?_
  have N92 := Fr.snoc X89 N88 gx19
  have Z93 : n0 ≤ h89.size := Nat.le_trans Z77 (Nat.le_of_eq W89.size.symm)
  have K94 := K78.wr W89 (Or.inr sz22)
  refine SaN X89 B 19 rfl rfl rfl ?_
  refine Si X89 B 20 rfl rfl ?_
  have f96 := (f80.wr W89)
  have f97 := ((f52.keep K68 (ninS z1_11 (ninS z1_12 (ninS z1_13 nin0)))).other W89 (Or.inl ne4))
  have f98 := ((f53.keep K68 (ninS z3_11 (ninS z3_12 (ninS z3_13 nin0)))).other W89 ne6)
  refine Kvi (wt := 0) (y := ym7) (some (.int (own_tO (1 : Int32).toNatClampNeg))) X89 B hZ hown (hw 135 rfl) (hw 136 rfl) (hw 138 rfl) (hw 137 rfl) (hw 2 rfl) (hw 139 rfl) (rm7 hw tb 1 oM kO own_tO h89 n0 Z93 f96 f97 f98 ⟨by decide, by decide⟩) e89 f96 own_pd__I_I 21 rfl rfl rfl (fun _ _ _ q => q.1) fun T95 Lc95 X95 hQ95 => ?_
  obtain ⟨-, NQ95, eq95⟩ := hQ95
  have N99 := Fr.app N92 NQ95
  rw [show (own_tO (1 : Int32).toNatClampNeg) = (0 : Int32) by decide]
  show own_Go _ _ _ _ T95 (mkF m 42 _ [.int 0])
  refine Sis #[sR a, sR tb, sR tc, sR b3, sI 1, sI 0, sI 2] X95 B 22 rfl rfl ?_
  refine SaN X95 B 23 rfl rfl rfl ?_
  refine Si X95 B 24 rfl rfl ?_
  have f101 := ((f56.keep K68 (ninS z1_11 (ninS z1_12 (ninS z1_13 nin0)))).other W89 (Or.inl ne4))
  have f102 := ((f57.keep K68 (ninS z4_11 (ninS z4_12 (ninS z4_13 nin0)))).other W89 ne7)
  refine Kvi (wt := 0) (y := ym8) (some (.int (own_tE (1 : Int32).toNatClampNeg))) X95 B hZ hown (hw 140 rfl) (hw 141 rfl) (hw 143 rfl) (hw 142 rfl) (hw 2 rfl) (hw 144 rfl) (rm8 hw tb 1 en kE own_tE h89 n0 Z93 f96 f101 f102 ⟨by decide, by decide⟩) eq95 f96 own_pd__I_I 25 rfl rfl rfl (fun _ _ _ q => q.1) fun T100 Lc100 X100 hQ100 => ?_
  obtain ⟨-, NQ100, eq100⟩ := hQ100
  have N103 := Fr.app N99 NQ100
  rw [show (own_tE (1 : Int32).toNatClampNeg) = (1 : Int32) by decide]
  show own_Go _ _ _ _ T100 (mkF m 50 _ [.int 1])
  refine Sis #[sR a, sR tb, sR tc, sR b3, sI 1, sI 0, sI 1] X100 B 26 rfl rfl ?_
  refine SaN X100 B 27 rfl rfl rfl ?_
  refine Si X100 B 28 rfl rfl ?_
  have f105 := (f85.wr W89)
  have f106 := (f86.other W89 (Or.inl ne8))
  have f107 := ((f62.keep K68 (ninS z5_11 (ninS z5_12 (ninS z5_13 nin0)))).other W89 (Or.inl ne8))
  have f108 := (f87.other W89 ne9)
  have f109 := ((f64.keep K68 (ninS z7_11 (ninS z7_12 (ninS z7_13 nin0)))).other W89 ne10)
  refine Kvi (wt := 0) (y := ym12) (some (.int 1)) X100 B hZ hown (hw 145 rfl) (hw 146 rfl) (hw 148 rfl) (hw 147 rfl) (hw 53 rfl) (hw 149 rfl) (rm12 hw tc 1 cmi cma kx ky gA h89 n0 Z93 f105 f106 f107 f108 f109 ⟨by decide, by decide⟩) eq100 f105 own_pd__I_Z 29 rfl rfl rfl (fun _ _ _ q => q.1) fun T104 Lc104 X104 hQ104 => ?_
  obtain ⟨-, NQ104, eq104⟩ := hQ104
  have N110 := Fr.app N103 NQ104
  show own_Go _ _ _ _ T104 (mkF m 58 _ [.int 1])
  refine Sfn X104 B 30 rfl ((if0 _ _).trans (feq (by decide : ¬ ((1 : Int32) = (0 : Int32)))).1) ?_
  refine Si X104 B 31 rfl rfl ?_
  refine Si X104 B 32 rfl rfl ?_
  refine Scn X104 B 33 rfl (tlt (by decide : ((0 : Int32) < (1 : Int32)))).2.1 ?_
  refine SaN X104 B 34 rfl rfl rfl ?_
  have f112 := ((f67.keep K68 (ninS z0_11 (ninS z0_12 (ninS z0_13 nin0)))).other W89 (Or.inl ne11))
  refine Kgf X104 B hZ hown (hw 109 rfl) Via.refl eq104 f112 35 rfl fun T111 X111 e111 => ?_
  refine Si X111 B 36 rfl rfl ?_
  refine Si X111 B 37 rfl rfl ?_
  refine Si X111 B 38 rfl rfl ?_
  have f114 := (fq68_0.wr W89)
  have f115 := (fq68_1.other W89 (Or.inl ne15))
  have f116 := (fq68_2.other W89 (Or.inl ne15))
  have f117 := (fc68.other W89 (Or.inl ne15))
  have f118 := (fq68_4.other W89 (Or.inl ne15))
  have f119 := (fq68_5.other W89 ne16)
  have f120 := (fq68_6.other W89 ne17)
  refine Kvi (wt := 0) (y := ym18) none X111 B hZ hown (hw 150 rfl) (hw 151 rfl) (hw 153 rfl) (hw 152 rfl) (hw 99 rfl) (hw 154 rfl) (rm18 hw sw 1 0 1 so se 1 0 ko ke (own_updJ (fun _ => 0) (0 : Int32).toNatClampNeg (own_sev (0 : Int32) (0 : Int32))) (own_updJ (fun _ => 0) (0 : Int32).toNatClampNeg (own_sev (2 : Int32) (0 : Int32))) h89 n0 Z93 f114 f115 f116 f117 f118 f119 f120 (by decide) ⟨by decide, by decide⟩ z12_13 (Ne.symm z11_12) (Ne.symm z11_13) g_sw g_so g_se) e111 f114 own_pd__III_V 39 rfl rfl rfl (fun _ _ _ q => q.1) fun T113 Lc113 X113 hQ113 => ?_
  obtain ⟨-, NQ113, K113, fq113_0, fq113_1, fq113_2, fq113_3, fq113_4, fq113_5, fq113_6⟩ := hQ113
  have N121 := Fr.app N110 NQ113
  have Z122 : n0 ≤ T113.heap.size := Nat.le_trans Z93 K113.1
  have K123 := K94.trans K113 (allS (own_mI 1 rfl) (allS (own_mI 2 rfl) (allS (own_mI 3 rfl) all0)))
  have fc113 : Fld Z T113.heap sw kSW "count" "I" (.int 2) := fq113_3
  show own_Go _ _ _ _ T113 (mkF m 81 _ [])
  refine own_st (fun t k => XS.iinc X113.here hx rfl (B.d 40 rfl) rfl (l' := #[sR a, sR tb, sR tc, sR b3, sI 2, sI 0, sI 1]) rfl k) ?_
  refine Sg 84 17 X113 B 41 rfl ?_
  refine Si X113 B 9 rfl rfl ?_
  refine SaN X113 B 10 rfl rfl rfl ?_
  have f125 := (f96.keep K113)
  have f126 := ((f81.other W89 (Or.inl ne4)).keep K113 (ninS z1_11 (ninS z1_12 (ninS z1_13 nin0))))
  have f127 := ((f82.other W89 ne5).keep K113 (ninS z2_11 (ninS z2_12 (ninS z2_13 nin0))))
  refine Kvi (wt := 1) (y := ym6) (some (.int 3)) X113 B hZ hown (hw 116 rfl) (hw 117 rfl) (hw 119 rfl) (hw 118 rfl) (hw 2 rfl) (hw 120 rfl) (rm6 hw tb om kM gM T113.heap n0 Z122 f125 f126 f127) rfl f125 own_pd___I 11 rfl rfl rfl (fun _ _ _ q => q.1) fun T124 Lc124 X124 hQ124 => ?_
  obtain ⟨-, NQ124, eq124⟩ := hQ124
  have N128 := Fr.app N121 NQ124
  show own_Go _ _ _ _ T124 (mkF m 23 _ [.int 3, .int 2])
  refine Scn X124 B 12 rfl (tlt (by decide : ((2 : Int32) < (3 : Int32)))).2.1 ?_
  refine SaN X124 B 13 rfl rfl rfl ?_
  refine Si X124 B 14 rfl rfl ?_
  refine SaN X124 B 15 rfl rfl rfl ?_
  refine Si X124 B 16 rfl rfl ?_
  have f130 := (f105.keep K113)
  have f131 := (f106.keep K113 (ninS z5_11 (ninS z5_12 (ninS z5_13 nin0))))
  have f132 := (f108.keep K113 (ninS z6_11 (ninS z6_12 (ninS z6_13 nin0))))
  refine Kvi (wt := 2) (y := ym11) (some (.int (gA (2 : Int32).toNatClampNeg))) X124 B hZ hown (hw 130 rfl) (hw 131 rfl) (hw 133 rfl) (hw 132 rfl) (hw 53 rfl) (hw 134 rfl) (rm11 hw tc 2 cmi kx gA T113.heap n0 Z122 f130 f131 f132 ⟨by decide, by decide⟩) eq124 f130 own_pd__I_I 17 rfl rfl rfl (fun _ _ _ q => q.1) fun T129 Lc129 X129 hQ129 => ?_
  obtain ⟨-, NQ129, eq129⟩ := hQ129
  have N133 := Fr.app N128 NQ129
  show own_Go _ _ _ _ T129 (mkF m 35 _ [(.int (gA (2 : Int32).toNatClampNeg)), .int 2, .ref b3])
  have f135 := (f91.keep K113 (ninS (Ne.symm ne15) (ninS (Ne.symm ne16) (ninS (Ne.symm ne17) nin0))))
  refine Kis 2 X129 B hZ eq129 f135 ⟨by decide, by decide⟩ rfl 18 rfl fun T134 h134 X134 e134 W134 f136 => ?_
  have N137 := Fr.snoc X134 N133 gx19
  have Z138 : n0 ≤ h134.size := Nat.le_trans Z122 (Nat.le_of_eq W134.size.symm)
  have K139 := K123.wr W134 (Or.inr sz22)
  refine SaN X134 B 19 rfl rfl rfl ?_
  refine Si X134 B 20 rfl rfl ?_
  have f141 := (f125.wr W134)
  have f142 := ((f97.keep K113 (ninS z1_11 (ninS z1_12 (ninS z1_13 nin0)))).other W134 (Or.inl ne4))
  have f143 := ((f98.keep K113 (ninS z3_11 (ninS z3_12 (ninS z3_13 nin0)))).other W134 ne6)
  refine Kvi (wt := 0) (y := ym7) (some (.int (own_tO (2 : Int32).toNatClampNeg))) X134 B hZ hown (hw 135 rfl) (hw 136 rfl) (hw 138 rfl) (hw 137 rfl) (hw 2 rfl) (hw 139 rfl) (rm7 hw tb 2 oM kO own_tO h134 n0 Z138 f141 f142 f143 ⟨by decide, by decide⟩) e134 f141 own_pd__I_I 21 rfl rfl rfl (fun _ _ _ q => q.1) fun T140 Lc140 X140 hQ140 => ?_
  obtain ⟨-, NQ140, eq140⟩ := hQ140
  have N144 := Fr.app N137 NQ140
  rw [show (own_tO (2 : Int32).toNatClampNeg) = (1 : Int32) by decide]
  show own_Go _ _ _ _ T140 (mkF m 42 _ [.int 1])
  refine Sis #[sR a, sR tb, sR tc, sR b3, sI 2, sI 1, sI 1] X140 B 22 rfl rfl ?_
  refine SaN X140 B 23 rfl rfl rfl ?_
  refine Si X140 B 24 rfl rfl ?_
  have f146 := ((f101.keep K113 (ninS z1_11 (ninS z1_12 (ninS z1_13 nin0)))).other W134 (Or.inl ne4))
  have f147 := ((f102.keep K113 (ninS z4_11 (ninS z4_12 (ninS z4_13 nin0)))).other W134 ne7)
  refine Kvi (wt := 0) (y := ym8) (some (.int (own_tE (2 : Int32).toNatClampNeg))) X140 B hZ hown (hw 140 rfl) (hw 141 rfl) (hw 143 rfl) (hw 142 rfl) (hw 2 rfl) (hw 144 rfl) (rm8 hw tb 2 en kE own_tE h134 n0 Z138 f141 f146 f147 ⟨by decide, by decide⟩) eq140 f141 own_pd__I_I 25 rfl rfl rfl (fun _ _ _ q => q.1) fun T145 Lc145 X145 hQ145 => ?_
  obtain ⟨-, NQ145, eq145⟩ := hQ145
  have N148 := Fr.app N144 NQ145
  rw [show (own_tE (2 : Int32).toNatClampNeg) = (2 : Int32) by decide]
  show own_Go _ _ _ _ T145 (mkF m 50 _ [.int 2])
  refine Sis #[sR a, sR tb, sR tc, sR b3, sI 2, sI 1, sI 2] X145 B 26 rfl rfl ?_
  refine SaN X145 B 27 rfl rfl rfl ?_
  refine Si X145 B 28 rfl rfl ?_
  have f150 := (f130.wr W134)
  have f151 := (f131.other W134 (Or.inl ne8))
  have f152 := ((f107.keep K113 (ninS z5_11 (ninS z5_12 (ninS z5_13 nin0)))).other W134 (Or.inl ne8))
  have f153 := (f132.other W134 ne9)
  have f154 := ((f109.keep K113 (ninS z7_11 (ninS z7_12 (ninS z7_13 nin0)))).other W134 ne10)
  refine Kvi (wt := 0) (y := ym12) (some (.int 1)) X145 B hZ hown (hw 145 rfl) (hw 146 rfl) (hw 148 rfl) (hw 147 rfl) (hw 53 rfl) (hw 149 rfl) (rm12 hw tc 2 cmi cma kx ky gA h134 n0 Z138 f150 f151 f152 f153 f154 ⟨by decide, by decide⟩) eq145 f150 own_pd__I_Z 29 rfl rfl rfl (fun _ _ _ q => q.1) fun T149 Lc149 X149 hQ149 => ?_
  obtain ⟨-, NQ149, eq149⟩ := hQ149
  have N155 := Fr.app N148 NQ149
  show own_Go _ _ _ _ T149 (mkF m 58 _ [.int 1])
  refine Sfn X149 B 30 rfl ((if0 _ _).trans (feq (by decide : ¬ ((1 : Int32) = (0 : Int32)))).1) ?_
  refine Si X149 B 31 rfl rfl ?_
  refine Si X149 B 32 rfl rfl ?_
  refine Scn X149 B 33 rfl (tlt (by decide : ((1 : Int32) < (2 : Int32)))).2.1 ?_
  refine SaN X149 B 34 rfl rfl rfl ?_
  have f157 := ((f112.keep K113 (ninS z0_11 (ninS z0_12 (ninS z0_13 nin0)))).other W134 (Or.inl ne11))
  refine Kgf X149 B hZ hown (hw 109 rfl) Via.refl eq149 f157 35 rfl fun T156 X156 e156 => ?_
  refine Si X156 B 36 rfl rfl ?_
  refine Si X156 B 37 rfl rfl ?_
  refine Si X156 B 38 rfl rfl ?_
  have f159 := (fq113_0.wr W134)
  have f160 := (fq113_1.other W134 (Or.inl ne15))
  have f161 := (fq113_2.other W134 (Or.inl ne15))
  have f162 := (fc113.other W134 (Or.inl ne15))
  have f163 := (fq113_4.other W134 (Or.inl ne15))
  have f164 := (fq113_5.other W134 ne16)
  have f165 := (fq113_6.other W134 ne17)
  refine Kvi (wt := 0) (y := ym18) none X156 B hZ hown (hw 150 rfl) (hw 151 rfl) (hw 153 rfl) (hw 152 rfl) (hw 99 rfl) (hw 154 rfl) (rm18 hw sw 2 1 2 so se 2 0 ko ke (own_updJ (own_updJ (fun _ => 0) (0 : Int32).toNatClampNeg (own_sev (0 : Int32) (0 : Int32))) (1 : Int32).toNatClampNeg (own_sev (0 : Int32) (1 : Int32))) (own_updJ (own_updJ (fun _ => 0) (0 : Int32).toNatClampNeg (own_sev (2 : Int32) (0 : Int32))) (1 : Int32).toNatClampNeg (own_sev (1 : Int32) (1 : Int32))) h134 n0 Z138 f159 f160 f161 f162 f163 f164 f165 (by decide) ⟨by decide, by decide⟩ z12_13 (Ne.symm z11_12) (Ne.symm z11_13) g_sw g_so g_se) e156 f159 own_pd__III_V 39 rfl rfl rfl (fun _ _ _ q => q.1) fun T158 Lc158 X158 hQ158 => ?_
  obtain ⟨-, NQ158, K158, fq158_0, fq158_1, fq158_2, fq158_3, fq158_4, fq158_5, fq158_6⟩ := hQ158
  have N166 := Fr.app N155 NQ158
  have Z167 : n0 ≤ T158.heap.size := Nat.le_trans Z138 K158.1
  have K168 := K139.trans K158 (allS (own_mI 1 rfl) (allS (own_mI 2 rfl) (allS (own_mI 3 rfl) all0)))
  have fc158 : Fld Z T158.heap sw kSW "count" "I" (.int 3) := fq158_3
  show own_Go _ _ _ _ T158 (mkF m 81 _ [])
  refine own_st (fun t k => XS.iinc X158.here hx rfl (B.d 40 rfl) rfl (l' := #[sR a, sR tb, sR tc, sR b3, sI 3, sI 1, sI 2]) rfl k) ?_
  refine Sg 84 17 X158 B 41 rfl ?_
  refine Si X158 B 9 rfl rfl ?_
  refine SaN X158 B 10 rfl rfl rfl ?_
  have f170 := (f141.keep K158)
  have f171 := ((f126.other W134 (Or.inl ne4)).keep K158 (ninS z1_11 (ninS z1_12 (ninS z1_13 nin0))))
  have f172 := ((f127.other W134 ne5).keep K158 (ninS z2_11 (ninS z2_12 (ninS z2_13 nin0))))
  refine Kvi (wt := 1) (y := ym6) (some (.int 3)) X158 B hZ hown (hw 116 rfl) (hw 117 rfl) (hw 119 rfl) (hw 118 rfl) (hw 2 rfl) (hw 120 rfl) (rm6 hw tb om kM gM T158.heap n0 Z167 f170 f171 f172) rfl f170 own_pd___I 11 rfl rfl rfl (fun _ _ _ q => q.1) fun T169 Lc169 X169 hQ169 => ?_
  obtain ⟨-, NQ169, eq169⟩ := hQ169
  have N173 := Fr.app N166 NQ169
  show own_Go _ _ _ _ T169 (mkF m 23 _ [.int 3, .int 3])
  refine Scy 23 87 X169 B 12 rfl (flt (by decide : ¬ ((3 : Int32) < (3 : Int32)))).2.1 ?_
  refine SaN X169 B 42 rfl rfl rfl ?_
  have f175 := ((((((((F12.ext E3).keep K25).wr W44).keep K68).wr W89).keep K113).wr W134).keep K158)
  have f176 := ((((((((F13.ext E3).keep K25 (ninS z0_11 nin0)).other W44 (Or.inl ne11)).keep K68 (ninS z0_11 (ninS z0_12 (ninS z0_13 nin0)))).other W89 (Or.inl ne11)).keep K113 (ninS z0_11 (ninS z0_12 (ninS z0_13 nin0)))).other W134 (Or.inl ne11)).keep K158 (ninS z0_11 (ninS z0_12 (ninS z0_13 nin0))))
  have f177 := ((((((((F14.ext E3).keep K25 (ninS z0_11 nin0)).other W44 (Or.inl ne11)).keep K68 (ninS z0_11 (ninS z0_12 (ninS z0_13 nin0)))).other W89 (Or.inl ne11)).keep K113 (ninS z0_11 (ninS z0_12 (ninS z0_13 nin0)))).other W134 (Or.inl ne11)).keep K158 (ninS z0_11 (ninS z0_12 (ninS z0_13 nin0))))
  have f178 := ((((((((F15.ext E3).keep K25 (ninS z0_11 nin0)).other W44 (Or.inl ne11)).keep K68 (ninS z0_11 (ninS z0_12 (ninS z0_13 nin0)))).other W89 (Or.inl ne11)).keep K113 (ninS z0_11 (ninS z0_12 (ninS z0_13 nin0)))).other W134 (Or.inl ne11)).keep K158 (ninS z0_11 (ninS z0_12 (ninS z0_13 nin0))))
  have f179 := ((((((((F16.ext E3).keep K25 (ninS z0_11 nin0)).other W44 (Or.inl ne11)).keep K68 (ninS z0_11 (ninS z0_12 (ninS z0_13 nin0)))).other W89 (Or.inl ne11)).keep K113 (ninS z0_11 (ninS z0_12 (ninS z0_13 nin0)))).other W134 (Or.inl ne11)).keep K158 (ninS z0_11 (ninS z0_12 (ninS z0_13 nin0))))
  have f180 := (f157.keep K158 (ninS z0_11 (ninS z0_12 (ninS z0_13 nin0))))
  have f181 := ((((((((F18.ext E3).keep K25 (ninS z0_11 nin0)).other W44 (Or.inl ne11)).keep K68 (ninS z0_11 (ninS z0_12 (ninS z0_13 nin0)))).other W89 (Or.inl ne11)).keep K113 (ninS z0_11 (ninS z0_12 (ninS z0_13 nin0)))).other W134 (Or.inl ne11)).keep K158 (ninS z0_11 (ninS z0_12 (ninS z0_13 nin0))))
  refine Kup (wt := 0) (x := ym53) (z := ym22) none X169 B hZ hown (hw 158 rfl) (hw 159 rfl) (hw 160 rfl) (hw 162 rfl) (hw 161 rfl) (hw 86 rfl) (hw 163 rfl) (rm22 hw a 0 sa ea sw co T158.heap n0 Z167 f175 f176 f177 f178 f179 f180 f181 g_a) eq169 f175 own_pd___V 43 rfl rfl rfl (fun _ _ _ q => q.1) fun T174 Lc174 X174 hQ174 => ?_
  obtain ⟨-, NQ174, K174, fq174_0, fq174_1, fq174_2, fq174_3, fq174_4, fq174_5, fq174_6⟩ := hQ174
  have N182 := Fr.app N173 NQ174
  have Z183 : n0 ≤ T174.heap.size := Nat.le_trans Z167 K174.1
  have K184 := K168.trans K174 (allS (own_mI 0 rfl) all0)
  show own_Go _ _ _ _ T174 (mkF m 91 _ [])
  obtain ⟨T185, h185, X185, e185, E185, A185, D185, -, st185⟩ := newO X174 hx hZ hown (hw 166 rfl) (hw 167 rfl) (hw 168 rfl) rfl (g := (mkF m 91 #[sR a, sR tb, sR tc, sR b3, sI 3, sI 1, sI 2] [])) rfl (B.d 44 rfl) (by decide) (by decide)
  obtain ⟨b185, g185⟩ : ∃ z, z = T174.heap.size := ⟨_, rfl⟩
  rw [← g185] at A185 D185 st185
  refine own_st st185 ?_
  have ne193 : a ≠ b185 := own_nl fq174_0.lt (Nat.le_of_eq g185.symm)
  have ne194 : sa ≠ b185 := own_nl (((((((((F19.ext E3).keep K25 (ninS z8_11 nin0)).other W44 ne12).keep K68 (ninS z8_11 (ninS z8_12 (ninS z8_13 nin0)))).other W89 ne12).keep K113 (ninS z8_11 (ninS z8_12 (ninS z8_13 nin0)))).other W134 ne12).keep K158 (ninS z8_11 (ninS z8_12 (ninS z8_13 nin0)))).keep K174 (ninS (Ne.symm z0_8) nin0)).lt (Nat.le_of_eq g185.symm)
  have ne195 : ea ≠ b185 := own_nl (((((((((F20.ext E3).keep K25 (ninS z9_11 nin0)).other W44 ne13).keep K68 (ninS z9_11 (ninS z9_12 (ninS z9_13 nin0)))).other W89 ne13).keep K113 (ninS z9_11 (ninS z9_12 (ninS z9_13 nin0)))).other W134 ne13).keep K158 (ninS z9_11 (ninS z9_12 (ninS z9_13 nin0)))).keep K174 (ninS (Ne.symm z0_9) nin0)).lt (Nat.le_of_eq g185.symm)
  have ne196 : co ≠ b185 := own_nl (((((((((F21.ext E3).keep K25).wr W44).keep K68).wr W89).keep K113).wr W134).keep K158).keep K174).lt (Nat.le_of_eq g185.symm)
  have ne197 : sw ≠ b185 := own_nl (fq158_0.keep K174).lt (Nat.le_of_eq g185.symm)
  have ne198 : em ≠ b185 := own_nl (((((((((F31.ext E3).keep K25).wr W44).keep K68).wr W89).keep K113).wr W134).keep K158).keep K174).lt (Nat.le_of_eq g185.symm)
  have ne199 : b3 ≠ b185 := own_nl ((((((((EA3.keep K25).wr W44).keep K68).wr W89).keep K113).wr W134).keep K158).keep K174).lt (Nat.le_of_eq g185.symm)
  have ne200 : so ≠ b185 := own_nl (fq158_5.keep K174 (ninS (Ne.symm z0_12) nin0)).lt (Nat.le_of_eq g185.symm)
  have ne201 : se ≠ b185 := own_nl (fq158_6.keep K174 (ninS (Ne.symm z0_13) nin0)).lt (Nat.le_of_eq g185.symm)
  have gx202 : n0 ≤ b185 := Nat.le_trans Z183 (Nat.le_of_eq g185.symm)
  have Z203 : n0 ≤ h185.size := Nat.le_trans Z183 E185.1
  have sz205 : h0.size ≤ b185 := Nat.le_trans K184.1 (Nat.le_of_eq g185.symm)
  have K204 := K184.ext E185
  have f206 : Fld Z h185 b185 kDV "values" "[I" .null := D185 (Or.inr (hw 202 rfl)) (ty := (.array .int)) (by decide)
  have f207 : Fld Z h185 b185 kDV "ids" "[I" .null := D185 (Or.inr (hw 204 rfl)) (ty := (.array .int)) (by decide)
  have f208 : Fld Z h185 b185 kDV "counts" "[I" .null := D185 (Or.inr (hw 212 rfl)) (ty := (.array .int)) (by decide)
  have f209 : Fld Z h185 b185 kDV "carriers" "[I" .null := D185 (Or.inr (hw 214 rfl)) (ty := (.array .int)) (by decide)
  have f210 : Fld Z h185 b185 kDV "present" "[I" .null := D185 (Or.inr (hw 216 rfl)) (ty := (.array .int)) (by decide)
  have f211 : Fld Z h185 b185 kDV "places" "[I" .null := D185 (Or.inr (hw 218 rfl)) (ty := (.array .int)) (by decide)
  have f212 : Fld Z h185 b185 kDV "distinct" "I" (.int 0) := D185 (Or.inl (hw 266 rfl)) (ty := .int) (by decide)
  show own_Go _ _ _ _ T185 (mkF m 94 _ [.ref b185])
  refine own_st (fun t k => XS.dup X185.here hx rfl (B.d 45 rfl) rfl rfl k) ?_
  refine SaN X185 B 46 rfl rfl rfl ?_
  have f214 := (((((((((EA3.keep K25).wr W44).keep K68).wr W89).keep K113).wr W134).keep K158).keep K174).ext E185)
  have f215 := (((f136.keep K158 (ninS (Ne.symm ne15) (ninS (Ne.symm ne16) (ninS (Ne.symm ne17) nin0)))).keep K174 (ninS (Ne.symm ne11) nin0)).ext E185)
  refine Ksp (wt := 1) (y := ym41) none X185 B hZ hown (hw 169 rfl) (hw 170 rfl) (hw 168 rfl) (hw 171 rfl) (rm57 hw b185 b3 k3 (own_updI (own_updI (own_updI (fun _ => (0 : Int32)) 0 (gA (0 : Int32).toNatClampNeg)) 1 (gA (1 : Int32).toNatClampNeg)) 2 (gA (2 : Int32).toNatClampNeg)) (.null) (.null) (.null) (.null) (.null) (.null) h185 n0 Z203 A185 f206 f207 f208 f209 f210 f211 f212 f214 f215 hc1 ne199 gx202) e185 own_pd___I_V 47 rfl rfl rfl (fun _ _ _ q => by obtain ⟨_, _, _, _, _, _, _, _, _, _, _, _, _, _, _, e, _⟩ := q; exact e) fun T213 Lc213 X213 hQ213 => ?_
  obtain ⟨r213_un, r213_gV, r213_gi, r213_k_dv, r213_k_di, r213_k_dc, r213_k_dr, r213_k_dp, r213_k_dl, b213_dv, b213_di, b213_dc, b213_dr, b213_dp, b213_dl, -, NQ213, K213, gx_b213_dv, sz_b213_dv, gx_b213_di, sz_b213_di, gx_b213_dc, sz_b213_dc, gx_b213_dr, sz_b213_dr, gx_b213_dp, sz_b213_dp, gx_b213_dl, sz_b213_dl, fq213_0, fq213_1, fq213_2, fq213_3, fq213_4, fq213_5, fq213_6, fq213_7, fq213_8, fq213_9, fq213_10, fq213_11, fq213_12, fq213_13, hq213_0, hq213_1, hq213_2, hq213_3, hq213_4, hq213_5, hq213_6, hq213_7, hq213_8, hq213_9, hq213_10, hq213_11, hq213_12, hq213_13, hq213_14, hq213_15⟩ := hQ213
  have N216 := Fr.app N182 NQ213
  have Z217 : n0 ≤ T213.heap.size := Nat.le_trans Z203 K213.1
  have lt233 := (fq174_0.ext E185).lt
  have ne232 := own_nl lt233 sz_b213_dv
  have lt235 := ((((((((((F19.ext E3).keep K25 (ninS z8_11 nin0)).other W44 ne12).keep K68 (ninS z8_11 (ninS z8_12 (ninS z8_13 nin0)))).other W89 ne12).keep K113 (ninS z8_11 (ninS z8_12 (ninS z8_13 nin0)))).other W134 ne12).keep K158 (ninS z8_11 (ninS z8_12 (ninS z8_13 nin0)))).keep K174 (ninS (Ne.symm z0_8) nin0)).ext E185).lt
  have ne234 := own_nl lt235 sz_b213_dv
  have lt237 := ((((((((((F20.ext E3).keep K25 (ninS z9_11 nin0)).other W44 ne13).keep K68 (ninS z9_11 (ninS z9_12 (ninS z9_13 nin0)))).other W89 ne13).keep K113 (ninS z9_11 (ninS z9_12 (ninS z9_13 nin0)))).other W134 ne13).keep K158 (ninS z9_11 (ninS z9_12 (ninS z9_13 nin0)))).keep K174 (ninS (Ne.symm z0_9) nin0)).ext E185).lt
  have ne236 := own_nl lt237 sz_b213_dv
  have lt239 := ((((((((((F21.ext E3).keep K25).wr W44).keep K68).wr W89).keep K113).wr W134).keep K158).keep K174).ext E185).lt
  have ne238 := own_nl lt239 sz_b213_dv
  have lt241 := ((fq158_0.keep K174).ext E185).lt
  have ne240 := own_nl lt241 sz_b213_dv
  have lt243 := ((((((((((F31.ext E3).keep K25).wr W44).keep K68).wr W89).keep K113).wr W134).keep K158).keep K174).ext E185).lt
  have ne242 := own_nl lt243 sz_b213_dv
  have lt247 := ((fq158_5.keep K174 (ninS (Ne.symm z0_12) nin0)).ext E185).lt
  have ne246 := own_nl lt247 sz_b213_dv
  have lt249 := ((fq158_6.keep K174 (ninS (Ne.symm z0_13) nin0)).ext E185).lt
  have ne248 := own_nl lt249 sz_b213_dv
  have lt251 := A185.lt
  have ne250 := own_nl lt251 sz_b213_dv
  have ne259 := own_nl lt233 sz_b213_di
  have ne260 := own_nl lt235 sz_b213_di
  have ne261 := own_nl lt237 sz_b213_di
  have ne262 := own_nl lt239 sz_b213_di
  have ne263 := own_nl lt241 sz_b213_di
  have ne264 := own_nl lt243 sz_b213_di
  have ne266 := own_nl lt247 sz_b213_di
  have ne267 := own_nl lt249 sz_b213_di
  have ne268 := own_nl lt251 sz_b213_di
  have ne276 := own_nl lt233 sz_b213_dc
  have ne277 := own_nl lt235 sz_b213_dc
  have ne278 := own_nl lt237 sz_b213_dc
  have ne279 := own_nl lt239 sz_b213_dc
  have ne280 := own_nl lt241 sz_b213_dc
  have ne281 := own_nl lt243 sz_b213_dc
  have ne283 := own_nl lt247 sz_b213_dc
  have ne284 := own_nl lt249 sz_b213_dc
  have ne285 := own_nl lt251 sz_b213_dc
  have ne293 := own_nl lt233 sz_b213_dr
  have ne294 := own_nl lt235 sz_b213_dr
  have ne295 := own_nl lt237 sz_b213_dr
  have ne296 := own_nl lt239 sz_b213_dr
  have ne297 := own_nl lt241 sz_b213_dr
  have ne298 := own_nl lt243 sz_b213_dr
  have ne300 := own_nl lt247 sz_b213_dr
  have ne301 := own_nl lt249 sz_b213_dr
  have ne302 := own_nl lt251 sz_b213_dr
  have ne310 := own_nl lt233 sz_b213_dp
  have ne311 := own_nl lt235 sz_b213_dp
  have ne312 := own_nl lt237 sz_b213_dp
  have ne313 := own_nl lt239 sz_b213_dp
  have ne314 := own_nl lt241 sz_b213_dp
  have ne315 := own_nl lt243 sz_b213_dp
  have ne317 := own_nl lt247 sz_b213_dp
  have ne318 := own_nl lt249 sz_b213_dp
  have ne319 := own_nl lt251 sz_b213_dp
  have ne327 := own_nl lt233 sz_b213_dl
  have ne328 := own_nl lt235 sz_b213_dl
  have ne329 := own_nl lt237 sz_b213_dl
  have ne330 := own_nl lt239 sz_b213_dl
  have ne331 := own_nl lt241 sz_b213_dl
  have ne332 := own_nl lt243 sz_b213_dl
  have ne334 := own_nl lt247 sz_b213_dl
  have ne335 := own_nl lt249 sz_b213_dl
  have ne336 := own_nl lt251 sz_b213_dl
  have sz340 : h0.size ≤ b213_dc := Nat.le_trans K204.1 sz_b213_dc
  have sz341 : h0.size ≤ b213_dr := Nat.le_trans K204.1 sz_b213_dr
  have sz342 : h0.size ≤ b213_dp := Nat.le_trans K204.1 sz_b213_dp
  have sz343 : h0.size ≤ b213_dl := Nat.le_trans K204.1 sz_b213_dl
  have K337 := K204.trans K213 (allS (Or.inr sz205) all0)
  have HI := own_i3 hq213_0 hc1 hc2
  show own_Go _ _ _ _ T213 (mkF m 99 _ [.ref b185])
  refine Sas #[sR a, sR tb, sR tc, sR b3, sR b185, sI 1, sI 2] X213 B 48 rfl rfl rfl ?_
  refine SaN X213 B 49 rfl rfl rfl ?_
  have f345 := ((fq174_5.ext E185).keep K213 (ninS ne193 nin0))
  refine Kgf X213 B hZ hown (hw 109 rfl) Via.refl rfl f345 50 rfl fun T344 X344 e344 => ?_
  refine Sa X344 B 51 rfl rfl rfl ?_
  refine SaN X344 B 52 rfl rfl rfl ?_
  refine Sa X344 B 53 rfl rfl rfl ?_
  obtain ⟨cK346, T346, h346, hmd346, X346, e346, E346, FN346, st346⟩ := own_site X344 hx hZ Bd.named (hw 219 rfl) (hw 222 rfl) e344 (g := (mkF m 110 #[sR a, sR tb, sR tc, sR b3, sR b185, sI 1, sI 2] [.ref b185, .ref a, .ref b185, .ref sw])) rfl rfl (by rw [hml]; rfl) (B.d 54 rfl) (a := a) (d := b185) (rest := [.ref b185, .ref sw]) rfl (by show 2 * 0 + 4 + 3072 ≤ _; decide) (by decide) (by decide)
  obtain ⟨b346, g346⟩ : ∃ z, z = T213.heap.size := ⟨_, rfl⟩
  rw [← g346] at FN346 st346
  refine own_st st346 ?_
  have ne354 : a ≠ b346 := own_nl ((fq174_0.ext E185).keep K213).lt (Nat.le_of_eq g346.symm)
  have ne355 : sa ≠ b346 := own_nl (((((((((((F19.ext E3).keep K25 (ninS z8_11 nin0)).other W44 ne12).keep K68 (ninS z8_11 (ninS z8_12 (ninS z8_13 nin0)))).other W89 ne12).keep K113 (ninS z8_11 (ninS z8_12 (ninS z8_13 nin0)))).other W134 ne12).keep K158 (ninS z8_11 (ninS z8_12 (ninS z8_13 nin0)))).keep K174 (ninS (Ne.symm z0_8) nin0)).ext E185).keep K213 (ninS ne194 nin0)).lt (Nat.le_of_eq g346.symm)
  have ne356 : ea ≠ b346 := own_nl (((((((((((F20.ext E3).keep K25 (ninS z9_11 nin0)).other W44 ne13).keep K68 (ninS z9_11 (ninS z9_12 (ninS z9_13 nin0)))).other W89 ne13).keep K113 (ninS z9_11 (ninS z9_12 (ninS z9_13 nin0)))).other W134 ne13).keep K158 (ninS z9_11 (ninS z9_12 (ninS z9_13 nin0)))).keep K174 (ninS (Ne.symm z0_9) nin0)).ext E185).keep K213 (ninS ne195 nin0)).lt (Nat.le_of_eq g346.symm)
  have ne357 : co ≠ b346 := own_nl (((((((((((F21.ext E3).keep K25).wr W44).keep K68).wr W89).keep K113).wr W134).keep K158).keep K174).ext E185).keep K213).lt (Nat.le_of_eq g346.symm)
  have ne358 : sw ≠ b346 := own_nl (((fq158_0.keep K174).ext E185).keep K213).lt (Nat.le_of_eq g346.symm)
  have ne359 : em ≠ b346 := own_nl (((((((((((F31.ext E3).keep K25).wr W44).keep K68).wr W89).keep K113).wr W134).keep K158).keep K174).ext E185).keep K213).lt (Nat.le_of_eq g346.symm)
  have ne361 : so ≠ b346 := own_nl (((fq158_5.keep K174 (ninS (Ne.symm z0_12) nin0)).ext E185).keep K213 (ninS ne200 nin0)).lt (Nat.le_of_eq g346.symm)
  have ne362 : se ≠ b346 := own_nl (((fq158_6.keep K174 (ninS (Ne.symm z0_13) nin0)).ext E185).keep K213 (ninS ne201 nin0)).lt (Nat.le_of_eq g346.symm)
  have ne363 : b185 ≠ b346 := own_nl fq213_0.lt (Nat.le_of_eq g346.symm)
  have ne364 : b213_dv ≠ b346 := own_nl fq213_8.lt (Nat.le_of_eq g346.symm)
  have ne365 : b213_di ≠ b346 := own_nl fq213_9.lt (Nat.le_of_eq g346.symm)
  have ne366 : b213_dc ≠ b346 := own_nl fq213_10.lt (Nat.le_of_eq g346.symm)
  have ne367 : b213_dr ≠ b346 := own_nl fq213_11.lt (Nat.le_of_eq g346.symm)
  have ne368 : b213_dp ≠ b346 := own_nl fq213_12.lt (Nat.le_of_eq g346.symm)
  have ne369 : b213_dl ≠ b346 := own_nl fq213_13.lt (Nat.le_of_eq g346.symm)
  have Z371 : n0 ≤ h346.size := Nat.le_trans Z217 E346.1
  have K372 := K337.ext E346
  have f374 := ((((fq158_5.keep K174 (ninS (Ne.symm z0_12) nin0)).ext E185).keep K213 (ninS ne200 nin0)).ext E346)
  have f375 := own_AJ.cong3 (g2 := own_go) f374 (by decide) (by decide) (by decide)
  have f376 := ((((fq158_6.keep K174 (ninS (Ne.symm z0_13) nin0)).ext E185).keep K213 (ninS ne201 nin0)).ext E346)
  have f377 := own_AJ.cong3 (g2 := own_ge) f376 (by decide) (by decide) (by decide)
  show own_Go _ _ _ _ T346 (mkF m 115 _ [.ref b346, .ref b185, .ref sw])
  have f379 := ((((fq158_0.keep K174).ext E185).keep K213).ext E346)
  have f380 := ((((fq158_1.keep K174 (ninS (Ne.symm z0_11) nin0)).ext E185).keep K213 (ninS ne197 nin0)).ext E346)
  have f381 := ((((fq158_2.keep K174 (ninS (Ne.symm z0_11) nin0)).ext E185).keep K213 (ninS ne197 nin0)).ext E346)
  have f382 := ((((fc158.keep K174 (ninS (Ne.symm z0_11) nin0)).ext E185).keep K213 (ninS ne197 nin0)).ext E346)
  have f383 := ((((fq158_4.keep K174 (ninS (Ne.symm z0_11) nin0)).ext E185).keep K213 (ninS ne197 nin0)).ext E346)
  have f384 := (fq213_0.ext E346)
  have f385 := (fq213_1.ext E346)
  have f386 := (fq213_2.ext E346)
  have f387 := (fq213_3.ext E346)
  have f388 := (fq213_4.ext E346)
  have f389 := (fq213_5.ext E346)
  have f390 := (fq213_6.ext E346)
  have f391 := (fq213_7.ext E346)
  have f392 := (fq213_8.ext E346)
  have f393 := (fq213_9.ext E346)
  have f394 := (fq213_10.ext E346)
  have f395 := (fq213_11.ext E346)
  have f396 := (fq213_12.ext E346)
  have f397 := (fq213_13.ext E346)
  have f398 := (((fq174_0.ext E185).keep K213).ext E346)
  have f399 := (((fq174_1.ext E185).keep K213 (ninS ne193 nin0)).ext E346)
  have f400 := (((fq174_2.ext E185).keep K213 (ninS ne193 nin0)).ext E346)
  have f401 := (((fq174_3.ext E185).keep K213 (ninS ne193 nin0)).ext E346)
  have f402 := (((fq174_4.ext E185).keep K213 (ninS ne193 nin0)).ext E346)
  have f403 := (f345.ext E346)
  have f404 := (((fq174_6.ext E185).keep K213 (ninS ne193 nin0)).ext E346)
  have f405 := ((((((((((((F19.ext E3).keep K25 (ninS z8_11 nin0)).other W44 ne12).keep K68 (ninS z8_11 (ninS z8_12 (ninS z8_13 nin0)))).other W89 ne12).keep K113 (ninS z8_11 (ninS z8_12 (ninS z8_13 nin0)))).other W134 ne12).keep K158 (ninS z8_11 (ninS z8_12 (ninS z8_13 nin0)))).keep K174 (ninS (Ne.symm z0_8) nin0)).ext E185).keep K213 (ninS ne194 nin0)).ext E346)
  have f406 := ((((((((((((F20.ext E3).keep K25 (ninS z9_11 nin0)).other W44 ne13).keep K68 (ninS z9_11 (ninS z9_12 (ninS z9_13 nin0)))).other W89 ne13).keep K113 (ninS z9_11 (ninS z9_12 (ninS z9_13 nin0)))).other W134 ne13).keep K158 (ninS z9_11 (ninS z9_12 (ninS z9_13 nin0)))).keep K174 (ninS (Ne.symm z0_9) nin0)).ext E185).keep K213 (ninS ne195 nin0)).ext E346)
  have f407 := ((((((((((((F21.ext E3).keep K25).wr W44).keep K68).wr W89).keep K113).wr W134).keep K158).keep K174).ext E185).keep K213).ext E346)
  have f408 := ((((((((((((F22.ext E3).keep K25 (ninS z10_11 nin0)).other W44 ne14).keep K68 (ninS z10_11 (ninS z10_12 (ninS z10_13 nin0)))).other W89 ne14).keep K113 (ninS z10_11 (ninS z10_12 (ninS z10_13 nin0)))).other W134 ne14).keep K158 (ninS z10_11 (ninS z10_12 (ninS z10_13 nin0)))).keep K174 (ninS (Ne.symm z0_10) nin0)).ext E185).keep K213 (ninS ne196 nin0)).ext E346)
  have f409 := ((own_staK2 ((own_staK2 (own_staK2 ((own_staK2 ((own_staK2 ((own_staK2 (F30.ext E3) K25 (allS (own_nsE f26) all0)).wr W44) K68 (allS (own_nsE f69) (allS (own_nsJ f74) (allS (own_nsJ f75) all0)))).wr W89) K113 (allS (own_nsE f114) (allS (own_nsJ f119) (allS (own_nsJ f120) all0)))).wr W134) K158 (allS (own_nsE f159) (allS (own_nsJ f164) (allS (own_nsJ f165) all0)))) K174 (allS (own_nsE f175) all0)).ext E185) K213 (allS (own_nsE A185) all0)).ext E346)
  have f410 := ((((((((((((F31.ext E3).keep K25).wr W44).keep K68).wr W89).keep K113).wr W134).keep K158).keep K174).ext E185).keep K213).ext E346)
  refine Kvi (wt := 0) (y := ym51) (some (.ref em)) X346 B hZ hown (hw 223 rfl) (hw 224 rfl) (hw 226 rfl) (hw 225 rfl) (hw 99 rfl) (hw 227 rfl) (rm70 hw sw b185 b346 so se b213_dv b213_di b213_dc b213_dr b213_dp b213_dl a sa ea co em r213_un cK346 ko ke ka kb kc r213_k_dv r213_k_di r213_k_dc r213_k_dr r213_k_dp r213_k_dl r213_gV r213_gi gs gt gk h346 n0 Z371 f379 f380 f381 f382 f383 f375 f377 f384 f385 f386 f387 f388 f389 f390 f391 f392 f393 f394 f395 f396 f397 FN346 f398 f399 f400 f401 f402 f403 f404 f405 f406 f407 f408 f409 f410 HI hmd346 (List.nodup_cons.mpr ⟨(ninS z11_12 (ninS z11_13 (ninS ne197 (ninS ne240 (ninS ne263 (ninS ne280 (ninS ne297 (ninS ne314 (ninS ne331 (ninS (Ne.symm z0_11) (ninS (Ne.symm z8_11) (ninS (Ne.symm z9_11) (ninS (Ne.symm z10_11) (ninS ne358 (ninS z11_14 nin0))))))))))))))), (List.nodup_cons.mpr ⟨(ninS z12_13 (ninS ne200 (ninS ne246 (ninS ne266 (ninS ne283 (ninS ne300 (ninS ne317 (ninS ne334 (ninS (Ne.symm z0_12) (ninS (Ne.symm z8_12) (ninS (Ne.symm z9_12) (ninS (Ne.symm z10_12) (ninS ne361 (ninS z12_14 nin0)))))))))))))), (List.nodup_cons.mpr ⟨(ninS ne201 (ninS ne248 (ninS ne267 (ninS ne284 (ninS ne301 (ninS ne318 (ninS ne335 (ninS (Ne.symm z0_13) (ninS (Ne.symm z8_13) (ninS (Ne.symm z9_13) (ninS (Ne.symm z10_13) (ninS ne362 (ninS z13_14 nin0))))))))))))), (List.nodup_cons.mpr ⟨(ninS ne250 (ninS ne268 (ninS ne285 (ninS ne302 (ninS ne319 (ninS ne336 (ninS (Ne.symm ne193) (ninS (Ne.symm ne194) (ninS (Ne.symm ne195) (ninS (Ne.symm ne196) (ninS ne363 (ninS (Ne.symm ne198) nin0)))))))))))), (List.nodup_cons.mpr ⟨(ninS hq213_1 (ninS hq213_2 (ninS hq213_3 (ninS hq213_4 (ninS hq213_5 (ninS (Ne.symm ne232) (ninS (Ne.symm ne234) (ninS (Ne.symm ne236) (ninS (Ne.symm ne238) (ninS ne364 (ninS (Ne.symm ne242) nin0))))))))))), (List.nodup_cons.mpr ⟨(ninS hq213_6 (ninS hq213_7 (ninS hq213_8 (ninS hq213_9 (ninS (Ne.symm ne259) (ninS (Ne.symm ne260) (ninS (Ne.symm ne261) (ninS (Ne.symm ne262) (ninS ne365 (ninS (Ne.symm ne264) nin0)))))))))), (List.nodup_cons.mpr ⟨(ninS hq213_10 (ninS hq213_11 (ninS hq213_12 (ninS (Ne.symm ne276) (ninS (Ne.symm ne277) (ninS (Ne.symm ne278) (ninS (Ne.symm ne279) (ninS ne366 (ninS (Ne.symm ne281) nin0))))))))), (List.nodup_cons.mpr ⟨(ninS hq213_13 (ninS hq213_14 (ninS (Ne.symm ne293) (ninS (Ne.symm ne294) (ninS (Ne.symm ne295) (ninS (Ne.symm ne296) (ninS ne367 (ninS (Ne.symm ne298) nin0)))))))), (List.nodup_cons.mpr ⟨(ninS hq213_15 (ninS (Ne.symm ne310) (ninS (Ne.symm ne311) (ninS (Ne.symm ne312) (ninS (Ne.symm ne313) (ninS ne368 (ninS (Ne.symm ne315) nin0))))))), (List.nodup_cons.mpr ⟨(ninS (Ne.symm ne327) (ninS (Ne.symm ne328) (ninS (Ne.symm ne329) (ninS (Ne.symm ne330) (ninS ne369 (ninS (Ne.symm ne332) nin0)))))), (List.nodup_cons.mpr ⟨(ninS z0_8 (ninS z0_9 (ninS z0_10 (ninS ne354 (ninS z0_14 nin0))))), (List.nodup_cons.mpr ⟨(ninS z8_9 (ninS z8_10 (ninS ne355 (ninS z8_14 nin0)))), (List.nodup_cons.mpr ⟨(ninS z9_10 (ninS ne356 (ninS z9_14 nin0))), (List.nodup_cons.mpr ⟨(ninS ne357 (ninS z10_14 nin0)), (List.nodup_cons.mpr ⟨(ninS (Ne.symm ne359) nin0), (List.nodup_cons.mpr ⟨nin0, List.nodup_nil⟩)⟩)⟩)⟩)⟩)⟩)⟩)⟩)⟩)⟩)⟩)⟩)⟩)⟩)⟩)⟩) g_sw g_so g_se gx202 gx_b213_dc gx_b213_dr gx_b213_dp gx_b213_dl g_a g_sa g_ea) e346 f379 own_pd__Lcom_example_tidemark_tidemark_core_Sweep_Tally_Lcom_example_tidemark_tidemark_core_Sweep_Visitor__Ljava_util_OptionalInt_ 55 rfl rfl rfl (fun _ _ _ q => by obtain ⟨_, _, _, e, _⟩ := q; exact e) fun T378 Lc378 X378 hQ378 => ?_
  obtain ⟨r378_k_nb, r378_gC, b378_nb, -, NQ378, K378, gx_b378_nb, sz_b378_nb, fq378_0, fq378_1, fq378_2, fq378_3, hq378_0⟩ := hQ378
  have N411 := Fr.app N216 NQ378
  have Z412 : n0 ≤ T378.heap.size := Nat.le_trans Z371 K378.1
  have sz462 : h0.size ≤ b378_nb := Nat.le_trans K372.1 sz_b378_nb
  have K461 := K372.trans K378 (allS (own_mI 1 rfl) (allS (own_mI 2 rfl) (allS (own_mI 3 rfl) (allS (Or.inr sz205) (allS (Or.inr sz340) (allS (Or.inr sz341) (allS (Or.inr sz342) (allS (Or.inr sz343) (allS (own_mI 0 rfl) (allS (own_mI 4 rfl) (allS (own_mI 5 rfl) all0)))))))))))
  show own_Go _ _ _ _ T378 (mkF m 118 _ [.ref em])
  have f464 := (f410.keep K378)
  have f465 := (((((((((((((F32.ext E3).keep K25 (ninS (Ne.symm z11_14) nin0)).other W44 (Or.inl ne18)).keep K68 (ninS (Ne.symm z11_14) (ninS (Ne.symm z12_14) (ninS (Ne.symm z13_14) nin0)))).other W89 (Or.inl ne18)).keep K113 (ninS (Ne.symm z11_14) (ninS (Ne.symm z12_14) (ninS (Ne.symm z13_14) nin0)))).other W134 (Or.inl ne18)).keep K158 (ninS (Ne.symm z11_14) (ninS (Ne.symm z12_14) (ninS (Ne.symm z13_14) nin0)))).keep K174 (ninS (Ne.symm z0_14) nin0)).ext E185).keep K213 (ninS ne198 nin0)).ext E346).keep K378 (ninS (Ne.symm z11_14) (ninS (Ne.symm z12_14) (ninS (Ne.symm z13_14) (ninS ne198 (ninS ne281 (ninS ne298 (ninS ne315 (ninS ne332 (ninS (Ne.symm z0_14) (ninS (Ne.symm z8_14) (ninS (Ne.symm z9_14) nin0))))))))))))
  refine Kvi (wt := 0) (y := ym52) (some (.int 1)) X378 B hZ hown (hw 318 rfl) (hw 319 rfl) (hw 321 rfl) (hw 320 rfl) (hw 315 rfl) (hw 322 rfl) (rm71 hw em T378.heap n0 Z412 f464 f465) rfl f464 own_pd___Z 56 rfl rfl rfl (fun _ _ _ q => q.1) fun T463 Lc463 X463 hQ463 => ?_
  obtain ⟨-, NQ463, eq463⟩ := hQ463
  have N466 := Fr.app N411 NQ463
  show own_Go _ _ _ _ T463 (mkF m 121 _ [.int 1])
  refine own_oZ X463 B Bd 57 rfl hPq ?_
  rw [eq463]
  exact ⟨r378_k_nb, r378_gC, b378_nb, rfl, N466, K461, gx_b378_nb, sz462, fq378_0, fq378_1, fq378_2, fq378_3, ⟨_, _, _, (own_updI (own_updI (own_updI (fun _ => (0 : Int32)) 0 (gA (0 : Int32).toNatClampNeg)) 1 (gA (1 : Int32).toNatClampNeg)) 2 (gA (2 : Int32).toNatClampNeg)), ⟨rfl, rfl, rfl⟩, hq213_0, hq378_0⟩⟩
/-- the first n of the kept colours, those that are lo or hi moved to the front -/
def own_rt (lo hi : Int32) (g : Nat → Int32) : Nat → Int32 × (Nat → Int32)
  | 0 => (0, g)
  | n + 1 => if g n = lo ∨ g n = hi then ((own_rt lo hi g n).1 + (1 : Int32), own_updI (own_rt lo hi g n).2 (own_rt lo hi g n).1.toNatClampNeg (g n)) else own_rt lo hi g n
theorem own_rtb (lo hi : Int32) (g : Nat → Int32) (n : Nat) (hn : n ≤ 3) : ∃ q : Nat, q ≤ n ∧ (own_rt lo hi g n).1.toInt = q ∧ ∀ i, n ≤ i → (own_rt lo hi g n).2 i = g i := by
  induction n with
  | zero => exact ⟨0, Nat.le_refl _, rfl, fun i _ => rfl⟩
  | succ n ih =>
    obtain ⟨q, h1, h2, h3⟩ := ih (by omega)
    unfold own_rt
    by_cases c : g n = lo ∨ g n = hi
    · rw [if_pos c]
      generalize (own_rt lo hi g n).1 = z at h2
      have a := c_iadd z 1; have r := rng32 (z + 1)
      rw [show (1 : Int32).toInt = 1 from rfl] at a
      refine ⟨q + 1, by omega, by show (z + 1).toInt = _; omega, fun i hi => ?_⟩
      have e : z.toNatClampNeg = q := by simp only [Int32.toNatClampNeg]; omega
      show own_updI _ _ _ i = _
      unfold own_updI
      rw [if_neg (by rw [e]; omega)]; exact h3 i (by omega)
    · rw [if_neg c]; exact ⟨q, by omega, h2, fun i hi => h3 i (by omega)⟩
/-- the outer loop: n colours are done, place stands at pl -/
def own_ro (gC : Nat → Int32) (st : Nat) (g : Nat → Int32) (sz : Int32) (k : Nat) (ix cn pl : Int32) (gx : Nat → Int32) : Prop := ∃ n j N : Nat, sz.toInt = N ∧ N ≤ 3 ∧ n + k = N ∧ ix.toInt = n ∧ j ≤ 2 ∧ pl.toInt = (2 * st + j : Nat) ∧ own_rt (gC (2 * st)) (gC (2 * st + 1)) g n = (cn, gx) ∧ ∀ i m, i < j → n ≤ m → m < 3 → gC (2 * st + i) < g m
/-- the inner loop -/
def own_ri (gC : Nat → Int32) (st : Nat) (g : Nat → Int32) (sz : Int32) (k : Nat) (ix cn pl : Int32) (gx : Nat → Int32) (kk : Nat) : Prop := ∃ n j N : Nat, sz.toInt = N ∧ N ≤ 3 ∧ n < N ∧ n + k = N ∧ ix.toInt = n ∧ j + kk = 2 ∧ pl.toInt = (2 * st + j : Nat) ∧ own_rt (gC (2 * st)) (gC (2 * st + 1)) g n = (cn, gx) ∧ ∀ i m, i < j → n ≤ m → m < 3 → gC (2 * st + i) < g m
/-- what holds of the arguments -/
def own_rh (gC : Nat → Int32) (st : Nat) (g : Nat → Int32) : Prop := st ≤ 1 ∧ gC (2 * st) < gC (2 * st + 1) ∧ (g 0).toInt ≤ (g 1).toInt ∧ (g 1).toInt ≤ (g 2).toInt
theorem own_nt {x : Int32} {n : Nat} (h : x.toInt = n) : x.toNatClampNeg = n := by simp only [Int32.toNatClampNeg]; omega
section
variable {gC g gx : Nat → Int32} {st k kk : Nat} {sz ix cn pl : Int32}
theorem own_ro0 (h : own_rh gC st g) (hs : ∃ N : Nat, sz.toInt = N ∧ N ≤ 3) (hp : pl.toInt = (2 * st : Nat)) : own_ro gC st g sz sz.toNatClampNeg 0 0 pl g := by
  obtain ⟨N, h1, h2⟩ := hs
  exact ⟨0, 0, N, h1, h2, by rw [own_nt h1]; omega, rfl, by omega, hp, rfl, fun i m hi => absurd hi (Nat.not_lt_zero i)⟩
theorem own_ri0 (O : own_ro gC st g sz k ix cn pl gx) (c : ix < sz) : ∃ kk, own_ri gC st g sz k ix cn pl gx kk := by
  obtain ⟨n, j, N, h1, h2, h3, h4, h5, h6, h7, h8⟩ := O
  rw [Int32.lt_iff_toInt_lt] at c
  exact ⟨2 - j, n, j, N, h1, h2, by omega, h3, h4, by omega, h6, h7, h8⟩
/-- place against the end, the colour at place, the kept one at the index -/
theorem own_rib (h : own_rh gC st g) (O : own_ri gC st g sz k ix cn pl gx kk) : (¬ ix < 0 ∧ ix < (3 : Int32)) ∧ gx ix.toNatClampNeg = g ix.toNatClampNeg := by
  obtain ⟨n, j, N, h1, h2, h2', h3, h4, h5, h6, h7, h8⟩ := O
  obtain ⟨q, -, -, q3⟩ := own_rtb (gC (2 * st)) (gC (2 * st + 1)) g n (by omega)
  rw [h7] at q3
  simp only [Int32.lt_iff_toInt_lt, show (0 : Int32).toInt = 0 from rfl, show (3 : Int32).toInt = 3 from rfl]
  exact ⟨by omega, by rw [own_nt h4]; exact q3 n (Nat.le_refl _)⟩
theorem own_rip (h : own_rh gC st g) (O : own_ri gC st g sz k ix cn pl gx kk) (la : Int32) (hl : la.toInt = (2 * st + 2 : Nat)) (c : pl < la) : ¬ pl < 0 ∧ pl < (4 : Int32) := by
  obtain ⟨n, j, N, h1, h2, h2', h3, h4, h5, h6, h7, h8⟩ := O
  have := h.1
  simp only [Int32.lt_iff_toInt_lt, show (0 : Int32).toInt = 0 from rfl, show (4 : Int32).toInt = 4 from rfl] at *
  omega
theorem own_ri1 (h : own_rh gC st g) (O : own_ri gC st g sz k ix cn pl gx kk) (la : Int32) (hl : la.toInt = (2 * st + 2 : Nat)) (c : pl < la) (c2 : gC pl.toNatClampNeg < gx ix.toNatClampNeg) : kk - 1 < kk ∧ own_ri gC st g sz k ix cn (pl + (1 : Int32)) gx (kk - 1) := by
  have e := (own_rib h O).2
  rw [e] at c2
  obtain ⟨n, j, N, h1, h2, h2', h3, h4, h5, h6, h7, h8⟩ := O
  obtain ⟨s1, s2, s3, s4⟩ := h
  rw [own_nt h6, own_nt h4] at c2
  have a := c_iadd pl 1; have r := rng32 (pl + 1)
  rw [show (1 : Int32).toInt = 1 from rfl] at a
  rw [Int32.lt_iff_toInt_lt] at c
  refine ⟨by omega, n, j + 1, N, h1, h2, h2', h3, h4, by omega, by omega, h7, fun i m hi hm hm3 => ?_⟩
  by_cases q : i < j
  · exact h8 i m q hm hm3
  · obtain rfl : i = j := by omega
    rw [Int32.lt_iff_toInt_lt] at c2 ⊢
    have : (g n).toInt ≤ (g m).toInt := by
      rcases (show n = 0 ∨ n = 1 ∨ n = 2 by omega) with rfl | rfl | rfl <;> rcases (show m = 0 ∨ m = 1 ∨ m = 2 by omega) with rfl | rfl | rfl <;> omega
    omega
theorem own_ricn (O : own_ri gC st g sz k ix cn pl gx kk) : ¬ cn < 0 ∧ cn < (3 : Int32) := by
  obtain ⟨n, j, N, h1, h2, h2', h3, h4, h5, h6, h7, h8⟩ := O
  obtain ⟨q, q1, q2, -⟩ := own_rtb (gC (2 * st)) (gC (2 * st + 1)) g n (by omega)
  rw [h7] at q2
  simp only [Int32.lt_iff_toInt_lt, show (0 : Int32).toInt = 0 from rfl, show (3 : Int32).toInt = 3 from rfl]
  simp only [] at q2
  omega
/-- the kept one is shown -/
theorem own_ri2 (h : own_rh gC st g) (O : own_ri gC st g sz k ix cn pl gx kk) (la : Int32) (hl : la.toInt = (2 * st + 2 : Nat)) (c : pl < la) (c2 : gC pl.toNatClampNeg = gx ix.toNatClampNeg) : k - 1 < k ∧ own_ro gC st g sz (k - 1) (ix + (1 : Int32)) (cn + (1 : Int32)) pl (own_updI gx cn.toNatClampNeg (gx ix.toNatClampNeg)) := by
  have e := (own_rib h O).2
  rw [e] at c2 ⊢
  obtain ⟨n, j, N, h1, h2, h2', h3, h4, h5, h6, h7, h8⟩ := O
  rw [own_nt h6, own_nt h4] at c2
  rw [own_nt h4]
  have a := c_iadd ix 1; have r := rng32 (ix + 1)
  rw [show (1 : Int32).toInt = 1 from rfl] at a
  rw [Int32.lt_iff_toInt_lt] at c
  refine ⟨by omega, n + 1, j, N, h1, h2, by omega, by omega, by omega, h6, ?_, fun i m hi hm => h8 i m hi (by omega)⟩
  have d : g n = gC (2 * st) ∨ g n = gC (2 * st + 1) := by
    rcases (show j = 0 ∨ j = 1 by omega) with rfl | rfl
    · exact Or.inl c2.symm
    · exact Or.inr c2.symm
  unfold own_rt
  rw [if_pos d, h7]
/-- the kept one is not shown -/
theorem own_ri3 (h : own_rh gC st g) (O : own_ri gC st g sz k ix cn pl gx kk) (la : Int32) (hl : la.toInt = (2 * st + 2 : Nat)) (c1 : ¬ pl < la ∨ ¬ gC pl.toNatClampNeg < gx ix.toNatClampNeg) (c2 : ¬ pl < la ∨ ¬ gC pl.toNatClampNeg = gx ix.toNatClampNeg) : k - 1 < k ∧ own_ro gC st g sz (k - 1) (ix + (1 : Int32)) cn pl gx := by
  have e := (own_rib h O).2
  rw [e] at c1 c2
  obtain ⟨n, j, N, h1, h2, h2', h3, h4, h5, h6, h7, h8⟩ := O
  obtain ⟨s1, s2, s3, s4⟩ := h
  rw [own_nt h6, own_nt h4] at c1 c2
  have a := c_iadd ix 1; have r := rng32 (ix + 1)
  rw [show (1 : Int32).toInt = 1 from rfl] at a
  refine ⟨by omega, n + 1, j, N, h1, h2, by omega, by omega, by omega, h6, ?_, fun i m hi hm => h8 i m hi (by omega)⟩
  have d : ¬ (g n = gC (2 * st) ∨ g n = gC (2 * st + 1)) := by
    have b0 : 0 < j → gC (2 * st) < g n := fun q => h8 0 n q (Nat.le_refl _) (by omega)
    have b1 : 1 < j → gC (2 * st + 1) < g n := fun q => h8 1 n q (Nat.le_refl _) (by omega)
    simp only [← Int32.toInt_inj, Int32.lt_iff_toInt_lt] at *
    rcases (show j = 0 ∨ j = 1 ∨ j = 2 by omega) with rfl | rfl | rfl
    · simp only [Nat.add_zero] at c1 c2; omega
    · have := b0 (by omega); omega
    · have := b0 (by omega); have := b1 (by omega); omega
  unfold own_rt
  rw [if_neg d, h7]
theorem own_roe (O : own_ro gC st g sz k ix cn pl gx) (c : ¬ ix < sz) : own_rt (gC (2 * st)) (gC (2 * st + 1)) g sz.toNatClampNeg = (cn, gx) := by
  obtain ⟨n, j, N, h1, h2, h3, h4, h5, h6, h7, h8⟩ := O
  rw [Int32.lt_iff_toInt_lt] at c
  rw [own_nt h1, show N = n by omega]; exact h7
end
theorem own_pl0 {x : Int32} {st : Nat} {gC g : Nat → Int32} (h : x.toInt = (st : Int)) (r : own_rh gC st g) : (x * (2 : Int32)).toInt = (2 * st : Nat) ∧ ((x * (2 : Int32)) + (2 : Int32)).toInt = (2 * st + 2 : Nat) := by
  have a := c_imul x 2; have b := rng32 (x * 2); have d := c_iadd (x * 2) 2; have f := rng32 (x * 2 + 2); have q := r.1
  rw [show (2 : Int32).toInt = 2 from rfl] at a d
  rw [h] at a
  omega
theorem own_ef73 (m : MethodId) (a : Addr) (x0 : Int32) (pk : Addr) (x2 : Int32) : entryFrame m #[.ref a, .int x0, .ref pk, .int x2] 8 = mkF m 0 #[sR a, sI x0, sR pk, sI x2, sU, sU, sU, sU] [] := by first | (simp [entryFrame, mkF, argsToLocals, Value.category]; done) | rfl
def Q73 (Z : State) (a : Addr) (x0 : Int32) (pk : Addr) (x2 : Int32) (co : Addr) (kc kp : ClassId) (gC g : Nat → Int32) (stn : Nat) (h0 : Heap) (n0 : Nat) (v : Option Value) (h : Heap) (L : List Loc) : Prop := ∃ (cnr : Int32) (gr : Nat → Int32), v = some (.int cnr) ∧ Fr n0 L ∧ Keep h0 h [pk] ∧ own_AI Z h pk kp 3 gr ∧ own_rt (gC (2 * stn)) (gC (2 * stn + 1)) g x2.toNatClampNeg = (cnr, gr)
set_option maxRecDepth 65536 in
set_option maxHeartbeats 4000000 in
theorem rm73 {l : Launch} {Z : State} {a0 : Array Value} (hw : own_T a0 Z) (a : Addr) (x0 : Int32) (pk : Addr) (x2 : Int32) (co : Addr) (kc kp : ClassId) (gC g : Nat → Int32) (stn : Nat) (h0 : Heap) (n0 : Nat) (Z0 : n0 ≤ h0.size) (F0 : Exa Z h0 a kCP) (F1 : Fld Z h0 a kCP "limit" "I" (.int 2)) (F2 : Fld Z h0 a kCP "colours" "[I" (.ref co)) (F3 : own_AI Z h0 co kc 4 gC) (F4 : own_AI Z h0 pk kp 3 g) (hst : x0.toInt = (stn : Int)) (hR : own_rh gC stn g) (hN : ∃ N : Nat, x2.toInt = N ∧ N ≤ 3) (npc : pk ≠ co) (npa : pk ≠ a) (g_pk : n0 ≤ pk) :
    own_M l Z ym55 prog_17_method_8_code 8 (some .int) ⟨0, 0, 0, 0⟩ #[.ref a, .int x0, .ref pk, .int x2] h0 (Q73 Z a x0 pk x2 co kc kp gC g stn h0 n0) := by
  refine own_open kCP #[sR a, sI x0, sR pk, sI x2, sU, sU, sU, sU] (plainFor_of_name own_pn21) DL51 rfl (fun m => own_ef73 m a x0 pk x2) fun p e s m below meth c s₁ Bd B hZ hown X0 e0 Pq hPq => ?_
  have hx := B.x
  have N0 := Fr.nil n0
  have K0 : Keep h0 h0 [pk] := Keep.refl _ _
  have hla := (own_pl0 hst hR).2
  refine SiN X0 B 0 rfl rfl ?_
  refine SaN X0 B 1 rfl rfl rfl ?_
  refine Kgf X0 B hZ hown (hw 95 rfl) Via.refl e0 F1 2 rfl fun T1 X1 e1 => ?_
  refine own_st (fun t k => XS.imul X1.here hx rfl (B.d 3 rfl) rfl k) ?_
  refine Sis #[sR a, sI x0, sR pk, sI x2, sI (x0 * (2 : Int32)), sU, sU, sU] X1 B 4 rfl rfl ?_
  refine Si X1 B 5 rfl rfl ?_
  refine SaN X1 B 6 rfl rfl rfl ?_
  refine Kgf X1 B hZ hown (hw 95 rfl) Via.refl e1 F1 7 rfl fun T2 X2 e2 => ?_
  refine own_st (fun t k => XS.iadd X2.here hx rfl (B.d 8 rfl) rfl k) ?_
  refine Sis #[sR a, sI x0, sR pk, sI x2, sI (x0 * (2 : Int32)), sI ((x0 * (2 : Int32)) + (2 : Int32)), sU, sU] X2 B 9 rfl rfl ?_
  refine Sc 0 X2 B 10 rfl rfl ?_
  refine Sis #[sR a, sI x0, sR pk, sI x2, sI (x0 * (2 : Int32)), sI ((x0 * (2 : Int32)) + (2 : Int32)), sI 0, sU] X2 B 11 rfl rfl ?_
  refine Sc 0 X2 B 12 rfl rfl ?_
  refine Sis #[sR a, sI x0, sR pk, sI x2, sI (x0 * (2 : Int32)), sI ((x0 * (2 : Int32)) + (2 : Int32)), sI 0, sI 0] X2 B 13 rfl rfl ?_
  have Lpo : ∀ (kko : Nat) (Tlo : State) (Llo : List Loc) (hlo : Heap) (ix : Int32) (cn : Int32) (pl : Int32) (gx : Nat → Int32) , Stand p l e (⟨0, 0, 0, 0⟩ : Room) s m #[.ref a, .int x0, .ref pk, .int x2] below meth c Tlo Llo 0 0 → Tlo.heap = hlo → Fr n0 Llo → n0 ≤ hlo.size → Keep h0 hlo [pk] → (Exa Z hlo a kCP) → (Fld Z hlo a kCP "limit" "I" (.int 2)) → (Fld Z hlo a kCP "colours" "[I" (.ref co)) → (own_AI Z hlo co kc 4 gC) → (own_AI Z hlo pk kp 3 gx) → (own_ro gC stn g x2 kko ix cn pl gx) → own_Go p.tables e below Pq Tlo (mkF m 23 #[sR a, sI x0, sR pk, sI x2, sI pl, sI ((x0 * (2 : Int32)) + (2 : Int32)), sI cn, sI ix] []) := by
    intro kko
    induction kko using Nat.strongRecOn with
    | _ kko iho =>
      intro Tlo Llo hlo ix cn pl gx  Xlo elo Nlo Zlo Klo mo0 mo1 mo2 mo3 mo4 Ov
      show own_Go _ _ _ _ Tlo (mkF m 23 #[sR a, sI x0, sR pk, sI x2, sI pl, sI ((x0 * (2 : Int32)) + (2 : Int32)), sI cn, sI ix] [])
      refine Si Xlo B 14 rfl rfl ?_
      refine SiN Xlo B 15 rfl rfl ?_
      by_cases c3 : ix < x2
      · skip
        refine Scn Xlo B 16 rfl (tlt c3).2.1 ?_
        obtain ⟨kki0, Ri0⟩ := own_ri0 Ov c3
        have Lpi : ∀ (kki : Nat) (Tli : State) (Lli : List Loc) (pp : Int32) , Stand p l e (⟨0, 0, 0, 0⟩ : Room) s m #[.ref a, .int x0, .ref pk, .int x2] below meth c Tli Lli 0 0 → Tli.heap = hlo → Fr n0 Lli → (own_ri gC stn g x2 kko ix cn pp gx kki) → own_Go p.tables e below Pq Tli (mkF m 29 #[sR a, sI x0, sR pk, sI x2, sI pp, sI ((x0 * (2 : Int32)) + (2 : Int32)), sI cn, sI ix] []) := by
          intro kki
          induction kki using Nat.strongRecOn with
          | _ kki ihi =>
            intro Tli Lli pp  Xli eli Nli Iv
            show own_Go _ _ _ _ Tli (mkF m 29 #[sR a, sI x0, sR pk, sI x2, sI pp, sI ((x0 * (2 : Int32)) + (2 : Int32)), sI cn, sI ix] [])
            refine Si Xli B 17 rfl rfl ?_
            refine Si Xli B 18 rfl rfl ?_
            by_cases c4 : pp < ((x0 * (2 : Int32)) + (2 : Int32))
            · skip
              refine Scn Xli B 19 rfl (tlt c4).2.1 ?_
              refine SaN Xli B 20 rfl rfl rfl ?_
              refine Kgf Xli B hZ hown (hw 93 rfl) Via.refl eli mo2 21 rfl fun T5 X5 e5 => ?_
              refine Si X5 B 22 rfl rfl ?_
              refine Kil _ X5 B hZ e5 mo3 (own_rip hR Iv _ hla c4) rfl 23 rfl ?_
              refine SaN X5 B 24 rfl rfl rfl ?_
              refine Si X5 B 25 rfl rfl ?_
              refine Kil _ X5 B hZ e5 mo4 (own_rib hR Iv).1 rfl 26 rfl ?_
              by_cases c8 : (gC pp.toNatClampNeg) < (gx ix.toNatClampNeg)
              · skip
                refine Scn X5 B 27 rfl (tlt c8).2.1 ?_
                refine own_st (fun t k => XS.iinc X5.here hx rfl (B.d 28 rfl) rfl (l' := #[sR a, sI x0, sR pk, sI x2, sI (pp + (1 : Int32)), sI ((x0 * (2 : Int32)) + (2 : Int32)), sI cn, sI ix]) rfl k) ?_
                refine Sg 53 29 X5 B 29 rfl ?_
                exact ihi (kki - 1) (own_ri1 hR Iv _ hla c4 c8).1 T5 _ _ X5 e5 Nli (own_ri1 hR Iv _ hla c4 c8).2
              · skip
                refine Scy 47 56 X5 B 27 rfl (flt c8).2.1 ?_
                refine Si X5 B 30 rfl rfl ?_
                refine Si X5 B 31 rfl rfl ?_
                refine Scn X5 B 32 rfl (tlt c4).2.1 ?_
                refine SaN X5 B 33 rfl rfl rfl ?_
                refine Kgf X5 B hZ hown (hw 93 rfl) Via.refl e5 mo2 34 rfl fun T9 X9 e9 => ?_
                refine Si X9 B 35 rfl rfl ?_
                refine Kil _ X9 B hZ e9 mo3 (own_rip hR Iv _ hla c4) rfl 36 rfl ?_
                refine SaN X9 B 37 rfl rfl rfl ?_
                refine Si X9 B 38 rfl rfl ?_
                refine Kil _ X9 B hZ e9 mo4 (own_rib hR Iv).1 rfl 39 rfl ?_
                by_cases c12 : (gC pp.toNatClampNeg) = (gx ix.toNatClampNeg)
                · skip
                  refine Scn X9 B 40 rfl (teq c12).2 ?_
                  refine SaN X9 B 41 rfl rfl rfl ?_
                  refine Si X9 B 42 rfl rfl ?_
                  refine own_st (fun t k => XS.iinc X9.here hx rfl (B.d 43 rfl) rfl (l' := #[sR a, sI x0, sR pk, sI x2, sI pp, sI ((x0 * (2 : Int32)) + (2 : Int32)), sI (cn + (1 : Int32)), sI ix]) rfl k) ?_
                  refine SaN X9 B 44 rfl rfl rfl ?_
                  refine Si X9 B 45 rfl rfl ?_
                  refine Kil _ X9 B hZ e9 mo4 (own_rib hR Iv).1 rfl 46 rfl ?_
                  refine Kis _ X9 B hZ e9 mo4 (own_ricn Iv) rfl 47 rfl fun T14 h14 X14 e14 W14 f15 => ?_
                  have N16 := Fr.snoc X14 Nli g_pk
                  have Z17 : n0 ≤ h14.size := Nat.le_trans Zlo (Nat.le_of_eq W14.size.symm)
                  have K18 := Klo.wr W14 (own_mI 0 rfl)
                  refine own_st (fun t k => XS.iinc X14.here hx rfl (B.d 48 rfl) rfl (l' := #[sR a, sI x0, sR pk, sI x2, sI pp, sI ((x0 * (2 : Int32)) + (2 : Int32)), sI (cn + (1 : Int32)), sI (ix + (1 : Int32))]) rfl k) ?_
                  refine Sg 91 23 X14 B 49 rfl ?_
                  exact iho (kko - 1) (own_ri2 hR Iv _ hla c4 c12).1 T14 _ h14 _ _ _ _ X14 e14 N16 Z17 K18 (mo0.wr W14) (mo1.other W14 (Or.inl (Ne.symm npa))) (mo2.other W14 (Or.inl (Ne.symm npa))) (mo3.other W14 (Ne.symm npc)) f15 (own_ri2 hR Iv _ hla c4 c12).2
                · skip
                  refine Scy 74 88 X9 B 40 rfl (feq c12).2 ?_
                  refine own_st (fun t k => XS.iinc X9.here hx rfl (B.d 48 rfl) rfl (l' := #[sR a, sI x0, sR pk, sI x2, sI pp, sI ((x0 * (2 : Int32)) + (2 : Int32)), sI cn, sI (ix + (1 : Int32))]) rfl k) ?_
                  refine Sg 91 23 X9 B 49 rfl ?_
                  exact iho (kko - 1) (own_ri3 hR Iv _ hla (Or.inr c8) (Or.inr c12)).1 T9 _ hlo _ _ _ _ X9 e9 Nli Zlo Klo mo0 mo1 mo2 mo3 mo4 (own_ri3 hR Iv _ hla (Or.inr c8) (Or.inr c12)).2
            · skip
              refine Scy 33 56 Xli B 19 rfl (flt c4).2.1 ?_
              refine Si Xli B 30 rfl rfl ?_
              refine Si Xli B 31 rfl rfl ?_
              refine Scy 60 88 Xli B 32 rfl (flt c4).2.1 ?_
              refine own_st (fun t k => XS.iinc Xli.here hx rfl (B.d 48 rfl) rfl (l' := #[sR a, sI x0, sR pk, sI x2, sI pp, sI ((x0 * (2 : Int32)) + (2 : Int32)), sI cn, sI (ix + (1 : Int32))]) rfl k) ?_
              refine Sg 91 23 Xli B 49 rfl ?_
              exact iho (kko - 1) (own_ri3 hR Iv _ hla (Or.inl c4) (Or.inl c4)).1 Tli _ hlo _ _ _ _ Xli eli Nli Zlo Klo mo0 mo1 mo2 mo3 mo4 (own_ri3 hR Iv _ hla (Or.inl c4) (Or.inl c4)).2
        exact Lpi (kki0) Tlo _ pl Xlo elo Nlo Ri0
      · skip
        refine Scy 26 94 Xlo B 16 rfl (flt c3).2.1 ?_
        refine Si Xlo B 50 rfl rfl ?_
        refine own_oI Xlo B Bd 51 rfl hPq ?_
        rw [elo]
        exact ⟨cn, gx, rfl, Nlo, Klo, mo4, own_roe Ov c3⟩
  exact Lpo (x2.toNatClampNeg) T2 _ h0 (0 : Int32) (0 : Int32) _ g X2 e2 N0 Z0 K0 F0 F1 F2 F3 F4 (own_ro0 hR hN (own_pl0 hst hR).1)
theorem own_nc {x p v d : Int32} (q : p = (if d = (0 : Int32) then (1 : Int32) else d)) (h : (x + p) = v) : ¬ x = v := by
  intro e
  have hp : ¬ p = 0 := by
    rw [q]
    by_cases c : d = (0 : Int32)
    · rw [if_pos c]; decide
    · rw [if_neg c]; exact c
  apply hp
  have a := c_iadd x p; have r := rng32 p
  rw [h, ← e] at a
  refine Int32.toInt_inj.mp ?_
  rw [show (0 : Int32).toInt = 0 from rfl]; omega
theorem own_m1 {x v : Int32} (h : (x &&& (1 : Int32)) = v) : v = 0 ∨ v = 1 := by
  have e := c_mask x 1 1 (by decide) (by decide)
  rw [h] at e
  rcases (show v.toInt = 0 ∨ v.toInt = 1 by omega) with q | q
  · exact Or.inl (Int32.toInt_inj.mp q)
  · exact Or.inr (Int32.toInt_inj.mp q)
theorem own_st1 {x v : Int32} (h : (x &&& (1 : Int32)) = v) : v.toInt = (v.toNatClampNeg : Int) := by rcases own_m1 h with rfl | rfl <;> decide
theorem own_m3 {x v : Int32} (h : (x &&& (3 : Int32)) = v) : ∃ N : Nat, v.toInt = N ∧ N ≤ 3 := by
  have e := c_mask x 3 2 (by decide) (by decide)
  rw [h] at e
  exact ⟨v.toInt.toNat, by omega, by omega⟩
theorem own_sz {x v : Int32} (h : (x &&& (3 : Int32)) = v) : v = 0 ∨ v = 1 ∨ v = 2 ∨ v = 3 := by
  have e := c_mask x 3 2 (by decide) (by decide)
  rw [h] at e
  rcases (show v.toInt = 0 ∨ v.toInt = 1 ∨ v.toInt = 2 ∨ v.toInt = 3 by omega) with q | q | q | q
  · exact Or.inl (Int32.toInt_inj.mp q)
  · exact Or.inr (Or.inl (Int32.toInt_inj.mp q))
  · exact Or.inr (Or.inr (Or.inl (Int32.toInt_inj.mp q)))
  · exact Or.inr (Or.inr (Or.inr (Int32.toInt_inj.mp q)))
theorem own_fI {s : State} {args : Array Value} {t : Term} {C n d : String} {k : Int32} {a : Addr} (ev : t.eval args s none [] s = some (.ref a)) (h : (Jvm.Cond.eq (.field t C n d) (.int k)).value args s none s [] = some true) : Fld s s.heap a C n d (.int k) := by
  obtain ⟨x, y, h1, h2, h3, h4⟩ := cmp_v (Or.inl h)
  have e2 : y = .int k := (Option.some.inj ((Term.int_eval k).symm.trans h2)).symm
  subst e2
  have e1 := h1
  rw [fld_at ev] at e1
  cases x <;> simp [Cond.value, h1, h2] at h
  subst h
  exact Fld.start e1
theorem own_updI_same (g : Nat → Int32) (j : Nat) (x : Int32) : own_updI g j x j = x := if_pos rfl
theorem own_cvA (lo : Nat) (gx gp gv : Nat → Int32) : own_cvf lo gx gp gv lo = (if gp 1 < gp 0 then gv (gp 1).toNatClampNeg else gv (gp 0).toNatClampNeg) ∧ own_cvf lo gx gp gv (lo + 1) = (if gp 1 < gp 0 then gv (gp 0).toNatClampNeg else gv (gp 1).toNatClampNeg) := by
  have a : own_updI (own_updI gx lo (gp 0)) (lo + 1) (gp 1) lo = gp 0 := by unfold own_updI; rw [if_neg (by omega), if_pos rfl]
  have b : own_updI (own_updI gx lo (gp 0)) (lo + 1) (gp 1) (lo + 1) = gp 1 := by unfold own_updI; rw [if_pos rfl]
  have s0 : own_s2 lo (own_updI (own_updI gx lo (gp 0)) (lo + 1) (gp 1)) lo = (if gp 1 < gp 0 then gp 1 else gp 0) := by
    unfold own_s2
    generalize own_updI (own_updI gx lo (gp 0)) (lo + 1) (gp 1) = f at a b
    rw [a, b]
    split
    · exact if_pos rfl
    · exact a
  have s1 : own_s2 lo (own_updI (own_updI gx lo (gp 0)) (lo + 1) (gp 1)) (lo + 1) = (if gp 1 < gp 0 then gp 0 else gp 1) := by
    unfold own_s2
    generalize own_updI (own_updI gx lo (gp 0)) (lo + 1) (gp 1) = f at a b
    rw [a, b]
    split
    · show own_updI _ _ _ _ = _
      unfold own_updI; rw [if_neg (by omega), if_pos rfl]
    · exact b
  refine ⟨?_, ?_⟩
  · unfold own_cvf
    rw [s0, s1]
    show (if lo = lo + 1 then _ else own_updI _ lo _ lo) = _
    rw [if_neg (by omega), own_updI_same]
    split <;> rfl
  · unfold own_cvf
    rw [s0, s1, own_updI_same]
    split <;> rfl
theorem own_cvB (lo i : Nat) (gx gp gv : Nat → Int32) (h : i < lo) : own_cvf lo gx gp gv i = gx i := by
  unfold own_cvf own_s2
  have z : ∀ (f : Nat → Int32) (x y : Int32), own_updI (own_updI f lo x) (lo + 1) y i = f i := fun f x y => by unfold own_updI; rw [if_neg (by omega), if_neg (by omega)]
  rw [z]
  split
  · show own_updI (own_updI _ (lo + 1) _) lo _ i = _
    unfold own_updI; rw [if_neg (by omega), if_neg (by omega), if_neg (by omega), if_neg (by omega)]
  · exact z _ _ _
/-- numbers sort as their values do -/
theorem own_mono {g gV gi : Nat → Int32} {un : Int32} (D : own_dvp g un gV gi) {i k : Nat} (hi : i < 3) (hk : k < 3) (h : gi i < gi k) : g i < g k := by
  obtain ⟨hu, hD, m0, m1⟩ := D
  obtain ⟨⟨a1, a2⟩, a3⟩ := hD i hi
  obtain ⟨⟨b1, b2⟩, b3⟩ := hD k hk
  rw [← a3, ← b3]
  simp only [Int32.lt_iff_toInt_lt, show (0 : Int32).toInt = 0 from rfl] at a1 a2 b1 b2 h
  have u : un.toInt = 2 ∨ un.toInt = 3 := by rcases hu with rfl | rfl <;> decide
  have e : (gi i).toNatClampNeg = (gi i).toInt.toNat := rfl
  have e' : (gi k).toNatClampNeg = (gi k).toInt.toNat := rfl
  rw [e, e']
  rcases (show (gi i).toInt = 0 ∨ (gi i).toInt = 1 ∨ (gi i).toInt = 2 by omega) with q | q | q <;> rcases (show (gi k).toInt = 0 ∨ (gi k).toInt = 1 ∨ (gi k).toInt = 2 by omega) with q' | q' | q' <;> rw [q, q']
  all_goals first | exact m0 | (exfalso; omega) | skip
  · have m := m1 (by rcases hu with rfl | rfl; exact absurd b2 (by rw [q']; decide); rfl)
    show gV 0 < gV 2
    rw [Int32.lt_iff_toInt_lt] at m0 m ⊢; omega
  · exact m1 (by rcases hu with rfl | rfl; exact absurd b2 (by rw [q']; decide); rfl)
theorem own_pairI {g gV gi : Nat → Int32} {un : Int32} (D : own_dvp g un gV gi) {i k : Nat} (hi : i < 3) (hk : k < 3) (hn : ¬ g i = g k) : (if gi k < gi i then gV (gi k).toNatClampNeg else gV (gi i).toNatClampNeg) = own_min (g i) (g k) ∧ (if gi k < gi i then gV (gi i).toNatClampNeg else gV (gi k).toNatClampNeg) = own_mxi (g i) (g k) := by
  have a := (D.2.1 i hi).2; have b := (D.2.1 k hk).2
  rw [a, b]
  unfold own_min own_mxi
  by_cases c : gi k < gi i
  · have m := own_mono D hk hi c
    rw [if_pos c, if_pos c, if_pos m, if_neg (fun z => by rw [Int32.lt_iff_toInt_lt] at m z; omega)]
    exact ⟨rfl, rfl⟩
  · have m : g i < g k := own_mono D hi hk (own_ltI (by rw [Int32.lt_iff_toInt_lt] at c; omega) (fun z => hn (by rw [← a, ← b, z])))
    rw [if_neg c, if_neg c, if_pos m, if_neg (fun z => by rw [Int32.lt_iff_toInt_lt] at m z; omega)]
    exact ⟨rfl, rfl⟩
theorem own_cols {gA gC : Nat → Int32} (B : own_bd gA gC) (h1 : ¬ gA 0 = gA 1) (h2 : ¬ gA 0 = gA 2) : (gC 0 = own_min (gA 0) (gA 1) ∧ gC 1 = own_mxi (gA 0) (gA 1)) ∧ (gC 2 = own_min (gA 0) (gA 2) ∧ gC 3 = own_mxi (gA 0) (gA 2)) := by
  obtain ⟨un, gV, gi, g, ⟨g0, g1, g2⟩, D, p, q, p0, p1, q0, q1, rfl⟩ := B
  rw [show (0 : Int32).toNatClampNeg = 0 by decide] at p0 q0
  rw [show (1 : Int32).toNatClampNeg = 1 by decide] at p1
  rw [show (2 : Int32).toNatClampNeg = 2 by decide] at q1
  have P := own_pairI D (i := 0) (k := 1) (by decide) (by decide) (by rw [g0, g1]; exact h1)
  have P2 := own_pairI D (i := 0) (k := 2) (by decide) (by decide) (by rw [g0, g2]; exact h2)
  have c0 := own_cvA 0 (own_i2 0 0) p gV; have c2 := own_cvA 2 (own_i4 (own_cvf 0 (own_i2 0 0) p gV 0) (own_cvf 0 (own_i2 0 0) p gV 1) 0 0) q gV
  rw [p0, p1] at c0
  rw [q0, q1] at c2
  rw [g0, g1] at P
  rw [g0, g2] at P2
  refine ⟨⟨?_, ?_⟩, ?_, ?_⟩
  · rw [own_cvB 2 0 _ _ _ (by decide)]; exact c0.1.trans P.1
  · rw [own_cvB 2 1 _ _ _ (by decide)]; exact c0.2.trans P.2
  · exact c2.1.trans P2.1
  · exact c2.2.trans P2.2
theorem own_srt3n {a b c p q r s t u : Int32} (h1 : p = if b < a then b else a) (h2 : q = if b < a then a else b) (h3 : r = if c < q then c else q) (h4 : s = if c < q then q else c) (h5 : t = if r < p then r else p) (h6 : u = if r < p then p else r) : t.toInt ≤ u.toInt ∧ u.toInt ≤ s.toInt := by
  by_cases c1 : b < a
  all_goals (
    first | rw [if_pos c1] at h1 h2 | rw [if_neg c1] at h1 h2
    by_cases c2 : c < q
    all_goals (
      first | rw [if_pos c2] at h3 h4 | rw [if_neg c2] at h3 h4
      by_cases c3 : r < p
      all_goals (
        first | rw [if_pos c3] at h5 h6 | rw [if_neg c3] at h5 h6
        subst h1 h2 h3 h4 h5 h6
        rw [Int32.lt_iff_toInt_lt] at c1 c2 c3
        omega)))
theorem own_mm {x c : Int32} (h : ¬ x = c) : own_min x c < own_mxi x c := by
  have n : ¬ x.toInt = c.toInt := fun q => h (Int32.toInt_inj.mp q)
  unfold own_min own_mxi
  repeat' split
  all_goals (simp only [Int32.lt_iff_toInt_lt] at *; omega)
/-- the two colours of the stretch -/
theorem own_lohi {gA gC : Nat → Int32} {v p : Int32} (B : own_bd gA gC) (h1 : ¬ gA 0 = gA 1) (h2 : ¬ gA 0 = gA 2) (hv : v = 0 ∨ v = 1) (hp : p = if v = (0 : Int32) then gA 1 else gA 2) : gC (2 * v.toNatClampNeg) = own_min (gA 0) p ∧ gC (2 * v.toNatClampNeg + 1) = own_mxi (gA 0) p ∧ ¬ gA 0 = p ∧ v.toNatClampNeg ≤ 1 := by
  obtain ⟨⟨a, b⟩, c, d⟩ := own_cols B h1 h2
  rcases hv with rfl | rfl
  · rw [if_pos rfl] at hp
    subst hp
    exact ⟨a, b, h1, by decide⟩
  · rw [if_neg (by decide)] at hp
    subst hp
    exact ⟨c, d, h2, by decide⟩
theorem own_hRl {gA gC g : Nat → Int32} {v p : Int32} (B : own_bd gA gC) (h1 : ¬ gA 0 = gA 1) (h2 : ¬ gA 0 = gA 2) (hv : v = 0 ∨ v = 1) (hp : p = if v = (0 : Int32) then gA 1 else gA 2) (hs : (g 0).toInt ≤ (g 1).toInt ∧ (g 1).toInt ≤ (g 2).toInt) : own_rh gC v.toNatClampNeg g := by
  obtain ⟨a, b, c, d⟩ := own_lohi B h1 h2 hv hp
  exact ⟨d, by rw [a, b]; exact own_mm c, hs.1, hs.2⟩
theorem own_ifor {α : Type} {c d : Prop} [Decidable c] [Decidable d] (x y : α) : (if c then x else if d then x else y) = if c ∨ d then x else y := by
  by_cases p : c
  · rw [if_pos p, if_pos (Or.inl p)]
  · rw [if_neg p]
    by_cases q : d
    · rw [if_pos q, if_pos (Or.inr q)]
    · rw [if_neg q, if_neg (fun z => z.elim p q)]
theorem own_fl {lo hi k0 k1 k2 sz n1 n2 n3 cn : Int32} {e1 e2 e3 gr : Nat → Int32} (hN : sz = 0 ∨ sz = 1 ∨ sz = 2 ∨ sz = 3)
    (q1 : n1 = (if (0 : Int32) < sz then (if k0 = lo then (1 : Int32) else (if k0 = hi then (1 : Int32) else (0 : Int32))) else (0 : Int32)))
    (f1 : e1 = (if (0 : Int32) < sz then (if k0 = lo then (own_updI (fun _ => (0 : Int32)) 0 k0) else (if k0 = hi then (own_updI (fun _ => (0 : Int32)) 0 k0) else (fun _ => (0 : Int32)))) else (fun _ => (0 : Int32))))
    (q2 : n2 = (if (1 : Int32) < sz then (if k1 = lo then (n1 + (1 : Int32)) else (if k1 = hi then (n1 + (1 : Int32)) else n1)) else n1))
    (f2 : e2 = (if (1 : Int32) < sz then (if k1 = lo then (own_updI e1 n1.toNatClampNeg k1) else (if k1 = hi then (own_updI e1 n1.toNatClampNeg k1) else e1)) else e1))
    (q3 : n3 = (if (2 : Int32) < sz then (if k2 = lo then (n2 + (1 : Int32)) else (if k2 = hi then (n2 + (1 : Int32)) else n2)) else n2))
    (f3 : e3 = (if (2 : Int32) < sz then (if k2 = lo then (own_updI e2 n2.toNatClampNeg k2) else (if k2 = hi then (own_updI e2 n2.toNatClampNeg k2) else e2)) else e2))
    (R : own_rt lo hi (own_updI (own_updI (own_updI (fun _ => (0 : Int32)) 0 k0) 1 k1) 2 k2) sz.toNatClampNeg = (cn, gr)) :
    cn = n3 ∧ (¬ n3 < (1 : Int32) → gr 0 = e3 0) ∧ (¬ n3 < (2 : Int32) → gr 1 = e3 1) ∧ (¬ n3 < (3 : Int32) → gr 2 = e3 2) ∧ (¬ (0 : Int32) < sz → gr 0 = k0) ∧ (¬ (1 : Int32) < sz → gr 1 = k1) ∧ (¬ (2 : Int32) < sz → gr 2 = k2) := by
  rw [own_ifor] at q1 f1 q2 f2 q3 f3
  have g0 : (own_updI (own_updI (own_updI (fun _ => (0 : Int32)) 0 k0) 1 k1) 2 k2) 0 = k0 := rfl
  have g1 : (own_updI (own_updI (own_updI (fun _ => (0 : Int32)) 0 k0) 1 k1) 2 k2) 1 = k1 := rfl
  have g2 : (own_updI (own_updI (own_updI (fun _ => (0 : Int32)) 0 k0) 1 k1) 2 k2) 2 = k2 := rfl
  generalize (own_updI (own_updI (own_updI (fun _ => (0 : Int32)) 0 k0) 1 k1) 2 k2) = G at R g0 g1 g2
  have t0 : (0 : Int32).toNatClampNeg = 0 := by decide
  have t1 : (1 : Int32).toNatClampNeg = 1 := by decide
  have t2 : (2 : Int32).toNatClampNeg = 2 := by decide
  have t3 : (3 : Int32).toNatClampNeg = 3 := by decide
  have a1 : (0 : Int32) + 1 = 1 := by decide
  have a2 : (1 : Int32) + 1 = 2 := by decide
  have a3 : (2 : Int32) + 1 = 3 := by decide
  rcases hN with rfl | rfl | rfl | rfl
  · rw [if_neg (by decide)] at q1 f1 q2 f2 q3 f3
    rw [t0] at R
    obtain ⟨rfl, rfl⟩ := Prod.mk.inj R
    subst q1 q2 q3
    exact ⟨rfl, fun z => absurd (by decide) z, fun z => absurd (by decide) z, fun z => absurd (by decide) z, fun _ => g0, fun _ => g1, fun _ => g2⟩
  · rw [if_pos (by decide)] at q1 f1
    rw [if_neg (by decide)] at q2 f2 q3 f3
    rw [t1] at R
    simp only [own_rt, g0] at R
    by_cases A : k0 = lo ∨ k0 = hi
    · rw [if_pos A] at q1 f1 R
      obtain ⟨rfl, rfl⟩ := Prod.mk.inj R
      subst q1 q2 q3 f1 f2 f3
      exact ⟨by decide, fun _ => by simp [own_updI], fun z => absurd (by decide) z, fun z => absurd (by decide) z, fun z => absurd (by decide) z, fun _ => by simp [own_updI, g1], fun _ => by simp [own_updI, g2]⟩
    · rw [if_neg A] at q1 f1 R
      obtain ⟨rfl, rfl⟩ := Prod.mk.inj R
      subst q1 q2 q3 f1 f2 f3
      exact ⟨rfl, fun z => absurd (by decide) z, fun z => absurd (by decide) z, fun z => absurd (by decide) z, fun z => absurd (by decide) z, fun _ => g1, fun _ => g2⟩
  · rw [if_pos (by decide)] at q1 f1 q2 f2
    rw [if_neg (by decide)] at q3 f3
    rw [t2] at R
    simp only [own_rt, g0, g1] at R
    by_cases A : k0 = lo ∨ k0 = hi <;> by_cases A1 : k1 = lo ∨ k1 = hi
    all_goals (
      first | rw [if_pos A] at q1 f1 | rw [if_neg A] at q1 f1
      first | rw [if_pos A1] at q2 f2 | rw [if_neg A1] at q2 f2
      simp only [A, A1, if_true, if_false, a1, a2, t0, t1, t2] at R
      obtain ⟨rfl, rfl⟩ := Prod.mk.inj R
      subst q1 q2 q3 f1 f2 f3
      refine ⟨by decide, fun z => ?_, fun z => ?_, fun z => ?_, fun z => ?_, fun z => ?_, fun z => ?_⟩
      all_goals first | exact absurd (by decide) z | (simp [own_updI, t0, t1, t2, a1, a2, g2]; done) | rfl)
  · rw [if_pos (by decide)] at q1 f1 q2 f2 q3 f3
    rw [t3] at R
    simp only [own_rt, g0, g1, g2] at R
    by_cases A : k0 = lo ∨ k0 = hi <;> by_cases A1 : k1 = lo ∨ k1 = hi <;> by_cases A2 : k2 = lo ∨ k2 = hi
    all_goals (
      first | rw [if_pos A] at q1 f1 | rw [if_neg A] at q1 f1
      first | rw [if_pos A1] at q2 f2 | rw [if_neg A1] at q2 f2
      first | rw [if_pos A2] at q3 f3 | rw [if_neg A2] at q3 f3
      simp only [A, A1, A2, if_true, if_false, a1, a2, a3, t0, t1, t2, t3] at R
      obtain ⟨rfl, rfl⟩ := Prod.mk.inj R
      subst q1 q2 q3 f1 f2 f3
      refine ⟨by decide, fun z => ?_, fun z => ?_, fun z => ?_, fun z => ?_, fun z => ?_, fun z => ?_⟩
      all_goals first | exact absurd (by decide) z | (simp [own_updI, t0, t1, t2, a1, a2]; done) | rfl)
def own_pick (x0 x1 : Int32) (x2 x3 x4 : Int32) : Int32 := (if x0 = (0 : Int32) then x1 else (if x0 = (1 : Int32) then x2 else (if x0 = (2 : Int32) then x3 else x4)))
theorem own_pn74 : plainName "com/example/tidemark/tidemark/core/ColourProfileRetainShownPinLaw" = true := by first | (simp [plainName, overriddenIn]; done) | decide +kernel
theorem own_ef74 (m : MethodId) (x0 x1 : Int32) (x2 x3 x4 : Int32) : entryFrame m #[.int x0, .int x1, .int x2, .int x3, .int x4] 5 = mkF m 0 #[sI x0, sI x1, sI x2, sI x3, sI x4] [] := by first | (simp [entryFrame, mkF, argsToLocals, Value.category]; done) | rfl
def Q74 (Z : State) (x0 x1 : Int32) (x2 x3 x4 : Int32) (h0 : Heap) (n0 : Nat) (v : Option Value) (h : Heap) (L : List Loc) : Prop := v = some (.int (own_pick x0 x1 x2 x3 x4)) ∧ Fr n0 L ∧ h = h0
set_option maxRecDepth 65536 in
set_option maxHeartbeats 4000000 in
theorem rm74 {l : Launch} {Z : State} {a0 : Array Value} (hw : own_T a0 Z) (x0 x1 : Int32) (x2 x3 x4 : Int32) (h0 : Heap) (n0 : Nat) (Z0 : n0 ≤ h0.size) :
    own_M l Z ym56 method_2_code 5 (some .int) ⟨0, 0, 0, 0⟩ #[.int x0, .int x1, .int x2, .int x3, .int x4] h0 (Q74 Z x0 x1 x2 x3 x4 h0 n0) := by
  refine own_open kLW #[sI x0, sI x1, sI x2, sI x3, sI x4] (plainFor_of_name own_pn74) DL52 rfl (fun m => own_ef74 m x0 x1 x2 x3 x4) fun p e s m below meth c s₁ Bd B hZ hown X0 e0 Pq hPq => ?_
  have hx := B.x
  have N0 := Fr.nil n0
  refine SiN X0 B 0 rfl rfl ?_
  by_cases c1 : x0 = (0 : Int32)
  · skip
    refine Sfn X0 B 1 rfl ((if0 _ _).trans (teq c1).2) ?_
    refine SiN X0 B 2 rfl rfl ?_
    refine own_oI X0 B Bd 3 rfl hPq ?_
    rw [e0]
    exact ⟨by first | (simp only [own_pick, if_pos c1]; done) | (subst_vars; simp only [own_pick, if_pos c1]; done) | (subst_vars; simp [own_pick]; done), N0, rfl⟩
  · skip
    refine Sfy 1 6 X0 B 1 rfl ((if0 _ _).trans (feq c1).2) ?_
    refine SiN X0 B 4 rfl rfl ?_
    refine Sc 1 X0 B 5 rfl rfl ?_
    by_cases c2 : x0 = (1 : Int32)
    · skip
      refine Scn X0 B 6 rfl (teq c2).2 ?_
      refine SiN X0 B 7 rfl rfl ?_
      refine own_oI X0 B Bd 8 rfl hPq ?_
      rw [e0]
      exact ⟨by first | (simp only [own_pick, if_neg c1, if_pos c2]; done) | (subst_vars; simp only [own_pick, if_neg c1, if_pos c2]; done) | (subst_vars; simp [own_pick]; done), N0, rfl⟩
    · skip
      refine Scy 8 13 X0 B 6 rfl (feq c2).2 ?_
      refine SiN X0 B 9 rfl rfl ?_
      refine Sc 2 X0 B 10 rfl rfl ?_
      by_cases c3 : x0 = (2 : Int32)
      · skip
        refine Scn X0 B 11 rfl (teq c3).2 ?_
        refine SiN X0 B 12 rfl rfl ?_
        refine own_oI X0 B Bd 13 rfl hPq ?_
        rw [e0]
        exact ⟨by first | (simp only [own_pick, if_neg c1, if_neg c2, if_pos c3]; done) | (subst_vars; simp only [own_pick, if_neg c1, if_neg c2, if_pos c3]; done) | (subst_vars; simp [own_pick]; done), N0, rfl⟩
      · skip
        refine Scy 15 20 X0 B 11 rfl (feq c3).2 ?_
        refine Si X0 B 14 rfl rfl ?_
        refine own_oI X0 B Bd 15 rfl hPq ?_
        rw [e0]
        exact ⟨by first | (simp only [own_pick, if_neg c1, if_neg c2, if_neg c3]; done) | (subst_vars; simp only [own_pick, if_neg c1, if_neg c2, if_neg c3]; done) | (subst_vars; simp [own_pick]; done), N0, rfl⟩
theorem own_ef0 (m : MethodId) (x0 : Int32) (x1 : Int64) (x2 x3 : Int32) (x4 x5 : Int32) : entryFrame m #[.int x0, .long x1, .int x2, .int x3, .int x4, .int x5] maxLocals = mkF m 0 #[sI x0, sJ x1, .second, sI x2, sI x3, sI x4, sI x5, sU, sU, sU, sU, sU, sU, sU, sU, sU, sU, sU, sU, sU, sU, sU, sU, sU, sU, sU, sU, sU, sU, sU] [] := by first | (simp [entryFrame, mkF, argsToLocals, Value.category, maxLocals]; done) | rfl
def Q0 (Z : State) (x0 : Int32) (x1 : Int64) (x2 x3 : Int32) (x4 x5 : Int32) (em : Addr) (h0 : Heap) (n0 : Nat) (v : Option Value) (h : Heap) (L : List Loc) : Prop := v = some (.int 1) ∧ Fr n0 L
theorem own_fin0_412 (x0 : Int32) (x1 : Int64) (x2 x3 : Int32) (x4 x5 : Int32) (em : Addr) (v1 p6 : Int32) (v7 p12 v13 : Int32) (r26_k_om r26_k_oM : ClassId) (r26_k_en r26_k_eM : ClassId) (r26_k_hm r26_k_hM : ClassId) (r82_k_cmi r82_k_cma : ClassId) (r82_k_cre r159_k_sa : ClassId) (r159_k_ea r159_k_co : ClassId) (r159_k_so r159_k_se r257_k_nb : ClassId) (r257_gC : Nat → Int32) (v311 p316 : Int32) (p321 v324 : Int32) (v327 v330 : Int32) (v333 v336 : Int32) (p341 p342 : Int32) (p349 p350 : Int32) (p357 p358 : Int32) (v360 p401 : Int32) (p407 : Nat → Int32) (hv1 : ((x1.toUInt64 >>> ((32 : Int32) &&& 0x3f).toInt64.toUInt64).toInt64).toInt32 = v1) (qp6 : p6 = (if v1 = (0 : Int32) then (1 : Int32) else v1)) (hv7 : (x0 + p6) = v7) (qp12 : p12 = (if x1.toInt32 = (0 : Int32) then (1 : Int32) else x1.toInt32)) (hv13 : (x0 + p12) = v13) (hq257_0 : own_bd (own_updI (own_updI (own_updI (fun _ => 0) (0 : Int32).toNatClampNeg x0) (1 : Int32).toNatClampNeg v7) (2 : Int32).toNatClampNeg v13) r257_gC) (hv311 : (x5 &&& (1 : Int32)) = v311) (qp316 : p316 = (if v311 = (0 : Int32) then v7 else v13)) (qp321 : p321 = (if v311 = (0 : Int32) then v13 else v7)) (hv324 : (own_min x0 p316) = v324) (hv327 : (own_mxi x0 p316) = v327) (hv330 : (own_pick (((x5.toUInt32 >>> ((1 : Int32) &&& 31).toUInt32).toInt32) &&& (3 : Int32)) v324 v327 p321 x2) = v330) (hv333 : (own_pick (((x5.toUInt32 >>> ((3 : Int32) &&& 31).toUInt32).toInt32) &&& (3 : Int32)) v324 v327 p321 x3) = v333) (hv336 : (own_pick (((x5.toUInt32 >>> ((5 : Int32) &&& 31).toUInt32).toInt32) &&& (3 : Int32)) v324 v327 p321 x4) = v336) (qp341 : p341 = (if v333 < v330 then v333 else v330)) (qp342 : p342 = (if v333 < v330 then v330 else v333)) (qp349 : p349 = (if v336 < p342 then v336 else p342)) (qp350 : p350 = (if v336 < p342 then p342 else v336)) (qp357 : p357 = (if p349 < p341 then p349 else p341)) (qp358 : p358 = (if p349 < p341 then p341 else p349)) (hv360 : (((x5.toUInt32 >>> ((7 : Int32) &&& 31).toUInt32).toInt32) &&& (3 : Int32)) = v360) (qp401 : p401 = (if (0 : Int32) < v360 then (if p357 = v324 then (1 : Int32) else (if p357 = v327 then (1 : Int32) else (0 : Int32))) else (0 : Int32))) (qp407 : p407 = (if (0 : Int32) < v360 then (if p357 = v324 then (own_updI (fun _ => (0 : Int32)) 0 p357) else (if p357 = v327 then (own_updI (fun _ => (0 : Int32)) 0 p357) else (fun _ => (0 : Int32)))) else (fun _ => (0 : Int32)))) (c409 : (1 : Int32) < v360) (c410 : p358 = v324) : ¬ p401 < 0 ∧ p401 < (3 : Int32) := by
  rw [qp401]
  (repeat' split) <;> decide
theorem own_fin0_419 (x0 : Int32) (x1 : Int64) (x2 x3 : Int32) (x4 x5 : Int32) (em : Addr) (v1 p6 : Int32) (v7 p12 v13 : Int32) (r26_k_om r26_k_oM : ClassId) (r26_k_en r26_k_eM : ClassId) (r26_k_hm r26_k_hM : ClassId) (r82_k_cmi r82_k_cma : ClassId) (r82_k_cre r159_k_sa : ClassId) (r159_k_ea r159_k_co : ClassId) (r159_k_so r159_k_se r257_k_nb : ClassId) (r257_gC : Nat → Int32) (v311 p316 : Int32) (p321 v324 : Int32) (v327 v330 : Int32) (v333 v336 : Int32) (p341 p342 : Int32) (p349 p350 : Int32) (p357 p358 : Int32) (v360 p401 : Int32) (p407 : Nat → Int32) (hv1 : ((x1.toUInt64 >>> ((32 : Int32) &&& 0x3f).toInt64.toUInt64).toInt64).toInt32 = v1) (qp6 : p6 = (if v1 = (0 : Int32) then (1 : Int32) else v1)) (hv7 : (x0 + p6) = v7) (qp12 : p12 = (if x1.toInt32 = (0 : Int32) then (1 : Int32) else x1.toInt32)) (hv13 : (x0 + p12) = v13) (hq257_0 : own_bd (own_updI (own_updI (own_updI (fun _ => 0) (0 : Int32).toNatClampNeg x0) (1 : Int32).toNatClampNeg v7) (2 : Int32).toNatClampNeg v13) r257_gC) (hv311 : (x5 &&& (1 : Int32)) = v311) (qp316 : p316 = (if v311 = (0 : Int32) then v7 else v13)) (qp321 : p321 = (if v311 = (0 : Int32) then v13 else v7)) (hv324 : (own_min x0 p316) = v324) (hv327 : (own_mxi x0 p316) = v327) (hv330 : (own_pick (((x5.toUInt32 >>> ((1 : Int32) &&& 31).toUInt32).toInt32) &&& (3 : Int32)) v324 v327 p321 x2) = v330) (hv333 : (own_pick (((x5.toUInt32 >>> ((3 : Int32) &&& 31).toUInt32).toInt32) &&& (3 : Int32)) v324 v327 p321 x3) = v333) (hv336 : (own_pick (((x5.toUInt32 >>> ((5 : Int32) &&& 31).toUInt32).toInt32) &&& (3 : Int32)) v324 v327 p321 x4) = v336) (qp341 : p341 = (if v333 < v330 then v333 else v330)) (qp342 : p342 = (if v333 < v330 then v330 else v333)) (qp349 : p349 = (if v336 < p342 then v336 else p342)) (qp350 : p350 = (if v336 < p342 then p342 else v336)) (qp357 : p357 = (if p349 < p341 then p349 else p341)) (qp358 : p358 = (if p349 < p341 then p341 else p349)) (hv360 : (((x5.toUInt32 >>> ((7 : Int32) &&& 31).toUInt32).toInt32) &&& (3 : Int32)) = v360) (qp401 : p401 = (if (0 : Int32) < v360 then (if p357 = v324 then (1 : Int32) else (if p357 = v327 then (1 : Int32) else (0 : Int32))) else (0 : Int32))) (qp407 : p407 = (if (0 : Int32) < v360 then (if p357 = v324 then (own_updI (fun _ => (0 : Int32)) 0 p357) else (if p357 = v327 then (own_updI (fun _ => (0 : Int32)) 0 p357) else (fun _ => (0 : Int32)))) else (fun _ => (0 : Int32)))) (c409 : (1 : Int32) < v360) (c410 : ¬ (p358 = v324)) (c417 : p358 = v327) : ¬ p401 < 0 ∧ p401 < (3 : Int32) := by
  rw [qp401]
  (repeat' split) <;> decide
theorem own_fin0_438 (x0 : Int32) (x1 : Int64) (x2 x3 : Int32) (x4 x5 : Int32) (em : Addr) (v1 p6 : Int32) (v7 p12 v13 : Int32) (r26_k_om r26_k_oM : ClassId) (r26_k_en r26_k_eM : ClassId) (r26_k_hm r26_k_hM : ClassId) (r82_k_cmi r82_k_cma : ClassId) (r82_k_cre r159_k_sa : ClassId) (r159_k_ea r159_k_co : ClassId) (r159_k_so r159_k_se r257_k_nb : ClassId) (r257_gC : Nat → Int32) (v311 p316 : Int32) (p321 v324 : Int32) (v327 v330 : Int32) (v333 v336 : Int32) (p341 p342 : Int32) (p349 p350 : Int32) (p357 p358 : Int32) (v360 p401 : Int32) (p407 : Nat → Int32) (p427 : Int32) (p433 : Nat → Int32) (hv1 : ((x1.toUInt64 >>> ((32 : Int32) &&& 0x3f).toInt64.toUInt64).toInt64).toInt32 = v1) (qp6 : p6 = (if v1 = (0 : Int32) then (1 : Int32) else v1)) (hv7 : (x0 + p6) = v7) (qp12 : p12 = (if x1.toInt32 = (0 : Int32) then (1 : Int32) else x1.toInt32)) (hv13 : (x0 + p12) = v13) (hq257_0 : own_bd (own_updI (own_updI (own_updI (fun _ => 0) (0 : Int32).toNatClampNeg x0) (1 : Int32).toNatClampNeg v7) (2 : Int32).toNatClampNeg v13) r257_gC) (hv311 : (x5 &&& (1 : Int32)) = v311) (qp316 : p316 = (if v311 = (0 : Int32) then v7 else v13)) (qp321 : p321 = (if v311 = (0 : Int32) then v13 else v7)) (hv324 : (own_min x0 p316) = v324) (hv327 : (own_mxi x0 p316) = v327) (hv330 : (own_pick (((x5.toUInt32 >>> ((1 : Int32) &&& 31).toUInt32).toInt32) &&& (3 : Int32)) v324 v327 p321 x2) = v330) (hv333 : (own_pick (((x5.toUInt32 >>> ((3 : Int32) &&& 31).toUInt32).toInt32) &&& (3 : Int32)) v324 v327 p321 x3) = v333) (hv336 : (own_pick (((x5.toUInt32 >>> ((5 : Int32) &&& 31).toUInt32).toInt32) &&& (3 : Int32)) v324 v327 p321 x4) = v336) (qp341 : p341 = (if v333 < v330 then v333 else v330)) (qp342 : p342 = (if v333 < v330 then v330 else v333)) (qp349 : p349 = (if v336 < p342 then v336 else p342)) (qp350 : p350 = (if v336 < p342 then p342 else v336)) (qp357 : p357 = (if p349 < p341 then p349 else p341)) (qp358 : p358 = (if p349 < p341 then p341 else p349)) (hv360 : (((x5.toUInt32 >>> ((7 : Int32) &&& 31).toUInt32).toInt32) &&& (3 : Int32)) = v360) (qp401 : p401 = (if (0 : Int32) < v360 then (if p357 = v324 then (1 : Int32) else (if p357 = v327 then (1 : Int32) else (0 : Int32))) else (0 : Int32))) (qp407 : p407 = (if (0 : Int32) < v360 then (if p357 = v324 then (own_updI (fun _ => (0 : Int32)) 0 p357) else (if p357 = v327 then (own_updI (fun _ => (0 : Int32)) 0 p357) else (fun _ => (0 : Int32)))) else (fun _ => (0 : Int32)))) (qp427 : p427 = (if (1 : Int32) < v360 then (if p358 = v324 then (p401 + (1 : Int32)) else (if p358 = v327 then (p401 + (1 : Int32)) else p401)) else p401)) (qp433 : p433 = (if (1 : Int32) < v360 then (if p358 = v324 then (own_updI p407 p401.toNatClampNeg p358) else (if p358 = v327 then (own_updI p407 p401.toNatClampNeg p358) else p407)) else p407)) (c435 : (2 : Int32) < v360) (c436 : p350 = v324) : ¬ p427 < 0 ∧ p427 < (3 : Int32) := by
  have z : p401 = 0 ∨ p401 = 1 := by
    rw [qp401]
    (repeat' split) <;> first | exact Or.inl rfl | exact Or.inr rfl
  rw [qp427]
  rcases z with z | z <;> rw [z] <;> (repeat' split) <;> decide
theorem own_fin0_445 (x0 : Int32) (x1 : Int64) (x2 x3 : Int32) (x4 x5 : Int32) (em : Addr) (v1 p6 : Int32) (v7 p12 v13 : Int32) (r26_k_om r26_k_oM : ClassId) (r26_k_en r26_k_eM : ClassId) (r26_k_hm r26_k_hM : ClassId) (r82_k_cmi r82_k_cma : ClassId) (r82_k_cre r159_k_sa : ClassId) (r159_k_ea r159_k_co : ClassId) (r159_k_so r159_k_se r257_k_nb : ClassId) (r257_gC : Nat → Int32) (v311 p316 : Int32) (p321 v324 : Int32) (v327 v330 : Int32) (v333 v336 : Int32) (p341 p342 : Int32) (p349 p350 : Int32) (p357 p358 : Int32) (v360 p401 : Int32) (p407 : Nat → Int32) (p427 : Int32) (p433 : Nat → Int32) (hv1 : ((x1.toUInt64 >>> ((32 : Int32) &&& 0x3f).toInt64.toUInt64).toInt64).toInt32 = v1) (qp6 : p6 = (if v1 = (0 : Int32) then (1 : Int32) else v1)) (hv7 : (x0 + p6) = v7) (qp12 : p12 = (if x1.toInt32 = (0 : Int32) then (1 : Int32) else x1.toInt32)) (hv13 : (x0 + p12) = v13) (hq257_0 : own_bd (own_updI (own_updI (own_updI (fun _ => 0) (0 : Int32).toNatClampNeg x0) (1 : Int32).toNatClampNeg v7) (2 : Int32).toNatClampNeg v13) r257_gC) (hv311 : (x5 &&& (1 : Int32)) = v311) (qp316 : p316 = (if v311 = (0 : Int32) then v7 else v13)) (qp321 : p321 = (if v311 = (0 : Int32) then v13 else v7)) (hv324 : (own_min x0 p316) = v324) (hv327 : (own_mxi x0 p316) = v327) (hv330 : (own_pick (((x5.toUInt32 >>> ((1 : Int32) &&& 31).toUInt32).toInt32) &&& (3 : Int32)) v324 v327 p321 x2) = v330) (hv333 : (own_pick (((x5.toUInt32 >>> ((3 : Int32) &&& 31).toUInt32).toInt32) &&& (3 : Int32)) v324 v327 p321 x3) = v333) (hv336 : (own_pick (((x5.toUInt32 >>> ((5 : Int32) &&& 31).toUInt32).toInt32) &&& (3 : Int32)) v324 v327 p321 x4) = v336) (qp341 : p341 = (if v333 < v330 then v333 else v330)) (qp342 : p342 = (if v333 < v330 then v330 else v333)) (qp349 : p349 = (if v336 < p342 then v336 else p342)) (qp350 : p350 = (if v336 < p342 then p342 else v336)) (qp357 : p357 = (if p349 < p341 then p349 else p341)) (qp358 : p358 = (if p349 < p341 then p341 else p349)) (hv360 : (((x5.toUInt32 >>> ((7 : Int32) &&& 31).toUInt32).toInt32) &&& (3 : Int32)) = v360) (qp401 : p401 = (if (0 : Int32) < v360 then (if p357 = v324 then (1 : Int32) else (if p357 = v327 then (1 : Int32) else (0 : Int32))) else (0 : Int32))) (qp407 : p407 = (if (0 : Int32) < v360 then (if p357 = v324 then (own_updI (fun _ => (0 : Int32)) 0 p357) else (if p357 = v327 then (own_updI (fun _ => (0 : Int32)) 0 p357) else (fun _ => (0 : Int32)))) else (fun _ => (0 : Int32)))) (qp427 : p427 = (if (1 : Int32) < v360 then (if p358 = v324 then (p401 + (1 : Int32)) else (if p358 = v327 then (p401 + (1 : Int32)) else p401)) else p401)) (qp433 : p433 = (if (1 : Int32) < v360 then (if p358 = v324 then (own_updI p407 p401.toNatClampNeg p358) else (if p358 = v327 then (own_updI p407 p401.toNatClampNeg p358) else p407)) else p407)) (c435 : (2 : Int32) < v360) (c436 : ¬ (p350 = v324)) (c443 : p350 = v327) : ¬ p427 < 0 ∧ p427 < (3 : Int32) := by
  have z : p401 = 0 ∨ p401 = 1 := by
    rw [qp401]
    (repeat' split) <;> first | exact Or.inl rfl | exact Or.inr rfl
  rw [qp427]
  rcases z with z | z <;> rw [z] <;> (repeat' split) <;> decide
theorem own_hR (x0 : Int32) (x1 : Int64) (x2 x3 : Int32) (x4 x5 : Int32) (em : Addr) (v1 p6 : Int32) (v7 p12 v13 : Int32) (r26_k_om r26_k_oM : ClassId) (r26_k_en r26_k_eM : ClassId) (r26_k_hm r26_k_hM : ClassId) (r82_k_cmi r82_k_cma : ClassId) (r82_k_cre r159_k_sa : ClassId) (r159_k_ea r159_k_co : ClassId) (r159_k_so r159_k_se r257_k_nb : ClassId) (r257_gC : Nat → Int32) (v311 p316 : Int32) (p321 v324 : Int32) (v327 v330 : Int32) (v333 v336 : Int32) (p341 p342 : Int32) (p349 p350 : Int32) (p357 p358 : Int32) (v360 p401 : Int32) (p407 : Nat → Int32) (p427 : Int32) (p433 : Nat → Int32) (p453 : Int32) (p459 : Nat → Int32) (hv1 : ((x1.toUInt64 >>> ((32 : Int32) &&& 0x3f).toInt64.toUInt64).toInt64).toInt32 = v1) (qp6 : p6 = (if v1 = (0 : Int32) then (1 : Int32) else v1)) (hv7 : (x0 + p6) = v7) (qp12 : p12 = (if x1.toInt32 = (0 : Int32) then (1 : Int32) else x1.toInt32)) (hv13 : (x0 + p12) = v13) (hq257_0 : own_bd (own_updI (own_updI (own_updI (fun _ => 0) (0 : Int32).toNatClampNeg x0) (1 : Int32).toNatClampNeg v7) (2 : Int32).toNatClampNeg v13) r257_gC) (hv311 : (x5 &&& (1 : Int32)) = v311) (qp316 : p316 = (if v311 = (0 : Int32) then v7 else v13)) (qp321 : p321 = (if v311 = (0 : Int32) then v13 else v7)) (hv324 : (own_min x0 p316) = v324) (hv327 : (own_mxi x0 p316) = v327) (hv330 : (own_pick (((x5.toUInt32 >>> ((1 : Int32) &&& 31).toUInt32).toInt32) &&& (3 : Int32)) v324 v327 p321 x2) = v330) (hv333 : (own_pick (((x5.toUInt32 >>> ((3 : Int32) &&& 31).toUInt32).toInt32) &&& (3 : Int32)) v324 v327 p321 x3) = v333) (hv336 : (own_pick (((x5.toUInt32 >>> ((5 : Int32) &&& 31).toUInt32).toInt32) &&& (3 : Int32)) v324 v327 p321 x4) = v336) (qp341 : p341 = (if v333 < v330 then v333 else v330)) (qp342 : p342 = (if v333 < v330 then v330 else v333)) (qp349 : p349 = (if v336 < p342 then v336 else p342)) (qp350 : p350 = (if v336 < p342 then p342 else v336)) (qp357 : p357 = (if p349 < p341 then p349 else p341)) (qp358 : p358 = (if p349 < p341 then p341 else p349)) (hv360 : (((x5.toUInt32 >>> ((7 : Int32) &&& 31).toUInt32).toInt32) &&& (3 : Int32)) = v360) (qp401 : p401 = (if (0 : Int32) < v360 then (if p357 = v324 then (1 : Int32) else (if p357 = v327 then (1 : Int32) else (0 : Int32))) else (0 : Int32))) (qp407 : p407 = (if (0 : Int32) < v360 then (if p357 = v324 then (own_updI (fun _ => (0 : Int32)) 0 p357) else (if p357 = v327 then (own_updI (fun _ => (0 : Int32)) 0 p357) else (fun _ => (0 : Int32)))) else (fun _ => (0 : Int32)))) (qp427 : p427 = (if (1 : Int32) < v360 then (if p358 = v324 then (p401 + (1 : Int32)) else (if p358 = v327 then (p401 + (1 : Int32)) else p401)) else p401)) (qp433 : p433 = (if (1 : Int32) < v360 then (if p358 = v324 then (own_updI p407 p401.toNatClampNeg p358) else (if p358 = v327 then (own_updI p407 p401.toNatClampNeg p358) else p407)) else p407)) (qp453 : p453 = (if (2 : Int32) < v360 then (if p350 = v324 then (p427 + (1 : Int32)) else (if p350 = v327 then (p427 + (1 : Int32)) else p427)) else p427)) (qp459 : p459 = (if (2 : Int32) < v360 then (if p350 = v324 then (own_updI p433 p427.toNatClampNeg p350) else (if p350 = v327 then (own_updI p433 p427.toNatClampNeg p350) else p433)) else p433)) : own_rh r257_gC v311.toNatClampNeg (own_updI (own_updI (own_updI (fun _ => (0 : Int32)) 0 p357) 1 p358) 2 p350) := by
  exact own_hRl hq257_0 (own_nc qp6 hv7) (own_nc qp12 hv13) (own_m1 hv311) qp316 (own_srt3n qp341 qp342 qp349 qp350 qp357 qp358)
theorem own_law (x0 : Int32) (x1 : Int64) (x2 x3 : Int32) (x4 x5 : Int32) (em : Addr) (v1 p6 : Int32) (v7 p12 v13 : Int32) (r26_k_om r26_k_oM : ClassId) (r26_k_en r26_k_eM : ClassId) (r26_k_hm r26_k_hM : ClassId) (r82_k_cmi r82_k_cma : ClassId) (r82_k_cre r159_k_sa : ClassId) (r159_k_ea r159_k_co : ClassId) (r159_k_so r159_k_se r257_k_nb : ClassId) (r257_gC : Nat → Int32) (v311 p316 : Int32) (p321 v324 : Int32) (v327 v330 : Int32) (v333 v336 : Int32) (p341 p342 : Int32) (p349 p350 : Int32) (p357 p358 : Int32) (v360 p401 : Int32) (p407 : Nat → Int32) (p427 : Int32) (p433 : Nat → Int32) (p453 : Int32) (p459 : Nat → Int32) (r461_cnr : Int32) (r461_gr : Nat → Int32) (p511 p550 p559 : Int32) (hv1 : ((x1.toUInt64 >>> ((32 : Int32) &&& 0x3f).toInt64.toUInt64).toInt64).toInt32 = v1) (qp6 : p6 = (if v1 = (0 : Int32) then (1 : Int32) else v1)) (hv7 : (x0 + p6) = v7) (qp12 : p12 = (if x1.toInt32 = (0 : Int32) then (1 : Int32) else x1.toInt32)) (hv13 : (x0 + p12) = v13) (hq257_0 : own_bd (own_updI (own_updI (own_updI (fun _ => 0) (0 : Int32).toNatClampNeg x0) (1 : Int32).toNatClampNeg v7) (2 : Int32).toNatClampNeg v13) r257_gC) (hv311 : (x5 &&& (1 : Int32)) = v311) (qp316 : p316 = (if v311 = (0 : Int32) then v7 else v13)) (qp321 : p321 = (if v311 = (0 : Int32) then v13 else v7)) (hv324 : (own_min x0 p316) = v324) (hv327 : (own_mxi x0 p316) = v327) (hv330 : (own_pick (((x5.toUInt32 >>> ((1 : Int32) &&& 31).toUInt32).toInt32) &&& (3 : Int32)) v324 v327 p321 x2) = v330) (hv333 : (own_pick (((x5.toUInt32 >>> ((3 : Int32) &&& 31).toUInt32).toInt32) &&& (3 : Int32)) v324 v327 p321 x3) = v333) (hv336 : (own_pick (((x5.toUInt32 >>> ((5 : Int32) &&& 31).toUInt32).toInt32) &&& (3 : Int32)) v324 v327 p321 x4) = v336) (qp341 : p341 = (if v333 < v330 then v333 else v330)) (qp342 : p342 = (if v333 < v330 then v330 else v333)) (qp349 : p349 = (if v336 < p342 then v336 else p342)) (qp350 : p350 = (if v336 < p342 then p342 else v336)) (qp357 : p357 = (if p349 < p341 then p349 else p341)) (qp358 : p358 = (if p349 < p341 then p341 else p349)) (hv360 : (((x5.toUInt32 >>> ((7 : Int32) &&& 31).toUInt32).toInt32) &&& (3 : Int32)) = v360) (qp401 : p401 = (if (0 : Int32) < v360 then (if p357 = v324 then (1 : Int32) else (if p357 = v327 then (1 : Int32) else (0 : Int32))) else (0 : Int32))) (qp407 : p407 = (if (0 : Int32) < v360 then (if p357 = v324 then (own_updI (fun _ => (0 : Int32)) 0 p357) else (if p357 = v327 then (own_updI (fun _ => (0 : Int32)) 0 p357) else (fun _ => (0 : Int32)))) else (fun _ => (0 : Int32)))) (qp427 : p427 = (if (1 : Int32) < v360 then (if p358 = v324 then (p401 + (1 : Int32)) else (if p358 = v327 then (p401 + (1 : Int32)) else p401)) else p401)) (qp433 : p433 = (if (1 : Int32) < v360 then (if p358 = v324 then (own_updI p407 p401.toNatClampNeg p358) else (if p358 = v327 then (own_updI p407 p401.toNatClampNeg p358) else p407)) else p407)) (qp453 : p453 = (if (2 : Int32) < v360 then (if p350 = v324 then (p427 + (1 : Int32)) else (if p350 = v327 then (p427 + (1 : Int32)) else p427)) else p427)) (qp459 : p459 = (if (2 : Int32) < v360 then (if p350 = v324 then (own_updI p433 p427.toNatClampNeg p350) else (if p350 = v327 then (own_updI p433 p427.toNatClampNeg p350) else p433)) else p433)) (hq461_0 : own_rt (r257_gC (2 * v311.toNatClampNeg)) (r257_gC (2 * v311.toNatClampNeg + 1)) (own_updI (own_updI (own_updI (fun _ => (0 : Int32)) 0 p357) 1 p358) 2 p350) v360.toNatClampNeg = (r461_cnr, r461_gr)) (qp511 : p511 = (if p453 < (1 : Int32) then (if p453 < (2 : Int32) then (if p453 < (3 : Int32) then (1 : Int32) else (if (r461_gr 2) = (p459 2) then (1 : Int32) else (0 : Int32))) else (if (r461_gr 1) = (p459 1) then (if p453 < (3 : Int32) then (1 : Int32) else (if (r461_gr 2) = (p459 2) then (1 : Int32) else (0 : Int32))) else (0 : Int32))) else (if (r461_gr 0) = (p459 0) then (if p453 < (2 : Int32) then (if p453 < (3 : Int32) then (1 : Int32) else (if (r461_gr 2) = (p459 2) then (1 : Int32) else (0 : Int32))) else (if (r461_gr 1) = (p459 1) then (if p453 < (3 : Int32) then (1 : Int32) else (if (r461_gr 2) = (p459 2) then (1 : Int32) else (0 : Int32))) else (0 : Int32))) else (0 : Int32)))) (qp550 : p550 = (if (0 : Int32) < v360 then (if (1 : Int32) < v360 then (if (2 : Int32) < v360 then (1 : Int32) else (if (r461_gr 2) = p350 then (1 : Int32) else (0 : Int32))) else (if (r461_gr 1) = p358 then (if (2 : Int32) < v360 then (1 : Int32) else (if (r461_gr 2) = p350 then (1 : Int32) else (0 : Int32))) else (0 : Int32))) else (if (r461_gr 0) = p357 then (if (1 : Int32) < v360 then (if (2 : Int32) < v360 then (1 : Int32) else (if (r461_gr 2) = p350 then (1 : Int32) else (0 : Int32))) else (if (r461_gr 1) = p358 then (if (2 : Int32) < v360 then (1 : Int32) else (if (r461_gr 2) = p350 then (1 : Int32) else (0 : Int32))) else (0 : Int32))) else (0 : Int32)))) (qp559 : p559 = (if r461_cnr = p453 then (if p511 = (0 : Int32) then (0 : Int32) else (if p550 = (0 : Int32) then (0 : Int32) else (1 : Int32))) else (0 : Int32))) : p559 = 1 := by
  have LH := own_lohi hq257_0 (own_nc qp6 hv7) (own_nc qp12 hv13) (own_m1 hv311) qp316
  have R := hq461_0
  rw [LH.1, LH.2.1] at R
  have R : own_rt v324 v327 (own_updI (own_updI (own_updI (fun _ => (0 : Int32)) 0 p357) 1 p358) 2 p350) v360.toNatClampNeg = (r461_cnr, r461_gr) := by
    rw [← hv324, ← hv327]
    exact R
  obtain ⟨F, F0, F1, F2, G0, G1, G2⟩ := own_fl (own_sz hv360) qp401 qp407 qp427 qp433 qp453 qp459 R
  have h1 : p511 = 1 := by
    rw [qp511]
    (repeat' split) <;> first | rfl | exact absurd (F0 (by assumption)) (by assumption) | exact absurd (F1 (by assumption)) (by assumption) | exact absurd (F2 (by assumption)) (by assumption)
  have h2 : p550 = 1 := by
    rw [qp550]
    (repeat' split) <;> first | rfl | exact absurd (G0 (by assumption)) (by assumption) | exact absurd (G1 (by assumption)) (by assumption) | exact absurd (G2 (by assumption)) (by assumption)
  rw [qp559, if_pos F, h1, h2, if_neg (by decide), if_neg (by decide)]
abbrev dl0 : own_DT := [(0, .lload_n 1, 1), (1, .bipush 32, 2), (3, .lushr, 1), (4, .l2i, 1), (5, .istore 7, 2), (7, .lload_n 1, 1), (8, .l2i, 1), (9, .istore 8, 2), (11, .iload_n 0, 1), (12, .iload 7, 2), (14, .ifCond .ne 7, 3), (17, .iconst 1, 1), (18, .goto 5, 3), (21, .iload 7, 2), (23, .iadd, 1), (24, .istore 9, 2), (26, .iload_n 0, 1), (27, .iload 8, 2), (29, .ifCond .ne 7, 3), (32, .iconst 1, 1), (33, .goto 5, 3), (36, .iload 8, 2), (38, .iadd, 1), (39, .istore 10, 2), (41, .new 7, 3), (44, .dup, 1), (45, .iconst 3, 1), (46, .invokespecial 9, 3), (49, .astore 11, 2), (51, .aload 11, 2), (53, .iconst 0, 1), (54, .iconst 2, 1), (55, .iconst 2, 1), (56, .invokevirtual 12, 3), (59, .aload 11, 2), (61, .iconst 1, 1), (62, .iconst 1, 1), (63, .iconst 1, 1), (64, .invokevirtual 12, 3), (67, .aload 11, 2), (69, .iconst 2, 1), (70, .iconst 1, 1), (71, .iconst 1, 1), (72, .invokevirtual 16, 3), (75, .aload 11, 2), (77, .iconst 2, 1), (78, .iconst 2, 1), (79, .iconst 2, 1), (80, .invokevirtual 12, 3), (83, .new 19, 3), (86, .dup, 1), (87, .iconst 3, 1), (88, .invokespecial 21, 3), (91, .astore 12, 2), (93, .aload 12, 2), (95, .iconst 0, 1), (96, .iload_n 0, 1), (97, .iload_n 0, 1), (98, .invokevirtual 22, 3), (101, .aload 12, 2), (103, .iconst 1, 1), (104, .iload 9, 2), (106, .iload 9, 2), (108, .invokevirtual 22, 3), (111, .aload 12, 2), (113, .iconst 2, 1), (114, .iload 10, 2), (116, .iload 10, 2), (118, .invokevirtual 22, 3), (121, .new 25, 3), (124, .dup, 1), (125, .iconst 3, 1), (126, .iconst 2, 1), (127, .invokespecial 27, 3), (130, .astore 13, 2), (132, .aload 13, 2), (134, .aload 11, 2), (136, .aload 12, 2), (138, .invokevirtual 30, 3), (141, .ifCond .ne 5, 3), (146, .iload 6, 2), (148, .iconst 1, 1), (149, .iand, 1), (150, .istore 14, 2), (152, .iload 14, 2), (154, .ifCond .ne 8, 3), (157, .iload 9, 2), (159, .goto 5, 3), (162, .iload 10, 2), (164, .istore 15, 2), (166, .iload 14, 2), (168, .ifCond .ne 8, 3), (171, .iload 10, 2), (173, .goto 5, 3), (176, .iload 9, 2), (178, .istore 16, 2), (180, .iload_n 0, 1), (181, .iload 15, 2), (183, .invokestatic 34, 3), (186, .istore 17, 2), (188, .iload_n 0, 1), (189, .iload 15, 2), (191, .invokestatic 40, 3), (194, .istore 18, 2), (196, .iload 6, 2), (198, .iconst 1, 1), (199, .iushr, 1), (200, .iconst 3, 1), (201, .iand, 1), (202, .iload 17, 2), (204, .iload 18, 2), (206, .iload 16, 2), (208, .iload_n 3, 1), (209, .invokestatic 43, 3), (212, .istore 19, 2), (214, .iload 6, 2), (216, .iconst 3, 1), (217, .iushr, 1), (218, .iconst 3, 1), (219, .iand, 1), (220, .iload 17, 2), (222, .iload 18, 2), (224, .iload 16, 2), (226, .iload 4, 2), (228, .invokestatic 43, 3), (231, .istore 20, 2), (233, .iload 6, 2), (235, .iconst 5, 1), (236, .iushr, 1), (237, .iconst 3, 1), (238, .iand, 1), (239, .iload 17, 2), (241, .iload 18, 2), (243, .iload 16, 2), (245, .iload 5, 2), (247, .invokestatic 43, 3), (250, .istore 21, 2), (252, .iload 19, 2), (254, .iload 20, 2), (256, .if_icmp .le 15, 3), (259, .iload 19, 2), (261, .istore 22, 2), (263, .iload 20, 2), (265, .istore 19, 2), (267, .iload 22, 2), (269, .istore 20, 2), (271, .iload 20, 2), (273, .iload 21, 2), (275, .if_icmp .le 15, 3), (278, .iload 20, 2), (280, .istore 22, 2), (282, .iload 21, 2), (284, .istore 20, 2), (286, .iload 22, 2), (288, .istore 21, 2), (290, .iload 19, 2), (292, .iload 20, 2), (294, .if_icmp .le 15, 3), (297, .iload 19, 2), (299, .istore 22, 2), (301, .iload 20, 2), (303, .istore 19, 2), (305, .iload 22, 2), (307, .istore 20, 2), (309, .iload 6, 2), (311, .bipush 7, 2), (313, .iushr, 1), (314, .iconst 3, 1), (315, .iand, 1), (316, .istore 23, 2), (318, .iconst 3, 1), (319, .newarray .int, 2), (321, .dup, 1), (322, .iconst 0, 1), (323, .iload 19, 2), (325, .iastore, 1), (326, .dup, 1), (327, .iconst 1, 1), (328, .iload 20, 2), (330, .iastore, 1), (331, .dup, 1), (332, .iconst 2, 1), (333, .iload 21, 2), (335, .iastore, 1), (336, .astore 24, 2), (338, .iconst 3, 1), (339, .newarray .int, 2), (341, .astore 25, 2), (343, .iconst 0, 1), (344, .istore 26, 2), (346, .iload 23, 2), (348, .ifCond .le 27, 3), (351, .iload 19, 2), (353, .iload 17, 2), (355, .if_icmp .eq 10, 3), (358, .iload 19, 2), (360, .iload 18, 2), (362, .if_icmp .ne 13, 3), (365, .aload 25, 2), (367, .iload 26, 2), (369, .iload 19, 2), (371, .iastore, 1), (372, .iinc 26 1, 3), (375, .iload 23, 2), (377, .iconst 1, 1), (378, .if_icmp .le 27, 3), (381, .iload 20, 2), (383, .iload 17, 2), (385, .if_icmp .eq 10, 3), (388, .iload 20, 2), (390, .iload 18, 2), (392, .if_icmp .ne 13, 3), (395, .aload 25, 2), (397, .iload 26, 2), (399, .iload 20, 2), (401, .iastore, 1), (402, .iinc 26 1, 3), (405, .iload 23, 2), (407, .iconst 2, 1), (408, .if_icmp .le 27, 3), (411, .iload 21, 2), (413, .iload 17, 2), (415, .if_icmp .eq 10, 3), (418, .iload 21, 2), (420, .iload 18, 2), (422, .if_icmp .ne 13, 3), (425, .aload 25, 2), (427, .iload 26, 2), (429, .iload 21, 2), (431, .iastore, 1), (432, .iinc 26 1, 3), (435, .aload 13, 2), (437, .iload 14, 2), (439, .aload 24, 2), (441, .iload 23, 2), (443, .invokevirtual 49, 3), (446, .istore 27, 2), (448, .iload 26, 2), (450, .iconst 1, 1), (451, .if_icmp .lt 14, 3), (454, .aload 24, 2), (456, .iconst 0, 1), (457, .iaload, 1), (458, .aload 25, 2), (460, .iconst 0, 1), (461, .iaload, 1), (462, .if_icmp .ne 41, 3), (465, .iload 26, 2), (467, .iconst 2, 1), (468, .if_icmp .lt 14, 3), (471, .aload 24, 2), (473, .iconst 1, 1), (474, .iaload, 1), (475, .aload 25, 2), (477, .iconst 1, 1), (478, .iaload, 1), (479, .if_icmp .ne 24, 3), (482, .iload 26, 2), (484, .iconst 3, 1), (485, .if_icmp .lt 14, 3), (488, .aload 24, 2), (490, .iconst 2, 1), (491, .iaload, 1), (492, .aload 25, 2), (494, .iconst 2, 1), (495, .iaload, 1), (496, .if_icmp .ne 7, 3), (499, .iconst 1, 1), (500, .goto 4, 3), (503, .iconst 0, 1), (504, .istore 28, 2), (506, .iload 23, 2), (508, .ifCond .gt 12, 3), (511, .aload 24, 2), (513, .iconst 0, 1), (514, .iaload, 1), (515, .iload 19, 2), (517, .if_icmp .ne 37, 3), (520, .iload 23, 2), (522, .iconst 1, 1), (523, .if_icmp .gt 12, 3), (526, .aload 24, 2), (528, .iconst 1, 1), (529, .iaload, 1), (530, .iload 20, 2), (532, .if_icmp .ne 22, 3), (535, .iload 23, 2), (537, .iconst 2, 1), (538, .if_icmp .gt 12, 3), (541, .aload 24, 2), (543, .iconst 2, 1), (544, .iaload, 1), (545, .iload 21, 2), (547, .if_icmp .ne 7, 3), (550, .iconst 1, 1), (551, .goto 4, 3), (554, .iconst 0, 1), (555, .istore 29, 2), (557, .iload 27, 2), (559, .iload 26, 2), (561, .if_icmp .ne 17, 3), (564, .iload 28, 2), (566, .ifCond .eq 12, 3), (569, .iload 29, 2), (571, .ifCond .eq 7, 3), (574, .iconst 1, 1), (575, .goto 4, 3), (578, .iconst 0, 1), (579, .ireturn, 1)]
theorem DL0 : own_L code dl0 := by decide +kernel
set_option maxRecDepth 65536 in
set_option maxHeartbeats 4000000 in
theorem rm0 {l : Launch} {Z : State} {a0 : Array Value} (hw : own_T a0 Z) (ws : List Jvm.Cond) (x0 : Int32) (x1 : Int64) (x2 x3 : Int32) (x4 x5 : Int32) (em : Addr) (h0 : Heap) (n0 : Nat) (Z0 : n0 ≤ h0.size) (F0 : Sta Z h0 kOI "EMPTY" "Ljava/util/OptionalInt;" (.ref em)) (F1 : Exa Z h0 em kOI) (F2 : Fld Z h0 em kOI "isPresent" "Z" (.int 0)) :
    MetFree l x (head1 (Jvm.Cond.code x code maxLocals ret :: ws) room_1) (fun aW U => aW = #[.int x0, .long x1, .int x2, .int x3, .int x4, .int x5] ∧ Z.Warmed39 U.vm ∧ U.heap = h0) (fun _ _ _ _ _ => True) (fun _ U o U' => ∃ v L, o = .returned v ∧ Q0 Z x0 x1 x2 x3 x4 x5 em h0 n0 v U'.heap L ∧ ReturnedEndW U o U' L 80 2368) := by
  refine MetFree.of_bodySF (plainFor_of_name own_pn74) hisR ?_
  intro p e s m args below meth c s₁ Bd hml0 hP hK
  obtain ⟨rfl, hZ, hh⟩ := hP
  have hx := Bd.exec
  have hby := Bd.bytes
  have hml : c.maxLocals = 30 := hml0
  have B := own_mkB hx hby hml DL0
  have hown : s.vm.findClass kLW = some m.cls := findClass_of_methodNamed Bd.named
  have hnm := (name_of_methodNamed Bd.named Bd.method).1
  have X0 : Stand p l e room_1 s m #[.int x0, .long x1, .int x2, .int x3, .int x4, .int x5] below meth c s₁ [] 0 0 := Stand.of_body Bd
  have e0 : s₁.heap = h0 := by rw [← hh, Bd.state]; rfl
  have N0 := Fr.nil n0
  have X0 : Stand p l e room_1 (s.setVm s.vm) m #[.int x0, .long x1, .int x2, .int x3, .int x4, .int x5] below meth c s₁ [] 0 0 := X0
  have hS : s.Since s.vm 0 := (State.WarmedH.refl s).since 0
  have hk : 0 ≤ h0.size := Nat.zero_le _
  have hZ : Z.Warmed39 (s.setVm s.vm).vm := hZ
  have hown : (s.setVm s.vm).vm.findClass kLW = some m.cls := hown
  obtain ⟨Pq, hPq⟩ : ∃ P, P = own_PW s below (fun v h L => Q0 Z x0 x1 x2 x3 x4 x5 em h0 n0 v h L) 80 2368 := ⟨_, rfl⟩
  suffices hgo : own_Go p.tables e below Pq s₁ (mkF m 0 #[sI x0, sJ x1, .second, sI x2, sI x3, sI x4, sI x5, sU, sU, sU, sU, sU, sU, sU, sU, sU, sU, sU, sU, sU, sU, sU, sU, sU, sU, sU, sU, sU, sU, sU] []) by
    subst hPq
    obtain ⟨t, k1, k2, o, k3, k4⟩ := hgo
    exact ⟨t, o, castTop (own_ef0 m x0 x1 x2 x3 x4 x5) k1, k2, k3, k4⟩
  show own_Go _ _ _ _ s₁ (mkF m 0 #[sI x0, sJ x1, .second, sI x2, sI x3, sI x4, sI x5, sU, sU, sU, sU, sU, sU, sU, sU, sU, sU, sU, sU, sU, sU, sU, sU, sU, sU, sU, sU, sU, sU, sU] [])
  refine own_st (fun t k => XS.lloadN X0.here hx rfl (B.d 0 rfl) rfl k) ?_
  show own_Go _ _ _ _ s₁ (mkF m 1 _ [.long x1])
  refine own_st (fun t k => XS.bipush X0.here hx rfl (B.d 1 rfl) k) ?_
  show own_Go _ _ _ _ s₁ (mkF m 3 _ [.int 32, .long x1])
  refine own_st (fun t k => XS.lushr X0.here hx rfl (B.d 2 rfl) rfl k) ?_
  show own_Go _ _ _ _ s₁ (mkF m 4 _ [(.long ((x1.toUInt64 >>> ((32 : Int32) &&& 0x3f).toInt64.toUInt64).toInt64))])
  refine own_st (fun t k => XS.l2i X0.here hx rfl (B.d 3 rfl) rfl k) ?_
  show own_Go _ _ _ _ s₁ (mkF m 5 _ [(.int ((x1.toUInt64 >>> ((32 : Int32) &&& 0x3f).toInt64.toUInt64).toInt64).toInt32)])
  generalize hv1 : ((x1.toUInt64 >>> ((32 : Int32) &&& 0x3f).toInt64.toUInt64).toInt64).toInt32 = v1
  refine Sis #[sI x0, sJ x1, .second, sI x2, sI x3, sI x4, sI x5, sI v1, sU, sU, sU, sU, sU, sU, sU, sU, sU, sU, sU, sU, sU, sU, sU, sU, sU, sU, sU, sU, sU, sU] X0 B 4 rfl rfl ?_
  refine own_st (fun t k => XS.lloadN X0.here hx rfl (B.d 5 rfl) rfl k) ?_
  show own_Go _ _ _ _ s₁ (mkF m 8 _ [.long x1])
  refine own_st (fun t k => XS.l2i X0.here hx rfl (B.d 6 rfl) rfl k) ?_
  show own_Go _ _ _ _ s₁ (mkF m 9 _ [(.int x1.toInt32)])
  refine Sis #[sI x0, sJ x1, .second, sI x2, sI x3, sI x4, sI x5, sI v1, sI x1.toInt32, sU, sU, sU, sU, sU, sU, sU, sU, sU, sU, sU, sU, sU, sU, sU, sU, sU, sU, sU, sU, sU] X0 B 7 rfl rfl ?_
  refine SiN X0 B 8 rfl rfl ?_
  refine Si X0 B 9 rfl rfl ?_
  have J5 : ∀ (Tj5 : State) (Lj5 : List Loc) (p6 : Int32) (vmj5 : Vm) (kj5 : Nat), Stand p l e room_1 (s.setVm vmj5) m #[.int x0, .long x1, .int x2, .int x3, .int x4, .int x5] below meth c Tj5 Lj5 0 0 → Tj5.heap = h0 → Fr n0 Lj5 → s.Since vmj5 kj5 → kj5 ≤ h0.size → Z.Warmed39 (s.setVm vmj5).vm → (s.setVm vmj5).vm.findClass kLW = some m.cls → p6 = (if v1 = (0 : Int32) then (1 : Int32) else v1) → own_Go p.tables e below Pq Tj5 (mkF m 23 #[sI x0, sJ x1, .second, sI x2, sI x3, sI x4, sI x5, sI v1, sI x1.toInt32, sU, sU, sU, sU, sU, sU, sU, sU, sU, sU, sU, sU, sU, sU, sU, sU, sU, sU, sU, sU, sU] [.int p6, .int x0]) := by
    intro Tj5 Lj5 p6 vmj5 kj5 Xj5 ej5 Nj5 hS hk hZ hown qp6
    show own_Go _ _ _ _ Tj5 (mkF m 23 _ [.int p6, .int x0])
    refine own_st (fun t k => XS.iadd Xj5.here hx rfl (B.d 14 rfl) rfl k) ?_
    show own_Go _ _ _ _ Tj5 (mkF m 24 _ [(.int (x0 + p6))])
    generalize hv7 : (x0 + p6) = v7
    refine Sis #[sI x0, sJ x1, .second, sI x2, sI x3, sI x4, sI x5, sI v1, sI x1.toInt32, sI v7, sU, sU, sU, sU, sU, sU, sU, sU, sU, sU, sU, sU, sU, sU, sU, sU, sU, sU, sU, sU] Xj5 B 15 rfl rfl ?_
    refine SiN Xj5 B 16 rfl rfl ?_
    refine Si Xj5 B 17 rfl rfl ?_
    have J11 : ∀ (Tj11 : State) (Lj11 : List Loc) (p12 : Int32) (vmj11 : Vm) (kj11 : Nat), Stand p l e room_1 (s.setVm vmj11) m #[.int x0, .long x1, .int x2, .int x3, .int x4, .int x5] below meth c Tj11 Lj11 0 0 → Tj11.heap = h0 → Fr n0 Lj11 → s.Since vmj11 kj11 → kj11 ≤ h0.size → Z.Warmed39 (s.setVm vmj11).vm → (s.setVm vmj11).vm.findClass kLW = some m.cls → p12 = (if x1.toInt32 = (0 : Int32) then (1 : Int32) else x1.toInt32) → own_Go p.tables e below Pq Tj11 (mkF m 38 #[sI x0, sJ x1, .second, sI x2, sI x3, sI x4, sI x5, sI v1, sI x1.toInt32, sI v7, sU, sU, sU, sU, sU, sU, sU, sU, sU, sU, sU, sU, sU, sU, sU, sU, sU, sU, sU, sU] [.int p12, .int x0]) := by
      intro Tj11 Lj11 p12 vmj11 kj11 Xj11 ej11 Nj11 hS hk hZ hown qp12
      show own_Go _ _ _ _ Tj11 (mkF m 38 _ [.int p12, .int x0])
      refine own_st (fun t k => XS.iadd Xj11.here hx rfl (B.d 22 rfl) rfl k) ?_
      show own_Go _ _ _ _ Tj11 (mkF m 39 _ [(.int (x0 + p12))])
      generalize hv13 : (x0 + p12) = v13
      refine Sis #[sI x0, sJ x1, .second, sI x2, sI x3, sI x4, sI x5, sI v1, sI x1.toInt32, sI v7, sI v13, sU, sU, sU, sU, sU, sU, sU, sU, sU, sU, sU, sU, sU, sU, sU, sU, sU, sU, sU] Xj11 B 23 rfl rfl ?_
      obtain ⟨T14, h14, X14, e14, E14, A14, D14, -, st14⟩ := newO Xj11 hx hZ hown (hw 0 rfl) (hw 1 rfl) (hw 2 rfl) ej11 (g := (mkF m 41 #[sI x0, sJ x1, .second, sI x2, sI x3, sI x4, sI x5, sI v1, sI x1.toInt32, sI v7, sI v13, sU, sU, sU, sU, sU, sU, sU, sU, sU, sU, sU, sU, sU, sU, sU, sU, sU, sU, sU] [])) rfl (B.d 24 rfl) (by decide) (by decide)
      obtain ⟨b14, g14⟩ : ∃ z, z = h0.size := ⟨_, rfl⟩
      rw [← g14] at A14 D14 st14
      refine own_st st14 ?_
      have ne15 : em ≠ b14 := own_nl F1.lt (Nat.le_of_eq g14.symm)
      have gx16 : n0 ≤ b14 := Nat.le_trans Z0 (Nat.le_of_eq g14.symm)
      have Z17 : n0 ≤ h14.size := Nat.le_trans Z0 E14.1
      have hk := Nat.le_trans hk E14.1
      have f18 : Fld Z h14 b14 kTB "originMin" "[I" .null := D14 (Or.inr (hw 23 rfl)) (ty := (.array .int)) (by decide)
      have f19 : Fld Z h14 b14 kTB "originMax" "[I" .null := D14 (Or.inr (hw 25 rfl)) (ty := (.array .int)) (by decide)
      have f20 : Fld Z h14 b14 kTB "durationMin" "[I" .null := D14 (Or.inr (hw 27 rfl)) (ty := (.array .int)) (by decide)
      have f21 : Fld Z h14 b14 kTB "durationMax" "[I" .null := D14 (Or.inr (hw 29 rfl)) (ty := (.array .int)) (by decide)
      have f22 : Fld Z h14 b14 kTB "endMin" "[I" .null := D14 (Or.inr (hw 31 rfl)) (ty := (.array .int)) (by decide)
      have f23 : Fld Z h14 b14 kTB "endMax" "[I" .null := D14 (Or.inr (hw 33 rfl)) (ty := (.array .int)) (by decide)
      have f24 : Fld Z h14 b14 kTB "heightMin" "[I" .null := D14 (Or.inr (hw 35 rfl)) (ty := (.array .int)) (by decide)
      have f25 : Fld Z h14 b14 kTB "heightMax" "[I" .null := D14 (Or.inr (hw 37 rfl)) (ty := (.array .int)) (by decide)
      show own_Go _ _ _ _ T14 (mkF m 44 _ [.ref b14])
      refine own_st (fun t k => XS.dup X14.here hx rfl (B.d 25 rfl) rfl rfl k) ?_
      show own_Go _ _ _ _ T14 (mkF m 45 _ [.ref b14, .ref b14])
      refine Sc 3 X14 B 26 rfl rfl ?_
      obtain ⟨_, _, ⟨T26, L26, k26, n26⟩, -, X26, hS26, gr26, ⟨Lc26, hQ26, l26, y26, z26⟩, st26⟩ := X14.specialBackS hx (y := ym2) rfl hown (mvT hZ (hw 3 rfl)) (mvT hZ (hw 4 rfl)) (mvT hZ (hw 5 rfl)) (by decide) (backOfS (W := 1) (rm2 hw b14 (.null) (.null) (.null) (.null) (.null) (.null) (.null) (.null) h14 n0 Z17 A14 f18 f19 f20 f21 f22 f23 f24 f25 gx16) hZ (hw 5 rfl) (hw 2 rfl) (by decide) (by decide)) (g := (mkF m 46 #[sI x0, sJ x1, .second, sI x2, sI x3, sI x4, sI x5, sI v1, sI x1.toInt32, sI v7, sI v13, sU, sU, sU, sU, sU, sU, sU, sU, sU, sU, sU, sU, sU, sU, sU, sU, sU, sU, sU] [.int 3, .ref b14, .ref b14])) rfl (by rw [hml]; rfl) (Steps.refl _) (a := b14) (argsL := [.int 3]) (rest := [.ref b14]) (lenOf own_pd__I_V rfl) rfl (by show 2 * 0 + _ ≤ _; exact Nat.le_of_eq rfl) (B.d 27 rfl) (fun _ _ => ⟨rfl, e14, (by decide : 1 + 10 ≤ _), (by decide : 9 + 68 ≤ _)⟩)
      dsimp only [Pt.U, Pt.locs, Pt.cells, Pt.slots] at X26 l26 y26 z26 st26 hQ26 hS26 gr26
      subst l26 y26 z26
      obtain ⟨X26, hS, hZ, hown⟩ := rebS hS (by rw [e14]; exact hk) X26 hS26 gr26 hZ hown
      have hk := Nat.le_refl T26.heap.size
      obtain ⟨r26_k_om, r26_k_oM, r26_k_en, r26_k_eM, r26_k_hm, r26_k_hM, b26_om, b26_oM, b26_en, b26_eM, b26_hm, b26_hM, rfl, NQ26, K26, gx_b26_om, sz_b26_om, gx_b26_oM, sz_b26_oM, gx_b26_en, sz_b26_en, gx_b26_eM, sz_b26_eM, gx_b26_hm, sz_b26_hm, gx_b26_hM, sz_b26_hM, fq26_0, fq26_1, fq26_2, fq26_3, fq26_4, fq26_5, fq26_6, fq26_7, fq26_8, fq26_9, fq26_10, fq26_11, fq26_12, hq26_0, hq26_1, hq26_2, hq26_3, hq26_4, hq26_5, hq26_6, hq26_7, hq26_8, hq26_9, hq26_10, hq26_11, hq26_12, hq26_13, hq26_14⟩ := hQ26
      have N27 := Fr.app Nj11 NQ26
      refine own_st (fun t k => st26.trans k) ?_
      have Z28 : n0 ≤ T26.heap.size := Nat.le_trans Z17 K26.1
      have lt30 := (F1.ext E14).lt
      have ne29 := own_nl lt30 sz_b26_om
      have lt32 := A14.lt
      have ne31 := own_nl lt32 sz_b26_om
      have ne33 := own_nl lt30 sz_b26_oM
      have ne34 := own_nl lt32 sz_b26_oM
      have ne35 := own_nl lt30 sz_b26_en
      have ne36 := own_nl lt32 sz_b26_en
      have ne37 := own_nl lt30 sz_b26_eM
      have ne38 := own_nl lt32 sz_b26_eM
      show own_Go _ _ _ _ T26 (mkF m 49 _ [.ref b14])
      refine Sas #[sI x0, sJ x1, .second, sI x2, sI x3, sI x4, sI x5, sI v1, sI x1.toInt32, sI v7, sI v13, sR b14, sU, sU, sU, sU, sU, sU, sU, sU, sU, sU, sU, sU, sU, sU, sU, sU, sU, sU] X26 B 28 rfl rfl rfl ?_
      refine Sa X26 B 29 rfl rfl rfl ?_
      refine Sc 0 X26 B 30 rfl rfl ?_
      refine Sc 2 X26 B 31 rfl rfl ?_
      refine Sc 2 X26 B 32 rfl rfl ?_
      refine Kvi (wt := 0) (y := ym4) none X26 B hZ hown (hw 38 rfl) (hw 39 rfl) (hw 41 rfl) (hw 40 rfl) (hw 2 rfl) (hw 42 rfl) (rm4 hw b14 0 2 b26_en b26_eM r26_k_en r26_k_eM (fun _ => 0) (fun _ => 0) T26.heap n0 Z28 fq26_0 fq26_3 fq26_4 fq26_9 fq26_10 hq26_9 (Ne.symm ne36) (Ne.symm ne38) ⟨by decide, by decide⟩ gx_b26_en gx_b26_eM) rfl fq26_0 own_pd__III_V 33 rfl rfl rfl (fun _ _ _ q => q.1) fun T43 Lc43 X43 hQ43 => ?_
      obtain ⟨-, NQ43, K43, fq43_0, fq43_1⟩ := hQ43
      have N44 := Fr.app N27 NQ43
      have Z45 : n0 ≤ T43.heap.size := Nat.le_trans Z28 K43.1
      have hk := Nat.le_trans hk K43.1
      show own_Go _ _ _ _ T43 (mkF m 59 _ [])
      refine Sa X43 B 34 rfl rfl rfl ?_
      refine Sc 1 X43 B 35 rfl rfl ?_
      refine Sc 1 X43 B 36 rfl rfl ?_
      refine Sc 1 X43 B 37 rfl rfl ?_
      have f47 := (fq26_0.keep K43)
      have f48 := (fq26_3.keep K43 (ninS ne36 (ninS ne38 nin0)))
      have f49 := (fq26_4.keep K43 (ninS ne36 (ninS ne38 nin0)))
      refine Kvi (wt := 0) (y := ym4) none X43 B hZ hown (hw 38 rfl) (hw 39 rfl) (hw 41 rfl) (hw 40 rfl) (hw 2 rfl) (hw 42 rfl) (rm4 hw b14 1 1 b26_en b26_eM r26_k_en r26_k_eM (own_updI (fun _ => 0) (0 : Int32).toNatClampNeg (2 : Int32)) (own_updI (fun _ => 0) (0 : Int32).toNatClampNeg (2 : Int32)) T43.heap n0 Z45 f47 f48 f49 fq43_0 fq43_1 hq26_9 (Ne.symm ne36) (Ne.symm ne38) ⟨by decide, by decide⟩ gx_b26_en gx_b26_eM) rfl f47 own_pd__III_V 38 rfl rfl rfl (fun _ _ _ q => q.1) fun T46 Lc46 X46 hQ46 => ?_
      obtain ⟨-, NQ46, K46, fq46_0, fq46_1⟩ := hQ46
      have N50 := Fr.app N44 NQ46
      have Z51 : n0 ≤ T46.heap.size := Nat.le_trans Z45 K46.1
      have hk := Nat.le_trans hk K46.1
      show own_Go _ _ _ _ T46 (mkF m 67 _ [])
      refine Sa X46 B 39 rfl rfl rfl ?_
      refine Sc 2 X46 B 40 rfl rfl ?_
      refine Sc 1 X46 B 41 rfl rfl ?_
      refine Sc 1 X46 B 42 rfl rfl ?_
      have f53 := (f47.keep K46)
      have f54 := ((fq26_1.keep K43 (ninS ne36 (ninS ne38 nin0))).keep K46 (ninS ne36 (ninS ne38 nin0)))
      have f55 := ((fq26_2.keep K43 (ninS ne36 (ninS ne38 nin0))).keep K46 (ninS ne36 (ninS ne38 nin0)))
      have f56 := ((fq26_7.keep K43 (ninS hq26_1 (ninS hq26_2 nin0))).keep K46 (ninS hq26_1 (ninS hq26_2 nin0)))
      have f57 := ((fq26_8.keep K43 (ninS hq26_5 (ninS hq26_6 nin0))).keep K46 (ninS hq26_5 (ninS hq26_6 nin0)))
      refine Kvi (wt := 0) (y := ym5) none X46 B hZ hown (hw 46 rfl) (hw 47 rfl) (hw 49 rfl) (hw 48 rfl) (hw 2 rfl) (hw 50 rfl) (rm5 hw b14 2 1 b26_om b26_oM r26_k_om r26_k_oM (fun _ => 0) (fun _ => 0) T46.heap n0 Z51 f53 f54 f55 f56 f57 hq26_0 (Ne.symm ne31) (Ne.symm ne34) ⟨by decide, by decide⟩ gx_b26_om gx_b26_oM) rfl f53 own_pd__III_V 43 rfl rfl rfl (fun _ _ _ q => q.1) fun T52 Lc52 X52 hQ52 => ?_
      obtain ⟨-, NQ52, K52, fq52_0, fq52_1⟩ := hQ52
      have N58 := Fr.app N50 NQ52
      have Z59 : n0 ≤ T52.heap.size := Nat.le_trans Z51 K52.1
      have hk := Nat.le_trans hk K52.1
      show own_Go _ _ _ _ T52 (mkF m 75 _ [])
      refine Sa X52 B 44 rfl rfl rfl ?_
      refine Sc 2 X52 B 45 rfl rfl ?_
      refine Sc 2 X52 B 46 rfl rfl ?_
      refine Sc 2 X52 B 47 rfl rfl ?_
      have f61 := (f53.keep K52)
      have f62 := ((f48.keep K46 (ninS ne36 (ninS ne38 nin0))).keep K52 (ninS ne31 (ninS ne34 nin0)))
      have f63 := ((f49.keep K46 (ninS ne36 (ninS ne38 nin0))).keep K52 (ninS ne31 (ninS ne34 nin0)))
      have f64 := (fq46_0.keep K52 (ninS (Ne.symm hq26_1) (ninS (Ne.symm hq26_5) nin0)))
      have f65 := (fq46_1.keep K52 (ninS (Ne.symm hq26_2) (ninS (Ne.symm hq26_6) nin0)))
      refine Kvi (wt := 0) (y := ym4) none X52 B hZ hown (hw 38 rfl) (hw 39 rfl) (hw 41 rfl) (hw 40 rfl) (hw 2 rfl) (hw 42 rfl) (rm4 hw b14 2 2 b26_en b26_eM r26_k_en r26_k_eM (own_updI (own_updI (fun _ => 0) (0 : Int32).toNatClampNeg (2 : Int32)) (1 : Int32).toNatClampNeg (1 : Int32)) (own_updI (own_updI (fun _ => 0) (0 : Int32).toNatClampNeg (2 : Int32)) (1 : Int32).toNatClampNeg (1 : Int32)) T52.heap n0 Z59 f61 f62 f63 f64 f65 hq26_9 (Ne.symm ne36) (Ne.symm ne38) ⟨by decide, by decide⟩ gx_b26_en gx_b26_eM) rfl f61 own_pd__III_V 48 rfl rfl rfl (fun _ _ _ q => q.1) fun T60 Lc60 X60 hQ60 => ?_
      obtain ⟨-, NQ60, K60, fq60_0, fq60_1⟩ := hQ60
      have N66 := Fr.app N58 NQ60
      have Z67 : n0 ≤ T60.heap.size := Nat.le_trans Z59 K60.1
      have hk := Nat.le_trans hk K60.1
      show own_Go _ _ _ _ T60 (mkF m 83 _ [])
      obtain ⟨T68, h68, X68, e68, E68, A68, D68, -, st68⟩ := newO X60 hx hZ hown (hw 51 rfl) (hw 52 rfl) (hw 53 rfl) rfl (g := (mkF m 83 #[sI x0, sJ x1, .second, sI x2, sI x3, sI x4, sI x5, sI v1, sI x1.toInt32, sI v7, sI v13, sR b14, sU, sU, sU, sU, sU, sU, sU, sU, sU, sU, sU, sU, sU, sU, sU, sU, sU, sU] [])) rfl (B.d 49 rfl) (by decide) (by decide)
      obtain ⟨b68, g68⟩ : ∃ z, z = T60.heap.size := ⟨_, rfl⟩
      rw [← g68] at A68 D68 st68
      refine own_st st68 ?_
      have ne69 : em ≠ b68 := own_nl ((((((F1.ext E14).keep K26).keep K43).keep K46).keep K52).keep K60).lt (Nat.le_of_eq g68.symm)
      have ne70 : b14 ≠ b68 := own_nl (f61.keep K60).lt (Nat.le_of_eq g68.symm)
      have ne73 : b26_om ≠ b68 := own_nl (fq52_0.keep K60 (ninS hq26_1 (ninS hq26_2 nin0))).lt (Nat.le_of_eq g68.symm)
      have ne74 : b26_oM ≠ b68 := own_nl (fq52_1.keep K60 (ninS hq26_5 (ninS hq26_6 nin0))).lt (Nat.le_of_eq g68.symm)
      have ne75 : b26_en ≠ b68 := own_nl fq60_0.lt (Nat.le_of_eq g68.symm)
      have gx77 : n0 ≤ b68 := Nat.le_trans Z67 (Nat.le_of_eq g68.symm)
      have Z78 : n0 ≤ h68.size := Nat.le_trans Z67 E68.1
      have hk := Nat.le_trans hk E68.1
      have f79 : Fld Z h68 b68 kTC "min" "[I" .null := D68 (Or.inr (hw 61 rfl)) (ty := (.array .int)) (by decide)
      have f80 : Fld Z h68 b68 kTC "max" "[I" .null := D68 (Or.inr (hw 63 rfl)) (ty := (.array .int)) (by decide)
      have f81 : Fld Z h68 b68 kTC "remaining" "[[I" .null := D68 (Or.inr (hw 67 rfl)) (ty := (.array (.array .int))) (by decide)
      show own_Go _ _ _ _ T68 (mkF m 86 _ [.ref b68])
      refine own_st (fun t k => XS.dup X68.here hx rfl (B.d 50 rfl) rfl rfl k) ?_
      show own_Go _ _ _ _ T68 (mkF m 87 _ [.ref b68, .ref b68])
      refine Sc 3 X68 B 51 rfl rfl ?_
      obtain ⟨_, _, ⟨T82, L82, k82, n82⟩, -, X82, hS82, gr82, ⟨Lc82, hQ82, l82, y82, z82⟩, st82⟩ := X68.specialBackS hx (y := ym9) rfl hown (mvT hZ (hw 54 rfl)) (mvT hZ (hw 55 rfl)) (mvT hZ (hw 56 rfl)) (by decide) (backOfS (W := 1) (rm9 hw b68 (.null) (.null) (.null) h68 n0 Z78 A68 f79 f80 f81 gx77) hZ (hw 56 rfl) (hw 53 rfl) (by decide) (by decide)) (g := (mkF m 88 #[sI x0, sJ x1, .second, sI x2, sI x3, sI x4, sI x5, sI v1, sI x1.toInt32, sI v7, sI v13, sR b14, sU, sU, sU, sU, sU, sU, sU, sU, sU, sU, sU, sU, sU, sU, sU, sU, sU, sU] [.int 3, .ref b68, .ref b68])) rfl (by rw [hml]; rfl) (Steps.refl _) (a := b68) (argsL := [.int 3]) (rest := [.ref b68]) (lenOf own_pd__I_V rfl) rfl (by show 2 * 0 + _ ≤ _; exact Nat.le_of_eq rfl) (B.d 52 rfl) (fun _ _ => ⟨rfl, e68, (by decide : 12 + 5 ≤ _), (by decide : 81 + 53 ≤ _)⟩)
      dsimp only [Pt.U, Pt.locs, Pt.cells, Pt.slots] at X82 l82 y82 z82 st82 hQ82 hS82 gr82
      subst l82 y82 z82
      obtain ⟨X82, hS, hZ, hown⟩ := rebS hS (by rw [e68]; exact hk) X82 hS82 gr82 hZ hown
      have hk := Nat.le_refl T82.heap.size
      obtain ⟨r82_k_cmi, r82_k_cma, r82_k_cre, b82_cmi, b82_cma, b82_cre, rfl, NQ82, K82, gx_b82_cmi, sz_b82_cmi, gx_b82_cma, sz_b82_cma, gx_b82_cre, sz_b82_cre, fq82_0, fq82_1, fq82_2, fq82_3, fq82_4, fq82_5, fq82_6, hq82_0, hq82_1, hq82_2⟩ := hQ82
      have N83 := Fr.app N66 NQ82
      refine own_st (fun t k => st82.trans k) ?_
      have Z84 : n0 ≤ T82.heap.size := Nat.le_trans Z78 K82.1
      have lt86 := (((((((F1.ext E14).keep K26).keep K43).keep K46).keep K52).keep K60).ext E68).lt
      have ne85 := own_nl lt86 sz_b82_cmi
      have lt88 := ((f61.keep K60).ext E68).lt
      have ne87 := own_nl lt88 sz_b82_cmi
      have lt94 := ((fq52_0.keep K60 (ninS hq26_1 (ninS hq26_2 nin0))).ext E68).lt
      have ne93 := own_nl lt94 sz_b82_cmi
      have lt96 := ((fq52_1.keep K60 (ninS hq26_5 (ninS hq26_6 nin0))).ext E68).lt
      have ne95 := own_nl lt96 sz_b82_cmi
      have lt98 := (fq60_0.ext E68).lt
      have ne97 := own_nl lt98 sz_b82_cmi
      have lt102 := A68.lt
      have ne101 := own_nl lt102 sz_b82_cmi
      have ne103 := own_nl lt86 sz_b82_cma
      have ne104 := own_nl lt88 sz_b82_cma
      have ne107 := own_nl lt94 sz_b82_cma
      have ne108 := own_nl lt96 sz_b82_cma
      have ne109 := own_nl lt98 sz_b82_cma
      have ne111 := own_nl lt102 sz_b82_cma
      have ne112 := own_nl lt86 sz_b82_cre
      have ne113 := own_nl lt88 sz_b82_cre
      have ne116 := own_nl lt94 sz_b82_cre
      have ne117 := own_nl lt96 sz_b82_cre
      have ne118 := own_nl lt98 sz_b82_cre
      have ne120 := own_nl lt102 sz_b82_cre
      show own_Go _ _ _ _ T82 (mkF m 91 _ [.ref b68])
      refine Sas #[sI x0, sJ x1, .second, sI x2, sI x3, sI x4, sI x5, sI v1, sI x1.toInt32, sI v7, sI v13, sR b14, sR b68, sU, sU, sU, sU, sU, sU, sU, sU, sU, sU, sU, sU, sU, sU, sU, sU, sU] X82 B 53 rfl rfl rfl ?_
      refine Sa X82 B 54 rfl rfl rfl ?_
      refine Sc 0 X82 B 55 rfl rfl ?_
      refine SiN X82 B 56 rfl rfl ?_
      refine SiN X82 B 57 rfl rfl ?_
      refine Kvi (wt := 0) (y := ym10) none X82 B hZ hown (hw 68 rfl) (hw 69 rfl) (hw 71 rfl) (hw 70 rfl) (hw 53 rfl) (hw 72 rfl) (rm10 hw b68 0 x0 b82_cmi b82_cma b82_cre r82_k_cmi r82_k_cma r82_k_cre (fun _ => 0) (fun _ => 0) T82.heap n0 Z84 fq82_0 fq82_1 fq82_2 fq82_3 fq82_4 fq82_5 fq82_6 ne101 ne111 ne120 hq82_0 hq82_1 hq82_2 ⟨by decide, by decide⟩ gx_b82_cmi gx_b82_cma gx_b82_cre) rfl fq82_0 own_pd__III_V 58 rfl rfl rfl (fun _ _ _ q => q.1) fun T121 Lc121 X121 hQ121 => ?_
      obtain ⟨-, NQ121, K121, fq121_0, fq121_1, fq121_2⟩ := hQ121
      have N122 := Fr.app N83 NQ121
      have Z123 : n0 ≤ T121.heap.size := Nat.le_trans Z84 K121.1
      have hk := Nat.le_trans hk K121.1
      show own_Go _ _ _ _ T121 (mkF m 101 _ [])
      refine Sa X121 B 59 rfl rfl rfl ?_
      refine Sc 1 X121 B 60 rfl rfl ?_
      refine Si X121 B 61 rfl rfl ?_
      refine Si X121 B 62 rfl rfl ?_
      have f125 := (fq82_0.keep K121)
      have f126 := (fq82_1.keep K121 (ninS ne101 (ninS ne111 (ninS ne120 nin0))))
      have f127 := (fq82_2.keep K121 (ninS ne101 (ninS ne111 (ninS ne120 nin0))))
      have f128 := (fq82_3.keep K121 (ninS ne101 (ninS ne111 (ninS ne120 nin0))))
      refine Kvi (wt := 0) (y := ym10) none X121 B hZ hown (hw 68 rfl) (hw 69 rfl) (hw 71 rfl) (hw 70 rfl) (hw 53 rfl) (hw 72 rfl) (rm10 hw b68 1 v7 b82_cmi b82_cma b82_cre r82_k_cmi r82_k_cma r82_k_cre (own_updI (fun _ => 0) (0 : Int32).toNatClampNeg x0) (own_updI (fun _ => 0) (0 : Int32).toNatClampNeg x0) T121.heap n0 Z123 f125 f126 f127 f128 fq121_0 fq121_1 fq121_2 ne101 ne111 ne120 hq82_0 hq82_1 hq82_2 ⟨by decide, by decide⟩ gx_b82_cmi gx_b82_cma gx_b82_cre) rfl f125 own_pd__III_V 63 rfl rfl rfl (fun _ _ _ q => q.1) fun T124 Lc124 X124 hQ124 => ?_
      obtain ⟨-, NQ124, K124, fq124_0, fq124_1, fq124_2⟩ := hQ124
      have N129 := Fr.app N122 NQ124
      have Z130 : n0 ≤ T124.heap.size := Nat.le_trans Z123 K124.1
      have hk := Nat.le_trans hk K124.1
      show own_Go _ _ _ _ T124 (mkF m 111 _ [])
      refine Sa X124 B 64 rfl rfl rfl ?_
      refine Sc 2 X124 B 65 rfl rfl ?_
      refine Si X124 B 66 rfl rfl ?_
      refine Si X124 B 67 rfl rfl ?_
      have f132 := (f125.keep K124)
      have f133 := (f126.keep K124 (ninS ne101 (ninS ne111 (ninS ne120 nin0))))
      have f134 := (f127.keep K124 (ninS ne101 (ninS ne111 (ninS ne120 nin0))))
      have f135 := (f128.keep K124 (ninS ne101 (ninS ne111 (ninS ne120 nin0))))
      refine Kvi (wt := 0) (y := ym10) none X124 B hZ hown (hw 68 rfl) (hw 69 rfl) (hw 71 rfl) (hw 70 rfl) (hw 53 rfl) (hw 72 rfl) (rm10 hw b68 2 v13 b82_cmi b82_cma b82_cre r82_k_cmi r82_k_cma r82_k_cre (own_updI (own_updI (fun _ => 0) (0 : Int32).toNatClampNeg x0) (1 : Int32).toNatClampNeg v7) (own_updI (own_updI (fun _ => 0) (0 : Int32).toNatClampNeg x0) (1 : Int32).toNatClampNeg v7) T124.heap n0 Z130 f132 f133 f134 f135 fq124_0 fq124_1 fq124_2 ne101 ne111 ne120 hq82_0 hq82_1 hq82_2 ⟨by decide, by decide⟩ gx_b82_cmi gx_b82_cma gx_b82_cre) rfl f132 own_pd__III_V 68 rfl rfl rfl (fun _ _ _ q => q.1) fun T131 Lc131 X131 hQ131 => ?_
      obtain ⟨-, NQ131, K131, fq131_0, fq131_1, fq131_2⟩ := hQ131
      have N136 := Fr.app N129 NQ131
      have Z137 : n0 ≤ T131.heap.size := Nat.le_trans Z130 K131.1
      have hk := Nat.le_trans hk K131.1
      show own_Go _ _ _ _ T131 (mkF m 121 _ [])
      obtain ⟨T138, h138, X138, e138, E138, A138, D138, -, st138⟩ := newO X131 hx hZ hown (hw 73 rfl) (hw 74 rfl) (hw 75 rfl) rfl (g := (mkF m 121 #[sI x0, sJ x1, .second, sI x2, sI x3, sI x4, sI x5, sI v1, sI x1.toInt32, sI v7, sI v13, sR b14, sR b68, sU, sU, sU, sU, sU, sU, sU, sU, sU, sU, sU, sU, sU, sU, sU, sU, sU] [])) rfl (B.d 69 rfl) (by decide) (by decide)
      obtain ⟨b138, g138⟩ : ∃ z, z = T131.heap.size := ⟨_, rfl⟩
      rw [← g138] at A138 D138 st138
      refine own_st st138 ?_
      have ne139 : em ≠ b138 := own_nl (((((((((((F1.ext E14).keep K26).keep K43).keep K46).keep K52).keep K60).ext E68).keep K82).keep K121).keep K124).keep K131).lt (Nat.le_of_eq g138.symm)
      have ne140 : b14 ≠ b138 := own_nl ((((((f61.keep K60).ext E68).keep K82).keep K121).keep K124).keep K131).lt (Nat.le_of_eq g138.symm)
      have ne143 : b26_om ≠ b138 := own_nl ((((((fq52_0.keep K60 (ninS hq26_1 (ninS hq26_2 nin0))).ext E68).keep K82 (ninS ne73 nin0)).keep K121 (ninS ne93 (ninS ne107 (ninS ne116 nin0)))).keep K124 (ninS ne93 (ninS ne107 (ninS ne116 nin0)))).keep K131 (ninS ne93 (ninS ne107 (ninS ne116 nin0)))).lt (Nat.le_of_eq g138.symm)
      have ne144 : b26_oM ≠ b138 := own_nl ((((((fq52_1.keep K60 (ninS hq26_5 (ninS hq26_6 nin0))).ext E68).keep K82 (ninS ne74 nin0)).keep K121 (ninS ne95 (ninS ne108 (ninS ne117 nin0)))).keep K124 (ninS ne95 (ninS ne108 (ninS ne117 nin0)))).keep K131 (ninS ne95 (ninS ne108 (ninS ne117 nin0)))).lt (Nat.le_of_eq g138.symm)
      have ne145 : b26_en ≠ b138 := own_nl (((((fq60_0.ext E68).keep K82 (ninS ne75 nin0)).keep K121 (ninS ne97 (ninS ne109 (ninS ne118 nin0)))).keep K124 (ninS ne97 (ninS ne109 (ninS ne118 nin0)))).keep K131 (ninS ne97 (ninS ne109 (ninS ne118 nin0)))).lt (Nat.le_of_eq g138.symm)
      have ne147 : b68 ≠ b138 := own_nl (f132.keep K131).lt (Nat.le_of_eq g138.symm)
      have ne148 : b82_cmi ≠ b138 := own_nl fq131_0.lt (Nat.le_of_eq g138.symm)
      have ne149 : b82_cma ≠ b138 := own_nl fq131_1.lt (Nat.le_of_eq g138.symm)
      have gx151 : n0 ≤ b138 := Nat.le_trans Z137 (Nat.le_of_eq g138.symm)
      have Z152 : n0 ≤ h138.size := Nat.le_trans Z137 E138.1
      have hk := Nat.le_trans hk E138.1
      have f153 : Fld Z h138 b138 kST "starts" "[I" .null := D138 (Or.inr (hw 90 rfl)) (ty := (.array .int)) (by decide)
      have f154 : Fld Z h138 b138 kST "ends" "[I" .null := D138 (Or.inr (hw 92 rfl)) (ty := (.array .int)) (by decide)
      have f155 : Fld Z h138 b138 kCP "colours" "[I" .null := D138 (Or.inl (hw 94 rfl)) (ty := (.array .int)) (by decide)
      have f156 : Fld Z h138 b138 kCP "limit" "I" (.int 0) := D138 (Or.inr (hw 96 rfl)) (ty := .int) (by decide)
      have f157 : Fld Z h138 b138 kCP "sweep" "Lcom/example/tidemark/tidemark/core/Sweep;" .null := D138 (Or.inr (hw 110 rfl)) (ty := (.object kSW)) (by decide)
      have f158 : Fld Z h138 b138 kST "size" "I" (.int 0) := D138 (Or.inl (hw 165 rfl)) (ty := .int) (by decide)
      show own_Go _ _ _ _ T138 (mkF m 124 _ [.ref b138])
      refine own_st (fun t k => XS.dup X138.here hx rfl (B.d 70 rfl) rfl rfl k) ?_
      show own_Go _ _ _ _ T138 (mkF m 125 _ [.ref b138, .ref b138])
      refine Sc 3 X138 B 71 rfl rfl ?_
      refine Sc 2 X138 B 72 rfl rfl ?_
      refine Ksp (wt := 1) (y := ym21) none X138 B hZ hown (hw 76 rfl) (hw 77 rfl) (hw 75 rfl) (hw 78 rfl) (rm21 hw b138 (.null) (.null) (.null) (.null) h138 n0 Z152 A138 f153 f154 f157 f155 f158 f156 gx151) e138 own_pd__II_V 73 rfl rfl rfl (fun _ _ _ q => by obtain ⟨_, _, _, _, _, _, _, _, _, _, _, e, _⟩ := q; exact e) fun T159 Lc159 X159 hQ159 => ?_
      obtain ⟨r159_k_sa, r159_k_ea, r159_k_co, r159_k_so, r159_k_se, b159_sa, b159_ea, b159_co, b159_sw, b159_so, b159_se, -, NQ159, K159, gx_b159_sa, sz_b159_sa, gx_b159_ea, sz_b159_ea, gx_b159_co, sz_b159_co, gx_b159_sw, sz_b159_sw, gx_b159_so, sz_b159_so, gx_b159_se, sz_b159_se, fq159_0, fq159_1, fq159_2, fq159_3, fq159_4, fq159_5, fq159_6, fq159_7, fq159_8, fq159_9, fq159_10, fq159_11, fq159_12, fq159_13, fq159_14, fq159_15, fq159_16, fq159_17, hq159_0, hq159_1, hq159_2, hq159_3, hq159_4, hq159_5, hq159_6, hq159_7, hq159_8, hq159_9, hq159_10, hq159_11, hq159_12, hq159_13, hq159_14⟩ := hQ159
      have N160 := Fr.app N136 NQ159
      have Z161 : n0 ≤ T159.heap.size := Nat.le_trans Z152 K159.1
      have hk := Nat.le_trans hk K159.1
      have lt163 := ((((((((((((F1.ext E14).keep K26).keep K43).keep K46).keep K52).keep K60).ext E68).keep K82).keep K121).keep K124).keep K131).ext E138).lt
      have ne162 := own_nl lt163 sz_b159_sa
      have lt165 := (((((((f61.keep K60).ext E68).keep K82).keep K121).keep K124).keep K131).ext E138).lt
      have ne164 := own_nl lt165 sz_b159_sa
      have lt171 := (((((((fq52_0.keep K60 (ninS hq26_1 (ninS hq26_2 nin0))).ext E68).keep K82 (ninS ne73 nin0)).keep K121 (ninS ne93 (ninS ne107 (ninS ne116 nin0)))).keep K124 (ninS ne93 (ninS ne107 (ninS ne116 nin0)))).keep K131 (ninS ne93 (ninS ne107 (ninS ne116 nin0)))).ext E138).lt
      have ne170 := own_nl lt171 sz_b159_sa
      have lt173 := (((((((fq52_1.keep K60 (ninS hq26_5 (ninS hq26_6 nin0))).ext E68).keep K82 (ninS ne74 nin0)).keep K121 (ninS ne95 (ninS ne108 (ninS ne117 nin0)))).keep K124 (ninS ne95 (ninS ne108 (ninS ne117 nin0)))).keep K131 (ninS ne95 (ninS ne108 (ninS ne117 nin0)))).ext E138).lt
      have ne172 := own_nl lt173 sz_b159_sa
      have lt175 := ((((((fq60_0.ext E68).keep K82 (ninS ne75 nin0)).keep K121 (ninS ne97 (ninS ne109 (ninS ne118 nin0)))).keep K124 (ninS ne97 (ninS ne109 (ninS ne118 nin0)))).keep K131 (ninS ne97 (ninS ne109 (ninS ne118 nin0)))).ext E138).lt
      have ne174 := own_nl lt175 sz_b159_sa
      have lt179 := ((f132.keep K131).ext E138).lt
      have ne178 := own_nl lt179 sz_b159_sa
      have lt181 := (fq131_0.ext E138).lt
      have ne180 := own_nl lt181 sz_b159_sa
      have lt183 := (fq131_1.ext E138).lt
      have ne182 := own_nl lt183 sz_b159_sa
      have lt187 := A138.lt
      have ne186 := own_nl lt187 sz_b159_sa
      have ne188 := own_nl lt163 sz_b159_ea
      have ne189 := own_nl lt165 sz_b159_ea
      have ne192 := own_nl lt171 sz_b159_ea
      have ne193 := own_nl lt173 sz_b159_ea
      have ne194 := own_nl lt175 sz_b159_ea
      have ne196 := own_nl lt179 sz_b159_ea
      have ne197 := own_nl lt181 sz_b159_ea
      have ne198 := own_nl lt183 sz_b159_ea
      have ne200 := own_nl lt187 sz_b159_ea
      have ne201 := own_nl lt163 sz_b159_co
      have ne202 := own_nl lt165 sz_b159_co
      have ne205 := own_nl lt171 sz_b159_co
      have ne206 := own_nl lt173 sz_b159_co
      have ne207 := own_nl lt175 sz_b159_co
      have ne209 := own_nl lt179 sz_b159_co
      have ne210 := own_nl lt181 sz_b159_co
      have ne211 := own_nl lt183 sz_b159_co
      have ne213 := own_nl lt187 sz_b159_co
      have ne214 := own_nl lt163 sz_b159_sw
      have ne215 := own_nl lt165 sz_b159_sw
      have ne218 := own_nl lt171 sz_b159_sw
      have ne219 := own_nl lt173 sz_b159_sw
      have ne220 := own_nl lt175 sz_b159_sw
      have ne222 := own_nl lt179 sz_b159_sw
      have ne223 := own_nl lt181 sz_b159_sw
      have ne224 := own_nl lt183 sz_b159_sw
      have ne226 := own_nl lt187 sz_b159_sw
      have ne227 := own_nl lt163 sz_b159_so
      have ne228 := own_nl lt165 sz_b159_so
      have ne231 := own_nl lt171 sz_b159_so
      have ne232 := own_nl lt173 sz_b159_so
      have ne233 := own_nl lt175 sz_b159_so
      have ne235 := own_nl lt179 sz_b159_so
      have ne236 := own_nl lt181 sz_b159_so
      have ne237 := own_nl lt183 sz_b159_so
      have ne239 := own_nl lt187 sz_b159_so
      have ne240 := own_nl lt163 sz_b159_se
      have ne241 := own_nl lt165 sz_b159_se
      have ne244 := own_nl lt171 sz_b159_se
      have ne245 := own_nl lt173 sz_b159_se
      have ne246 := own_nl lt175 sz_b159_se
      have ne248 := own_nl lt179 sz_b159_se
      have ne249 := own_nl lt181 sz_b159_se
      have ne250 := own_nl lt183 sz_b159_se
      have ne252 := own_nl lt187 sz_b159_se
      show own_Go _ _ _ _ T159 (mkF m 130 _ [.ref b138])
      refine Sas #[sI x0, sJ x1, .second, sI x2, sI x3, sI x4, sI x5, sI v1, sI x1.toInt32, sI v7, sI v13, sR b14, sR b68, sR b138, sU, sU, sU, sU, sU, sU, sU, sU, sU, sU, sU, sU, sU, sU, sU, sU] X159 B 74 rfl rfl rfl ?_
      have f253 := ((((((((fq52_1.keep K60 (ninS hq26_5 (ninS hq26_6 nin0))).ext E68).keep K82 (ninS ne74 nin0)).keep K121 (ninS ne95 (ninS ne108 (ninS ne117 nin0)))).keep K124 (ninS ne95 (ninS ne108 (ninS ne117 nin0)))).keep K131 (ninS ne95 (ninS ne108 (ninS ne117 nin0)))).ext E138).keep K159 (ninS ne144 nin0))
      have f254 := own_AI.cong3 (g2 := own_tO) f253 (by decide) (by decide) (by decide)
      have f255 := (((((((fq60_0.ext E68).keep K82 (ninS ne75 nin0)).keep K121 (ninS ne97 (ninS ne109 (ninS ne118 nin0)))).keep K124 (ninS ne97 (ninS ne109 (ninS ne118 nin0)))).keep K131 (ninS ne97 (ninS ne109 (ninS ne118 nin0)))).ext E138).keep K159 (ninS ne145 nin0))
      have f256 := own_AI.cong3 (g2 := own_tE) f255 (by decide) (by decide) (by decide)
      refine Sa X159 B 75 rfl rfl rfl ?_
      refine Sa X159 B 76 rfl rfl rfl ?_
      refine Sa X159 B 77 rfl rfl rfl ?_
      have f258 := ((((((((f61.keep K60).ext E68).keep K82).keep K121).keep K124).keep K131).ext E138).keep K159)
      have f259 := (((((((((f54.keep K52 (ninS ne31 (ninS ne34 nin0))).keep K60 (ninS ne36 (ninS ne38 nin0))).ext E68).keep K82 (ninS ne70 nin0)).keep K121 (ninS ne87 (ninS ne104 (ninS ne113 nin0)))).keep K124 (ninS ne87 (ninS ne104 (ninS ne113 nin0)))).keep K131 (ninS ne87 (ninS ne104 (ninS ne113 nin0)))).ext E138).keep K159 (ninS ne140 nin0))
      have f260 := (((((((((f55.keep K52 (ninS ne31 (ninS ne34 nin0))).keep K60 (ninS ne36 (ninS ne38 nin0))).ext E68).keep K82 (ninS ne70 nin0)).keep K121 (ninS ne87 (ninS ne104 (ninS ne113 nin0)))).keep K124 (ninS ne87 (ninS ne104 (ninS ne113 nin0)))).keep K131 (ninS ne87 (ninS ne104 (ninS ne113 nin0)))).ext E138).keep K159 (ninS ne140 nin0))
      have f261 := ((((((((f62.keep K60 (ninS ne36 (ninS ne38 nin0))).ext E68).keep K82 (ninS ne70 nin0)).keep K121 (ninS ne87 (ninS ne104 (ninS ne113 nin0)))).keep K124 (ninS ne87 (ninS ne104 (ninS ne113 nin0)))).keep K131 (ninS ne87 (ninS ne104 (ninS ne113 nin0)))).ext E138).keep K159 (ninS ne140 nin0))
      have f262 := ((((((((fq52_0.keep K60 (ninS hq26_1 (ninS hq26_2 nin0))).ext E68).keep K82 (ninS ne73 nin0)).keep K121 (ninS ne93 (ninS ne107 (ninS ne116 nin0)))).keep K124 (ninS ne93 (ninS ne107 (ninS ne116 nin0)))).keep K131 (ninS ne93 (ninS ne107 (ninS ne116 nin0)))).ext E138).keep K159 (ninS ne143 nin0))
      have f263 := (((f132.keep K131).ext E138).keep K159)
      have f264 := (((f133.keep K131 (ninS ne101 (ninS ne111 (ninS ne120 nin0)))).ext E138).keep K159 (ninS ne147 nin0))
      have f265 := (((f134.keep K131 (ninS ne101 (ninS ne111 (ninS ne120 nin0)))).ext E138).keep K159 (ninS ne147 nin0))
      have f266 := ((fq131_0.ext E138).keep K159 (ninS ne148 nin0))
      have f267 := ((fq131_1.ext E138).keep K159 (ninS ne149 nin0))
      have f268 := (own_staK2 ((own_staK2 (own_staK2 (own_staK2 (own_staK2 ((own_staK2 (own_staK2 (own_staK2 (own_staK2 (own_staK2 (F0.ext E14) K26 (allS (own_nsE A14) all0)) K43 (allS (own_nsI fq26_9) (allS (own_nsI fq26_10) all0))) K46 (allS (own_nsI fq43_0) (allS (own_nsI fq43_1) all0))) K52 (allS (own_nsI f56) (allS (own_nsI f57) all0))) K60 (allS (own_nsI f64) (allS (own_nsI f65) all0))).ext E68) K82 (allS (own_nsE A68) all0)) K121 (allS (own_nsI fq82_4) (allS (own_nsI fq82_5) (allS (own_nsR fq82_6) all0)))) K124 (allS (own_nsI fq121_0) (allS (own_nsI fq121_1) (allS (own_nsR fq121_2) all0)))) K131 (allS (own_nsI fq124_0) (allS (own_nsI fq124_1) (allS (own_nsR fq124_2) all0)))).ext E138) K159 (allS (own_nsE A138) all0))
      have f269 := (((((((((((((F1.ext E14).keep K26).keep K43).keep K46).keep K52).keep K60).ext E68).keep K82).keep K121).keep K124).keep K131).ext E138).keep K159)
      have f270 := (((((((((((((F2.ext E14).keep K26 (ninS ne15 nin0)).keep K43 (ninS ne35 (ninS ne37 nin0))).keep K46 (ninS ne35 (ninS ne37 nin0))).keep K52 (ninS ne29 (ninS ne33 nin0))).keep K60 (ninS ne35 (ninS ne37 nin0))).ext E68).keep K82 (ninS ne69 nin0)).keep K121 (ninS ne85 (ninS ne103 (ninS ne112 nin0)))).keep K124 (ninS ne85 (ninS ne103 (ninS ne112 nin0)))).keep K131 (ninS ne85 (ninS ne103 (ninS ne112 nin0)))).ext E138).keep K159 (ninS ne139 nin0))
      refine Kvi (wt := 0) (y := ym54) (some (.int 1)) X159 B hZ hown (hw 111 rfl) (hw 112 rfl) (hw 114 rfl) (hw 113 rfl) (hw 75 rfl) (hw 115 rfl) (rm72 hw b138 b14 b68 b26_om b26_oM b26_en b82_cmi b82_cma b159_sa b159_ea b159_co b159_sw b159_so b159_se em r26_k_om r26_k_oM r26_k_en r82_k_cmi r82_k_cma r159_k_sa r159_k_ea r159_k_co r159_k_so r159_k_se (own_updI (fun _ => 0) (2 : Int32).toNatClampNeg (1 : Int32)) (own_updI (own_updI (own_updI (fun _ => 0) (0 : Int32).toNatClampNeg x0) (1 : Int32).toNatClampNeg v7) (2 : Int32).toNatClampNeg v13) (fun _ => 0) (fun _ => 0) (fun _ => 0) 0 0 T159.heap n0 Z161 f258 f259 f260 f261 f262 f254 f256 f263 f264 f265 f266 f267 fq159_0 fq159_3 fq159_1 fq159_2 fq159_4 fq159_5 fq159_6 fq159_12 fq159_13 fq159_15 fq159_14 fq159_7 fq159_8 fq159_9 fq159_10 fq159_11 fq159_16 fq159_17 f268 f269 f270 (own_nc qp6 hv7) (own_nc qp12 hv13) (List.nodup_cons.mpr ⟨(ninS (Ne.symm ne140) (ninS (Ne.symm ne143) (ninS (Ne.symm ne144) (ninS (Ne.symm ne145) (ninS (Ne.symm ne147) (ninS (Ne.symm ne148) (ninS (Ne.symm ne149) (ninS ne186 (ninS ne200 (ninS ne213 (ninS ne226 (ninS ne239 (ninS ne252 (ninS (Ne.symm ne139) nin0)))))))))))))), (List.nodup_cons.mpr ⟨(ninS ne31 (ninS ne34 (ninS ne36 (ninS ne70 (ninS ne87 (ninS ne104 (ninS ne164 (ninS ne189 (ninS ne202 (ninS ne215 (ninS ne228 (ninS ne241 (ninS (Ne.symm ne15) nin0))))))))))))), (List.nodup_cons.mpr ⟨(ninS hq26_0 (ninS hq26_1 (ninS ne73 (ninS ne93 (ninS ne107 (ninS ne170 (ninS ne192 (ninS ne205 (ninS ne218 (ninS ne231 (ninS ne244 (ninS (Ne.symm ne29) nin0)))))))))))), (List.nodup_cons.mpr ⟨(ninS hq26_5 (ninS ne74 (ninS ne95 (ninS ne108 (ninS ne172 (ninS ne193 (ninS ne206 (ninS ne219 (ninS ne232 (ninS ne245 (ninS (Ne.symm ne33) nin0))))))))))), (List.nodup_cons.mpr ⟨(ninS ne75 (ninS ne97 (ninS ne109 (ninS ne174 (ninS ne194 (ninS ne207 (ninS ne220 (ninS ne233 (ninS ne246 (ninS (Ne.symm ne35) nin0)))))))))), (List.nodup_cons.mpr ⟨(ninS ne101 (ninS ne111 (ninS ne178 (ninS ne196 (ninS ne209 (ninS ne222 (ninS ne235 (ninS ne248 (ninS (Ne.symm ne69) nin0))))))))), (List.nodup_cons.mpr ⟨(ninS hq82_0 (ninS ne180 (ninS ne197 (ninS ne210 (ninS ne223 (ninS ne236 (ninS ne249 (ninS (Ne.symm ne85) nin0)))))))), (List.nodup_cons.mpr ⟨(ninS ne182 (ninS ne198 (ninS ne211 (ninS ne224 (ninS ne237 (ninS ne250 (ninS (Ne.symm ne103) nin0))))))), (List.nodup_cons.mpr ⟨(ninS hq159_0 (ninS hq159_1 (ninS hq159_2 (ninS hq159_3 (ninS hq159_4 (ninS (Ne.symm ne162) nin0)))))), (List.nodup_cons.mpr ⟨(ninS hq159_5 (ninS hq159_6 (ninS hq159_7 (ninS hq159_8 (ninS (Ne.symm ne188) nin0))))), (List.nodup_cons.mpr ⟨(ninS hq159_9 (ninS hq159_10 (ninS hq159_11 (ninS (Ne.symm ne201) nin0)))), (List.nodup_cons.mpr ⟨(ninS hq159_12 (ninS hq159_13 (ninS (Ne.symm ne214) nin0))), (List.nodup_cons.mpr ⟨(ninS hq159_14 (ninS (Ne.symm ne227) nin0)), (List.nodup_cons.mpr ⟨(ninS (Ne.symm ne240) nin0), (List.nodup_cons.mpr ⟨nin0, List.nodup_nil⟩)⟩)⟩)⟩)⟩)⟩)⟩)⟩)⟩)⟩)⟩)⟩)⟩)⟩)⟩) gx151 gx_b159_sw gx_b159_so gx_b159_se gx_b159_sa gx_b159_ea) rfl fq159_0 own_pd__Lcom_example_tidemark_tidemark_core_TaskBounds_Lcom_example_tidemark_tidemark_core_TaskColours__Z 78 rfl rfl rfl (fun _ _ _ q => by obtain ⟨_, _, _, e, _⟩ := q; exact e) fun T257 Lc257 X257 hQ257 => ?_
      obtain ⟨r257_k_nb, r257_gC, b257_nb, -, NQ257, K257, gx_b257_nb, sz_b257_nb, fq257_0, fq257_1, fq257_2, fq257_3, hq257_0⟩ := hQ257
      have N271 := Fr.app N160 NQ257
      have Z272 : n0 ≤ T257.heap.size := Nat.le_trans Z161 K257.1
      have hk := Nat.le_trans hk K257.1
      show own_Go _ _ _ _ T257 (mkF m 141 _ [.int 1])
      refine Sfy 141 146 X257 B 79 rfl ((if0 _ _).trans (feq (by decide : ¬ ((1 : Int32) = (0 : Int32)))).2) ?_
      refine Si X257 B 80 rfl rfl ?_
      refine Sc 1 X257 B 81 rfl rfl ?_
      refine own_st (fun t k => XS.iand X257.here hx rfl (B.d 82 rfl) rfl k) ?_
      show own_Go _ _ _ _ T257 (mkF m 150 _ [(.int (x5 &&& (1 : Int32)))])
      generalize hv311 : (x5 &&& (1 : Int32)) = v311
      refine Sis #[sI x0, sJ x1, .second, sI x2, sI x3, sI x4, sI x5, sI v1, sI x1.toInt32, sI v7, sI v13, sR b14, sR b68, sR b138, sI v311, sU, sU, sU, sU, sU, sU, sU, sU, sU, sU, sU, sU, sU, sU, sU] X257 B 83 rfl rfl ?_
      refine Si X257 B 84 rfl rfl ?_
      have J315 : ∀ (Tj315 : State) (Lj315 : List Loc) (p316 : Int32) (vmj315 : Vm) (kj315 : Nat), Stand p l e room_1 (s.setVm vmj315) m #[.int x0, .long x1, .int x2, .int x3, .int x4, .int x5] below meth c Tj315 Lj315 36 201 → Tj315.heap = T257.heap → Fr n0 Lj315 → s.Since vmj315 kj315 → kj315 ≤ T257.heap.size → Z.Warmed39 (s.setVm vmj315).vm → (s.setVm vmj315).vm.findClass kLW = some m.cls → p316 = (if v311 = (0 : Int32) then v7 else v13) → own_Go p.tables e below Pq Tj315 (mkF m 164 #[sI x0, sJ x1, .second, sI x2, sI x3, sI x4, sI x5, sI v1, sI x1.toInt32, sI v7, sI v13, sR b14, sR b68, sR b138, sI v311, sU, sU, sU, sU, sU, sU, sU, sU, sU, sU, sU, sU, sU, sU, sU] [.int p316]) := by
        intro Tj315 Lj315 p316 vmj315 kj315 Xj315 ej315 Nj315 hS hk hZ hown qp316
        show own_Go _ _ _ _ Tj315 (mkF m 164 _ [.int p316])
        refine Sis #[sI x0, sJ x1, .second, sI x2, sI x3, sI x4, sI x5, sI v1, sI x1.toInt32, sI v7, sI v13, sR b14, sR b68, sR b138, sI v311, sI p316, sU, sU, sU, sU, sU, sU, sU, sU, sU, sU, sU, sU, sU, sU] Xj315 B 89 rfl rfl ?_
        refine Si Xj315 B 90 rfl rfl ?_
        have J320 : ∀ (Tj320 : State) (Lj320 : List Loc) (p321 : Int32) (vmj320 : Vm) (kj320 : Nat), Stand p l e room_1 (s.setVm vmj320) m #[.int x0, .long x1, .int x2, .int x3, .int x4, .int x5] below meth c Tj320 Lj320 36 201 → Tj320.heap = T257.heap → Fr n0 Lj320 → s.Since vmj320 kj320 → kj320 ≤ T257.heap.size → Z.Warmed39 (s.setVm vmj320).vm → (s.setVm vmj320).vm.findClass kLW = some m.cls → p321 = (if v311 = (0 : Int32) then v13 else v7) → own_Go p.tables e below Pq Tj320 (mkF m 178 #[sI x0, sJ x1, .second, sI x2, sI x3, sI x4, sI x5, sI v1, sI x1.toInt32, sI v7, sI v13, sR b14, sR b68, sR b138, sI v311, sI p316, sU, sU, sU, sU, sU, sU, sU, sU, sU, sU, sU, sU, sU, sU] [.int p321]) := by
          intro Tj320 Lj320 p321 vmj320 kj320 Xj320 ej320 Nj320 hS hk hZ hown qp321
          show own_Go _ _ _ _ Tj320 (mkF m 178 _ [.int p321])
          refine Sis #[sI x0, sJ x1, .second, sI x2, sI x3, sI x4, sI x5, sI v1, sI x1.toInt32, sI v7, sI v13, sR b14, sR b68, sR b138, sI v311, sI p316, sI p321, sU, sU, sU, sU, sU, sU, sU, sU, sU, sU, sU, sU, sU] Xj320 B 95 rfl rfl ?_
          refine SiN Xj320 B 96 rfl rfl ?_
          refine Si Xj320 B 97 rfl rfl ?_
          refine Kst (wt := 0) (y := ym37) (some (.int (own_min x0 p316))) Xj320 B hZ hown (hw 325 rfl) (hw 251 rfl) (hw 81 rfl) (hw 252 rfl) (rm48 hw x0 p316 T257.heap n0 Z272 ) ej320 own_pd__II_I 98 rfl rfl rfl (fun _ _ _ q => q.1) fun T322 Lc322 X322 hQ322 => ?_
          obtain ⟨-, NQ322, eq322⟩ := hQ322
          have N323 := Fr.app Nj320 NQ322
          show own_Go _ _ _ _ T322 (mkF m 186 _ [(.int (own_min x0 p316))])
          generalize hv324 : (own_min x0 p316) = v324
          refine Sis #[sI x0, sJ x1, .second, sI x2, sI x3, sI x4, sI x5, sI v1, sI x1.toInt32, sI v7, sI v13, sR b14, sR b68, sR b138, sI v311, sI p316, sI p321, sI v324, sU, sU, sU, sU, sU, sU, sU, sU, sU, sU, sU, sU] X322 B 99 rfl rfl ?_
          refine SiN X322 B 100 rfl rfl ?_
          refine Si X322 B 101 rfl rfl ?_
          refine Kst (wt := 0) (y := ym19) (some (.int (own_mxi x0 p316))) X322 B hZ hown (hw 326 rfl) (hw 80 rfl) (hw 81 rfl) (hw 82 rfl) (rm19 hw x0 p316 T257.heap n0 Z272 ) eq322 own_pd__II_I 102 rfl rfl rfl (fun _ _ _ q => q.1) fun T325 Lc325 X325 hQ325 => ?_
          obtain ⟨-, NQ325, eq325⟩ := hQ325
          have N326 := Fr.app N323 NQ325
          show own_Go _ _ _ _ T325 (mkF m 194 _ [(.int (own_mxi x0 p316))])
          generalize hv327 : (own_mxi x0 p316) = v327
          refine Sis #[sI x0, sJ x1, .second, sI x2, sI x3, sI x4, sI x5, sI v1, sI x1.toInt32, sI v7, sI v13, sR b14, sR b68, sR b138, sI v311, sI p316, sI p321, sI v324, sI v327, sU, sU, sU, sU, sU, sU, sU, sU, sU, sU, sU] X325 B 103 rfl rfl ?_
          refine Si X325 B 104 rfl rfl ?_
          refine Sc 1 X325 B 105 rfl rfl ?_
          refine own_st (fun t k => XS.iushr X325.here hx rfl (B.d 106 rfl) rfl k) ?_
          show own_Go _ _ _ _ T325 (mkF m 200 _ [(.int ((x5.toUInt32 >>> ((1 : Int32) &&& 31).toUInt32).toInt32))])
          refine Sc 3 X325 B 107 rfl rfl ?_
          refine own_st (fun t k => XS.iand X325.here hx rfl (B.d 108 rfl) rfl k) ?_
          show own_Go _ _ _ _ T325 (mkF m 202 _ [(.int (((x5.toUInt32 >>> ((1 : Int32) &&& 31).toUInt32).toInt32) &&& (3 : Int32)))])
          refine Si X325 B 109 rfl rfl ?_
          refine Si X325 B 110 rfl rfl ?_
          refine Si X325 B 111 rfl rfl ?_
          refine SiN X325 B 112 rfl rfl ?_
          refine Kst (wt := 0) (y := ym56) (some (.int (own_pick (((x5.toUInt32 >>> ((1 : Int32) &&& 31).toUInt32).toInt32) &&& (3 : Int32)) v324 v327 p321 x2))) X325 B hZ hown (hw 327 rfl) (hw 328 rfl) (hw 329 rfl) (hw 330 rfl) (rm74 hw (((x5.toUInt32 >>> ((1 : Int32) &&& 31).toUInt32).toInt32) &&& (3 : Int32)) v324 v327 p321 x2 T257.heap n0 Z272 ) eq325 own_pd__IIIII_I 113 rfl rfl rfl (fun _ _ _ q => q.1) fun T328 Lc328 X328 hQ328 => ?_
          obtain ⟨-, NQ328, eq328⟩ := hQ328
          have N329 := Fr.app N326 NQ328
          show own_Go _ _ _ _ T328 (mkF m 212 _ [(.int (own_pick (((x5.toUInt32 >>> ((1 : Int32) &&& 31).toUInt32).toInt32) &&& (3 : Int32)) v324 v327 p321 x2))])
          generalize hv330 : (own_pick (((x5.toUInt32 >>> ((1 : Int32) &&& 31).toUInt32).toInt32) &&& (3 : Int32)) v324 v327 p321 x2) = v330
          refine Sis #[sI x0, sJ x1, .second, sI x2, sI x3, sI x4, sI x5, sI v1, sI x1.toInt32, sI v7, sI v13, sR b14, sR b68, sR b138, sI v311, sI p316, sI p321, sI v324, sI v327, sI v330, sU, sU, sU, sU, sU, sU, sU, sU, sU, sU] X328 B 114 rfl rfl ?_
          refine Si X328 B 115 rfl rfl ?_
          refine Sc 3 X328 B 116 rfl rfl ?_
          refine own_st (fun t k => XS.iushr X328.here hx rfl (B.d 117 rfl) rfl k) ?_
          show own_Go _ _ _ _ T328 (mkF m 218 _ [(.int ((x5.toUInt32 >>> ((3 : Int32) &&& 31).toUInt32).toInt32))])
          refine Sc 3 X328 B 118 rfl rfl ?_
          refine own_st (fun t k => XS.iand X328.here hx rfl (B.d 119 rfl) rfl k) ?_
          show own_Go _ _ _ _ T328 (mkF m 220 _ [(.int (((x5.toUInt32 >>> ((3 : Int32) &&& 31).toUInt32).toInt32) &&& (3 : Int32)))])
          refine Si X328 B 120 rfl rfl ?_
          refine Si X328 B 121 rfl rfl ?_
          refine Si X328 B 122 rfl rfl ?_
          refine Si X328 B 123 rfl rfl ?_
          refine Kst (wt := 0) (y := ym56) (some (.int (own_pick (((x5.toUInt32 >>> ((3 : Int32) &&& 31).toUInt32).toInt32) &&& (3 : Int32)) v324 v327 p321 x3))) X328 B hZ hown (hw 327 rfl) (hw 328 rfl) (hw 329 rfl) (hw 330 rfl) (rm74 hw (((x5.toUInt32 >>> ((3 : Int32) &&& 31).toUInt32).toInt32) &&& (3 : Int32)) v324 v327 p321 x3 T257.heap n0 Z272 ) eq328 own_pd__IIIII_I 124 rfl rfl rfl (fun _ _ _ q => q.1) fun T331 Lc331 X331 hQ331 => ?_
          obtain ⟨-, NQ331, eq331⟩ := hQ331
          have N332 := Fr.app N329 NQ331
          show own_Go _ _ _ _ T331 (mkF m 231 _ [(.int (own_pick (((x5.toUInt32 >>> ((3 : Int32) &&& 31).toUInt32).toInt32) &&& (3 : Int32)) v324 v327 p321 x3))])
          generalize hv333 : (own_pick (((x5.toUInt32 >>> ((3 : Int32) &&& 31).toUInt32).toInt32) &&& (3 : Int32)) v324 v327 p321 x3) = v333
          refine Sis #[sI x0, sJ x1, .second, sI x2, sI x3, sI x4, sI x5, sI v1, sI x1.toInt32, sI v7, sI v13, sR b14, sR b68, sR b138, sI v311, sI p316, sI p321, sI v324, sI v327, sI v330, sI v333, sU, sU, sU, sU, sU, sU, sU, sU, sU] X331 B 125 rfl rfl ?_
          refine Si X331 B 126 rfl rfl ?_
          refine Sc 5 X331 B 127 rfl rfl ?_
          refine own_st (fun t k => XS.iushr X331.here hx rfl (B.d 128 rfl) rfl k) ?_
          show own_Go _ _ _ _ T331 (mkF m 237 _ [(.int ((x5.toUInt32 >>> ((5 : Int32) &&& 31).toUInt32).toInt32))])
          refine Sc 3 X331 B 129 rfl rfl ?_
          refine own_st (fun t k => XS.iand X331.here hx rfl (B.d 130 rfl) rfl k) ?_
          show own_Go _ _ _ _ T331 (mkF m 239 _ [(.int (((x5.toUInt32 >>> ((5 : Int32) &&& 31).toUInt32).toInt32) &&& (3 : Int32)))])
          refine Si X331 B 131 rfl rfl ?_
          refine Si X331 B 132 rfl rfl ?_
          refine Si X331 B 133 rfl rfl ?_
          refine Si X331 B 134 rfl rfl ?_
          refine Kst (wt := 0) (y := ym56) (some (.int (own_pick (((x5.toUInt32 >>> ((5 : Int32) &&& 31).toUInt32).toInt32) &&& (3 : Int32)) v324 v327 p321 x4))) X331 B hZ hown (hw 327 rfl) (hw 328 rfl) (hw 329 rfl) (hw 330 rfl) (rm74 hw (((x5.toUInt32 >>> ((5 : Int32) &&& 31).toUInt32).toInt32) &&& (3 : Int32)) v324 v327 p321 x4 T257.heap n0 Z272 ) eq331 own_pd__IIIII_I 135 rfl rfl rfl (fun _ _ _ q => q.1) fun T334 Lc334 X334 hQ334 => ?_
          obtain ⟨-, NQ334, eq334⟩ := hQ334
          have N335 := Fr.app N332 NQ334
          show own_Go _ _ _ _ T334 (mkF m 250 _ [(.int (own_pick (((x5.toUInt32 >>> ((5 : Int32) &&& 31).toUInt32).toInt32) &&& (3 : Int32)) v324 v327 p321 x4))])
          generalize hv336 : (own_pick (((x5.toUInt32 >>> ((5 : Int32) &&& 31).toUInt32).toInt32) &&& (3 : Int32)) v324 v327 p321 x4) = v336
          refine Sis #[sI x0, sJ x1, .second, sI x2, sI x3, sI x4, sI x5, sI v1, sI x1.toInt32, sI v7, sI v13, sR b14, sR b68, sR b138, sI v311, sI p316, sI p321, sI v324, sI v327, sI v330, sI v333, sI v336, sU, sU, sU, sU, sU, sU, sU, sU] X334 B 136 rfl rfl ?_
          refine Si X334 B 137 rfl rfl ?_
          refine Si X334 B 138 rfl rfl ?_
          have J340 : ∀ (Tj340 : State) (Lj340 : List Loc) (p341 p342 : Int32) (s343 : Slot) (vmj340 : Vm) (kj340 : Nat), Stand p l e room_1 (s.setVm vmj340) m #[.int x0, .long x1, .int x2, .int x3, .int x4, .int x5] below meth c Tj340 Lj340 36 201 → Tj340.heap = T257.heap → Fr n0 Lj340 → s.Since vmj340 kj340 → kj340 ≤ T257.heap.size → Z.Warmed39 (s.setVm vmj340).vm → (s.setVm vmj340).vm.findClass kLW = some m.cls → p341 = (if v333 < v330 then v333 else v330) → p342 = (if v333 < v330 then v330 else v333) → ((∃ (x_s343 : Int32), s343 = .val (.int x_s343)) ∨ (s343 = .unset)) → own_Go p.tables e below Pq Tj340 (mkF m 271 #[sI x0, sJ x1, .second, sI x2, sI x3, sI x4, sI x5, sI v1, sI x1.toInt32, sI v7, sI v13, sR b14, sR b68, sR b138, sI v311, sI p316, sI p321, sI v324, sI v327, sI p341, sI p342, sI v336, s343, sU, sU, sU, sU, sU, sU, sU] []) := by
            intro Tj340 Lj340 p341 p342 s343 vmj340 kj340 Xj340 ej340 Nj340 hS hk hZ hown qp341 qp342 Dj340
            show own_Go _ _ _ _ Tj340 (mkF m 271 #[sI x0, sJ x1, .second, sI x2, sI x3, sI x4, sI x5, sI v1, sI x1.toInt32, sI v7, sI v13, sR b14, sR b68, sR b138, sI v311, sI p316, sI p321, sI v324, sI v327, sI p341, sI p342, sI v336, s343, sU, sU, sU, sU, sU, sU, sU] [])
            refine Si Xj340 B 146 rfl rfl ?_
            refine Si Xj340 B 147 rfl rfl ?_
            have J348 : ∀ (Tj348 : State) (Lj348 : List Loc) (p349 p350 : Int32) (s351 : Slot) (vmj348 : Vm) (kj348 : Nat), Stand p l e room_1 (s.setVm vmj348) m #[.int x0, .long x1, .int x2, .int x3, .int x4, .int x5] below meth c Tj348 Lj348 36 201 → Tj348.heap = T257.heap → Fr n0 Lj348 → s.Since vmj348 kj348 → kj348 ≤ T257.heap.size → Z.Warmed39 (s.setVm vmj348).vm → (s.setVm vmj348).vm.findClass kLW = some m.cls → p349 = (if v336 < p342 then v336 else p342) → p350 = (if v336 < p342 then p342 else v336) → ((∃ (x_s351 : Int32), s351 = .val (.int x_s351)) ∨ (s351 = .unset)) → own_Go p.tables e below Pq Tj348 (mkF m 290 #[sI x0, sJ x1, .second, sI x2, sI x3, sI x4, sI x5, sI v1, sI x1.toInt32, sI v7, sI v13, sR b14, sR b68, sR b138, sI v311, sI p316, sI p321, sI v324, sI v327, sI p341, sI p349, sI p350, s351, sU, sU, sU, sU, sU, sU, sU] []) := by
              intro Tj348 Lj348 p349 p350 s351 vmj348 kj348 Xj348 ej348 Nj348 hS hk hZ hown qp349 qp350 Dj348
              show own_Go _ _ _ _ Tj348 (mkF m 290 #[sI x0, sJ x1, .second, sI x2, sI x3, sI x4, sI x5, sI v1, sI x1.toInt32, sI v7, sI v13, sR b14, sR b68, sR b138, sI v311, sI p316, sI p321, sI v324, sI v327, sI p341, sI p349, sI p350, s351, sU, sU, sU, sU, sU, sU, sU] [])
              refine Si Xj348 B 155 rfl rfl ?_
              refine Si Xj348 B 156 rfl rfl ?_
              have J356 : ∀ (Tj356 : State) (Lj356 : List Loc) (p357 p358 : Int32) (s359 : Slot) (vmj356 : Vm) (kj356 : Nat), Stand p l e room_1 (s.setVm vmj356) m #[.int x0, .long x1, .int x2, .int x3, .int x4, .int x5] below meth c Tj356 Lj356 36 201 → Tj356.heap = T257.heap → Fr n0 Lj356 → s.Since vmj356 kj356 → kj356 ≤ T257.heap.size → Z.Warmed39 (s.setVm vmj356).vm → (s.setVm vmj356).vm.findClass kLW = some m.cls → p357 = (if p349 < p341 then p349 else p341) → p358 = (if p349 < p341 then p341 else p349) → ((∃ (x_s359 : Int32), s359 = .val (.int x_s359)) ∨ (s359 = .unset)) → own_Go p.tables e below Pq Tj356 (mkF m 309 #[sI x0, sJ x1, .second, sI x2, sI x3, sI x4, sI x5, sI v1, sI x1.toInt32, sI v7, sI v13, sR b14, sR b68, sR b138, sI v311, sI p316, sI p321, sI v324, sI v327, sI p357, sI p358, sI p350, s359, sU, sU, sU, sU, sU, sU, sU] []) := by
                intro Tj356 Lj356 p357 p358 s359 vmj356 kj356 Xj356 ej356 Nj356 hS hk hZ hown qp357 qp358 Dj356
                show own_Go _ _ _ _ Tj356 (mkF m 309 #[sI x0, sJ x1, .second, sI x2, sI x3, sI x4, sI x5, sI v1, sI x1.toInt32, sI v7, sI v13, sR b14, sR b68, sR b138, sI v311, sI p316, sI p321, sI v324, sI v327, sI p357, sI p358, sI p350, s359, sU, sU, sU, sU, sU, sU, sU] [])
                refine Si Xj356 B 164 rfl rfl ?_
                refine own_st (fun t k => XS.bipush Xj356.here hx rfl (B.d 165 rfl) k) ?_
                show own_Go _ _ _ _ Tj356 (mkF m 313 _ [.int 7, .int x5])
                refine own_st (fun t k => XS.iushr Xj356.here hx rfl (B.d 166 rfl) rfl k) ?_
                show own_Go _ _ _ _ Tj356 (mkF m 314 _ [(.int ((x5.toUInt32 >>> ((7 : Int32) &&& 31).toUInt32).toInt32))])
                refine Sc 3 Xj356 B 167 rfl rfl ?_
                refine own_st (fun t k => XS.iand Xj356.here hx rfl (B.d 168 rfl) rfl k) ?_
                show own_Go _ _ _ _ Tj356 (mkF m 316 _ [(.int (((x5.toUInt32 >>> ((7 : Int32) &&& 31).toUInt32).toInt32) &&& (3 : Int32)))])
                generalize hv360 : (((x5.toUInt32 >>> ((7 : Int32) &&& 31).toUInt32).toInt32) &&& (3 : Int32)) = v360
                have os361 : storeLocals #[sI x0, sJ x1, .second, sI x2, sI x3, sI x4, sI x5, sI v1, sI x1.toInt32, sI v7, sI v13, sR b14, sR b68, sR b138, sI v311, sI p316, sI p321, sI v324, sI v327, sI p357, sI p358, sI p350, s359, sU, sU, sU, sU, sU, sU, sU] 23 (.int v360) = some #[sI x0, sJ x1, .second, sI x2, sI x3, sI x4, sI x5, sI v1, sI x1.toInt32, sI v7, sI v13, sR b14, sR b68, sR b138, sI v311, sI p316, sI p321, sI v324, sI v327, sI p357, sI p358, sI p350, s359, sI v360, sU, sU, sU, sU, sU, sU] := by rcases Dj356 with ⟨_, rfl⟩ | ⟨rfl⟩ <;> rfl
                refine Sis #[sI x0, sJ x1, .second, sI x2, sI x3, sI x4, sI x5, sI v1, sI x1.toInt32, sI v7, sI v13, sR b14, sR b68, sR b138, sI v311, sI p316, sI p321, sI v324, sI v327, sI p357, sI p358, sI p350, s359, sI v360, sU, sU, sU, sU, sU, sU] Xj356 B 169 rfl os361 ?_
                refine Sc 3 Xj356 B 170 rfl rfl ?_
                obtain ⟨T362, h362, k362, X362, e362, E362, A362, st362⟩ := newP Xj356 hx hZ (hw 21 rfl) ej356 (g := (mkF m 319 #[sI x0, sJ x1, .second, sI x2, sI x3, sI x4, sI x5, sI v1, sI x1.toInt32, sI v7, sI v13, sR b14, sR b68, sR b138, sI v311, sI p316, sI p321, sI v324, sI v327, sI p357, sI p358, sI p350, s359, sI v360, sU, sU, sU, sU, sU, sU] [.int 3])) rfl (B.d 171 rfl) rfl (by decide) (cap := 3) (by decide) (by decide) (by decide) (by decide)
                obtain ⟨b362, g362⟩ : ∃ z, z = T257.heap.size := ⟨_, rfl⟩
                rw [← g362] at A362 st362
                refine own_st st362 ?_
                have ne363 : b138 ≠ b362 := own_nl fq257_0.lt (Nat.le_of_eq g362.symm)
                have ne364 : b257_nb ≠ b362 := own_nl fq257_3.lt (Nat.le_of_eq g362.symm)
                have gx365 : n0 ≤ b362 := Nat.le_trans Z272 (Nat.le_of_eq g362.symm)
                have Z366 : n0 ≤ h362.size := Nat.le_trans Z272 E362.1
                have hk := Nat.le_trans hk E362.1
                have V362 : own_AI Z h362 b362 k362 3 (fun _ => (0 : Int32)) := own_AI.new A362 (by decide)
                show own_Go _ _ _ _ T362 (mkF m 321 _ [.ref b362])
                refine own_st (fun t k => XS.dup X362.here hx rfl (B.d 172 rfl) rfl rfl k) ?_
                show own_Go _ _ _ _ T362 (mkF m 322 _ [.ref b362, .ref b362])
                refine Sc 0 X362 B 173 rfl rfl ?_
                refine Si X362 B 174 rfl rfl ?_
                refine Kis 0 X362 B hZ e362 V362 ⟨by decide, by decide⟩ rfl 175 rfl fun T367 h367 X367 e367 W367 f368 => ?_
                have N369 := Fr.snoc X367 Nj356 gx365
                have Z370 : n0 ≤ h367.size := Nat.le_trans Z366 (Nat.le_of_eq W367.size.symm)
                have hk := Nat.le_trans hk (Nat.le_of_eq W367.size.symm)
                refine own_st (fun t k => XS.dup X367.here hx rfl (B.d 176 rfl) rfl rfl k) ?_
                show own_Go _ _ _ _ T367 (mkF m 327 _ [.ref b362, .ref b362])
                refine Sc 1 X367 B 177 rfl rfl ?_
                refine Si X367 B 178 rfl rfl ?_
                refine Kis 1 X367 B hZ e367 f368 ⟨by decide, by decide⟩ rfl 179 rfl fun T371 h371 X371 e371 W371 f372 => ?_
                have N373 := Fr.snoc X371 N369 gx365
                have Z374 : n0 ≤ h371.size := Nat.le_trans Z370 (Nat.le_of_eq W371.size.symm)
                have hk := Nat.le_trans hk (Nat.le_of_eq W371.size.symm)
                refine own_st (fun t k => XS.dup X371.here hx rfl (B.d 180 rfl) rfl rfl k) ?_
                show own_Go _ _ _ _ T371 (mkF m 332 _ [.ref b362, .ref b362])
                refine Sc 2 X371 B 181 rfl rfl ?_
                refine Si X371 B 182 rfl rfl ?_
                refine Kis 2 X371 B hZ e371 f372 ⟨by decide, by decide⟩ rfl 183 rfl fun T375 h375 X375 e375 W375 f376 => ?_
                have N377 := Fr.snoc X375 N373 gx365
                have Z378 : n0 ≤ h375.size := Nat.le_trans Z374 (Nat.le_of_eq W375.size.symm)
                have hk := Nat.le_trans hk (Nat.le_of_eq W375.size.symm)
                refine Sas #[sI x0, sJ x1, .second, sI x2, sI x3, sI x4, sI x5, sI v1, sI x1.toInt32, sI v7, sI v13, sR b14, sR b68, sR b138, sI v311, sI p316, sI p321, sI v324, sI v327, sI p357, sI p358, sI p350, s359, sI v360, sR b362, sU, sU, sU, sU, sU] X375 B 184 rfl rfl rfl ?_
                refine Sc 3 X375 B 185 rfl rfl ?_
                obtain ⟨T379, h379, k379, X379, e379, E379, A379, st379⟩ := newP X375 hx hZ (hw 21 rfl) e375 (g := (mkF m 339 #[sI x0, sJ x1, .second, sI x2, sI x3, sI x4, sI x5, sI v1, sI x1.toInt32, sI v7, sI v13, sR b14, sR b68, sR b138, sI v311, sI p316, sI p321, sI v324, sI v327, sI p357, sI p358, sI p350, s359, sI v360, sR b362, sU, sU, sU, sU, sU] [.int 3])) rfl (B.d 186 rfl) rfl (by decide) (cap := 3) (by decide) (by decide) (by decide) (by decide)
                obtain ⟨b379, g379⟩ : ∃ z, z = h375.size := ⟨_, rfl⟩
                rw [← g379] at A379 st379
                refine own_st st379 ?_
                have ne380 : b138 ≠ b379 := own_nl ((((fq257_0.ext E362).wr W367).wr W371).wr W375).lt (Nat.le_of_eq g379.symm)
                have ne381 : b257_nb ≠ b379 := own_nl ((((fq257_3.ext E362).other W367 ne364).other W371 ne364).other W375 ne364).lt (Nat.le_of_eq g379.symm)
                have ne382 : b362 ≠ b379 := own_nl f376.lt (Nat.le_of_eq g379.symm)
                have gx383 : n0 ≤ b379 := Nat.le_trans Z378 (Nat.le_of_eq g379.symm)
                have Z384 : n0 ≤ h379.size := Nat.le_trans Z378 E379.1
                have hk := Nat.le_trans hk E379.1
                have V379 : own_AI Z h379 b379 k379 3 (fun _ => (0 : Int32)) := own_AI.new A379 (by decide)
                show own_Go _ _ _ _ T379 (mkF m 341 _ [.ref b379])
                refine Sas #[sI x0, sJ x1, .second, sI x2, sI x3, sI x4, sI x5, sI v1, sI x1.toInt32, sI v7, sI v13, sR b14, sR b68, sR b138, sI v311, sI p316, sI p321, sI v324, sI v327, sI p357, sI p358, sI p350, s359, sI v360, sR b362, sR b379, sU, sU, sU, sU] X379 B 187 rfl rfl rfl ?_
                refine Sc 0 X379 B 188 rfl rfl ?_
                refine Sis #[sI x0, sJ x1, .second, sI x2, sI x3, sI x4, sI x5, sI v1, sI x1.toInt32, sI v7, sI v13, sR b14, sR b68, sR b138, sI v311, sI p316, sI p321, sI v324, sI v327, sI p357, sI p358, sI p350, s359, sI v360, sR b362, sR b379, sI 0, sU, sU, sU] X379 B 189 rfl rfl ?_
                refine Si X379 B 190 rfl rfl ?_
                have J400 : ∀ (Tj400 : State) (Lj400 : List Loc) (hj400 : Heap) (p401 : Int32) (p407 : Nat → Int32) (vmj400 : Vm) (kj400 : Nat), Stand p l e room_1 (s.setVm vmj400) m #[.int x0, .long x1, .int x2, .int x3, .int x4, .int x5] below meth c Tj400 Lj400 38 207 → Tj400.heap = hj400 → Fr n0 Lj400 → s.Since vmj400 kj400 → kj400 ≤ hj400.size → Z.Warmed39 (s.setVm vmj400).vm → (s.setVm vmj400).vm.findClass kLW = some m.cls → n0 ≤ hj400.size → Exa Z hj400 b138 kCP → Fld Z hj400 b138 kCP "limit" "I" (.int 2) → Fld Z hj400 b138 kCP "colours" "[I" (.ref b257_nb) → own_AI Z hj400 b257_nb r257_k_nb 4 r257_gC → own_AI Z hj400 b362 k362 3 (own_updI (own_updI (own_updI (fun _ => (0 : Int32)) 0 p357) 1 p358) 2 p350) → own_AI Z hj400 b379 k379 3 p407 → p401 = (if (0 : Int32) < v360 then (if p357 = v324 then (1 : Int32) else (if p357 = v327 then (1 : Int32) else (0 : Int32))) else (0 : Int32)) → p407 = (if (0 : Int32) < v360 then (if p357 = v324 then (own_updI (fun _ => (0 : Int32)) 0 p357) else (if p357 = v327 then (own_updI (fun _ => (0 : Int32)) 0 p357) else (fun _ => (0 : Int32)))) else (fun _ => (0 : Int32))) → own_Go p.tables e below Pq Tj400 (mkF m 375 #[sI x0, sJ x1, .second, sI x2, sI x3, sI x4, sI x5, sI v1, sI x1.toInt32, sI v7, sI v13, sR b14, sR b68, sR b138, sI v311, sI p316, sI p321, sI v324, sI v327, sI p357, sI p358, sI p350, s359, sI v360, sR b362, sR b379, sI p401, sU, sU, sU] []) := by
                  intro Tj400 Lj400 hj400 p401 p407 vmj400 kj400 Xj400 ej400 Nj400 hS hk hZ hown Zj400 fj402 fj403 fj404 fj405 fj406 fj408 qp401 qp407
                  show own_Go _ _ _ _ Tj400 (mkF m 375 #[sI x0, sJ x1, .second, sI x2, sI x3, sI x4, sI x5, sI v1, sI x1.toInt32, sI v7, sI v13, sR b14, sR b68, sR b138, sI v311, sI p316, sI p321, sI v324, sI v327, sI p357, sI p358, sI p350, s359, sI v360, sR b362, sR b379, sI p401, sU, sU, sU] [])
                  refine Si Xj400 B 203 rfl rfl ?_
                  refine Sc 1 Xj400 B 204 rfl rfl ?_
                  have J426 : ∀ (Tj426 : State) (Lj426 : List Loc) (hj426 : Heap) (p427 : Int32) (p433 : Nat → Int32) (vmj426 : Vm) (kj426 : Nat), Stand p l e room_1 (s.setVm vmj426) m #[.int x0, .long x1, .int x2, .int x3, .int x4, .int x5] below meth c Tj426 Lj426 38 207 → Tj426.heap = hj426 → Fr n0 Lj426 → s.Since vmj426 kj426 → kj426 ≤ hj426.size → Z.Warmed39 (s.setVm vmj426).vm → (s.setVm vmj426).vm.findClass kLW = some m.cls → n0 ≤ hj426.size → Exa Z hj426 b138 kCP → Fld Z hj426 b138 kCP "limit" "I" (.int 2) → Fld Z hj426 b138 kCP "colours" "[I" (.ref b257_nb) → own_AI Z hj426 b257_nb r257_k_nb 4 r257_gC → own_AI Z hj426 b362 k362 3 (own_updI (own_updI (own_updI (fun _ => (0 : Int32)) 0 p357) 1 p358) 2 p350) → own_AI Z hj426 b379 k379 3 p433 → p427 = (if (1 : Int32) < v360 then (if p358 = v324 then (p401 + (1 : Int32)) else (if p358 = v327 then (p401 + (1 : Int32)) else p401)) else p401) → p433 = (if (1 : Int32) < v360 then (if p358 = v324 then (own_updI p407 p401.toNatClampNeg p358) else (if p358 = v327 then (own_updI p407 p401.toNatClampNeg p358) else p407)) else p407) → own_Go p.tables e below Pq Tj426 (mkF m 405 #[sI x0, sJ x1, .second, sI x2, sI x3, sI x4, sI x5, sI v1, sI x1.toInt32, sI v7, sI v13, sR b14, sR b68, sR b138, sI v311, sI p316, sI p321, sI v324, sI v327, sI p357, sI p358, sI p350, s359, sI v360, sR b362, sR b379, sI p427, sU, sU, sU] []) := by
                    intro Tj426 Lj426 hj426 p427 p433 vmj426 kj426 Xj426 ej426 Nj426 hS hk hZ hown Zj426 fj428 fj429 fj430 fj431 fj432 fj434 qp427 qp433
                    show own_Go _ _ _ _ Tj426 (mkF m 405 #[sI x0, sJ x1, .second, sI x2, sI x3, sI x4, sI x5, sI v1, sI x1.toInt32, sI v7, sI v13, sR b14, sR b68, sR b138, sI v311, sI p316, sI p321, sI v324, sI v327, sI p357, sI p358, sI p350, s359, sI v360, sR b362, sR b379, sI p427, sU, sU, sU] [])
                    refine Si Xj426 B 217 rfl rfl ?_
                    refine Sc 2 Xj426 B 218 rfl rfl ?_
                    have J452 : ∀ (Tj452 : State) (Lj452 : List Loc) (hj452 : Heap) (p453 : Int32) (p459 : Nat → Int32) (vmj452 : Vm) (kj452 : Nat), Stand p l e room_1 (s.setVm vmj452) m #[.int x0, .long x1, .int x2, .int x3, .int x4, .int x5] below meth c Tj452 Lj452 38 207 → Tj452.heap = hj452 → Fr n0 Lj452 → s.Since vmj452 kj452 → kj452 ≤ hj452.size → Z.Warmed39 (s.setVm vmj452).vm → (s.setVm vmj452).vm.findClass kLW = some m.cls → n0 ≤ hj452.size → Exa Z hj452 b138 kCP → Fld Z hj452 b138 kCP "limit" "I" (.int 2) → Fld Z hj452 b138 kCP "colours" "[I" (.ref b257_nb) → own_AI Z hj452 b257_nb r257_k_nb 4 r257_gC → own_AI Z hj452 b362 k362 3 (own_updI (own_updI (own_updI (fun _ => (0 : Int32)) 0 p357) 1 p358) 2 p350) → own_AI Z hj452 b379 k379 3 p459 → p453 = (if (2 : Int32) < v360 then (if p350 = v324 then (p427 + (1 : Int32)) else (if p350 = v327 then (p427 + (1 : Int32)) else p427)) else p427) → p459 = (if (2 : Int32) < v360 then (if p350 = v324 then (own_updI p433 p427.toNatClampNeg p350) else (if p350 = v327 then (own_updI p433 p427.toNatClampNeg p350) else p433)) else p433) → own_Go p.tables e below Pq Tj452 (mkF m 435 #[sI x0, sJ x1, .second, sI x2, sI x3, sI x4, sI x5, sI v1, sI x1.toInt32, sI v7, sI v13, sR b14, sR b68, sR b138, sI v311, sI p316, sI p321, sI v324, sI v327, sI p357, sI p358, sI p350, s359, sI v360, sR b362, sR b379, sI p453, sU, sU, sU] []) := by
                      intro Tj452 Lj452 hj452 p453 p459 vmj452 kj452 Xj452 ej452 Nj452 hS hk hZ hown Zj452 fj454 fj455 fj456 fj457 fj458 fj460 qp453 qp459
                      show own_Go _ _ _ _ Tj452 (mkF m 435 #[sI x0, sJ x1, .second, sI x2, sI x3, sI x4, sI x5, sI v1, sI x1.toInt32, sI v7, sI v13, sR b14, sR b68, sR b138, sI v311, sI p316, sI p321, sI v324, sI v327, sI p357, sI p358, sI p350, s359, sI v360, sR b362, sR b379, sI p453, sU, sU, sU] [])
                      refine Sa Xj452 B 231 rfl rfl rfl ?_
                      refine Si Xj452 B 232 rfl rfl ?_
                      refine Sa Xj452 B 233 rfl rfl rfl ?_
                      refine Si Xj452 B 234 rfl rfl ?_
                      obtain ⟨cq461, kq461, q461a, q461b, q461c⟩ := isOf hZ ej452 fj454
                      obtain ⟨_, _, ⟨T461, L461, k461, n461⟩, -, X461, ⟨Lc461, hQ461, l461, y461, z461⟩, st461⟩ := Xj452.virtualBack hx (y := ym55) (z := ym55) hown (mvT hZ (hw 331 rfl)) (mvT hZ (hw 332 rfl)) (notFace_of_selects (args := #[]) (mvT hZ (hw 334 rfl))) (mvT hZ (hw 334 rfl)) (mvT hZ (hw 333 rfl)) (by decide) (backOf (W := 0) (rm73 hw b138 v311 b362 v360 b257_nb r257_k_nb k362 r257_gC (own_updI (own_updI (own_updI (fun _ => (0 : Int32)) 0 p357) 1 p358) 2 p350) v311.toNatClampNeg hj452 n0 Zj452 fj454 fj455 fj456 fj457 fj458 (own_st1 hv311) (own_hR x0 x1 x2 x3 x4 x5 em v1 p6 v7 p12 v13 r26_k_om r26_k_oM r26_k_en r26_k_eM r26_k_hm r26_k_hM r82_k_cmi r82_k_cma r82_k_cre r159_k_sa r159_k_ea r159_k_co r159_k_so r159_k_se r257_k_nb r257_gC v311 p316 p321 v324 v327 v330 v333 v336 p341 p342 p349 p350 p357 p358 v360 p401 p407 p427 p433 p453 p459 hv1 qp6 hv7 qp12 hv13 hq257_0 hv311 qp316 qp321 hv324 hv327 hv330 hv333 hv336 qp341 qp342 qp349 qp350 qp357 qp358 hv360 qp401 qp407 qp427 qp433 qp453 qp459) (own_m3 hv360) (Ne.symm ne364) (Ne.symm ne363) gx365) hZ (hw 335 rfl) (hw 75 rfl) (by decide) (by decide)) q461a q461c (g := (mkF m 443 #[sI x0, sJ x1, .second, sI x2, sI x3, sI x4, sI x5, sI v1, sI x1.toInt32, sI v7, sI v13, sR b14, sR b68, sR b138, sI v311, sI p316, sI p321, sI v324, sI v327, sI p357, sI p358, sI p350, s359, sI v360, sR b362, sR b379, sI p453, sU, sU, sU] [.int v360, .ref b362, .int v311, .ref b138])) rfl (by rw [hml]; rfl) (Steps.refl _) (argsL := [.int v311, .ref b362, .int v360]) (rest := []) (lenOf own_pd__I_II_I rfl) rfl (by show 2 * 0 + _ ≤ _; exact Nat.le_of_eq rfl) (B.d 235 rfl) (fun _ _ => ⟨rfl, ej452, (by decide : 38 + 0 ≤ _), (by decide : 207 + 0 ≤ _)⟩)
                      dsimp only [Pt.U, Pt.locs, Pt.cells, Pt.slots] at X461 l461 y461 z461 st461 hQ461
                      subst l461 y461 z461
                      obtain ⟨r461_cnr, r461_gr, rfl, NQ461, K461, fq461_0, hq461_0⟩ := hQ461
                      have N462 := Fr.app Nj452 NQ461
                      refine own_st (fun t k => st461.trans k) ?_
                      have hk := Nat.le_trans hk K461.1
                      show own_Go _ _ _ _ T461 (mkF m 446 _ [.int r461_cnr])
                      refine Sis #[sI x0, sJ x1, .second, sI x2, sI x3, sI x4, sI x5, sI v1, sI x1.toInt32, sI v7, sI v13, sR b14, sR b68, sR b138, sI v311, sI p316, sI p321, sI v324, sI v327, sI p357, sI p358, sI p350, s359, sI v360, sR b362, sR b379, sI p453, sI r461_cnr, sU, sU] X461 B 236 rfl rfl ?_
                      refine Si X461 B 237 rfl rfl ?_
                      refine Sc 1 X461 B 238 rfl rfl ?_
                      have J510 : ∀ (Tj510 : State) (Lj510 : List Loc) (p511 : Int32) (vmj510 : Vm) (kj510 : Nat), Stand p l e room_1 (s.setVm vmj510) m #[.int x0, .long x1, .int x2, .int x3, .int x4, .int x5] below meth c Tj510 Lj510 38 207 → Tj510.heap = T461.heap → Fr n0 Lj510 → s.Since vmj510 kj510 → kj510 ≤ T461.heap.size → Z.Warmed39 (s.setVm vmj510).vm → (s.setVm vmj510).vm.findClass kLW = some m.cls → own_AI Z T461.heap b379 k379 3 p459 → p511 = (if p453 < (1 : Int32) then (if p453 < (2 : Int32) then (if p453 < (3 : Int32) then (1 : Int32) else (if (r461_gr 2) = (p459 2) then (1 : Int32) else (0 : Int32))) else (if (r461_gr 1) = (p459 1) then (if p453 < (3 : Int32) then (1 : Int32) else (if (r461_gr 2) = (p459 2) then (1 : Int32) else (0 : Int32))) else (0 : Int32))) else (if (r461_gr 0) = (p459 0) then (if p453 < (2 : Int32) then (if p453 < (3 : Int32) then (1 : Int32) else (if (r461_gr 2) = (p459 2) then (1 : Int32) else (0 : Int32))) else (if (r461_gr 1) = (p459 1) then (if p453 < (3 : Int32) then (1 : Int32) else (if (r461_gr 2) = (p459 2) then (1 : Int32) else (0 : Int32))) else (0 : Int32))) else (0 : Int32))) → own_Go p.tables e below Pq Tj510 (mkF m 504 #[sI x0, sJ x1, .second, sI x2, sI x3, sI x4, sI x5, sI v1, sI x1.toInt32, sI v7, sI v13, sR b14, sR b68, sR b138, sI v311, sI p316, sI p321, sI v324, sI v327, sI p357, sI p358, sI p350, s359, sI v360, sR b362, sR b379, sI p453, sI r461_cnr, sU, sU] [.int p511]) := by
                        intro Tj510 Lj510 p511 vmj510 kj510 Xj510 ej510 Nj510 hS hk hZ hown fj512 qp511
                        show own_Go _ _ _ _ Tj510 (mkF m 504 _ [.int p511])
                        refine Sis #[sI x0, sJ x1, .second, sI x2, sI x3, sI x4, sI x5, sI v1, sI x1.toInt32, sI v7, sI v13, sR b14, sR b68, sR b138, sI v311, sI p316, sI p321, sI v324, sI v327, sI p357, sI p358, sI p350, s359, sI v360, sR b362, sR b379, sI p453, sI r461_cnr, sI p511, sU] Xj510 B 270 rfl rfl ?_
                        refine Si Xj510 B 271 rfl rfl ?_
                        have J549 : ∀ (Tj549 : State) (Lj549 : List Loc) (p550 : Int32) (vmj549 : Vm) (kj549 : Nat), Stand p l e room_1 (s.setVm vmj549) m #[.int x0, .long x1, .int x2, .int x3, .int x4, .int x5] below meth c Tj549 Lj549 38 207 → Tj549.heap = T461.heap → Fr n0 Lj549 → s.Since vmj549 kj549 → kj549 ≤ T461.heap.size → Z.Warmed39 (s.setVm vmj549).vm → (s.setVm vmj549).vm.findClass kLW = some m.cls → p550 = (if (0 : Int32) < v360 then (if (1 : Int32) < v360 then (if (2 : Int32) < v360 then (1 : Int32) else (if (r461_gr 2) = p350 then (1 : Int32) else (0 : Int32))) else (if (r461_gr 1) = p358 then (if (2 : Int32) < v360 then (1 : Int32) else (if (r461_gr 2) = p350 then (1 : Int32) else (0 : Int32))) else (0 : Int32))) else (if (r461_gr 0) = p357 then (if (1 : Int32) < v360 then (if (2 : Int32) < v360 then (1 : Int32) else (if (r461_gr 2) = p350 then (1 : Int32) else (0 : Int32))) else (if (r461_gr 1) = p358 then (if (2 : Int32) < v360 then (1 : Int32) else (if (r461_gr 2) = p350 then (1 : Int32) else (0 : Int32))) else (0 : Int32))) else (0 : Int32))) → own_Go p.tables e below Pq Tj549 (mkF m 555 #[sI x0, sJ x1, .second, sI x2, sI x3, sI x4, sI x5, sI v1, sI x1.toInt32, sI v7, sI v13, sR b14, sR b68, sR b138, sI v311, sI p316, sI p321, sI v324, sI v327, sI p357, sI p358, sI p350, s359, sI v360, sR b362, sR b379, sI p453, sI r461_cnr, sI p511, sU] [.int p550]) := by
                          intro Tj549 Lj549 p550 vmj549 kj549 Xj549 ej549 Nj549 hS hk hZ hown qp550
                          show own_Go _ _ _ _ Tj549 (mkF m 555 _ [.int p550])
                          refine Sis #[sI x0, sJ x1, .second, sI x2, sI x3, sI x4, sI x5, sI v1, sI x1.toInt32, sI v7, sI v13, sR b14, sR b68, sR b138, sI v311, sI p316, sI p321, sI v324, sI v327, sI p357, sI p358, sI p350, s359, sI v360, sR b362, sR b379, sI p453, sI r461_cnr, sI p511, sI p550] Xj549 B 297 rfl rfl ?_
                          refine Si Xj549 B 298 rfl rfl ?_
                          refine Si Xj549 B 299 rfl rfl ?_
                          have J558 : ∀ (Tj558 : State) (Lj558 : List Loc) (p559 : Int32) (vmj558 : Vm) (kj558 : Nat), Stand p l e room_1 (s.setVm vmj558) m #[.int x0, .long x1, .int x2, .int x3, .int x4, .int x5] below meth c Tj558 Lj558 38 207 → Tj558.heap = T461.heap → Fr n0 Lj558 → s.Since vmj558 kj558 → kj558 ≤ T461.heap.size → Z.Warmed39 (s.setVm vmj558).vm → (s.setVm vmj558).vm.findClass kLW = some m.cls → p559 = (if r461_cnr = p453 then (if p511 = (0 : Int32) then (0 : Int32) else (if p550 = (0 : Int32) then (0 : Int32) else (1 : Int32))) else (0 : Int32)) → own_Go p.tables e below Pq Tj558 (mkF m 579 #[sI x0, sJ x1, .second, sI x2, sI x3, sI x4, sI x5, sI v1, sI x1.toInt32, sI v7, sI v13, sR b14, sR b68, sR b138, sI v311, sI p316, sI p321, sI v324, sI v327, sI p357, sI p358, sI p350, s359, sI v360, sR b362, sR b379, sI p453, sI r461_cnr, sI p511, sI p550] [.int p559]) := by
                            intro Tj558 Lj558 p559 vmj558 kj558 Xj558 ej558 Nj558 hS hk hZ hown qp559
                            show own_Go _ _ _ _ Tj558 (mkF m 579 _ [.int p559])
                            subst hPq
                            refine own_outW Xj558 hS (by rw [ej558]; exact hk) (v := some (.int (nar .boolean p559))) (fun h => by rw [Bd.returns] at h; cases h) Bd.notSynchronized (fun fs hr => retN Xj558 hx (t := .boolean) Bd.returns (by simp) (B.d 308 rfl) hr) (by decide) (by decide) ?_
                            show Q0 Z x0 x1 x2 x3 x4 x5 em h0 n0 _ Tj558.heap _
                            rw [ej558]
                            exact ⟨congrArg (fun z => some (Value.int (nar .boolean z))) (own_law x0 x1 x2 x3 x4 x5 em v1 p6 v7 p12 v13 r26_k_om r26_k_oM r26_k_en r26_k_eM r26_k_hm r26_k_hM r82_k_cmi r82_k_cma r82_k_cre r159_k_sa r159_k_ea r159_k_co r159_k_so r159_k_se r257_k_nb r257_gC v311 p316 p321 v324 v327 v330 v333 v336 p341 p342 p349 p350 p357 p358 v360 p401 p407 p427 p433 p453 p459 r461_cnr r461_gr p511 p550 p559 hv1 qp6 hv7 qp12 hv13 hq257_0 hv311 qp316 qp321 hv324 hv327 hv330 hv333 hv336 qp341 qp342 qp349 qp350 qp357 qp358 hv360 qp401 qp407 qp427 qp433 qp453 qp459 hq461_0 qp511 qp550 qp559), Nj558⟩
                          by_cases c551 : r461_cnr = p453
                          · skip
                            refine Scn Xj549 B 300 rfl (teq c551).2 ?_
                            refine Si Xj549 B 301 rfl rfl ?_
                            by_cases c552 : p511 = (0 : Int32)
                            · skip
                              refine Sfy 566 578 Xj549 B 302 rfl ((if0 _ _).trans (teq c552).1) ?_
                              refine Sc 0 Xj549 B 307 rfl rfl ?_
                              exact J558 Tj549 _ _ _ _ Xj549 ej549 Nj549 hS hk hZ hown (by simp only [if_pos c551, if_pos c552])
                            · skip
                              refine Sfn Xj549 B 302 rfl ((if0 _ _).trans (feq c552).1) ?_
                              refine Si Xj549 B 303 rfl rfl ?_
                              by_cases c554 : p550 = (0 : Int32)
                              · skip
                                refine Sfy 571 578 Xj549 B 304 rfl ((if0 _ _).trans (teq c554).1) ?_
                                refine Sc 0 Xj549 B 307 rfl rfl ?_
                                exact J558 Tj549 _ _ _ _ Xj549 ej549 Nj549 hS hk hZ hown (by simp only [if_pos c551, if_neg c552, if_pos c554])
                              · skip
                                refine Sfn Xj549 B 304 rfl ((if0 _ _).trans (feq c554).1) ?_
                                refine Sc 1 Xj549 B 305 rfl rfl ?_
                                refine Sg 575 579 Xj549 B 306 rfl ?_
                                exact J558 Tj549 _ _ _ _ Xj549 ej549 Nj549 hS hk hZ hown (by simp only [if_pos c551, if_neg c552, if_neg c554])
                          · skip
                            refine Scy 561 578 Xj549 B 300 rfl (feq c551).2 ?_
                            refine Sc 0 Xj549 B 307 rfl rfl ?_
                            exact J558 Tj549 _ _ _ _ Xj549 ej549 Nj549 hS hk hZ hown (by simp only [if_neg c551])
                        by_cases c513 : (0 : Int32) < v360
                        · skip
                          refine Sfy 508 520 Xj510 B 272 rfl ((if0 _ _).trans (tlt c513).2.2.1) ?_
                          refine Si Xj510 B 278 rfl rfl ?_
                          refine Sc 1 Xj510 B 279 rfl rfl ?_
                          by_cases c514 : (1 : Int32) < v360
                          · skip
                            refine Scy 523 535 Xj510 B 280 rfl (tlt c514).2.2.1 ?_
                            refine Si Xj510 B 286 rfl rfl ?_
                            refine Sc 2 Xj510 B 287 rfl rfl ?_
                            by_cases c515 : (2 : Int32) < v360
                            · skip
                              refine Scy 538 550 Xj510 B 288 rfl (tlt c515).2.2.1 ?_
                              refine Sc 1 Xj510 B 294 rfl rfl ?_
                              refine Sg 551 555 Xj510 B 295 rfl ?_
                              exact J549 Tj510 _ _ _ _ Xj510 ej510 Nj510 hS hk hZ hown (by simp only [if_pos c513, if_pos c514, if_pos c515])
                            · skip
                              refine Scn Xj510 B 288 rfl (flt c515).2.2.1 ?_
                              refine Sa Xj510 B 289 rfl rfl rfl ?_
                              refine Sc 2 Xj510 B 290 rfl rfl ?_
                              refine Kil 2 Xj510 B hZ ej510 fq461_0 ⟨by decide, by decide⟩ rfl 291 rfl ?_
                              refine Si Xj510 B 292 rfl rfl ?_
                              by_cases c518 : (r461_gr 2) = p350
                              · skip
                                refine Scn Xj510 B 293 rfl (teq c518).2 ?_
                                refine Sc 1 Xj510 B 294 rfl rfl ?_
                                refine Sg 551 555 Xj510 B 295 rfl ?_
                                exact J549 Tj510 _ _ _ _ Xj510 ej510 Nj510 hS hk hZ hown (by simp only [if_pos c513, if_pos c514, if_neg c515, if_pos c518])
                              · skip
                                refine Scy 547 554 Xj510 B 293 rfl (feq c518).2 ?_
                                refine Sc 0 Xj510 B 296 rfl rfl ?_
                                exact J549 Tj510 _ _ _ _ Xj510 ej510 Nj510 hS hk hZ hown (by simp only [if_pos c513, if_pos c514, if_neg c515, if_neg c518])
                          · skip
                            refine Scn Xj510 B 280 rfl (flt c514).2.2.1 ?_
                            refine Sa Xj510 B 281 rfl rfl rfl ?_
                            refine Sc 1 Xj510 B 282 rfl rfl ?_
                            refine Kil 1 Xj510 B hZ ej510 fq461_0 ⟨by decide, by decide⟩ rfl 283 rfl ?_
                            refine Si Xj510 B 284 rfl rfl ?_
                            by_cases c522 : (r461_gr 1) = p358
                            · skip
                              refine Scn Xj510 B 285 rfl (teq c522).2 ?_
                              refine Si Xj510 B 286 rfl rfl ?_
                              refine Sc 2 Xj510 B 287 rfl rfl ?_
                              by_cases c523 : (2 : Int32) < v360
                              · skip
                                refine Scy 538 550 Xj510 B 288 rfl (tlt c523).2.2.1 ?_
                                refine Sc 1 Xj510 B 294 rfl rfl ?_
                                refine Sg 551 555 Xj510 B 295 rfl ?_
                                exact J549 Tj510 _ _ _ _ Xj510 ej510 Nj510 hS hk hZ hown (by simp only [if_pos c513, if_neg c514, if_pos c522, if_pos c523])
                              · skip
                                refine Scn Xj510 B 288 rfl (flt c523).2.2.1 ?_
                                refine Sa Xj510 B 289 rfl rfl rfl ?_
                                refine Sc 2 Xj510 B 290 rfl rfl ?_
                                refine Kil 2 Xj510 B hZ ej510 fq461_0 ⟨by decide, by decide⟩ rfl 291 rfl ?_
                                refine Si Xj510 B 292 rfl rfl ?_
                                by_cases c526 : (r461_gr 2) = p350
                                · skip
                                  refine Scn Xj510 B 293 rfl (teq c526).2 ?_
                                  refine Sc 1 Xj510 B 294 rfl rfl ?_
                                  refine Sg 551 555 Xj510 B 295 rfl ?_
                                  exact J549 Tj510 _ _ _ _ Xj510 ej510 Nj510 hS hk hZ hown (by simp only [if_pos c513, if_neg c514, if_pos c522, if_neg c523, if_pos c526])
                                · skip
                                  refine Scy 547 554 Xj510 B 293 rfl (feq c526).2 ?_
                                  refine Sc 0 Xj510 B 296 rfl rfl ?_
                                  exact J549 Tj510 _ _ _ _ Xj510 ej510 Nj510 hS hk hZ hown (by simp only [if_pos c513, if_neg c514, if_pos c522, if_neg c523, if_neg c526])
                            · skip
                              refine Scy 532 554 Xj510 B 285 rfl (feq c522).2 ?_
                              refine Sc 0 Xj510 B 296 rfl rfl ?_
                              exact J549 Tj510 _ _ _ _ Xj510 ej510 Nj510 hS hk hZ hown (by simp only [if_pos c513, if_neg c514, if_neg c522])
                        · skip
                          refine Sfn Xj510 B 272 rfl ((if0 _ _).trans (flt c513).2.2.1) ?_
                          refine Sa Xj510 B 273 rfl rfl rfl ?_
                          refine Sc 0 Xj510 B 274 rfl rfl ?_
                          refine Kil 0 Xj510 B hZ ej510 fq461_0 ⟨by decide, by decide⟩ rfl 275 rfl ?_
                          refine Si Xj510 B 276 rfl rfl ?_
                          by_cases c531 : (r461_gr 0) = p357
                          · skip
                            refine Scn Xj510 B 277 rfl (teq c531).2 ?_
                            refine Si Xj510 B 278 rfl rfl ?_
                            refine Sc 1 Xj510 B 279 rfl rfl ?_
                            by_cases c532 : (1 : Int32) < v360
                            · skip
                              refine Scy 523 535 Xj510 B 280 rfl (tlt c532).2.2.1 ?_
                              refine Si Xj510 B 286 rfl rfl ?_
                              refine Sc 2 Xj510 B 287 rfl rfl ?_
                              by_cases c533 : (2 : Int32) < v360
                              · skip
                                refine Scy 538 550 Xj510 B 288 rfl (tlt c533).2.2.1 ?_
                                refine Sc 1 Xj510 B 294 rfl rfl ?_
                                refine Sg 551 555 Xj510 B 295 rfl ?_
                                exact J549 Tj510 _ _ _ _ Xj510 ej510 Nj510 hS hk hZ hown (by simp only [if_neg c513, if_pos c531, if_pos c532, if_pos c533])
                              · skip
                                refine Scn Xj510 B 288 rfl (flt c533).2.2.1 ?_
                                refine Sa Xj510 B 289 rfl rfl rfl ?_
                                refine Sc 2 Xj510 B 290 rfl rfl ?_
                                refine Kil 2 Xj510 B hZ ej510 fq461_0 ⟨by decide, by decide⟩ rfl 291 rfl ?_
                                refine Si Xj510 B 292 rfl rfl ?_
                                by_cases c536 : (r461_gr 2) = p350
                                · skip
                                  refine Scn Xj510 B 293 rfl (teq c536).2 ?_
                                  refine Sc 1 Xj510 B 294 rfl rfl ?_
                                  refine Sg 551 555 Xj510 B 295 rfl ?_
                                  exact J549 Tj510 _ _ _ _ Xj510 ej510 Nj510 hS hk hZ hown (by simp only [if_neg c513, if_pos c531, if_pos c532, if_neg c533, if_pos c536])
                                · skip
                                  refine Scy 547 554 Xj510 B 293 rfl (feq c536).2 ?_
                                  refine Sc 0 Xj510 B 296 rfl rfl ?_
                                  exact J549 Tj510 _ _ _ _ Xj510 ej510 Nj510 hS hk hZ hown (by simp only [if_neg c513, if_pos c531, if_pos c532, if_neg c533, if_neg c536])
                            · skip
                              refine Scn Xj510 B 280 rfl (flt c532).2.2.1 ?_
                              refine Sa Xj510 B 281 rfl rfl rfl ?_
                              refine Sc 1 Xj510 B 282 rfl rfl ?_
                              refine Kil 1 Xj510 B hZ ej510 fq461_0 ⟨by decide, by decide⟩ rfl 283 rfl ?_
                              refine Si Xj510 B 284 rfl rfl ?_
                              by_cases c540 : (r461_gr 1) = p358
                              · skip
                                refine Scn Xj510 B 285 rfl (teq c540).2 ?_
                                refine Si Xj510 B 286 rfl rfl ?_
                                refine Sc 2 Xj510 B 287 rfl rfl ?_
                                by_cases c541 : (2 : Int32) < v360
                                · skip
                                  refine Scy 538 550 Xj510 B 288 rfl (tlt c541).2.2.1 ?_
                                  refine Sc 1 Xj510 B 294 rfl rfl ?_
                                  refine Sg 551 555 Xj510 B 295 rfl ?_
                                  exact J549 Tj510 _ _ _ _ Xj510 ej510 Nj510 hS hk hZ hown (by simp only [if_neg c513, if_pos c531, if_neg c532, if_pos c540, if_pos c541])
                                · skip
                                  refine Scn Xj510 B 288 rfl (flt c541).2.2.1 ?_
                                  refine Sa Xj510 B 289 rfl rfl rfl ?_
                                  refine Sc 2 Xj510 B 290 rfl rfl ?_
                                  refine Kil 2 Xj510 B hZ ej510 fq461_0 ⟨by decide, by decide⟩ rfl 291 rfl ?_
                                  refine Si Xj510 B 292 rfl rfl ?_
                                  by_cases c544 : (r461_gr 2) = p350
                                  · skip
                                    refine Scn Xj510 B 293 rfl (teq c544).2 ?_
                                    refine Sc 1 Xj510 B 294 rfl rfl ?_
                                    refine Sg 551 555 Xj510 B 295 rfl ?_
                                    exact J549 Tj510 _ _ _ _ Xj510 ej510 Nj510 hS hk hZ hown (by simp only [if_neg c513, if_pos c531, if_neg c532, if_pos c540, if_neg c541, if_pos c544])
                                  · skip
                                    refine Scy 547 554 Xj510 B 293 rfl (feq c544).2 ?_
                                    refine Sc 0 Xj510 B 296 rfl rfl ?_
                                    exact J549 Tj510 _ _ _ _ Xj510 ej510 Nj510 hS hk hZ hown (by simp only [if_neg c513, if_pos c531, if_neg c532, if_pos c540, if_neg c541, if_neg c544])
                              · skip
                                refine Scy 532 554 Xj510 B 285 rfl (feq c540).2 ?_
                                refine Sc 0 Xj510 B 296 rfl rfl ?_
                                exact J549 Tj510 _ _ _ _ Xj510 ej510 Nj510 hS hk hZ hown (by simp only [if_neg c513, if_pos c531, if_neg c532, if_neg c540])
                          · skip
                            refine Scy 517 554 Xj510 B 277 rfl (feq c531).2 ?_
                            refine Sc 0 Xj510 B 296 rfl rfl ?_
                            exact J549 Tj510 _ _ _ _ Xj510 ej510 Nj510 hS hk hZ hown (by simp only [if_neg c513, if_neg c531])
                      by_cases c464 : p453 < (1 : Int32)
                      · skip
                        refine Scy 451 465 X461 B 239 rfl (tlt c464).1 ?_
                        refine Si X461 B 247 rfl rfl ?_
                        refine Sc 2 X461 B 248 rfl rfl ?_
                        by_cases c465 : p453 < (2 : Int32)
                        · skip
                          refine Scy 468 482 X461 B 249 rfl (tlt c465).1 ?_
                          refine Si X461 B 257 rfl rfl ?_
                          refine Sc 3 X461 B 258 rfl rfl ?_
                          by_cases c466 : p453 < (3 : Int32)
                          · skip
                            refine Scy 485 499 X461 B 259 rfl (tlt c466).1 ?_
                            refine Sc 1 X461 B 267 rfl rfl ?_
                            refine Sg 500 504 X461 B 268 rfl ?_
                            exact J510 T461 _ _ _ _ X461 rfl N462 hS hk hZ hown (fj460.keep K461 (ninS (Ne.symm ne382) nin0)) (by simp only [if_pos c464, if_pos c465, if_pos c466])
                          · skip
                            refine Scn X461 B 259 rfl (flt c466).1 ?_
                            refine Sa X461 B 260 rfl rfl rfl ?_
                            refine Sc 2 X461 B 261 rfl rfl ?_
                            refine Kil 2 X461 B hZ rfl fq461_0 ⟨by decide, by decide⟩ rfl 262 rfl ?_
                            refine Sa X461 B 263 rfl rfl rfl ?_
                            refine Sc 2 X461 B 264 rfl rfl ?_
                            have f470 := (fj460.keep K461 (ninS (Ne.symm ne382) nin0))
                            refine Kil 2 X461 B hZ rfl f470 ⟨by decide, by decide⟩ rfl 265 rfl ?_
                            by_cases c471 : (r461_gr 2) = (p459 2)
                            · skip
                              refine Scn X461 B 266 rfl (teq c471).2 ?_
                              refine Sc 1 X461 B 267 rfl rfl ?_
                              refine Sg 500 504 X461 B 268 rfl ?_
                              exact J510 T461 _ _ _ _ X461 rfl N462 hS hk hZ hown f470 (by simp only [if_pos c464, if_pos c465, if_neg c466, if_pos c471])
                            · skip
                              refine Scy 496 503 X461 B 266 rfl (feq c471).2 ?_
                              refine Sc 0 X461 B 269 rfl rfl ?_
                              exact J510 T461 _ _ _ _ X461 rfl N462 hS hk hZ hown f470 (by simp only [if_pos c464, if_pos c465, if_neg c466, if_neg c471])
                        · skip
                          refine Scn X461 B 249 rfl (flt c465).1 ?_
                          refine Sa X461 B 250 rfl rfl rfl ?_
                          refine Sc 1 X461 B 251 rfl rfl ?_
                          refine Kil 1 X461 B hZ rfl fq461_0 ⟨by decide, by decide⟩ rfl 252 rfl ?_
                          refine Sa X461 B 253 rfl rfl rfl ?_
                          refine Sc 1 X461 B 254 rfl rfl ?_
                          have f476 := (fj460.keep K461 (ninS (Ne.symm ne382) nin0))
                          refine Kil 1 X461 B hZ rfl f476 ⟨by decide, by decide⟩ rfl 255 rfl ?_
                          by_cases c477 : (r461_gr 1) = (p459 1)
                          · skip
                            refine Scn X461 B 256 rfl (teq c477).2 ?_
                            refine Si X461 B 257 rfl rfl ?_
                            refine Sc 3 X461 B 258 rfl rfl ?_
                            by_cases c478 : p453 < (3 : Int32)
                            · skip
                              refine Scy 485 499 X461 B 259 rfl (tlt c478).1 ?_
                              refine Sc 1 X461 B 267 rfl rfl ?_
                              refine Sg 500 504 X461 B 268 rfl ?_
                              exact J510 T461 _ _ _ _ X461 rfl N462 hS hk hZ hown f476 (by simp only [if_pos c464, if_neg c465, if_pos c477, if_pos c478])
                            · skip
                              refine Scn X461 B 259 rfl (flt c478).1 ?_
                              refine Sa X461 B 260 rfl rfl rfl ?_
                              refine Sc 2 X461 B 261 rfl rfl ?_
                              refine Kil 2 X461 B hZ rfl fq461_0 ⟨by decide, by decide⟩ rfl 262 rfl ?_
                              refine Sa X461 B 263 rfl rfl rfl ?_
                              refine Sc 2 X461 B 264 rfl rfl ?_
                              refine Kil 2 X461 B hZ rfl f476 ⟨by decide, by decide⟩ rfl 265 rfl ?_
                              by_cases c482 : (r461_gr 2) = (p459 2)
                              · skip
                                refine Scn X461 B 266 rfl (teq c482).2 ?_
                                refine Sc 1 X461 B 267 rfl rfl ?_
                                refine Sg 500 504 X461 B 268 rfl ?_
                                exact J510 T461 _ _ _ _ X461 rfl N462 hS hk hZ hown f476 (by simp only [if_pos c464, if_neg c465, if_pos c477, if_neg c478, if_pos c482])
                              · skip
                                refine Scy 496 503 X461 B 266 rfl (feq c482).2 ?_
                                refine Sc 0 X461 B 269 rfl rfl ?_
                                exact J510 T461 _ _ _ _ X461 rfl N462 hS hk hZ hown f476 (by simp only [if_pos c464, if_neg c465, if_pos c477, if_neg c478, if_neg c482])
                          · skip
                            refine Scy 479 503 X461 B 256 rfl (feq c477).2 ?_
                            refine Sc 0 X461 B 269 rfl rfl ?_
                            exact J510 T461 _ _ _ _ X461 rfl N462 hS hk hZ hown f476 (by simp only [if_pos c464, if_neg c465, if_neg c477])
                      · skip
                        refine Scn X461 B 239 rfl (flt c464).1 ?_
                        refine Sa X461 B 240 rfl rfl rfl ?_
                        refine Sc 0 X461 B 241 rfl rfl ?_
                        refine Kil 0 X461 B hZ rfl fq461_0 ⟨by decide, by decide⟩ rfl 242 rfl ?_
                        refine Sa X461 B 243 rfl rfl rfl ?_
                        refine Sc 0 X461 B 244 rfl rfl ?_
                        have f488 := (fj460.keep K461 (ninS (Ne.symm ne382) nin0))
                        refine Kil 0 X461 B hZ rfl f488 ⟨by decide, by decide⟩ rfl 245 rfl ?_
                        by_cases c489 : (r461_gr 0) = (p459 0)
                        · skip
                          refine Scn X461 B 246 rfl (teq c489).2 ?_
                          refine Si X461 B 247 rfl rfl ?_
                          refine Sc 2 X461 B 248 rfl rfl ?_
                          by_cases c490 : p453 < (2 : Int32)
                          · skip
                            refine Scy 468 482 X461 B 249 rfl (tlt c490).1 ?_
                            refine Si X461 B 257 rfl rfl ?_
                            refine Sc 3 X461 B 258 rfl rfl ?_
                            by_cases c491 : p453 < (3 : Int32)
                            · skip
                              refine Scy 485 499 X461 B 259 rfl (tlt c491).1 ?_
                              refine Sc 1 X461 B 267 rfl rfl ?_
                              refine Sg 500 504 X461 B 268 rfl ?_
                              exact J510 T461 _ _ _ _ X461 rfl N462 hS hk hZ hown f488 (by simp only [if_neg c464, if_pos c489, if_pos c490, if_pos c491])
                            · skip
                              refine Scn X461 B 259 rfl (flt c491).1 ?_
                              refine Sa X461 B 260 rfl rfl rfl ?_
                              refine Sc 2 X461 B 261 rfl rfl ?_
                              refine Kil 2 X461 B hZ rfl fq461_0 ⟨by decide, by decide⟩ rfl 262 rfl ?_
                              refine Sa X461 B 263 rfl rfl rfl ?_
                              refine Sc 2 X461 B 264 rfl rfl ?_
                              refine Kil 2 X461 B hZ rfl f488 ⟨by decide, by decide⟩ rfl 265 rfl ?_
                              by_cases c495 : (r461_gr 2) = (p459 2)
                              · skip
                                refine Scn X461 B 266 rfl (teq c495).2 ?_
                                refine Sc 1 X461 B 267 rfl rfl ?_
                                refine Sg 500 504 X461 B 268 rfl ?_
                                exact J510 T461 _ _ _ _ X461 rfl N462 hS hk hZ hown f488 (by simp only [if_neg c464, if_pos c489, if_pos c490, if_neg c491, if_pos c495])
                              · skip
                                refine Scy 496 503 X461 B 266 rfl (feq c495).2 ?_
                                refine Sc 0 X461 B 269 rfl rfl ?_
                                exact J510 T461 _ _ _ _ X461 rfl N462 hS hk hZ hown f488 (by simp only [if_neg c464, if_pos c489, if_pos c490, if_neg c491, if_neg c495])
                          · skip
                            refine Scn X461 B 249 rfl (flt c490).1 ?_
                            refine Sa X461 B 250 rfl rfl rfl ?_
                            refine Sc 1 X461 B 251 rfl rfl ?_
                            refine Kil 1 X461 B hZ rfl fq461_0 ⟨by decide, by decide⟩ rfl 252 rfl ?_
                            refine Sa X461 B 253 rfl rfl rfl ?_
                            refine Sc 1 X461 B 254 rfl rfl ?_
                            refine Kil 1 X461 B hZ rfl f488 ⟨by decide, by decide⟩ rfl 255 rfl ?_
                            by_cases c500 : (r461_gr 1) = (p459 1)
                            · skip
                              refine Scn X461 B 256 rfl (teq c500).2 ?_
                              refine Si X461 B 257 rfl rfl ?_
                              refine Sc 3 X461 B 258 rfl rfl ?_
                              by_cases c501 : p453 < (3 : Int32)
                              · skip
                                refine Scy 485 499 X461 B 259 rfl (tlt c501).1 ?_
                                refine Sc 1 X461 B 267 rfl rfl ?_
                                refine Sg 500 504 X461 B 268 rfl ?_
                                exact J510 T461 _ _ _ _ X461 rfl N462 hS hk hZ hown f488 (by simp only [if_neg c464, if_pos c489, if_neg c490, if_pos c500, if_pos c501])
                              · skip
                                refine Scn X461 B 259 rfl (flt c501).1 ?_
                                refine Sa X461 B 260 rfl rfl rfl ?_
                                refine Sc 2 X461 B 261 rfl rfl ?_
                                refine Kil 2 X461 B hZ rfl fq461_0 ⟨by decide, by decide⟩ rfl 262 rfl ?_
                                refine Sa X461 B 263 rfl rfl rfl ?_
                                refine Sc 2 X461 B 264 rfl rfl ?_
                                refine Kil 2 X461 B hZ rfl f488 ⟨by decide, by decide⟩ rfl 265 rfl ?_
                                by_cases c505 : (r461_gr 2) = (p459 2)
                                · skip
                                  refine Scn X461 B 266 rfl (teq c505).2 ?_
                                  refine Sc 1 X461 B 267 rfl rfl ?_
                                  refine Sg 500 504 X461 B 268 rfl ?_
                                  exact J510 T461 _ _ _ _ X461 rfl N462 hS hk hZ hown f488 (by simp only [if_neg c464, if_pos c489, if_neg c490, if_pos c500, if_neg c501, if_pos c505])
                                · skip
                                  refine Scy 496 503 X461 B 266 rfl (feq c505).2 ?_
                                  refine Sc 0 X461 B 269 rfl rfl ?_
                                  exact J510 T461 _ _ _ _ X461 rfl N462 hS hk hZ hown f488 (by simp only [if_neg c464, if_pos c489, if_neg c490, if_pos c500, if_neg c501, if_neg c505])
                            · skip
                              refine Scy 479 503 X461 B 256 rfl (feq c500).2 ?_
                              refine Sc 0 X461 B 269 rfl rfl ?_
                              exact J510 T461 _ _ _ _ X461 rfl N462 hS hk hZ hown f488 (by simp only [if_neg c464, if_pos c489, if_neg c490, if_neg c500])
                        · skip
                          refine Scy 462 503 X461 B 246 rfl (feq c489).2 ?_
                          refine Sc 0 X461 B 269 rfl rfl ?_
                          exact J510 T461 _ _ _ _ X461 rfl N462 hS hk hZ hown f488 (by simp only [if_neg c464, if_neg c489])
                    by_cases c435 : (2 : Int32) < v360
                    · skip
                      refine Scn Xj426 B 219 rfl (tlt c435).2.2.2 ?_
                      refine Si Xj426 B 220 rfl rfl ?_
                      refine Si Xj426 B 221 rfl rfl ?_
                      by_cases c436 : p350 = v324
                      · skip
                        refine Scy 415 425 Xj426 B 222 rfl (teq c436).1 ?_
                        refine Sa Xj426 B 226 rfl rfl rfl ?_
                        refine Si Xj426 B 227 rfl rfl ?_
                        refine Si Xj426 B 228 rfl rfl ?_
                        refine Kis _ Xj426 B hZ ej426 fj434 (own_fin0_438 x0 x1 x2 x3 x4 x5 em v1 p6 v7 p12 v13 r26_k_om r26_k_oM r26_k_en r26_k_eM r26_k_hm r26_k_hM r82_k_cmi r82_k_cma r82_k_cre r159_k_sa r159_k_ea r159_k_co r159_k_so r159_k_se r257_k_nb r257_gC v311 p316 p321 v324 v327 v330 v333 v336 p341 p342 p349 p350 p357 p358 v360 p401 p407 p427 p433 hv1 qp6 hv7 qp12 hv13 hq257_0 hv311 qp316 qp321 hv324 hv327 hv330 hv333 hv336 qp341 qp342 qp349 qp350 qp357 qp358 hv360 qp401 qp407 qp427 qp433 c435 c436) rfl 229 rfl fun T437 h437 X437 e437 W437 f439 => ?_
                        have N440 := Fr.snoc X437 Nj426 gx383
                        have Z441 : n0 ≤ h437.size := Nat.le_trans Zj426 (Nat.le_of_eq W437.size.symm)
                        have hk := Nat.le_trans hk (Nat.le_of_eq W437.size.symm)
                        refine own_st (fun t k => XS.iinc X437.here hx rfl (B.d 230 rfl) rfl (l' := #[sI x0, sJ x1, .second, sI x2, sI x3, sI x4, sI x5, sI v1, sI x1.toInt32, sI v7, sI v13, sR b14, sR b68, sR b138, sI v311, sI p316, sI p321, sI v324, sI v327, sI p357, sI p358, sI p350, s359, sI v360, sR b362, sR b379, sI (p427 + (1 : Int32)), sU, sU, sU]) rfl k) ?_
                        show own_Go _ _ _ _ T437 (mkF m 435 _ [])
                        show own_Go _ _ _ _ T437 (mkF m 435 _ [])
                        exact J452 T437 _ h437 _ _ _ _ X437 e437 N440 hS hk hZ hown Z441 (fj428.wr W437) (fj429.other W437 (Or.inl ne380)) (fj430.other W437 (Or.inl ne380)) (fj431.other W437 ne381) (fj432.other W437 ne382) f439 (by simp only [if_pos c435, if_pos c436]) (by simp only [if_pos c435, if_pos c436])
                      · skip
                        refine Scn Xj426 B 222 rfl (feq c436).1 ?_
                        refine Si Xj426 B 223 rfl rfl ?_
                        refine Si Xj426 B 224 rfl rfl ?_
                        by_cases c443 : p350 = v327
                        · skip
                          refine Scn Xj426 B 225 rfl (teq c443).2 ?_
                          refine Sa Xj426 B 226 rfl rfl rfl ?_
                          refine Si Xj426 B 227 rfl rfl ?_
                          refine Si Xj426 B 228 rfl rfl ?_
                          refine Kis _ Xj426 B hZ ej426 fj434 (own_fin0_445 x0 x1 x2 x3 x4 x5 em v1 p6 v7 p12 v13 r26_k_om r26_k_oM r26_k_en r26_k_eM r26_k_hm r26_k_hM r82_k_cmi r82_k_cma r82_k_cre r159_k_sa r159_k_ea r159_k_co r159_k_so r159_k_se r257_k_nb r257_gC v311 p316 p321 v324 v327 v330 v333 v336 p341 p342 p349 p350 p357 p358 v360 p401 p407 p427 p433 hv1 qp6 hv7 qp12 hv13 hq257_0 hv311 qp316 qp321 hv324 hv327 hv330 hv333 hv336 qp341 qp342 qp349 qp350 qp357 qp358 hv360 qp401 qp407 qp427 qp433 c435 c436 c443) rfl 229 rfl fun T444 h444 X444 e444 W444 f446 => ?_
                          have N447 := Fr.snoc X444 Nj426 gx383
                          have Z448 : n0 ≤ h444.size := Nat.le_trans Zj426 (Nat.le_of_eq W444.size.symm)
                          have hk := Nat.le_trans hk (Nat.le_of_eq W444.size.symm)
                          refine own_st (fun t k => XS.iinc X444.here hx rfl (B.d 230 rfl) rfl (l' := #[sI x0, sJ x1, .second, sI x2, sI x3, sI x4, sI x5, sI v1, sI x1.toInt32, sI v7, sI v13, sR b14, sR b68, sR b138, sI v311, sI p316, sI p321, sI v324, sI v327, sI p357, sI p358, sI p350, s359, sI v360, sR b362, sR b379, sI (p427 + (1 : Int32)), sU, sU, sU]) rfl k) ?_
                          show own_Go _ _ _ _ T444 (mkF m 435 _ [])
                          show own_Go _ _ _ _ T444 (mkF m 435 _ [])
                          exact J452 T444 _ h444 _ _ _ _ X444 e444 N447 hS hk hZ hown Z448 (fj428.wr W444) (fj429.other W444 (Or.inl ne380)) (fj430.other W444 (Or.inl ne380)) (fj431.other W444 ne381) (fj432.other W444 ne382) f446 (by simp only [if_pos c435, if_neg c436, if_pos c443]) (by simp only [if_pos c435, if_neg c436, if_pos c443])
                        · skip
                          refine Scy 422 435 Xj426 B 225 rfl (feq c443).2 ?_
                          exact J452 Tj426 _ hj426 _ _ _ _ Xj426 ej426 Nj426 hS hk hZ hown Zj426 fj428 fj429 fj430 fj431 fj432 fj434 (by simp only [if_pos c435, if_neg c436, if_neg c443]) (by simp only [if_pos c435, if_neg c436, if_neg c443])
                    · skip
                      refine Scy 408 435 Xj426 B 219 rfl (flt c435).2.2.2 ?_
                      exact J452 Tj426 _ hj426 _ _ _ _ Xj426 ej426 Nj426 hS hk hZ hown Zj426 fj428 fj429 fj430 fj431 fj432 fj434 (by simp only [if_neg c435]) (by simp only [if_neg c435])
                  by_cases c409 : (1 : Int32) < v360
                  · skip
                    refine Scn Xj400 B 205 rfl (tlt c409).2.2.2 ?_
                    refine Si Xj400 B 206 rfl rfl ?_
                    refine Si Xj400 B 207 rfl rfl ?_
                    by_cases c410 : p358 = v324
                    · skip
                      refine Scy 385 395 Xj400 B 208 rfl (teq c410).1 ?_
                      refine Sa Xj400 B 212 rfl rfl rfl ?_
                      refine Si Xj400 B 213 rfl rfl ?_
                      refine Si Xj400 B 214 rfl rfl ?_
                      refine Kis _ Xj400 B hZ ej400 fj408 (own_fin0_412 x0 x1 x2 x3 x4 x5 em v1 p6 v7 p12 v13 r26_k_om r26_k_oM r26_k_en r26_k_eM r26_k_hm r26_k_hM r82_k_cmi r82_k_cma r82_k_cre r159_k_sa r159_k_ea r159_k_co r159_k_so r159_k_se r257_k_nb r257_gC v311 p316 p321 v324 v327 v330 v333 v336 p341 p342 p349 p350 p357 p358 v360 p401 p407 hv1 qp6 hv7 qp12 hv13 hq257_0 hv311 qp316 qp321 hv324 hv327 hv330 hv333 hv336 qp341 qp342 qp349 qp350 qp357 qp358 hv360 qp401 qp407 c409 c410) rfl 215 rfl fun T411 h411 X411 e411 W411 f413 => ?_
                      have N414 := Fr.snoc X411 Nj400 gx383
                      have Z415 : n0 ≤ h411.size := Nat.le_trans Zj400 (Nat.le_of_eq W411.size.symm)
                      have hk := Nat.le_trans hk (Nat.le_of_eq W411.size.symm)
                      refine own_st (fun t k => XS.iinc X411.here hx rfl (B.d 216 rfl) rfl (l' := #[sI x0, sJ x1, .second, sI x2, sI x3, sI x4, sI x5, sI v1, sI x1.toInt32, sI v7, sI v13, sR b14, sR b68, sR b138, sI v311, sI p316, sI p321, sI v324, sI v327, sI p357, sI p358, sI p350, s359, sI v360, sR b362, sR b379, sI (p401 + (1 : Int32)), sU, sU, sU]) rfl k) ?_
                      show own_Go _ _ _ _ T411 (mkF m 405 _ [])
                      show own_Go _ _ _ _ T411 (mkF m 405 _ [])
                      exact J426 T411 _ h411 _ _ _ _ X411 e411 N414 hS hk hZ hown Z415 (fj402.wr W411) (fj403.other W411 (Or.inl ne380)) (fj404.other W411 (Or.inl ne380)) (fj405.other W411 ne381) (fj406.other W411 ne382) f413 (by simp only [if_pos c409, if_pos c410]) (by simp only [if_pos c409, if_pos c410])
                    · skip
                      refine Scn Xj400 B 208 rfl (feq c410).1 ?_
                      refine Si Xj400 B 209 rfl rfl ?_
                      refine Si Xj400 B 210 rfl rfl ?_
                      by_cases c417 : p358 = v327
                      · skip
                        refine Scn Xj400 B 211 rfl (teq c417).2 ?_
                        refine Sa Xj400 B 212 rfl rfl rfl ?_
                        refine Si Xj400 B 213 rfl rfl ?_
                        refine Si Xj400 B 214 rfl rfl ?_
                        refine Kis _ Xj400 B hZ ej400 fj408 (own_fin0_419 x0 x1 x2 x3 x4 x5 em v1 p6 v7 p12 v13 r26_k_om r26_k_oM r26_k_en r26_k_eM r26_k_hm r26_k_hM r82_k_cmi r82_k_cma r82_k_cre r159_k_sa r159_k_ea r159_k_co r159_k_so r159_k_se r257_k_nb r257_gC v311 p316 p321 v324 v327 v330 v333 v336 p341 p342 p349 p350 p357 p358 v360 p401 p407 hv1 qp6 hv7 qp12 hv13 hq257_0 hv311 qp316 qp321 hv324 hv327 hv330 hv333 hv336 qp341 qp342 qp349 qp350 qp357 qp358 hv360 qp401 qp407 c409 c410 c417) rfl 215 rfl fun T418 h418 X418 e418 W418 f420 => ?_
                        have N421 := Fr.snoc X418 Nj400 gx383
                        have Z422 : n0 ≤ h418.size := Nat.le_trans Zj400 (Nat.le_of_eq W418.size.symm)
                        have hk := Nat.le_trans hk (Nat.le_of_eq W418.size.symm)
                        refine own_st (fun t k => XS.iinc X418.here hx rfl (B.d 216 rfl) rfl (l' := #[sI x0, sJ x1, .second, sI x2, sI x3, sI x4, sI x5, sI v1, sI x1.toInt32, sI v7, sI v13, sR b14, sR b68, sR b138, sI v311, sI p316, sI p321, sI v324, sI v327, sI p357, sI p358, sI p350, s359, sI v360, sR b362, sR b379, sI (p401 + (1 : Int32)), sU, sU, sU]) rfl k) ?_
                        show own_Go _ _ _ _ T418 (mkF m 405 _ [])
                        show own_Go _ _ _ _ T418 (mkF m 405 _ [])
                        exact J426 T418 _ h418 _ _ _ _ X418 e418 N421 hS hk hZ hown Z422 (fj402.wr W418) (fj403.other W418 (Or.inl ne380)) (fj404.other W418 (Or.inl ne380)) (fj405.other W418 ne381) (fj406.other W418 ne382) f420 (by simp only [if_pos c409, if_neg c410, if_pos c417]) (by simp only [if_pos c409, if_neg c410, if_pos c417])
                      · skip
                        refine Scy 392 405 Xj400 B 211 rfl (feq c417).2 ?_
                        exact J426 Tj400 _ hj400 _ _ _ _ Xj400 ej400 Nj400 hS hk hZ hown Zj400 fj402 fj403 fj404 fj405 fj406 fj408 (by simp only [if_pos c409, if_neg c410, if_neg c417]) (by simp only [if_pos c409, if_neg c410, if_neg c417])
                  · skip
                    refine Scy 378 405 Xj400 B 205 rfl (flt c409).2.2.2 ?_
                    exact J426 Tj400 _ hj400 _ _ _ _ Xj400 ej400 Nj400 hS hk hZ hown Zj400 fj402 fj403 fj404 fj405 fj406 fj408 (by simp only [if_neg c409]) (by simp only [if_neg c409])
                by_cases c385 : (0 : Int32) < v360
                · skip
                  refine Sfn X379 B 191 rfl ((if0 _ _).trans (tlt c385).2.2.2) ?_
                  refine Si X379 B 192 rfl rfl ?_
                  refine Si X379 B 193 rfl rfl ?_
                  by_cases c386 : p357 = v324
                  · skip
                    refine Scy 355 365 X379 B 194 rfl (teq c386).1 ?_
                    refine Sa X379 B 198 rfl rfl rfl ?_
                    refine Si X379 B 199 rfl rfl ?_
                    refine Si X379 B 200 rfl rfl ?_
                    refine Kis 0 X379 B hZ e379 V379 ⟨by decide, by decide⟩ rfl 201 rfl fun T387 h387 X387 e387 W387 f388 => ?_
                    have N389 := Fr.snoc X387 N377 gx383
                    have Z390 : n0 ≤ h387.size := Nat.le_trans Z384 (Nat.le_of_eq W387.size.symm)
                    have hk := Nat.le_trans hk (Nat.le_of_eq W387.size.symm)
                    refine own_st (fun t k => XS.iinc X387.here hx rfl (B.d 202 rfl) rfl (l' := #[sI x0, sJ x1, .second, sI x2, sI x3, sI x4, sI x5, sI v1, sI x1.toInt32, sI v7, sI v13, sR b14, sR b68, sR b138, sI v311, sI p316, sI p321, sI v324, sI v327, sI p357, sI p358, sI p350, s359, sI v360, sR b362, sR b379, sI 1, sU, sU, sU]) rfl k) ?_
                    show own_Go _ _ _ _ T387 (mkF m 375 _ [])
                    show own_Go _ _ _ _ T387 (mkF m 375 _ [])
                    exact J400 T387 _ h387 _ _ _ _ X387 e387 N389 hS hk hZ hown Z390 ((((((fq257_0.ext E362).wr W367).wr W371).wr W375).ext E379).wr W387) ((((((fq257_1.ext E362).other W367 (Or.inl ne363)).other W371 (Or.inl ne363)).other W375 (Or.inl ne363)).ext E379).other W387 (Or.inl ne380)) ((((((fq257_2.ext E362).other W367 (Or.inl ne363)).other W371 (Or.inl ne363)).other W375 (Or.inl ne363)).ext E379).other W387 (Or.inl ne380)) ((((((fq257_3.ext E362).other W367 ne364).other W371 ne364).other W375 ne364).ext E379).other W387 ne381) ((f376.ext E379).other W387 ne382) f388 (by simp only [if_pos c385, if_pos c386]) (by simp only [if_pos c385, if_pos c386])
                  · skip
                    refine Scn X379 B 194 rfl (feq c386).1 ?_
                    refine Si X379 B 195 rfl rfl ?_
                    refine Si X379 B 196 rfl rfl ?_
                    by_cases c392 : p357 = v327
                    · skip
                      refine Scn X379 B 197 rfl (teq c392).2 ?_
                      refine Sa X379 B 198 rfl rfl rfl ?_
                      refine Si X379 B 199 rfl rfl ?_
                      refine Si X379 B 200 rfl rfl ?_
                      refine Kis 0 X379 B hZ e379 V379 ⟨by decide, by decide⟩ rfl 201 rfl fun T393 h393 X393 e393 W393 f394 => ?_
                      have N395 := Fr.snoc X393 N377 gx383
                      have Z396 : n0 ≤ h393.size := Nat.le_trans Z384 (Nat.le_of_eq W393.size.symm)
                      have hk := Nat.le_trans hk (Nat.le_of_eq W393.size.symm)
                      refine own_st (fun t k => XS.iinc X393.here hx rfl (B.d 202 rfl) rfl (l' := #[sI x0, sJ x1, .second, sI x2, sI x3, sI x4, sI x5, sI v1, sI x1.toInt32, sI v7, sI v13, sR b14, sR b68, sR b138, sI v311, sI p316, sI p321, sI v324, sI v327, sI p357, sI p358, sI p350, s359, sI v360, sR b362, sR b379, sI 1, sU, sU, sU]) rfl k) ?_
                      show own_Go _ _ _ _ T393 (mkF m 375 _ [])
                      show own_Go _ _ _ _ T393 (mkF m 375 _ [])
                      exact J400 T393 _ h393 _ _ _ _ X393 e393 N395 hS hk hZ hown Z396 ((((((fq257_0.ext E362).wr W367).wr W371).wr W375).ext E379).wr W393) ((((((fq257_1.ext E362).other W367 (Or.inl ne363)).other W371 (Or.inl ne363)).other W375 (Or.inl ne363)).ext E379).other W393 (Or.inl ne380)) ((((((fq257_2.ext E362).other W367 (Or.inl ne363)).other W371 (Or.inl ne363)).other W375 (Or.inl ne363)).ext E379).other W393 (Or.inl ne380)) ((((((fq257_3.ext E362).other W367 ne364).other W371 ne364).other W375 ne364).ext E379).other W393 ne381) ((f376.ext E379).other W393 ne382) f394 (by simp only [if_pos c385, if_neg c386, if_pos c392]) (by simp only [if_pos c385, if_neg c386, if_pos c392])
                    · skip
                      refine Scy 362 375 X379 B 197 rfl (feq c392).2 ?_
                      exact J400 T379 _ h379 _ _ _ _ X379 e379 N377 hS hk hZ hown Z384 (((((fq257_0.ext E362).wr W367).wr W371).wr W375).ext E379) (((((fq257_1.ext E362).other W367 (Or.inl ne363)).other W371 (Or.inl ne363)).other W375 (Or.inl ne363)).ext E379) (((((fq257_2.ext E362).other W367 (Or.inl ne363)).other W371 (Or.inl ne363)).other W375 (Or.inl ne363)).ext E379) (((((fq257_3.ext E362).other W367 ne364).other W371 ne364).other W375 ne364).ext E379) (f376.ext E379) V379 (by simp only [if_pos c385, if_neg c386, if_neg c392]) (by simp only [if_pos c385, if_neg c386, if_neg c392])
                · skip
                  refine Sfy 348 375 X379 B 191 rfl ((if0 _ _).trans (flt c385).2.2.2) ?_
                  exact J400 T379 _ h379 _ _ _ _ X379 e379 N377 hS hk hZ hown Z384 (((((fq257_0.ext E362).wr W367).wr W371).wr W375).ext E379) (((((fq257_1.ext E362).other W367 (Or.inl ne363)).other W371 (Or.inl ne363)).other W375 (Or.inl ne363)).ext E379) (((((fq257_2.ext E362).other W367 (Or.inl ne363)).other W371 (Or.inl ne363)).other W375 (Or.inl ne363)).ext E379) (((((fq257_3.ext E362).other W367 ne364).other W371 ne364).other W375 ne364).ext E379) (f376.ext E379) V379 (by simp only [if_neg c385]) (by simp only [if_neg c385])
              by_cases c352 : p349 < p341
              · skip
                refine Scn Xj348 B 157 rfl (tlt c352).2.2.2 ?_
                refine Si Xj348 B 158 rfl rfl ?_
                have os353 : storeLocals #[sI x0, sJ x1, .second, sI x2, sI x3, sI x4, sI x5, sI v1, sI x1.toInt32, sI v7, sI v13, sR b14, sR b68, sR b138, sI v311, sI p316, sI p321, sI v324, sI v327, sI p341, sI p349, sI p350, s351, sU, sU, sU, sU, sU, sU, sU] 22 (.int p341) = some #[sI x0, sJ x1, .second, sI x2, sI x3, sI x4, sI x5, sI v1, sI x1.toInt32, sI v7, sI v13, sR b14, sR b68, sR b138, sI v311, sI p316, sI p321, sI v324, sI v327, sI p341, sI p349, sI p350, sI p341, sU, sU, sU, sU, sU, sU, sU] := by rcases Dj348 with ⟨_, rfl⟩ | ⟨rfl⟩ <;> rfl
                refine Sis #[sI x0, sJ x1, .second, sI x2, sI x3, sI x4, sI x5, sI v1, sI x1.toInt32, sI v7, sI v13, sR b14, sR b68, sR b138, sI v311, sI p316, sI p321, sI v324, sI v327, sI p341, sI p349, sI p350, sI p341, sU, sU, sU, sU, sU, sU, sU] Xj348 B 159 rfl os353 ?_
                refine Si Xj348 B 160 rfl rfl ?_
                refine Sis #[sI x0, sJ x1, .second, sI x2, sI x3, sI x4, sI x5, sI v1, sI x1.toInt32, sI v7, sI v13, sR b14, sR b68, sR b138, sI v311, sI p316, sI p321, sI v324, sI v327, sI p349, sI p349, sI p350, sI p341, sU, sU, sU, sU, sU, sU, sU] Xj348 B 161 rfl rfl ?_
                refine Si Xj348 B 162 rfl rfl ?_
                refine Sis #[sI x0, sJ x1, .second, sI x2, sI x3, sI x4, sI x5, sI v1, sI x1.toInt32, sI v7, sI v13, sR b14, sR b68, sR b138, sI v311, sI p316, sI p321, sI v324, sI v327, sI p349, sI p341, sI p350, sI p341, sU, sU, sU, sU, sU, sU, sU] Xj348 B 163 rfl rfl ?_
                exact J356 Tj348 _ _ _ _ _ _ (Xj348.mono (by decide) (by decide)) ej348 Nj348 hS hk hZ hown (by simp only [if_pos c352]) (by simp only [if_pos c352]) (Or.inl ⟨p341, rfl⟩)
              · skip
                refine Scy 294 309 Xj348 B 157 rfl (flt c352).2.2.2 ?_
                exact J356 Tj348 _ _ _ _ _ _ (Xj348.mono (by decide) (by decide)) ej348 Nj348 hS hk hZ hown (by simp only [if_neg c352]) (by simp only [if_neg c352]) Dj348
            by_cases c344 : v336 < p342
            · skip
              refine Scn Xj340 B 148 rfl (tlt c344).2.2.2 ?_
              refine Si Xj340 B 149 rfl rfl ?_
              have os345 : storeLocals #[sI x0, sJ x1, .second, sI x2, sI x3, sI x4, sI x5, sI v1, sI x1.toInt32, sI v7, sI v13, sR b14, sR b68, sR b138, sI v311, sI p316, sI p321, sI v324, sI v327, sI p341, sI p342, sI v336, s343, sU, sU, sU, sU, sU, sU, sU] 22 (.int p342) = some #[sI x0, sJ x1, .second, sI x2, sI x3, sI x4, sI x5, sI v1, sI x1.toInt32, sI v7, sI v13, sR b14, sR b68, sR b138, sI v311, sI p316, sI p321, sI v324, sI v327, sI p341, sI p342, sI v336, sI p342, sU, sU, sU, sU, sU, sU, sU] := by rcases Dj340 with ⟨_, rfl⟩ | ⟨rfl⟩ <;> rfl
              refine Sis #[sI x0, sJ x1, .second, sI x2, sI x3, sI x4, sI x5, sI v1, sI x1.toInt32, sI v7, sI v13, sR b14, sR b68, sR b138, sI v311, sI p316, sI p321, sI v324, sI v327, sI p341, sI p342, sI v336, sI p342, sU, sU, sU, sU, sU, sU, sU] Xj340 B 150 rfl os345 ?_
              refine Si Xj340 B 151 rfl rfl ?_
              refine Sis #[sI x0, sJ x1, .second, sI x2, sI x3, sI x4, sI x5, sI v1, sI x1.toInt32, sI v7, sI v13, sR b14, sR b68, sR b138, sI v311, sI p316, sI p321, sI v324, sI v327, sI p341, sI v336, sI v336, sI p342, sU, sU, sU, sU, sU, sU, sU] Xj340 B 152 rfl rfl ?_
              refine Si Xj340 B 153 rfl rfl ?_
              refine Sis #[sI x0, sJ x1, .second, sI x2, sI x3, sI x4, sI x5, sI v1, sI x1.toInt32, sI v7, sI v13, sR b14, sR b68, sR b138, sI v311, sI p316, sI p321, sI v324, sI v327, sI p341, sI v336, sI p342, sI p342, sU, sU, sU, sU, sU, sU, sU] Xj340 B 154 rfl rfl ?_
              exact J348 Tj340 _ _ _ _ _ _ Xj340 ej340 Nj340 hS hk hZ hown (by simp only [if_pos c344]) (by simp only [if_pos c344]) (Or.inl ⟨p342, rfl⟩)
            · skip
              refine Scy 275 290 Xj340 B 148 rfl (flt c344).2.2.2 ?_
              exact J348 Tj340 _ _ _ _ _ _ Xj340 ej340 Nj340 hS hk hZ hown (by simp only [if_neg c344]) (by simp only [if_neg c344]) Dj340
          by_cases c337 : v333 < v330
          · skip
            refine Scn X334 B 139 rfl (tlt c337).2.2.2 ?_
            refine Si X334 B 140 rfl rfl ?_
            refine Sis #[sI x0, sJ x1, .second, sI x2, sI x3, sI x4, sI x5, sI v1, sI x1.toInt32, sI v7, sI v13, sR b14, sR b68, sR b138, sI v311, sI p316, sI p321, sI v324, sI v327, sI v330, sI v333, sI v336, sI v330, sU, sU, sU, sU, sU, sU, sU] X334 B 141 rfl rfl ?_
            refine Si X334 B 142 rfl rfl ?_
            refine Sis #[sI x0, sJ x1, .second, sI x2, sI x3, sI x4, sI x5, sI v1, sI x1.toInt32, sI v7, sI v13, sR b14, sR b68, sR b138, sI v311, sI p316, sI p321, sI v324, sI v327, sI v333, sI v333, sI v336, sI v330, sU, sU, sU, sU, sU, sU, sU] X334 B 143 rfl rfl ?_
            refine Si X334 B 144 rfl rfl ?_
            refine Sis #[sI x0, sJ x1, .second, sI x2, sI x3, sI x4, sI x5, sI v1, sI x1.toInt32, sI v7, sI v13, sR b14, sR b68, sR b138, sI v311, sI p316, sI p321, sI v324, sI v327, sI v333, sI v330, sI v336, sI v330, sU, sU, sU, sU, sU, sU, sU] X334 B 145 rfl rfl ?_
            exact J340 T334 _ _ _ _ _ _ X334 eq334 N335 hS hk hZ hown (by simp only [if_pos c337]) (by simp only [if_pos c337]) (Or.inl ⟨v330, rfl⟩)
          · skip
            refine Scy 256 271 X334 B 139 rfl (flt c337).2.2.2 ?_
            exact J340 T334 _ _ _ _ _ _ X334 eq334 N335 hS hk hZ hown (by simp only [if_neg c337]) (by simp only [if_neg c337]) (Or.inr (rfl))
        by_cases c317 : v311 = (0 : Int32)
        · skip
          refine Sfn Xj315 B 91 rfl ((if0 _ _).trans (teq c317).2) ?_
          refine Si Xj315 B 92 rfl rfl ?_
          refine Sg 173 178 Xj315 B 93 rfl ?_
          exact J320 Tj315 _ _ _ _ Xj315 ej315 Nj315 hS hk hZ hown (by simp only [if_pos c317])
        · skip
          refine Sfy 168 176 Xj315 B 91 rfl ((if0 _ _).trans (feq c317).2) ?_
          refine Si Xj315 B 94 rfl rfl ?_
          exact J320 Tj315 _ _ _ _ Xj315 ej315 Nj315 hS hk hZ hown (by simp only [if_neg c317])
      by_cases c312 : v311 = (0 : Int32)
      · skip
        refine Sfn X257 B 85 rfl ((if0 _ _).trans (teq c312).2) ?_
        refine Si X257 B 86 rfl rfl ?_
        refine Sg 159 164 X257 B 87 rfl ?_
        exact J315 T257 _ _ _ _ X257 rfl N271 hS hk hZ hown (by simp only [if_pos c312])
      · skip
        refine Sfy 154 162 X257 B 85 rfl ((if0 _ _).trans (feq c312).2) ?_
        refine Si X257 B 88 rfl rfl ?_
        exact J315 T257 _ _ _ _ X257 rfl N271 hS hk hZ hown (by simp only [if_neg c312])
    by_cases c8 : x1.toInt32 = (0 : Int32)
    · skip
      refine Sfn Xj5 B 18 rfl ((if0 _ _).trans (teq c8).2) ?_
      refine Sc 1 Xj5 B 19 rfl rfl ?_
      refine Sg 33 38 Xj5 B 20 rfl ?_
      exact J11 Tj5 _ _ _ _ (Xj5.mono (by decide) (by decide)) ej5 Nj5 hS hk hZ hown (by simp only [if_pos c8])
    · skip
      refine Sfy 29 36 Xj5 B 18 rfl ((if0 _ _).trans (feq c8).2) ?_
      refine Si Xj5 B 21 rfl rfl ?_
      exact J11 Tj5 _ _ _ _ (Xj5.mono (by decide) (by decide)) ej5 Nj5 hS hk hZ hown (by simp only [if_neg c8])
  by_cases c2 : v1 = (0 : Int32)
  · skip
    refine Sfn X0 B 10 rfl ((if0 _ _).trans (teq c2).2) ?_
    refine Sc 1 X0 B 11 rfl rfl ?_
    refine Sg 18 23 X0 B 12 rfl ?_
    exact J5 s₁ _ _ _ _ X0 e0 N0 hS hk hZ hown (by simp only [if_pos c2])
  · skip
    refine Sfy 14 21 X0 B 10 rfl ((if0 _ _).trans (feq c2).2) ?_
    refine Si X0 B 13 rfl rfl ?_
    exact J5 s₁ _ _ _ _ X0 e0 N0 hS hk hZ hown (by simp only [if_neg c2])
set_option maxRecDepth 65536 in
set_option maxHeartbeats 4000000 in
theorem own_comes {Post : Tables → Env → Array Value → State → Outcome → State → Prop} (hpost : ∀ tb e args s v u, (limb_1_1.after args s (.returned v) u = true ∧ limb_1_2.after args s (.returned v) u = true ∧ True) → ReturnedEndW s (.returned v) u (Jvm.fieldLocs frame_1_writes args s ++ Jvm.arrayLocs frame_1_arrays args s ++ Jvm.staticLocs frame_1_statics s) 80 2368 → Post tb e args s (.returned v) u) :
    ArmFor flags0 classFile x code maxLocals ret World_1 tables_1 room_1 Calls_1 rest_1 Pre_1 Post := by
  intro l hfl _ _ p e ha hc hk s m args below hf hA hF happ hP
  obtain ⟨hcalls, hrest, hpre⟩ := hP
  obtain ⟨-, -, -, hnamed, -, -, -, hat⟩ := (Spec.applies_iff hf).mp happ
  obtain ⟨hg, hn⟩ := and_e (Cond.before_iff.mp (show (Jvm.Cond.and given_1 narrow_1).before args s = true from hpre))
  obtain ⟨g0, r0⟩ := and_e hg
  obtain ⟨g1, r1⟩ := and_e r0
  obtain ⟨g2, r2⟩ := and_e r1
  obtain ⟨g3, r3⟩ := and_e r2
  obtain ⟨g4, r4⟩ := and_e r3
  obtain ⟨g5, r5⟩ := and_e r4
  obtain ⟨w0, w1, w2, w3, w4, w5, rfl⟩ : ∃ w0 w1 w2 w3 w4 w5 : Value, args = #[w0, w1, w2, w3, w4, w5] := by
    have hs : args.size = 6 := by simpa [Cond.value, given_1] using g0
    obtain ⟨L⟩ := args
    match L, hs with
    | [w0, w1, w2, w3, w4, w5], _ => exact ⟨w0, w1, w2, w3, w4, w5, rfl⟩
  have hw : own_T _ s := fun i {d} h => atoms_spec (ws := Jvm.Cond.code x code maxLocals ret :: tables_1) hat d (List.mem_cons_of_mem _ (List.mem_of_getElem? h))
  obtain ⟨hsets, hown0⟩ := atoms_of _ (rest_1_c_eq ▸ (show rest_1_c.before _ s = true from hrest))
  obtain ⟨em, ev_e⟩ := exa_v (Cond.before_iff.mp (hsets _ (List.mem_of_getElem? (i := 2) rfl)))
  have EE := Exa.start ev_e (Cond.before_iff.mp (hsets _ (List.mem_of_getElem? (i := 2) rfl)))
  have FE := own_fI ev_e (Cond.before_iff.mp (hsets _ (List.mem_of_getElem? (i := 3) rfl)))
  have SE := Sta.start ev_e (Or.inr ⟨(hw 315 rfl), (hsets _ (List.mem_of_getElem? (i := 0) rfl))⟩)
  obtain ⟨i0, ei0⟩ := is_v g1
  obtain rfl : w0 = (.int i0) := Option.some.inj ei0
  obtain ⟨i1, ei1⟩ := isL_v g2
  obtain rfl : w1 = (.long i1) := Option.some.inj ei1
  obtain ⟨i2, ei2⟩ := is_v g3
  obtain rfl : w2 = (.int i2) := Option.some.inj ei2
  obtain ⟨i3, ei3⟩ := is_v g4
  obtain rfl : w3 = (.int i3) := Option.some.inj ei3
  obtain ⟨i4, ei4⟩ := is_v g5
  obtain rfl : w4 = (.int i4) := Option.some.inj ei4
  obtain ⟨i5, ei5⟩ := is_v r5
  obtain rfl : w5 = (.int i5) := Option.some.inj ei5
  obtain ⟨n, o, h1, h2, h3, _, L, rfl, ⟨rfl, N⟩, hq⟩ := rm0 hw tables_1 i0 i1 i2 i3 i4 i5 em s.heap s.heap.size (Nat.le_refl _) SE EE FE p e ha hc hk s m _ below hf ((Spec.applies_iff_loose hf).mp happ).1 ⟨rfl, State.Warmed39.refl s, rfl⟩ trivial
  refine ⟨n, _, h1, h2, h3, hpost _ _ _ _ _ _ ⟨Cond.after_iff.mpr rfl, Cond.after_iff.mpr (eq_i res_at (Term.int_eval (1)) rfl), trivial⟩ ⟨hq.1, hq.2.1, hq.2.2.1, (hq.2.2.2.sift fun y hy => Or.inr (N y hy)).mono (by decide) (by decide)⟩⟩
theorem main_1_1 : Claimed_1_1 := own_comes fun _ _ _ _ _ _ h hF => ⟨h.1, hF⟩
theorem main_1_2 : Claimed_1_2 := own_comes fun _ _ _ _ _ _ h hF => ⟨h.2.1, hF⟩
end Jvm.Pilot.@@N@@
namespace Jvm.Pilot.@@N@@
open Jvm Jvm.ClassFile Sem Op Lib Jvm.Free Jvm.Stand Jvm.Pilot.@@N@@.Jvm.D
/-! MADE BY PROGRAM (witnessworld.py) out of the Statement's table words and the real class files: 30 classes; the members and pool entries that the words name. The judged class is class 1, her method 2. -/
namespace start1
open Jvm.ClassFile
def u (s : String) : CpInfo := .utf8 (stringToUtf16 s)
/-- a pool by its gaps: so many unusable entries, then the entry; so many at the end -/
def gap : Nat → List CpInfo → List CpInfo
  | 0, r => r
  | n + 1, r => .unusable :: gap n r
def poolList (es : List (Nat × CpInfo)) (last : Nat) : List CpInfo := es.foldr (fun e r => gap e.1 (e.2 :: r)) (gap last [])
def pool (es : List (Nat × CpInfo)) (last : Nat) : Array CpInfo := ⟨poolList es last⟩
def fileOf (pool : Array CpInfo) (this : Nat) (attrs : Array Attribute := #[]) (ms : Array MethodInfo := #[]) (fl : Nat := 33) (sup : Nat := 0) (ifs : Array Nat := #[]) (fds : Array FieldInfo := #[]) : ClassFile where
  minorVersion := 0
  majorVersion := 65
  constantPool := pool
  accessFlags := fl
  thisClass := this
  superClass := sup
  interfaces := ifs
  fields := fds
  methods := ms
  attributes := attrs
def plain (name : String) (sup : Option ClassId) : Class where
  name := name
  kind := .ordinary
  loader := none
  accessFlags := 33
  super := sup
  interfaces := #[]
  cf := none
  fields := #[]
  methods := #[]
  instanceTypes := #[]
  staticTypes := #[]
  resolved := #[]
  callSites := []
  init := .initialized
  statics := none
  mirror := none

def pool0 : Array CpInfo := pool [(5, u "<init>"), (0, u "()V"), (1, .class_ 10), (1, u "java/lang/Object"), (85, u "clone"), (0, u "()Ljava/lang/Object;")] 26

def k0c0 : Code := { maxStack := 0, maxLocals := 1, code := object_method_1_code, exceptionTable := #[], attributes := #[] }
def k0m0 : Method := { name := "<init>", desc := "()V", sig := { parameters := [], returnType := none }, accessFlags := 1, code := some k0c0 }
def k0m1 : Method := { name := "clone", desc := "()Ljava/lang/Object;", sig := { parameters := [], returnType := some (.object "java/lang/Object") }, accessFlags := 260, code := none }
/-- java/lang/Object -/
def k0 : Class := { plain "java/lang/Object" none with
  accessFlags := 33
  interfaces := #[]
  cf := some (fileOf pool0 8 #[] #[{ accessFlags := 1, nameIndex := 5, descriptorIndex := 6, attributes := #[] }, { accessFlags := 260, nameIndex := 96, descriptorIndex := 97, attributes := #[] }] 33 0 #[] #[])
  fields := #[]
  methods := #[k0m0, k0m1]
  instanceTypes := #[]
  staticTypes := #[]
  resolved := Array.replicate 124 none
  statics := none }

def pool1 : Array CpInfo := pool [(2, .class_ 4), (1, u "java/lang/Object"), (0, u "<init>"), (0, u "()V"), (0, .class_ 8), (0, u "com/example/tidemark/tidemark/core/TaskBounds"), (0, .methodref 7 10), (0, .nameAndType 5 11), (0, u "(I)V"), (0, .methodref 7 13), (0, .nameAndType 14 15), (0, u "setEnd"), (0, u "(III)V"), (0, .methodref 7 17), (0, .nameAndType 18 15), (0, u "setOrigin"), (0, .class_ 20), (0, u "com/example/tidemark/tidemark/core/TaskColours"), (0, .methodref 19 10), (0, .methodref 19 23), (0, .nameAndType 24 15), (0, u "set"), (0, .class_ 26), (0, u "com/example/tidemark/tidemark/core/ColourProfile"), (0, .methodref 25 28), (0, .nameAndType 5 29), (0, u "(II)V"), (0, .methodref 25 31), (0, .nameAndType 32 33), (0, u "build"), (0, u "(Lcom/example/tidemark/tidemark/core/TaskBounds;Lcom/example/tidemark/tidemark/core/TaskColours;)Z"), (0, .methodref 35 36), (0, .class_ 37), (0, .nameAndType 38 39), (0, u "java/lang/Math"), (0, u "min"), (0, u "(II)I"), (0, .methodref 35 41), (0, .nameAndType 42 39), (0, u "max"), (0, .methodref 44 45), (0, .class_ 46), (0, .nameAndType 47 48), (0, u "com/example/tidemark/tidemark/core/ColourProfileRetainShownPinLaw"), (0, u "pick"), (0, u "(IIIII)I"), (0, .methodref 25 50), (0, .nameAndType 51 52), (0, u "retainShown"), (0, u "(I[II)I"), (3, u "law"), (0, u "(IJIIII)Z")] 4

def k1m0 : Method := { name := "<init>", desc := "()V", sig := { parameters := [], returnType := none }, accessFlags := 2, code := none }
def k1c1 : Code := { maxStack := 2, maxLocals := 5, code := method_2_code, exceptionTable := #[], attributes := #[] }
def k1m1 : Method := { name := "pick", desc := "(IIIII)I", sig := { parameters := [.int, .int, .int, .int, .int], returnType := some .int }, accessFlags := 10, code := some k1c1 }
def k1c2 : Code := { maxStack := 5, maxLocals := 30, code := code, exceptionTable := #[], attributes := #[] }
def k1m2 : Method := { name := "law", desc := "(IJIIII)Z", sig := { parameters := [.int, .long, .int, .int, .int, .int], returnType := some .boolean }, accessFlags := 9, code := some k1c2 }
/-- com/example/tidemark/tidemark/core/ColourProfileRetainShownPinLaw -/
def k1 : Class := { plain "com/example/tidemark/tidemark/core/ColourProfileRetainShownPinLaw" (some 0) with
  accessFlags := 49
  interfaces := #[]
  cf := some (fileOf pool1 44 #[] #[{ accessFlags := 2, nameIndex := 5, descriptorIndex := 6, attributes := #[] }, { accessFlags := 10, nameIndex := 47, descriptorIndex := 48, attributes := #[] }, { accessFlags := 9, nameIndex := 56, descriptorIndex := 57, attributes := #[] }] 49 2 #[] #[])
  fields := #[]
  methods := #[k1m0, k1m1, k1m2]
  instanceTypes := #[]
  staticTypes := #[]
  resolved := Array.replicate 62 none
  statics := none }

def pool2 : Array CpInfo := pool [(1, .methodref 2 3), (0, .class_ 4), (0, .nameAndType 5 6), (0, u "java/lang/Object"), (0, u "<init>"), (0, u "()V"), (0, .string 8), (0, u "task count"), (0, .methodref 10 11), (0, .class_ 12), (0, .nameAndType 13 14), (0, u "com/example/tidemark/tidemark/core/ArgumentRules"), (0, u "requireNonNegative"), (0, u "(Ljava/lang/String;I)V"), (0, .fieldref 16 17), (0, .class_ 18), (0, .nameAndType 19 20), (0, u "com/example/tidemark/tidemark/core/TaskBounds"), (0, u "originMin"), (0, u "[I"), (0, .fieldref 16 22), (0, .nameAndType 23 20), (0, u "originMax"), (0, .fieldref 16 25), (0, .nameAndType 26 20), (0, u "durationMin"), (0, .fieldref 16 28), (0, .nameAndType 29 20), (0, u "durationMax"), (0, .fieldref 16 31), (0, .nameAndType 32 20), (0, u "endMin"), (0, .fieldref 16 34), (0, .nameAndType 35 20), (0, u "endMax"), (0, .fieldref 16 37), (0, .nameAndType 38 20), (0, u "heightMin"), (0, .fieldref 16 40), (0, .nameAndType 41 20), (0, u "heightMax"), (2, u "count"), (0, u "()I"), (9, .methodref 16 56), (0, .nameAndType 57 58), (0, u "set"), (0, u "([I[IIII)V"), (6, u "narrowings"), (0, u "J"), (8, u "(I)V"), (4, u "setOrigin"), (0, u "(III)V"), (1, u "setEnd"), (1, u "(I)I")] 28

def k2c0 : Code := { maxStack := 2, maxLocals := 2, code := prog_44_method_1_code, exceptionTable := #[], attributes := #[] }
def k2m0 : Method := { name := "<init>", desc := "(I)V", sig := { parameters := [.int], returnType := none }, accessFlags := 1, code := some k2c0 }
def k2c1 : Code := { maxStack := 1, maxLocals := 1, code := prog_44_method_2_code, exceptionTable := #[], attributes := #[] }
def k2m1 : Method := { name := "count", desc := "()I", sig := { parameters := [], returnType := some .int }, accessFlags := 1, code := some k2c1 }
def k2c2 : Code := { maxStack := 5, maxLocals := 4, code := prog_44_method_4_code, exceptionTable := #[], attributes := #[] }
def k2m2 : Method := { name := "setOrigin", desc := "(III)V", sig := { parameters := [.int, .int, .int], returnType := none }, accessFlags := 1, code := some k2c2 }
def k2c3 : Code := { maxStack := 5, maxLocals := 4, code := prog_44_method_6_code, exceptionTable := #[], attributes := #[] }
def k2m3 : Method := { name := "setEnd", desc := "(III)V", sig := { parameters := [.int, .int, .int], returnType := none }, accessFlags := 1, code := some k2c3 }
def k2c4 : Code := { maxStack := 2, maxLocals := 2, code := prog_44_method_9_code, exceptionTable := #[], attributes := #[] }
def k2m4 : Method := { name := "originMax", desc := "(I)I", sig := { parameters := [.int], returnType := some .int }, accessFlags := 1, code := some k2c4 }
def k2c5 : Code := { maxStack := 2, maxLocals := 2, code := prog_44_method_12_code, exceptionTable := #[], attributes := #[] }
def k2m5 : Method := { name := "endMin", desc := "(I)I", sig := { parameters := [.int], returnType := some .int }, accessFlags := 1, code := some k2c5 }
def k2c6 : Code := { maxStack := 4, maxLocals := 5, code := prog_44_method_24_code, exceptionTable := #[], attributes := #[] }
def k2m6 : Method := { name := "set", desc := "([I[IIII)V", sig := { parameters := [(.array .int), (.array .int), .int, .int, .int], returnType := none }, accessFlags := 10, code := some k2c6 }
/-- com/example/tidemark/tidemark/core/TaskBounds -/
def k2 : Class := { plain "com/example/tidemark/tidemark/core/TaskBounds" (some 0) with
  accessFlags := 49
  interfaces := #[]
  cf := some (fileOf pool2 16 #[] #[{ accessFlags := 1, nameIndex := 5, descriptorIndex := 75, attributes := #[] }, { accessFlags := 1, nameIndex := 44, descriptorIndex := 45, attributes := #[] }, { accessFlags := 1, nameIndex := 80, descriptorIndex := 81, attributes := #[] }, { accessFlags := 1, nameIndex := 83, descriptorIndex := 81, attributes := #[] }, { accessFlags := 1, nameIndex := 23, descriptorIndex := 85, attributes := #[] }, { accessFlags := 1, nameIndex := 32, descriptorIndex := 85, attributes := #[] }, { accessFlags := 10, nameIndex := 57, descriptorIndex := 58, attributes := #[] }] 49 2 #[] #[{ accessFlags := 18, nameIndex := 19, descriptorIndex := 20, attributes := #[] }, { accessFlags := 18, nameIndex := 23, descriptorIndex := 20, attributes := #[] }, { accessFlags := 18, nameIndex := 26, descriptorIndex := 20, attributes := #[] }, { accessFlags := 18, nameIndex := 29, descriptorIndex := 20, attributes := #[] }, { accessFlags := 18, nameIndex := 32, descriptorIndex := 20, attributes := #[] }, { accessFlags := 18, nameIndex := 35, descriptorIndex := 20, attributes := #[] }, { accessFlags := 18, nameIndex := 38, descriptorIndex := 20, attributes := #[] }, { accessFlags := 18, nameIndex := 41, descriptorIndex := 20, attributes := #[] }, { accessFlags := 2, nameIndex := 65, descriptorIndex := 66, attributes := #[] }])
  fields := #[{ name := "originMin", type := (.array .int), accessFlags := 18, slot := 0, constantValue := 0 }, { name := "originMax", type := (.array .int), accessFlags := 18, slot := 1, constantValue := 0 }, { name := "durationMin", type := (.array .int), accessFlags := 18, slot := 2, constantValue := 0 }, { name := "durationMax", type := (.array .int), accessFlags := 18, slot := 3, constantValue := 0 }, { name := "endMin", type := (.array .int), accessFlags := 18, slot := 4, constantValue := 0 }, { name := "endMax", type := (.array .int), accessFlags := 18, slot := 5, constantValue := 0 }, { name := "heightMin", type := (.array .int), accessFlags := 18, slot := 6, constantValue := 0 }, { name := "heightMax", type := (.array .int), accessFlags := 18, slot := 7, constantValue := 0 }, { name := "narrowings", type := .long, accessFlags := 2, slot := 8, constantValue := 0 }]
  methods := #[k2m0, k2m1, k2m2, k2m3, k2m4, k2m5, k2m6]
  instanceTypes := #[(.array .int), (.array .int), (.array .int), (.array .int), (.array .int), (.array .int), (.array .int), (.array .int), .long]
  staticTypes := #[]
  resolved := Array.replicate 114 none
  statics := none }

def pool3 : Array CpInfo := pool [(1, .class_ 2), (0, u "java/io/Serializable"), (0, .class_ 4), (0, u "java/lang/Object")] 2

/-- java/io/Serializable -/
def k3 : Class := { plain "java/io/Serializable" (some 0) with
  accessFlags := 1537
  interfaces := #[]
  cf := some (fileOf pool3 1 #[] #[] 1537 3 #[] #[])
  fields := #[]
  methods := #[]
  instanceTypes := #[]
  staticTypes := #[]
  resolved := Array.replicate 7 none
  statics := none }

def pool4 : Array CpInfo := pool [(1, .class_ 2), (0, u "java/lang/Comparable"), (0, .class_ 4), (0, u "java/lang/Object")] 7

/-- java/lang/Comparable -/
def k4 : Class := { plain "java/lang/Comparable" (some 0) with
  accessFlags := 1537
  interfaces := #[]
  cf := some (fileOf pool4 1 #[] #[] 1537 3 #[] #[])
  fields := #[]
  methods := #[]
  instanceTypes := #[]
  staticTypes := #[]
  resolved := Array.replicate 12 none
  statics := none }

def pool5 : Array CpInfo := pool [(2, .class_ 4), (1, u "java/lang/CharSequence"), (42, .class_ 48), (0, u "java/lang/CharSequence$1CodePointIterator"), (10, .class_ 60), (0, u "java/lang/CharSequence$1CharIterator"), (5, .class_ 67), (0, u "java/lang/Object")] 63

/-- java/lang/CharSequence -/
def k5 : Class := { plain "java/lang/CharSequence" (some 0) with
  accessFlags := 1537
  interfaces := #[]
  cf := some (fileOf pool5 2 #[.nestMembers #[47, 59]] #[] 1537 66 #[] #[])
  fields := #[]
  methods := #[]
  instanceTypes := #[]
  staticTypes := #[]
  resolved := Array.replicate 131 none
  statics := none }

def pool6 : Array CpInfo := pool [(1, .class_ 2), (0, u "java/lang/constant/Constable"), (0, .class_ 4), (0, u "java/lang/Object")] 6

/-- java/lang/constant/Constable -/
def k6 : Class := { plain "java/lang/constant/Constable" (some 0) with
  accessFlags := 1537
  interfaces := #[]
  cf := some (fileOf pool6 1 #[] #[] 1537 3 #[] #[])
  fields := #[]
  methods := #[]
  instanceTypes := #[]
  staticTypes := #[]
  resolved := Array.replicate 11 none
  statics := none }

def pool7 : Array CpInfo := pool [(1, .class_ 2), (0, u "java/lang/constant/ConstantDesc"), (0, .class_ 4), (0, u "java/lang/Object")] 32

/-- java/lang/constant/ConstantDesc -/
def k7 : Class := { plain "java/lang/constant/ConstantDesc" (some 0) with
  accessFlags := 1537
  interfaces := #[]
  cf := some (fileOf pool7 1 #[] #[] 1537 3 #[] #[])
  fields := #[]
  methods := #[]
  instanceTypes := #[]
  staticTypes := #[]
  resolved := Array.replicate 37 none
  statics := none }

def pool8 : Array CpInfo := pool [(2, .class_ 4), (1, u "java/lang/Object"), (0, u "<init>"), (0, u "()V"), (3, .class_ 12), (1, u "java/lang/String"), (0, u "value"), (0, u "[B"), (2, u "coder"), (0, u "B"), (2, u "hash"), (0, u "I"), (2, u "hashIsZero"), (0, u "Z"), (13, u "COMPACT_STRINGS"), (534, .class_ 576), (0, u "java/lang/CharSequence"), (22, u "CASE_INSENSITIVE_ORDER"), (0, u "Ljava/util/Comparator;"), (500, u "serialPersistentFields"), (0, u "[Ljava/io/ObjectStreamField;"), (0, .class_ 1104), (0, u "java/lang/String$CaseInsensitiveComparator"), (1, .class_ 1107), (0, u "java/io/Serializable"), (0, .class_ 1109), (0, u "java/lang/Comparable"), (0, .class_ 1111), (0, u "java/lang/constant/Constable"), (0, .class_ 1113), (0, u "java/lang/constant/ConstantDesc"), (2, u "serialVersionUID"), (0, u "J"), (3, u "REPL"), (0, u "C"), (2, u "LATIN1"), (1, u "UTF16")] 323

def k8m0 : Method := { name := "<init>", desc := "()V", sig := { parameters := [], returnType := none }, accessFlags := 1, code := none }
/-- java/lang/String -/
def k8 : Class := { plain "java/lang/String" (some 0) with
  accessFlags := 49
  interfaces := #[3, 4, 5, 6, 7]
  cf := some (fileOf pool8 10 #[.nestMembers #[1103]] #[{ accessFlags := 1, nameIndex := 5, descriptorIndex := 6, attributes := #[] }] 49 2 #[1106, 1108, 575, 1110, 1112] #[{ accessFlags := 18, nameIndex := 13, descriptorIndex := 14, attributes := #[] }, { accessFlags := 18, nameIndex := 17, descriptorIndex := 18, attributes := #[] }, { accessFlags := 2, nameIndex := 21, descriptorIndex := 22, attributes := #[] }, { accessFlags := 2, nameIndex := 25, descriptorIndex := 26, attributes := #[] }, { accessFlags := 26, nameIndex := 1116, descriptorIndex := 1117, attributes := #[] }, { accessFlags := 24, nameIndex := 40, descriptorIndex := 26, attributes := #[] }, { accessFlags := 26, nameIndex := 1101, descriptorIndex := 1102, attributes := #[] }, { accessFlags := 26, nameIndex := 1121, descriptorIndex := 1122, attributes := #[] }, { accessFlags := 25, nameIndex := 599, descriptorIndex := 600, attributes := #[] }, { accessFlags := 24, nameIndex := 1125, descriptorIndex := 18, attributes := #[] }, { accessFlags := 24, nameIndex := 1127, descriptorIndex := 18, attributes := #[] }])
  fields := #[{ name := "value", type := (.array .byte), accessFlags := 18, slot := 0, constantValue := 0 }, { name := "coder", type := .byte, accessFlags := 18, slot := 1, constantValue := 0 }, { name := "hash", type := .int, accessFlags := 2, slot := 2, constantValue := 0 }, { name := "hashIsZero", type := .boolean, accessFlags := 2, slot := 3, constantValue := 0 }, { name := "serialVersionUID", type := .long, accessFlags := 26, slot := 0, constantValue := 0 }, { name := "COMPACT_STRINGS", type := .boolean, accessFlags := 24, slot := 1, constantValue := 0 }, { name := "serialPersistentFields", type := (.array (.object "java/io/ObjectStreamField")), accessFlags := 26, slot := 2, constantValue := 0 }, { name := "REPL", type := .char, accessFlags := 26, slot := 3, constantValue := 0 }, { name := "CASE_INSENSITIVE_ORDER", type := (.object "java/util/Comparator"), accessFlags := 25, slot := 4, constantValue := 0 }, { name := "LATIN1", type := .byte, accessFlags := 24, slot := 5, constantValue := 0 }, { name := "UTF16", type := .byte, accessFlags := 24, slot := 6, constantValue := 0 }]
  methods := #[k8m0]
  instanceTypes := #[(.array .byte), .byte, .int, .boolean]
  staticTypes := #[.long, .boolean, (.array (.object "java/io/ObjectStreamField")), .char, (.object "java/util/Comparator"), .byte, .byte]
  resolved := Array.replicate 1451 none
  statics := none }

def pool9 : Array CpInfo := pool [(2, .class_ 4), (1, u "java/lang/Object"), (0, u "<init>"), (0, u "()V"), (16, .class_ 24), (0, u "com/example/tidemark/tidemark/core/ArgumentRules"), (2, u "requireNonNegative"), (0, u "(Ljava/lang/String;I)V")] 28

def k9m0 : Method := { name := "<init>", desc := "()V", sig := { parameters := [], returnType := none }, accessFlags := 2, code := none }
def k9c1 : Code := { maxStack := 4, maxLocals := 2, code := prog_15_method_2_code, exceptionTable := #[], attributes := #[] }
def k9m1 : Method := { name := "requireNonNegative", desc := "(Ljava/lang/String;I)V", sig := { parameters := [(.object "java/lang/String"), .int], returnType := none }, accessFlags := 9, code := some k9c1 }
/-- com/example/tidemark/tidemark/core/ArgumentRules -/
def k9 : Class := { plain "com/example/tidemark/tidemark/core/ArgumentRules" (some 0) with
  accessFlags := 49
  interfaces := #[]
  cf := some (fileOf pool9 23 #[] #[{ accessFlags := 2, nameIndex := 5, descriptorIndex := 6, attributes := #[] }, { accessFlags := 9, nameIndex := 27, descriptorIndex := 28, attributes := #[] }] 49 2 #[] #[])
  fields := #[]
  methods := #[k9m0, k9m1]
  instanceTypes := #[]
  staticTypes := #[]
  resolved := Array.replicate 57 none
  statics := none }

def pool10 : Array CpInfo := pool [(1, .methodref 2 3), (0, .class_ 4), (0, .nameAndType 5 6), (0, u "java/lang/Object"), (0, u "<init>"), (0, u "()V"), (0, .string 8), (0, u "task count"), (0, .methodref 10 11), (0, .class_ 12), (0, .nameAndType 13 14), (0, u "com/example/tidemark/tidemark/core/ArgumentRules"), (0, u "requireNonNegative"), (0, u "(Ljava/lang/String;I)V"), (0, .fieldref 16 17), (0, .class_ 18), (0, .nameAndType 19 20), (0, u "com/example/tidemark/tidemark/core/TaskColours"), (0, u "min"), (0, u "[I"), (0, .fieldref 16 22), (0, .nameAndType 23 20), (0, u "max"), (0, .class_ 20), (0, .fieldref 16 26), (0, .nameAndType 27 28), (0, u "remaining"), (0, u "[[I"), (27, u "narrowings"), (0, u "J"), (4, u "(I)V"), (4, u "set"), (0, u "(III)V"), (1, u "(I)I"), (1, u "(I)Z"), (1, u "isFixed")] 25

def k10c0 : Code := { maxStack := 2, maxLocals := 2, code := prog_45_method_1_code, exceptionTable := #[], attributes := #[] }
def k10m0 : Method := { name := "<init>", desc := "(I)V", sig := { parameters := [.int], returnType := none }, accessFlags := 1, code := some k10c0 }
def k10c1 : Code := { maxStack := 4, maxLocals := 4, code := prog_45_method_3_code, exceptionTable := #[], attributes := #[] }
def k10m1 : Method := { name := "set", desc := "(III)V", sig := { parameters := [.int, .int, .int], returnType := none }, accessFlags := 1, code := some k10c1 }
def k10c2 : Code := { maxStack := 2, maxLocals := 2, code := prog_45_method_4_code, exceptionTable := #[], attributes := #[] }
def k10m2 : Method := { name := "min", desc := "(I)I", sig := { parameters := [.int], returnType := some .int }, accessFlags := 1, code := some k10c2 }
def k10c3 : Code := { maxStack := 3, maxLocals := 2, code := prog_45_method_8_code, exceptionTable := #[], attributes := #[] }
def k10m3 : Method := { name := "isFixed", desc := "(I)Z", sig := { parameters := [.int], returnType := some .boolean }, accessFlags := 0, code := some k10c3 }
/-- com/example/tidemark/tidemark/core/TaskColours -/
def k10 : Class := { plain "com/example/tidemark/tidemark/core/TaskColours" (some 0) with
  accessFlags := 49
  interfaces := #[]
  cf := some (fileOf pool10 16 #[] #[{ accessFlags := 1, nameIndex := 5, descriptorIndex := 62, attributes := #[] }, { accessFlags := 1, nameIndex := 67, descriptorIndex := 68, attributes := #[] }, { accessFlags := 1, nameIndex := 19, descriptorIndex := 70, attributes := #[] }, { accessFlags := 0, nameIndex := 74, descriptorIndex := 72, attributes := #[] }] 49 2 #[] #[{ accessFlags := 18, nameIndex := 19, descriptorIndex := 20, attributes := #[] }, { accessFlags := 18, nameIndex := 23, descriptorIndex := 20, attributes := #[] }, { accessFlags := 18, nameIndex := 27, descriptorIndex := 28, attributes := #[] }, { accessFlags := 2, nameIndex := 56, descriptorIndex := 57, attributes := #[] }])
  fields := #[{ name := "min", type := (.array .int), accessFlags := 18, slot := 0, constantValue := 0 }, { name := "max", type := (.array .int), accessFlags := 18, slot := 1, constantValue := 0 }, { name := "remaining", type := (.array (.array .int)), accessFlags := 18, slot := 2, constantValue := 0 }, { name := "narrowings", type := .long, accessFlags := 2, slot := 3, constantValue := 0 }]
  methods := #[k10m0, k10m1, k10m2, k10m3]
  instanceTypes := #[(.array .int), (.array .int), (.array (.array .int)), .long]
  staticTypes := #[]
  resolved := Array.replicate 100 none
  statics := none }

def pool11 : Array CpInfo := pool [(1, .methodref 2 3), (0, .class_ 4), (0, .nameAndType 5 6), (0, u "java/lang/Object"), (0, u "<init>"), (0, u "()V"), (0, .fieldref 8 9), (0, .class_ 10), (0, .nameAndType 11 12), (0, u "com/example/tidemark/tidemark/core/Stretches"), (0, u "starts"), (0, u "[I"), (0, .fieldref 8 14), (0, .nameAndType 15 12), (0, u "ends"), (0, .fieldref 8 17), (0, .nameAndType 18 19), (0, u "size"), (0, u "I"), (0, u "(I)V"), (2, u "clear"), (0, u "add"), (0, u "(II)I")] 10

def k11c0 : Code := { maxStack := 2, maxLocals := 2, code := prog_38_method_1_code, exceptionTable := #[], attributes := #[] }
def k11m0 : Method := { name := "<init>", desc := "(I)V", sig := { parameters := [.int], returnType := none }, accessFlags := 0, code := some k11c0 }
def k11c1 : Code := { maxStack := 2, maxLocals := 1, code := prog_38_method_2_code, exceptionTable := #[], attributes := #[] }
def k11m1 : Method := { name := "clear", desc := "()V", sig := { parameters := [], returnType := none }, accessFlags := 16, code := some k11c1 }
def k11c2 : Code := { maxStack := 4, maxLocals := 3, code := prog_38_method_3_code, exceptionTable := #[], attributes := #[] }
def k11m2 : Method := { name := "add", desc := "(II)I", sig := { parameters := [.int, .int], returnType := some .int }, accessFlags := 16, code := some k11c2 }
/-- com/example/tidemark/tidemark/core/Stretches -/
def k11 : Class := { plain "com/example/tidemark/tidemark/core/Stretches" (some 0) with
  accessFlags := 1056
  interfaces := #[]
  cf := some (fileOf pool11 8 #[] #[{ accessFlags := 0, nameIndex := 5, descriptorIndex := 20, attributes := #[] }, { accessFlags := 16, nameIndex := 23, descriptorIndex := 6, attributes := #[] }, { accessFlags := 16, nameIndex := 24, descriptorIndex := 25, attributes := #[] }] 1056 2 #[] #[{ accessFlags := 18, nameIndex := 11, descriptorIndex := 12, attributes := #[] }, { accessFlags := 18, nameIndex := 15, descriptorIndex := 12, attributes := #[] }, { accessFlags := 2, nameIndex := 18, descriptorIndex := 19, attributes := #[] }])
  fields := #[{ name := "starts", type := (.array .int), accessFlags := 18, slot := 0, constantValue := 0 }, { name := "ends", type := (.array .int), accessFlags := 18, slot := 1, constantValue := 0 }, { name := "size", type := .int, accessFlags := 2, slot := 2, constantValue := 0 }]
  methods := #[k11m0, k11m1, k11m2]
  instanceTypes := #[(.array .int), (.array .int), .int]
  staticTypes := #[]
  resolved := Array.replicate 36 none
  statics := none }

def pool12 : Array CpInfo := pool [(1, .methodref 2 3), (0, .class_ 4), (0, .nameAndType 5 6), (0, u "java/lang/Math"), (0, u "max"), (0, u "(II)I"), (0, .methodref 8 9), (0, .class_ 10), (0, .nameAndType 11 12), (0, u "com/example/tidemark/tidemark/core/Stretches"), (0, u "<init>"), (0, u "(I)V"), (0, .fieldref 14 15), (0, .class_ 16), (0, .nameAndType 17 18), (0, u "com/example/tidemark/tidemark/core/ColourProfile"), (0, u "colours"), (0, u "[I"), (0, .fieldref 14 20), (0, .nameAndType 21 22), (0, u "limit"), (0, u "I"), (0, .class_ 24), (0, u "com/example/tidemark/tidemark/core/Sweep"), (0, .methodref 23 9), (0, .fieldref 14 27), (0, .nameAndType 28 29), (0, u "sweep"), (0, u "Lcom/example/tidemark/tidemark/core/Sweep;"), (0, .methodref 31 32), (0, .class_ 33), (0, .nameAndType 34 35), (0, u "com/example/tidemark/tidemark/core/TaskBounds"), (0, u "count"), (0, u "()I"), (0, .methodref 23 37), (0, .nameAndType 38 39), (0, u "clear"), (0, u "()V"), (0, .methodref 41 42), (0, .class_ 43), (0, .nameAndType 44 45), (0, u "com/example/tidemark/tidemark/core/TaskColours"), (0, u "min"), (0, u "(I)I"), (0, .methodref 31 47), (0, .nameAndType 48 45), (0, u "originMax"), (0, .methodref 31 50), (0, .nameAndType 51 45), (0, u "endMin"), (0, .methodref 41 53), (0, .nameAndType 54 55), (0, u "isFixed"), (0, u "(I)Z"), (0, .methodref 23 57), (0, .nameAndType 58 59), (0, u "add"), (0, u "(III)V"), (0, .methodref 14 37), (0, .class_ 62), (0, u "com/example/tidemark/tidemark/core/DistinctValues"), (0, .methodref 61 64), (0, .nameAndType 11 65), (0, u "([I)V"), (0, .invokeDynamic 0 67), (0, .nameAndType 68 69), (0, u "stopsAt"), (0, u "(Lcom/example/tidemark/tidemark/core/ColourProfile;Lcom/example/tidemark/tidemark/core/DistinctValues;)Lcom/example/tidemark/tidemark/core/Sweep$Visitor;"), (0, .methodref 23 71), (0, .nameAndType 72 73), (0, u "walk"), (0, u "(Lcom/example/tidemark/tidemark/core/Sweep$Tally;Lcom/example/tidemark/tidemark/core/Sweep$Visitor;)Ljava/util/OptionalInt;"), (0, .methodref 75 76), (0, .class_ 77), (0, .nameAndType 78 79), (0, u "java/util/OptionalInt"), (0, u "isEmpty"), (0, u "()Z"), (0, .methodref 61 32), (0, .methodref 14 82), (0, .nameAndType 58 6), (0, .methodref 2 84), (0, .nameAndType 85 6), (0, u "multiplyExact"), (0, .methodref 87 88), (0, .class_ 89), (0, .nameAndType 90 91), (0, u "java/util/Arrays"), (0, u "copyOf"), (0, u "([II)[I"), (0, .methodref 61 93), (0, .nameAndType 94 95), (0, u "copyValues"), (0, u "([II)V"), (37, u "(II)Z"), (0, .methodref 14 135), (0, .nameAndType 136 137), (0, u "layFull"), (0, u "(Lcom/example/tidemark/tidemark/core/DistinctValues;II)Z"), (0, u "(II)V"), (2, u "build"), (0, u "(Lcom/example/tidemark/tidemark/core/TaskBounds;Lcom/example/tidemark/tidemark/core/TaskColours;)Z"), (7, u "retainShown"), (0, u "(I[II)I"), (0, u "lambda$build$0"), (3, .methodType 133), (0, .methodHandle 5 158), (0, .methodref 14 159), (0, .nameAndType 152 137), (0, .methodHandle 6 161), (0, .methodref 162 163), (0, .class_ 164), (0, .nameAndType 165 166), (0, u "java/lang/invoke/LambdaMetafactory"), (0, u "metafactory"), (0, u "(Ljava/lang/invoke/MethodHandles$Lookup;Ljava/lang/String;Ljava/lang/invoke/MethodType;Ljava/lang/invoke/MethodType;Ljava/lang/invoke/MethodHandle;Ljava/lang/invoke/MethodType;)Ljava/lang/invoke/CallSite;")] 12

def k12c0 : Code := { maxStack := 4, maxLocals := 3, code := prog_17_method_1_code, exceptionTable := #[], attributes := #[] }
def k12m0 : Method := { name := "<init>", desc := "(II)V", sig := { parameters := [.int, .int], returnType := none }, accessFlags := 0, code := some k12c0 }
def k12c1 : Code := { maxStack := 4, maxLocals := 7, code := prog_17_method_2_code, exceptionTable := #[], attributes := #[] }
def k12m1 : Method := { name := "build", desc := "(Lcom/example/tidemark/tidemark/core/TaskBounds;Lcom/example/tidemark/tidemark/core/TaskColours;)Z", sig := { parameters := [(.object "com/example/tidemark/tidemark/core/TaskBounds"), (.object "com/example/tidemark/tidemark/core/TaskColours")], returnType := some .boolean }, accessFlags := 0, code := some k12c1 }
def k12c2 : Code := { maxStack := 5, maxLocals := 5, code := prog_17_method_3_code, exceptionTable := #[], attributes := #[] }
def k12m2 : Method := { name := "layFull", desc := "(Lcom/example/tidemark/tidemark/core/DistinctValues;II)Z", sig := { parameters := [(.object "com/example/tidemark/tidemark/core/DistinctValues"), .int, .int], returnType := some .boolean }, accessFlags := 2, code := some k12c2 }
def k12c3 : Code := { maxStack := 4, maxLocals := 8, code := prog_17_method_8_code, exceptionTable := #[], attributes := #[] }
def k12m3 : Method := { name := "retainShown", desc := "(I[II)I", sig := { parameters := [.int, (.array .int), .int], returnType := some .int }, accessFlags := 0, code := some k12c3 }
def k12c4 : Code := { maxStack := 4, maxLocals := 4, code := prog_17_method_9_code, exceptionTable := #[], attributes := #[] }
def k12m4 : Method := { name := "lambda$build$0", desc := "(Lcom/example/tidemark/tidemark/core/DistinctValues;II)Z", sig := { parameters := [(.object "com/example/tidemark/tidemark/core/DistinctValues"), .int, .int], returnType := some .boolean }, accessFlags := 4098, code := some k12c4 }
/-- com/example/tidemark/tidemark/core/ColourProfile -/
def k12 : Class := { plain "com/example/tidemark/tidemark/core/ColourProfile" (some 11) with
  accessFlags := 48
  interfaces := #[]
  cf := some (fileOf pool12 14 #[.bootstrapMethods #[⟨160, #[156, 157, 156]⟩]] #[{ accessFlags := 0, nameIndex := 11, descriptorIndex := 138, attributes := #[] }, { accessFlags := 0, nameIndex := 141, descriptorIndex := 142, attributes := #[] }, { accessFlags := 2, nameIndex := 136, descriptorIndex := 137, attributes := #[] }, { accessFlags := 0, nameIndex := 150, descriptorIndex := 151, attributes := #[] }, { accessFlags := 4098, nameIndex := 152, descriptorIndex := 137, attributes := #[] }] 48 8 #[] #[{ accessFlags := 18, nameIndex := 21, descriptorIndex := 22, attributes := #[] }, { accessFlags := 18, nameIndex := 28, descriptorIndex := 29, attributes := #[] }, { accessFlags := 2, nameIndex := 17, descriptorIndex := 18, attributes := #[] }])
  fields := #[{ name := "limit", type := .int, accessFlags := 18, slot := 3, constantValue := 0 }, { name := "sweep", type := (.object "com/example/tidemark/tidemark/core/Sweep"), accessFlags := 18, slot := 4, constantValue := 0 }, { name := "colours", type := (.array .int), accessFlags := 2, slot := 5, constantValue := 0 }]
  methods := #[k12m0, k12m1, k12m2, k12m3, k12m4]
  instanceTypes := #[(.array .int), (.array .int), .int, .int, (.object "com/example/tidemark/tidemark/core/Sweep"), (.array .int)]
  staticTypes := #[]
  resolved := Array.replicate 179 none
  callSites := [(1, 110, .makes 29)]
  statics := none }

def pool13 : Array CpInfo := pool [(1, .class_ 2), (0, u "java/lang/Math"), (1, .class_ 6), (1, u "java/lang/Object"), (0, u "<init>"), (0, u "()V"), (89, .class_ 100), (1, u "java/lang/Math$RandomNumberGeneratorHolder"), (19, u "multiplyExact"), (51, u "negativeZeroFloatBits"), (0, u "J"), (2, u "negativeZeroDoubleBits"), (21, u "max"), (2, u "min"), (43, u "$assertionsDisabled"), (0, u "Z"), (88, u "(II)I"), (2, u "twoToTheDoubleScaleDown"), (0, u "D"), (4, u "twoToTheDoubleScaleUp"), (9, u "E"), (3, u "PI"), (2, u "TAU"), (2, u "DEGREES_TO_RADIANS"), (0, u "RADIANS_TO_DEGREES")] 94

def k13m0 : Method := { name := "<init>", desc := "()V", sig := { parameters := [], returnType := none }, accessFlags := 2, code := none }
def k13c1 : Code := { maxStack := 4, maxLocals := 4, code := jdk_29_method_28_code, exceptionTable := #[], attributes := #[] }
def k13m1 : Method := { name := "multiplyExact", desc := "(II)I", sig := { parameters := [.int, .int], returnType := some .int }, accessFlags := 9, code := some k13c1 }
def k13c2 : Code := { maxStack := 2, maxLocals := 2, code := jdk_29_method_65_code, exceptionTable := #[], attributes := #[] }
def k13m2 : Method := { name := "max", desc := "(II)I", sig := { parameters := [.int, .int], returnType := some .int }, accessFlags := 9, code := some k13c2 }
def k13c3 : Code := { maxStack := 2, maxLocals := 2, code := jdk_29_method_69_code, exceptionTable := #[], attributes := #[] }
def k13m3 : Method := { name := "min", desc := "(II)I", sig := { parameters := [.int, .int], returnType := some .int }, accessFlags := 9, code := some k13c3 }
/-- java/lang/Math -/
def k13 : Class := { plain "java/lang/Math" (some 0) with
  accessFlags := 49
  interfaces := #[]
  cf := some (fileOf pool13 1 #[.nestMembers #[98]] #[{ accessFlags := 2, nameIndex := 7, descriptorIndex := 8, attributes := #[] }, { accessFlags := 9, nameIndex := 120, descriptorIndex := 335, attributes := #[] }, { accessFlags := 9, nameIndex := 198, descriptorIndex := 335, attributes := #[] }, { accessFlags := 9, nameIndex := 201, descriptorIndex := 335, attributes := #[] }] 49 4 #[] #[{ accessFlags := 25, nameIndex := 354, descriptorIndex := 339, attributes := #[] }, { accessFlags := 25, nameIndex := 358, descriptorIndex := 339, attributes := #[] }, { accessFlags := 25, nameIndex := 361, descriptorIndex := 339, attributes := #[] }, { accessFlags := 26, nameIndex := 364, descriptorIndex := 339, attributes := #[] }, { accessFlags := 26, nameIndex := 365, descriptorIndex := 339, attributes := #[] }, { accessFlags := 26, nameIndex := 172, descriptorIndex := 173, attributes := #[] }, { accessFlags := 26, nameIndex := 176, descriptorIndex := 173, attributes := #[] }, { accessFlags := 8, nameIndex := 344, descriptorIndex := 339, attributes := #[] }, { accessFlags := 8, nameIndex := 338, descriptorIndex := 339, attributes := #[] }, { accessFlags := 4120, nameIndex := 245, descriptorIndex := 246, attributes := #[] }])
  fields := #[{ name := "E", type := .double, accessFlags := 25, slot := 0, constantValue := 0 }, { name := "PI", type := .double, accessFlags := 25, slot := 1, constantValue := 0 }, { name := "TAU", type := .double, accessFlags := 25, slot := 2, constantValue := 0 }, { name := "DEGREES_TO_RADIANS", type := .double, accessFlags := 26, slot := 3, constantValue := 0 }, { name := "RADIANS_TO_DEGREES", type := .double, accessFlags := 26, slot := 4, constantValue := 0 }, { name := "negativeZeroFloatBits", type := .long, accessFlags := 26, slot := 5, constantValue := 0 }, { name := "negativeZeroDoubleBits", type := .long, accessFlags := 26, slot := 6, constantValue := 0 }, { name := "twoToTheDoubleScaleUp", type := .double, accessFlags := 8, slot := 7, constantValue := 0 }, { name := "twoToTheDoubleScaleDown", type := .double, accessFlags := 8, slot := 8, constantValue := 0 }, { name := "$assertionsDisabled", type := .boolean, accessFlags := 4120, slot := 9, constantValue := 0 }]
  methods := #[k13m0, k13m1, k13m2, k13m3]
  instanceTypes := #[]
  staticTypes := #[.double, .double, .double, .double, .double, .long, .long, .double, .double, .boolean]
  resolved := Array.replicate 460 none
  statics := none }

def pool14 : Array CpInfo := pool [(1, .methodref 2 3), (0, .class_ 4), (0, .nameAndType 5 6), (0, u "java/lang/Object"), (0, u "<init>"), (0, u "()V"), (0, .fieldref 8 9), (0, .class_ 10), (0, .nameAndType 11 12), (0, u "com/example/tidemark/tidemark/core/Sweep"), (0, u "origins"), (0, u "[J"), (0, .fieldref 8 14), (0, .nameAndType 15 12), (0, u "ends"), (0, .fieldref 8 17), (0, .nameAndType 18 19), (0, u "count"), (0, u "I"), (0, .fieldref 8 21), (0, .nameAndType 22 23), (0, u "sorted"), (0, u "Z"), (0, .methodref 25 26), (0, .class_ 27), (0, .nameAndType 28 29), (0, u "java/lang/Math"), (0, u "max"), (0, u "(II)I"), (1, .class_ 33), (1, u "java/util/Arrays"), (2, .methodref 8 37), (0, .nameAndType 38 39), (0, u "event"), (0, u "(II)J"), (0, .methodref 31 41), (0, .nameAndType 42 43), (0, u "sort"), (0, u "([JII)V"), (0, .methodref 8 45), (0, .nameAndType 46 29), (0, u "next"), (0, .methodref 8 48), (0, .nameAndType 49 50), (0, u "point"), (0, u "(J)I"), (0, .methodref 8 52), (0, .nameAndType 53 50), (0, u "task"), (0, .interfaceMethodref 55 56), (0, .class_ 57), (0, .nameAndType 58 59), (0, u "com/example/tidemark/tidemark/core/Sweep$Tally"), (0, u "enter"), (0, u "(I)V"), (0, .interfaceMethodref 55 61), (0, .nameAndType 62 59), (0, u "leave"), (0, .interfaceMethodref 64 65), (0, .class_ 66), (0, .nameAndType 67 68), (0, u "com/example/tidemark/tidemark/core/Sweep$Visitor"), (0, u "stopsAt"), (0, u "(II)Z"), (1, .class_ 72), (1, u "java/util/OptionalInt"), (2, .methodref 70 76), (0, .nameAndType 77 78), (0, u "empty"), (0, u "()Ljava/util/OptionalInt;"), (0, .methodref 25 80), (0, .nameAndType 81 29), (0, u "min"), (29, u "add"), (0, u "(III)V"), (5, u "walk"), (0, u "(Lcom/example/tidemark/tidemark/core/Sweep$Tally;Lcom/example/tidemark/tidemark/core/Sweep$Visitor;)Ljava/util/OptionalInt;"), (9, u "clear")] 35

def k14c0 : Code := { maxStack := 2, maxLocals := 2, code := prog_40_method_1_code, exceptionTable := #[], attributes := #[] }
def k14m0 : Method := { name := "<init>", desc := "(I)V", sig := { parameters := [.int], returnType := none }, accessFlags := 0, code := some k14c0 }
def k14c1 : Code := { maxStack := 2, maxLocals := 1, code := prog_40_method_2_code, exceptionTable := #[], attributes := #[] }
def k14m1 : Method := { name := "clear", desc := "()V", sig := { parameters := [], returnType := none }, accessFlags := 0, code := some k14c1 }
def k14c2 : Code := { maxStack := 4, maxLocals := 5, code := prog_40_method_3_code, exceptionTable := #[], attributes := #[] }
def k14m2 : Method := { name := "add", desc := "(III)V", sig := { parameters := [.int, .int, .int], returnType := none }, accessFlags := 0, code := some k14c2 }
def k14c3 : Code := { maxStack := 5, maxLocals := 6, code := prog_40_method_4_code, exceptionTable := #[], attributes := #[] }
def k14m3 : Method := { name := "walk", desc := "(Lcom/example/tidemark/tidemark/core/Sweep$Tally;Lcom/example/tidemark/tidemark/core/Sweep$Visitor;)Ljava/util/OptionalInt;", sig := { parameters := [(.object "com/example/tidemark/tidemark/core/Sweep$Tally"), (.object "com/example/tidemark/tidemark/core/Sweep$Visitor")], returnType := some (.object "java/util/OptionalInt") }, accessFlags := 0, code := some k14c3 }
def k14c4 : Code := { maxStack := 3, maxLocals := 4, code := prog_40_method_5_code, exceptionTable := #[], attributes := #[] }
def k14m4 : Method := { name := "next", desc := "(II)I", sig := { parameters := [.int, .int], returnType := some .int }, accessFlags := 2, code := some k14c4 }
def k14c5 : Code := { maxStack := 4, maxLocals := 2, code := prog_40_method_8_code, exceptionTable := #[], attributes := #[] }
def k14m5 : Method := { name := "event", desc := "(II)J", sig := { parameters := [.int, .int], returnType := some .long }, accessFlags := 10, code := some k14c5 }
def k14c6 : Code := { maxStack := 3, maxLocals := 2, code := prog_40_method_9_code, exceptionTable := #[], attributes := #[] }
def k14m6 : Method := { name := "point", desc := "(J)I", sig := { parameters := [.long], returnType := some .int }, accessFlags := 10, code := some k14c6 }
def k14c7 : Code := { maxStack := 2, maxLocals := 2, code := prog_40_method_10_code, exceptionTable := #[], attributes := #[] }
def k14m7 : Method := { name := "task", desc := "(J)I", sig := { parameters := [.long], returnType := some .int }, accessFlags := 10, code := some k14c7 }
/-- com/example/tidemark/tidemark/core/Sweep -/
def k14 : Class := { plain "com/example/tidemark/tidemark/core/Sweep" (some 0) with
  accessFlags := 48
  interfaces := #[]
  cf := some (fileOf pool14 8 #[.nestMembers #[64, 55]] #[{ accessFlags := 0, nameIndex := 5, descriptorIndex := 59, attributes := #[] }, { accessFlags := 0, nameIndex := 129, descriptorIndex := 6, attributes := #[] }, { accessFlags := 0, nameIndex := 111, descriptorIndex := 112, attributes := #[] }, { accessFlags := 0, nameIndex := 118, descriptorIndex := 119, attributes := #[] }, { accessFlags := 2, nameIndex := 46, descriptorIndex := 29, attributes := #[] }, { accessFlags := 10, nameIndex := 38, descriptorIndex := 39, attributes := #[] }, { accessFlags := 10, nameIndex := 49, descriptorIndex := 50, attributes := #[] }, { accessFlags := 10, nameIndex := 53, descriptorIndex := 50, attributes := #[] }] 48 2 #[] #[{ accessFlags := 2, nameIndex := 11, descriptorIndex := 12, attributes := #[] }, { accessFlags := 2, nameIndex := 15, descriptorIndex := 12, attributes := #[] }, { accessFlags := 2, nameIndex := 18, descriptorIndex := 19, attributes := #[] }, { accessFlags := 2, nameIndex := 22, descriptorIndex := 23, attributes := #[] }])
  fields := #[{ name := "origins", type := (.array .long), accessFlags := 2, slot := 0, constantValue := 0 }, { name := "ends", type := (.array .long), accessFlags := 2, slot := 1, constantValue := 0 }, { name := "count", type := .int, accessFlags := 2, slot := 2, constantValue := 0 }, { name := "sorted", type := .boolean, accessFlags := 2, slot := 3, constantValue := 0 }]
  methods := #[k14m0, k14m1, k14m2, k14m3, k14m4, k14m5, k14m6, k14m7]
  instanceTypes := #[(.array .long), (.array .long), .int, .boolean]
  staticTypes := #[]
  resolved := Array.replicate 165 none
  statics := none }

def pool15 : Array CpInfo := pool [(1, .class_ 2), (0, u "com/example/tidemark/tidemark/core/Sweep$Tally"), (0, .class_ 4), (0, u "java/lang/Object"), (0, u "enter"), (0, u "(I)V"), (0, u "leave"), (3, .class_ 12), (0, u "com/example/tidemark/tidemark/core/Sweep")] 2

def k15m0 : Method := { name := "enter", desc := "(I)V", sig := { parameters := [.int], returnType := none }, accessFlags := 1025, code := none }
def k15m1 : Method := { name := "leave", desc := "(I)V", sig := { parameters := [.int], returnType := none }, accessFlags := 1025, code := none }
/-- com/example/tidemark/tidemark/core/Sweep$Tally -/
def k15 : Class := { plain "com/example/tidemark/tidemark/core/Sweep$Tally" (some 0) with
  accessFlags := 1536
  interfaces := #[]
  cf := some (fileOf pool15 1 #[.nestHost 11] #[{ accessFlags := 1025, nameIndex := 5, descriptorIndex := 6, attributes := #[] }, { accessFlags := 1025, nameIndex := 7, descriptorIndex := 6, attributes := #[] }] 1536 3 #[] #[])
  fields := #[]
  methods := #[k15m0, k15m1]
  instanceTypes := #[]
  staticTypes := #[]
  resolved := Array.replicate 15 none
  statics := none }

def pool16 : Array CpInfo := pool [(1, .methodref 2 3), (0, .class_ 4), (0, .nameAndType 5 6), (0, u "java/lang/Object"), (0, u "<init>"), (0, u "()V"), (0, .methodref 8 9), (0, .class_ 10), (0, .nameAndType 11 12), (0, u "[I"), (0, u "clone"), (0, u "()Ljava/lang/Object;"), (0, .methodref 14 15), (0, .class_ 16), (0, .nameAndType 17 18), (0, u "java/util/Arrays"), (0, u "sort"), (0, u "([I)V"), (0, .methodref 14 20), (0, .nameAndType 21 22), (0, u "copyOf"), (0, u "([II)[I"), (0, .fieldref 24 25), (0, .class_ 26), (0, .nameAndType 27 10), (0, u "com/example/tidemark/tidemark/core/DistinctValues"), (0, u "values"), (0, .fieldref 24 29), (0, .nameAndType 30 10), (0, u "ids"), (0, .methodref 14 32), (0, .nameAndType 33 34), (0, u "binarySearch"), (0, u "([II)I"), (0, .fieldref 24 36), (0, .nameAndType 37 10), (0, u "counts"), (0, .fieldref 24 39), (0, .nameAndType 40 10), (0, u "carriers"), (0, .fieldref 24 42), (0, .nameAndType 43 10), (0, u "present"), (0, .fieldref 24 45), (0, .nameAndType 46 10), (0, u "places"), (0, .fieldref 24 48), (0, .nameAndType 49 50), (0, u "distinct"), (0, u "I"), (0, .methodref 14 52), (0, .nameAndType 17 53), (0, u "([III)V"), (0, .class_ 55), (0, u "com/example/tidemark/tidemark/core/Sweep$Tally"), (3, u "enter"), (0, u "(I)V"), (0, u "leave"), (0, u "count"), (0, u "()I"), (0, u "copyValues"), (0, u "([II)V")] 9

def k16c0 : Code := { maxStack := 5, maxLocals := 8, code := prog_28_method_1_code, exceptionTable := #[], attributes := #[] }
def k16m0 : Method := { name := "<init>", desc := "([I)V", sig := { parameters := [(.array .int)], returnType := none }, accessFlags := 0, code := some k16c0 }
def k16c1 : Code := { maxStack := 5, maxLocals := 3, code := prog_28_method_2_code, exceptionTable := #[], attributes := #[] }
def k16m1 : Method := { name := "enter", desc := "(I)V", sig := { parameters := [.int], returnType := none }, accessFlags := 1, code := some k16c1 }
def k16c2 : Code := { maxStack := 4, maxLocals := 4, code := prog_28_method_3_code, exceptionTable := #[], attributes := #[] }
def k16m2 : Method := { name := "leave", desc := "(I)V", sig := { parameters := [.int], returnType := none }, accessFlags := 1, code := some k16c2 }
def k16c3 : Code := { maxStack := 1, maxLocals := 1, code := prog_28_method_4_code, exceptionTable := #[], attributes := #[] }
def k16m3 : Method := { name := "count", desc := "()I", sig := { parameters := [], returnType := some .int }, accessFlags := 0, code := some k16c3 }
def k16c4 : Code := { maxStack := 5, maxLocals := 4, code := prog_28_method_5_code, exceptionTable := #[], attributes := #[] }
def k16m4 : Method := { name := "copyValues", desc := "([II)V", sig := { parameters := [(.array .int), .int], returnType := none }, accessFlags := 0, code := some k16c4 }
/-- com/example/tidemark/tidemark/core/DistinctValues -/
def k16 : Class := { plain "com/example/tidemark/tidemark/core/DistinctValues" (some 0) with
  accessFlags := 48
  interfaces := #[15]
  cf := some (fileOf pool16 24 #[] #[{ accessFlags := 0, nameIndex := 5, descriptorIndex := 18, attributes := #[] }, { accessFlags := 1, nameIndex := 59, descriptorIndex := 60, attributes := #[] }, { accessFlags := 1, nameIndex := 61, descriptorIndex := 60, attributes := #[] }, { accessFlags := 0, nameIndex := 62, descriptorIndex := 63, attributes := #[] }, { accessFlags := 0, nameIndex := 64, descriptorIndex := 65, attributes := #[] }] 48 2 #[54] #[{ accessFlags := 18, nameIndex := 27, descriptorIndex := 10, attributes := #[] }, { accessFlags := 18, nameIndex := 30, descriptorIndex := 10, attributes := #[] }, { accessFlags := 18, nameIndex := 37, descriptorIndex := 10, attributes := #[] }, { accessFlags := 18, nameIndex := 40, descriptorIndex := 10, attributes := #[] }, { accessFlags := 18, nameIndex := 43, descriptorIndex := 10, attributes := #[] }, { accessFlags := 18, nameIndex := 46, descriptorIndex := 10, attributes := #[] }, { accessFlags := 2, nameIndex := 49, descriptorIndex := 50, attributes := #[] }])
  fields := #[{ name := "values", type := (.array .int), accessFlags := 18, slot := 0, constantValue := 0 }, { name := "ids", type := (.array .int), accessFlags := 18, slot := 1, constantValue := 0 }, { name := "counts", type := (.array .int), accessFlags := 18, slot := 2, constantValue := 0 }, { name := "carriers", type := (.array .int), accessFlags := 18, slot := 3, constantValue := 0 }, { name := "present", type := (.array .int), accessFlags := 18, slot := 4, constantValue := 0 }, { name := "places", type := (.array .int), accessFlags := 18, slot := 5, constantValue := 0 }, { name := "distinct", type := .int, accessFlags := 2, slot := 6, constantValue := 0 }]
  methods := #[k16m0, k16m1, k16m2, k16m3, k16m4]
  instanceTypes := #[(.array .int), (.array .int), (.array .int), (.array .int), (.array .int), (.array .int), .int]
  staticTypes := #[]
  resolved := Array.replicate 75 none
  statics := none }

def pool17 : Array CpInfo := pool [(1, .class_ 2), (0, u "java/lang/Cloneable"), (0, .class_ 4), (0, u "java/lang/Object")] 2

/-- java/lang/Cloneable -/
def k17 : Class := { plain "java/lang/Cloneable" (some 0) with
  accessFlags := 1537
  interfaces := #[]
  cf := some (fileOf pool17 1 #[] #[] 1537 3 #[] #[])
  fields := #[]
  methods := #[]
  instanceTypes := #[]
  staticTypes := #[]
  resolved := Array.replicate 7 none
  statics := none }

def pool18 : Array CpInfo := pool [(2, .class_ 4), (1, u "java/lang/Object"), (0, u "<init>"), (0, u "()V"), (0, .methodref 8 9), (0, .class_ 10), (0, .nameAndType 11 12), (0, u "java/util/DualPivotQuicksort"), (0, u "sort"), (0, u "([IIII)V"), (0, .methodref 14 15), (0, .class_ 16), (0, .nameAndType 17 18), (0, u "java/util/Arrays"), (0, u "rangeCheck"), (0, u "(III)V"), (0, .methodref 8 20), (0, .nameAndType 11 21), (0, u "([JIII)V"), (52, .class_ 76), (1, u "java/util/Arrays$NaturalOrder"), (32, u "()Ljava/lang/Object;"), (3, .class_ 115), (1, u "java/util/Arrays$LegacyMergeSort"), (1, u "Z"), (10, .nameAndType 129 109), (0, u "clone"), (20, .methodref 151 152), (0, .class_ 153), (0, .nameAndType 154 155), (0, u "java/lang/System"), (0, u "arraycopy"), (0, u "(Ljava/lang/Object;ILjava/lang/Object;II)V"), (51, u "binarySearch0"), (1, .methodref 14 210), (0, .nameAndType 207 211), (0, u "([IIII)I"), (90, u "copyOf"), (1, .methodref 305 306), (0, .class_ 307), (0, .nameAndType 308 309), (0, u "java/lang/Math"), (0, u "min"), (0, u "(II)I"), (6, .methodref 317 128), (0, .class_ 318), (0, u "[I"), (56, .class_ 376), (0, u "java/util/Arrays$ArrayList"), (68, u "$assertionsDisabled"), (269, u "MIN_ARRAY_SORT_GRAN"), (0, u "I"), (2, u "INSERTIONSORT_THRESHOLD"), (6, u "([I)V"), (1, u "([III)V"), (3, u "([JII)V"), (61, u "binarySearch"), (4, u "([II)I"), (71, u "([II)[I"), (103, .class_ 976), (0, u "java/util/Arrays$ArrayItr")] 52

def k18m0 : Method := { name := "<init>", desc := "()V", sig := { parameters := [], returnType := none }, accessFlags := 2, code := none }
def k18c1 : Code := { maxStack := 4, maxLocals := 1, code := jdk_65_method_2_code, exceptionTable := #[], attributes := #[] }
def k18m1 : Method := { name := "sort", desc := "([I)V", sig := { parameters := [(.array .int)], returnType := none }, accessFlags := 9, code := some k18c1 }
def k18c2 : Code := { maxStack := 4, maxLocals := 3, code := jdk_65_method_3_code, exceptionTable := #[], attributes := #[] }
def k18m2 : Method := { name := "sort", desc := "([III)V", sig := { parameters := [(.array .int), .int, .int], returnType := none }, accessFlags := 9, code := some k18c2 }
def k18c3 : Code := { maxStack := 4, maxLocals := 3, code := jdk_65_method_5_code, exceptionTable := #[], attributes := #[] }
def k18m3 : Method := { name := "sort", desc := "([JII)V", sig := { parameters := [(.array .long), .int, .int], returnType := none }, accessFlags := 9, code := some k18c3 }
def k18c4 : Code := { maxStack := 4, maxLocals := 3, code := jdk_65_method_30_code, exceptionTable := #[], attributes := #[] }
def k18m4 : Method := { name := "rangeCheck", desc := "(III)V", sig := { parameters := [.int, .int, .int], returnType := none }, accessFlags := 8, code := some k18c4 }
def k18c5 : Code := { maxStack := 4, maxLocals := 2, code := jdk_65_method_57_code, exceptionTable := #[], attributes := #[] }
def k18m5 : Method := { name := "binarySearch", desc := "([II)I", sig := { parameters := [(.array .int), .int], returnType := some .int }, accessFlags := 9, code := some k18c5 }
def k18c6 : Code := { maxStack := 2, maxLocals := 8, code := jdk_65_method_59_code, exceptionTable := #[], attributes := #[] }
def k18m6 : Method := { name := "binarySearch0", desc := "([IIII)I", sig := { parameters := [(.array .int), .int, .int, .int], returnType := some .int }, accessFlags := 10, code := some k18c6 }
def k18c7 : Code := { maxStack := 6, maxLocals := 3, code := jdk_65_method_123_code, exceptionTable := #[], attributes := #[] }
def k18m7 : Method := { name := "copyOf", desc := "([II)[I", sig := { parameters := [(.array .int), .int], returnType := some (.array .int) }, accessFlags := 9, code := some k18c7 }
/-- java/util/Arrays -/
def k18 : Class := { plain "java/util/Arrays" (some 0) with
  accessFlags := 49
  interfaces := #[]
  cf := some (fileOf pool18 14 #[.nestMembers #[975, 375, 113, 74]] #[{ accessFlags := 2, nameIndex := 5, descriptorIndex := 6, attributes := #[] }, { accessFlags := 9, nameIndex := 11, descriptorIndex := 726, attributes := #[] }, { accessFlags := 9, nameIndex := 11, descriptorIndex := 728, attributes := #[] }, { accessFlags := 9, nameIndex := 11, descriptorIndex := 732, attributes := #[] }, { accessFlags := 8, nameIndex := 17, descriptorIndex := 18, attributes := #[] }, { accessFlags := 9, nameIndex := 794, descriptorIndex := 799, attributes := #[] }, { accessFlags := 10, nameIndex := 207, descriptorIndex := 211, attributes := #[] }, { accessFlags := 9, nameIndex := 302, descriptorIndex := 871, attributes := #[] }] 49 2 #[] #[{ accessFlags := 26, nameIndex := 715, descriptorIndex := 716, attributes := #[] }, { accessFlags := 26, nameIndex := 719, descriptorIndex := 716, attributes := #[] }, { accessFlags := 4120, nameIndex := 445, descriptorIndex := 117, attributes := #[] }])
  fields := #[{ name := "MIN_ARRAY_SORT_GRAN", type := .int, accessFlags := 26, slot := 0, constantValue := 0 }, { name := "INSERTIONSORT_THRESHOLD", type := .int, accessFlags := 26, slot := 1, constantValue := 0 }, { name := "$assertionsDisabled", type := .boolean, accessFlags := 4120, slot := 2, constantValue := 0 }]
  methods := #[k18m0, k18m1, k18m2, k18m3, k18m4, k18m5, k18m6, k18m7]
  instanceTypes := #[]
  staticTypes := #[.int, .int, .boolean]
  resolved := Array.replicate 1029 none
  statics := none }

def pool19 : Array CpInfo := pool [(1, .class_ 2), (0, u "java/util/DualPivotQuicksort"), (5, .class_ 10), (1, u "java/lang/Object"), (0, u "<init>"), (0, u "()V"), (4, .class_ 18), (0, u "java/util/DualPivotQuicksort$Sorter"), (7, .methodref 1 27), (0, .nameAndType 28 29), (0, u "sort"), (0, u "(Ljava/util/DualPivotQuicksort$Sorter;[IIII)V"), (3, u "([IIII)V"), (0, .methodref 1 35), (0, .nameAndType 36 37), (0, u "insertionSort"), (0, u "([III)V"), (30, u "I"), (4, .class_ 74), (0, u "java/util/DualPivotQuicksort$RunMerger"), (10, .class_ 86), (0, u "java/util/DualPivotQuicksort$Merger"), (12, .methodref 1 100), (0, .nameAndType 28 101), (0, u "(Ljava/util/DualPivotQuicksort$Sorter;[JIII)V"), (2, u "([JIII)V"), (0, .methodref 1 106), (0, .nameAndType 36 107), (0, u "([JII)V"), (106, u "MAX_MIXED_INSERTION_SORT_SIZE"), (2, u "MAX_INSERTION_SORT_SIZE"), (1, u "MIN_PARALLEL_SORT_SIZE"), (1, u "MIN_TRY_MERGE_SIZE"), (0, u "MIN_FIRST_RUN_SIZE"), (1, u "MIN_FIRST_RUNS_FACTOR"), (1, u "MAX_RUN_CAPACITY"), (1, u "MIN_RUN_COUNT"), (1, u "MIN_PARALLEL_MERGE_PARTS_SIZE"), (0, u "MIN_BYTE_COUNTING_SORT_SIZE"), (1, u "MIN_SHORT_OR_CHAR_COUNTING_SORT_SIZE"), (1, u "DELTA"), (1, u "MAX_RECURSION_DEPTH"), (1, u "NUM_BYTE_VALUES"), (1, u "MAX_BYTE_INDEX"), (0, u "NUM_CHAR_VALUES"), (0, u "NUM_SHORT_VALUES"), (0, u "MAX_SHORT_INDEX")] 86

def k19m0 : Method := { name := "<init>", desc := "()V", sig := { parameters := [], returnType := none }, accessFlags := 2, code := none }
def k19c1 : Code := { maxStack := 9, maxLocals := 7, code := jdk_2529_method_3_code, exceptionTable := #[], attributes := #[] }
def k19m1 : Method := { name := "sort", desc := "([IIII)V", sig := { parameters := [(.array .int), .int, .int, .int], returnType := none }, accessFlags := 8, code := some k19c1 }
def k19c2 : Code := { maxStack := 6, maxLocals := 21, code := jdk_2529_method_4_code, exceptionTable := #[], attributes := #[] }
def k19m2 : Method := { name := "sort", desc := "(Ljava/util/DualPivotQuicksort$Sorter;[IIII)V", sig := { parameters := [(.object "java/util/DualPivotQuicksort$Sorter"), (.array .int), .int, .int, .int], returnType := none }, accessFlags := 8, code := some k19c2 }
def k19c3 : Code := { maxStack := 4, maxLocals := 6, code := jdk_2529_method_6_code, exceptionTable := #[], attributes := #[] }
def k19m3 : Method := { name := "insertionSort", desc := "([III)V", sig := { parameters := [(.array .int), .int, .int], returnType := none }, accessFlags := 10, code := some k19c3 }
def k19c4 : Code := { maxStack := 9, maxLocals := 7, code := jdk_2529_method_12_code, exceptionTable := #[], attributes := #[] }
def k19m4 : Method := { name := "sort", desc := "([JIII)V", sig := { parameters := [(.array .long), .int, .int, .int], returnType := none }, accessFlags := 8, code := some k19c4 }
def k19c5 : Code := { maxStack := 6, maxLocals := 25, code := jdk_2529_method_13_code, exceptionTable := #[], attributes := #[] }
def k19m5 : Method := { name := "sort", desc := "(Ljava/util/DualPivotQuicksort$Sorter;[JIII)V", sig := { parameters := [(.object "java/util/DualPivotQuicksort$Sorter"), (.array .long), .int, .int, .int], returnType := none }, accessFlags := 8, code := some k19c5 }
def k19c6 : Code := { maxStack := 5, maxLocals := 7, code := jdk_2529_method_15_code, exceptionTable := #[], attributes := #[] }
def k19m6 : Method := { name := "insertionSort", desc := "([JII)V", sig := { parameters := [(.array .long), .int, .int], returnType := none }, accessFlags := 10, code := some k19c6 }
/-- java/util/DualPivotQuicksort -/
def k19 : Class := { plain "java/util/DualPivotQuicksort" (some 0) with
  accessFlags := 48
  interfaces := #[]
  cf := some (fileOf pool19 1 #[.nestMembers #[73, 85, 17]] #[{ accessFlags := 2, nameIndex := 11, descriptorIndex := 12, attributes := #[] }, { accessFlags := 8, nameIndex := 28, descriptorIndex := 33, attributes := #[] }, { accessFlags := 8, nameIndex := 28, descriptorIndex := 29, attributes := #[] }, { accessFlags := 10, nameIndex := 36, descriptorIndex := 37, attributes := #[] }, { accessFlags := 8, nameIndex := 28, descriptorIndex := 104, attributes := #[] }, { accessFlags := 8, nameIndex := 28, descriptorIndex := 101, attributes := #[] }, { accessFlags := 10, nameIndex := 36, descriptorIndex := 107, attributes := #[] }] 48 8 #[] #[{ accessFlags := 26, nameIndex := 214, descriptorIndex := 68, attributes := #[] }, { accessFlags := 26, nameIndex := 217, descriptorIndex := 68, attributes := #[] }, { accessFlags := 26, nameIndex := 219, descriptorIndex := 68, attributes := #[] }, { accessFlags := 26, nameIndex := 221, descriptorIndex := 68, attributes := #[] }, { accessFlags := 26, nameIndex := 222, descriptorIndex := 68, attributes := #[] }, { accessFlags := 26, nameIndex := 224, descriptorIndex := 68, attributes := #[] }, { accessFlags := 26, nameIndex := 226, descriptorIndex := 68, attributes := #[] }, { accessFlags := 26, nameIndex := 228, descriptorIndex := 68, attributes := #[] }, { accessFlags := 26, nameIndex := 230, descriptorIndex := 68, attributes := #[] }, { accessFlags := 26, nameIndex := 231, descriptorIndex := 68, attributes := #[] }, { accessFlags := 26, nameIndex := 233, descriptorIndex := 68, attributes := #[] }, { accessFlags := 26, nameIndex := 235, descriptorIndex := 68, attributes := #[] }, { accessFlags := 26, nameIndex := 237, descriptorIndex := 68, attributes := #[] }, { accessFlags := 26, nameIndex := 239, descriptorIndex := 68, attributes := #[] }, { accessFlags := 26, nameIndex := 241, descriptorIndex := 68, attributes := #[] }, { accessFlags := 26, nameIndex := 242, descriptorIndex := 68, attributes := #[] }, { accessFlags := 26, nameIndex := 243, descriptorIndex := 68, attributes := #[] }, { accessFlags := 26, nameIndex := 244, descriptorIndex := 68, attributes := #[] }])
  fields := #[{ name := "MAX_MIXED_INSERTION_SORT_SIZE", type := .int, accessFlags := 26, slot := 0, constantValue := 0 }, { name := "MAX_INSERTION_SORT_SIZE", type := .int, accessFlags := 26, slot := 1, constantValue := 0 }, { name := "MIN_PARALLEL_SORT_SIZE", type := .int, accessFlags := 26, slot := 2, constantValue := 0 }, { name := "MIN_TRY_MERGE_SIZE", type := .int, accessFlags := 26, slot := 3, constantValue := 0 }, { name := "MIN_FIRST_RUN_SIZE", type := .int, accessFlags := 26, slot := 4, constantValue := 0 }, { name := "MIN_FIRST_RUNS_FACTOR", type := .int, accessFlags := 26, slot := 5, constantValue := 0 }, { name := "MAX_RUN_CAPACITY", type := .int, accessFlags := 26, slot := 6, constantValue := 0 }, { name := "MIN_RUN_COUNT", type := .int, accessFlags := 26, slot := 7, constantValue := 0 }, { name := "MIN_PARALLEL_MERGE_PARTS_SIZE", type := .int, accessFlags := 26, slot := 8, constantValue := 0 }, { name := "MIN_BYTE_COUNTING_SORT_SIZE", type := .int, accessFlags := 26, slot := 9, constantValue := 0 }, { name := "MIN_SHORT_OR_CHAR_COUNTING_SORT_SIZE", type := .int, accessFlags := 26, slot := 10, constantValue := 0 }, { name := "DELTA", type := .int, accessFlags := 26, slot := 11, constantValue := 0 }, { name := "MAX_RECURSION_DEPTH", type := .int, accessFlags := 26, slot := 12, constantValue := 0 }, { name := "NUM_BYTE_VALUES", type := .int, accessFlags := 26, slot := 13, constantValue := 0 }, { name := "MAX_BYTE_INDEX", type := .int, accessFlags := 26, slot := 14, constantValue := 0 }, { name := "NUM_CHAR_VALUES", type := .int, accessFlags := 26, slot := 15, constantValue := 0 }, { name := "NUM_SHORT_VALUES", type := .int, accessFlags := 26, slot := 16, constantValue := 0 }, { name := "MAX_SHORT_INDEX", type := .int, accessFlags := 26, slot := 17, constantValue := 0 }]
  methods := #[k19m0, k19m1, k19m2, k19m3, k19m4, k19m5, k19m6]
  instanceTypes := #[]
  staticTypes := #[.int, .int, .int, .int, .int, .int, .int, .int, .int, .int, .int, .int, .int, .int, .int, .int, .int, .int]
  resolved := Array.replicate 331 none
  statics := none }

def pool20 : Array CpInfo := pool [(1, .class_ 2), (0, u "com/example/tidemark/tidemark/core/Sweep$Visitor"), (0, .class_ 4), (0, u "java/lang/Object"), (0, u "stopsAt"), (0, u "(II)Z"), (3, .class_ 11), (0, u "com/example/tidemark/tidemark/core/Sweep")] 2

def k20m0 : Method := { name := "stopsAt", desc := "(II)Z", sig := { parameters := [.int, .int], returnType := some .boolean }, accessFlags := 1025, code := none }
/-- com/example/tidemark/tidemark/core/Sweep$Visitor -/
def k20 : Class := { plain "com/example/tidemark/tidemark/core/Sweep$Visitor" (some 0) with
  accessFlags := 1536
  interfaces := #[]
  cf := some (fileOf pool20 1 #[.nestHost 10] #[{ accessFlags := 1025, nameIndex := 5, descriptorIndex := 6, attributes := #[] }] 1536 3 #[] #[])
  fields := #[]
  methods := #[k20m0]
  instanceTypes := #[]
  staticTypes := #[]
  resolved := Array.replicate 14 none
  statics := none }

def pool21 : Array CpInfo := pool [(2, .class_ 4), (1, u "java/lang/Object"), (0, u "<init>"), (0, u "()V"), (1, .class_ 10), (1, u "java/lang/System"), (0, u "allowSecurityManager"), (0, u "I"), (16, u "cons"), (0, u "Ljava/io/Console;"), (77, .class_ 110), (1, u "java/lang/System$CallersHolder"), (43, u "initialErrStream"), (0, u "Ljava/io/PrintStream;"), (19, u "security"), (0, u "Ljava/lang/SecurityManager;"), (31, .class_ 209), (0, u "java/lang/System$1"), (7, u "props"), (0, u "Ljava/util/Properties;"), (2, u "lineSeparator"), (0, u "Ljava/lang/String;"), (96, .class_ 321), (1, u "java/lang/System$LoggerFinder"), (5, .class_ 328), (0, u "java/lang/System$Logger"), (67, u "err"), (2, u "out"), (91, u "notSupportedJnuEncoding"), (15, u "in"), (17, u "initialIn"), (0, u "Ljava/io/InputStream;"), (35, u "bootLayer"), (0, u "Ljava/lang/ModuleLayer;"), (99, .class_ 664), (0, u "java/lang/System$2"), (9, u "NEVER"), (2, u "MAYBE"), (49, u "arraycopy"), (0, u "(Ljava/lang/Object;ILjava/lang/Object;II)V"), (72, .class_ 802), (0, u "java/lang/System$Logger$Level")] 31

def k21m0 : Method := { name := "<init>", desc := "()V", sig := { parameters := [], returnType := none }, accessFlags := 2, code := none }
def k21m1 : Method := { name := "arraycopy", desc := "(Ljava/lang/Object;ILjava/lang/Object;II)V", sig := { parameters := [(.object "java/lang/Object"), .int, (.object "java/lang/Object"), .int, .int], returnType := none }, accessFlags := 265, code := none }
/-- java/lang/System -/
def k21 : Class := { plain "java/lang/System" (some 0) with
  accessFlags := 49
  interfaces := #[]
  cf := some (fileOf pool21 8 #[.nestMembers #[319, 327, 801, 108, 663, 208]] #[{ accessFlags := 2, nameIndex := 5, descriptorIndex := 6, attributes := #[] }, { accessFlags := 265, nameIndex := 727, descriptorIndex := 728, attributes := #[] }] 49 2 #[] #[{ accessFlags := 25, nameIndex := 507, descriptorIndex := 526, attributes := #[] }, { accessFlags := 25, nameIndex := 399, descriptorIndex := 155, attributes := #[] }, { accessFlags := 25, nameIndex := 396, descriptorIndex := 155, attributes := #[] }, { accessFlags := 10, nameIndex := 525, descriptorIndex := 526, attributes := #[] }, { accessFlags := 26, nameIndex := 674, descriptorIndex := 12, attributes := #[] }, { accessFlags := 26, nameIndex := 677, descriptorIndex := 12, attributes := #[] }, { accessFlags := 10, nameIndex := 11, descriptorIndex := 12, attributes := #[] }, { accessFlags := 74, nameIndex := 175, descriptorIndex := 176, attributes := #[] }, { accessFlags := 10, nameIndex := 491, descriptorIndex := 222, attributes := #[] }, { accessFlags := 74, nameIndex := 29, descriptorIndex := 30, attributes := #[] }, { accessFlags := 74, nameIndex := 154, descriptorIndex := 155, attributes := #[] }, { accessFlags := 10, nameIndex := 217, descriptorIndex := 218, attributes := #[] }, { accessFlags := 10, nameIndex := 221, descriptorIndex := 222, attributes := #[] }, { accessFlags := 8, nameIndex := 562, descriptorIndex := 563, attributes := #[] }])
  fields := #[{ name := "in", type := (.object "java/io/InputStream"), accessFlags := 25, slot := 0, constantValue := 0 }, { name := "out", type := (.object "java/io/PrintStream"), accessFlags := 25, slot := 1, constantValue := 0 }, { name := "err", type := (.object "java/io/PrintStream"), accessFlags := 25, slot := 2, constantValue := 0 }, { name := "initialIn", type := (.object "java/io/InputStream"), accessFlags := 10, slot := 3, constantValue := 0 }, { name := "NEVER", type := .int, accessFlags := 26, slot := 4, constantValue := 0 }, { name := "MAYBE", type := .int, accessFlags := 26, slot := 5, constantValue := 0 }, { name := "allowSecurityManager", type := .int, accessFlags := 10, slot := 6, constantValue := 0 }, { name := "security", type := (.object "java/lang/SecurityManager"), accessFlags := 74, slot := 7, constantValue := 0 }, { name := "notSupportedJnuEncoding", type := (.object "java/lang/String"), accessFlags := 10, slot := 8, constantValue := 0 }, { name := "cons", type := (.object "java/io/Console"), accessFlags := 74, slot := 9, constantValue := 0 }, { name := "initialErrStream", type := (.object "java/io/PrintStream"), accessFlags := 74, slot := 10, constantValue := 0 }, { name := "props", type := (.object "java/util/Properties"), accessFlags := 10, slot := 11, constantValue := 0 }, { name := "lineSeparator", type := (.object "java/lang/String"), accessFlags := 10, slot := 12, constantValue := 0 }, { name := "bootLayer", type := (.object "java/lang/ModuleLayer"), accessFlags := 8, slot := 13, constantValue := 0 }]
  methods := #[k21m0, k21m1]
  instanceTypes := #[]
  staticTypes := #[(.object "java/io/InputStream"), (.object "java/io/PrintStream"), (.object "java/io/PrintStream"), (.object "java/io/InputStream"), .int, .int, .int, (.object "java/lang/SecurityManager"), (.object "java/lang/String"), (.object "java/io/Console"), (.object "java/io/PrintStream"), (.object "java/util/Properties"), (.object "java/lang/String"), (.object "java/lang/ModuleLayer")]
  resolved := Array.replicate 834 none
  statics := none }

def pool22 : Array CpInfo := pool [(2, .class_ 4), (1, u "java/lang/Object"), (0, u "<init>"), (0, u "()V"), (0, .fieldref 8 9), (0, .class_ 10), (0, .nameAndType 11 12), (0, u "java/util/OptionalInt"), (0, u "isPresent"), (0, u "Z"), (2, u "value"), (0, u "I"), (0, .fieldref 8 18), (0, .nameAndType 19 20), (0, u "EMPTY"), (0, u "Ljava/util/OptionalInt;"), (28, u "empty"), (46, u "()Ljava/util/OptionalInt;"), (2, u "()Z"), (0, u "isEmpty")] 35

def k22m0 : Method := { name := "<init>", desc := "()V", sig := { parameters := [], returnType := none }, accessFlags := 2, code := none }
def k22c1 : Code := { maxStack := 1, maxLocals := 0, code := jdk_2649_method_2_code, exceptionTable := #[], attributes := #[] }
def k22m1 : Method := { name := "empty", desc := "()Ljava/util/OptionalInt;", sig := { parameters := [], returnType := some (.object "java/util/OptionalInt") }, accessFlags := 9, code := some k22c1 }
def k22c2 : Code := { maxStack := 1, maxLocals := 1, code := jdk_2649_method_7_code, exceptionTable := #[], attributes := #[] }
def k22m2 : Method := { name := "isEmpty", desc := "()Z", sig := { parameters := [], returnType := some .boolean }, accessFlags := 1, code := some k22c2 }
/-- java/util/OptionalInt -/
def k22 : Class := { plain "java/util/OptionalInt" (some 0) with
  accessFlags := 49
  interfaces := #[]
  cf := some (fileOf pool22 8 #[] #[{ accessFlags := 2, nameIndex := 5, descriptorIndex := 6, attributes := #[] }, { accessFlags := 9, nameIndex := 49, descriptorIndex := 96, attributes := #[] }, { accessFlags := 1, nameIndex := 100, descriptorIndex := 99, attributes := #[] }] 49 2 #[] #[{ accessFlags := 26, nameIndex := 19, descriptorIndex := 20, attributes := #[] }, { accessFlags := 18, nameIndex := 11, descriptorIndex := 12, attributes := #[] }, { accessFlags := 18, nameIndex := 15, descriptorIndex := 16, attributes := #[] }])
  fields := #[{ name := "EMPTY", type := (.object "java/util/OptionalInt"), accessFlags := 26, slot := 0, constantValue := 0 }, { name := "isPresent", type := .boolean, accessFlags := 18, slot := 0, constantValue := 0 }, { name := "value", type := .int, accessFlags := 18, slot := 1, constantValue := 0 }]
  methods := #[k22m0, k22m1, k22m2]
  instanceTypes := #[.boolean, .int]
  staticTypes := #[(.object "java/util/OptionalInt")]
  resolved := Array.replicate 136 none
  statics := some 0 }

/-- the primitive byte -/
def k23 : Class := { plain "byte" none with kind := .primitive 'B', accessFlags := 0x411 }
/-- [B -/
def k24 : Class := { plain "[B" (some 0) with kind := .array 23 .byte, interfaces := #[17, 3], accessFlags := 1041 }

/-- the primitive int -/
def k25 : Class := { plain "int" none with kind := .primitive 'I', accessFlags := 0x411 }
/-- [I -/
def k26 : Class := { plain "[I" (some 0) with kind := .array 25 .int, interfaces := #[17, 3], accessFlags := 1041 }

/-- the primitive long -/
def k27 : Class := { plain "long" none with kind := .primitive 'J', accessFlags := 0x411 }
/-- [J -/
def k28 : Class := { plain "[J" (some 0) with kind := .array 27 .long, interfaces := #[17, 3], accessFlags := 1041 }

def classes0 : Array Class := #[k0, k1, k2, k3, k4, k5, k6, k7, k8, k9, k10, k11, k12, k13, k14, k15, k16, k17, k18, k19, k20, k21, k22, k23, k24, k25, k26, k27, k28]
/-- the class that the rule has made for the site at 110 of com/example/tidemark/tidemark/core/ColourProfile.build -/
def k29 : Class := Jvm.LamKit.madeRec { classes := classes0 } "com/example/tidemark/tidemark/core/ColourProfile" (Jvm.Lambda.Shape.mk "com/example/tidemark/tidemark/core/Sweep$Visitor" "stopsAt" (Jvm.ClassFile.MethodDescriptor.mk ([Jvm.ClassFile.FieldType.int, Jvm.ClassFile.FieldType.int] : List Jvm.ClassFile.FieldType) (Option.some Jvm.ClassFile.FieldType.boolean)) ([(Jvm.ClassFile.FieldType.object "com/example/tidemark/tidemark/core/ColourProfile"), (Jvm.ClassFile.FieldType.object "com/example/tidemark/tidemark/core/DistinctValues")] : List Jvm.ClassFile.FieldType) (5 : Nat) "com/example/tidemark/tidemark/core/ColourProfile" "lambda$build$0" (Jvm.ClassFile.MethodDescriptor.mk ([(Jvm.ClassFile.FieldType.object "com/example/tidemark/tidemark/core/DistinctValues"), Jvm.ClassFile.FieldType.int, Jvm.ClassFile.FieldType.int] : List Jvm.ClassFile.FieldType) (Option.some Jvm.ClassFile.FieldType.boolean)) false (Jvm.ClassFile.MethodDescriptor.mk ([Jvm.ClassFile.FieldType.int, Jvm.ClassFile.FieldType.int] : List Jvm.ClassFile.FieldType) (Option.some Jvm.ClassFile.FieldType.boolean))) 29

/-- [[I -/
def k30 : Class := { plain "[[I" (some 0) with kind := .array 26 (.array .int), interfaces := #[17, 3], accessFlags := 1041 }
def heap : Heap := #[{ cls := 22, slots := #[.ref 1], vm := .statics 22 },
  { cls := 22, slots := #[.int 0, .int 0], vm := .none }]
def classes : Array Class := #[k0, k1, k2, k3, k4, k5, k6, k7, k8, k9, k10, k11, k12, k13, k14, k15, k16, k17, k18, k19, k20, k21, k22, k23, k24, k25, k26, k27, k28, k29, k30]
def interned : List (Array UInt16 × Addr) := []
def slotsUsed : Nat := 3
def theMethod : MethodId := ⟨1, 2⟩
def args0 : Array Value := #[.int 5, .long 5, .int 5, .int 5, .int 5, .int 5]
def aboutOver (below : List Frame) : State where
  vm := { classes := classes, interned := interned.toArray }
  heap := heap
  slotsUsed := slotsUsed
  threads := #[{ frames := .invoking theMethod args0 :: below }]
def below0 : List Frame := [.native { method := ⟨0, 0⟩, args := #[] }]
def about1 : State := aboutOver below0
def p0 : Program := .bare "" "" ""
def e0 : Env := launch0.env 0 0 0
theorem w_frames : about1.frames = Frame.invoking theMethod args0 :: below0 := rfl
set_option maxRecDepth 65536 in
theorem w_args : argsFit about1.vm theMethod args0 = true := by decide +kernel
set_option maxRecDepth 65536 in
theorem w_heap : heapFits about1 = true := by decide +kernel
set_option maxRecDepth 65536 in
theorem w_runnable : about1.curStatus? = some .runnable := by decide +kernel
set_option maxRecDepth 65536 in
theorem w_alone : about1.alone = true := by decide +kernel
set_option maxRecDepth 65536 in
theorem w_named : about1.methodNamed? x = some theMethod := by decide +kernel
set_option maxRecDepth 65536 in
theorem w_hears : about1.hears theMethod below0 = true := by decide +kernel
set_option maxRecDepth 65536 in
theorem w_ripe : about1.ripe theMethod args0 below0 = true := by decide +kernel
theorem w_running : about1.status = .running := rfl
set_option maxRecDepth 65536 in
theorem w_room : about1.hasRoom e0.platform room_1 = true :=
  launch0.hasRoom_least _ room_1 (by decide +kernel) (by decide +kernel) (by decide +kernel) (by decide +kernel) (by decide +kernel) (by decide +kernel)
theorem allAtoms_all (ts : List Jvm.Cond) (a : Array Jvm.Value) (st : Jvm.State) : (allAtoms ts).before a st = ts.all (fun c => c.before a st) := by
  induction ts with
  | nil => rfl
  | cons c t ih =>
    show (Jvm.Cond.and c (allAtoms t)).before a st = _
    rw [Jvm.Cond.before_and, ih, List.all_cons]
def words1 : List Jvm.Cond := Jvm.Cond.code x code maxLocals ret :: tables_1
/-- a 'code' word, met by the world's own term for the bytes: nothing is compared byte by byte -/
theorem code_word {y : MethodName} {bytes : ByteArray} {mx : Nat} {rt : Option FieldType} {a : Array Value} {s : State} {m : MethodId} {meth : Method} {c : Code} (h1 : s.methodNamed? y = some m) (h2 : s.vm.method? m = some meth) (h3 : meth.code = some c) (h4 : c.code = bytes)
    (h5 : (c.maxLocals == mx && c.exceptionTable.isEmpty && decide (c.maxStack ≤ mostOperands) && decide (meth.sig.returnType = rt) && !meth.locks && decide (parseMethodDescriptor y.desc = some meth.sig)) = true) : (Jvm.Cond.code y bytes mx rt).before a s = true := by
  simp only [Bool.and_eq_true, beq_iff_eq, Bool.not_eq_true', decide_eq_true_eq] at h5
  obtain ⟨⟨⟨⟨⟨g1, g2⟩, g3⟩, g4⟩, g5⟩, g6⟩ := h5
  simp [Cond.before, Cond.holds, Cond.value, h1, h2, h3, h4, g1, g2, g3, g4, g5, g6]
def isCode : Jvm.Cond → Bool
  | .code _ _ _ _ => true
  | _ => false
theorem all_split {L : List Jvm.Cond} {P : Jvm.Cond → Bool} (h1 : L.all (fun c => isCode c || P c) = true) (h2 : ∀ c ∈ L.filter isCode, P c = true) : L.all P = true := by
  refine List.all_eq_true.mpr fun c hc => ?_
  have h := List.all_eq_true.mp h1 c hc
  rcases Bool.eq_false_or_eq_true (isCode c) with hi | hi
  · exact h2 c (List.mem_filter.mpr ⟨hc, hi⟩)
  · simpa [hi] using h
set_option maxRecDepth 65536 in
theorem w_c0 : (Jvm.Cond.code x code maxLocals ret).before args0 about1 = true := code_word (m := ⟨1, 2⟩) (meth := k1m2) (c := k1c2) (by decide +kernel) rfl rfl rfl (by decide +kernel)
set_option maxRecDepth 65536 in
theorem w_c1 : (Jvm.Cond.code ({ cls := "com/example/tidemark/tidemark/core/TaskBounds", name := "<init>", desc := "(I)V" } : Jvm.MethodName) prog_44_method_1_code (2 : Nat) (Option.none : Option Jvm.ClassFile.FieldType)).before args0 about1 = true := code_word (m := ⟨2, 0⟩) (meth := k2m0) (c := k2c0) (by decide +kernel) rfl rfl rfl (by decide +kernel)
set_option maxRecDepth 65536 in
theorem w_c2 : (Jvm.Cond.code ({ cls := "java/lang/Object", name := "<init>", desc := "()V" } : Jvm.MethodName) object_method_1_code (1 : Nat) (Option.none : Option Jvm.ClassFile.FieldType)).before args0 about1 = true := code_word (m := ⟨0, 0⟩) (meth := k0m0) (c := k0c0) (by decide +kernel) rfl rfl rfl (by decide +kernel)
set_option maxRecDepth 65536 in
theorem w_c3 : (Jvm.Cond.code ({ cls := "com/example/tidemark/tidemark/core/ArgumentRules", name := "requireNonNegative", desc := "(Ljava/lang/String;I)V" } : Jvm.MethodName) prog_15_method_2_code (2 : Nat) (Option.none : Option Jvm.ClassFile.FieldType)).before args0 about1 = true := code_word (m := ⟨9, 1⟩) (meth := k9m1) (c := k9c1) (by decide +kernel) rfl rfl rfl (by decide +kernel)
set_option maxRecDepth 65536 in
theorem w_c4 : (Jvm.Cond.code ({ cls := "com/example/tidemark/tidemark/core/TaskBounds", name := "setEnd", desc := "(III)V" } : Jvm.MethodName) prog_44_method_6_code (4 : Nat) (Option.none : Option Jvm.ClassFile.FieldType)).before args0 about1 = true := code_word (m := ⟨2, 3⟩) (meth := k2m3) (c := k2c3) (by decide +kernel) rfl rfl rfl (by decide +kernel)
set_option maxRecDepth 65536 in
theorem w_c5 : (Jvm.Cond.code ({ cls := "com/example/tidemark/tidemark/core/TaskBounds", name := "set", desc := "([I[IIII)V" } : Jvm.MethodName) prog_44_method_24_code (5 : Nat) (Option.none : Option Jvm.ClassFile.FieldType)).before args0 about1 = true := code_word (m := ⟨2, 6⟩) (meth := k2m6) (c := k2c6) (by decide +kernel) rfl rfl rfl (by decide +kernel)
set_option maxRecDepth 65536 in
theorem w_c6 : (Jvm.Cond.code ({ cls := "com/example/tidemark/tidemark/core/TaskBounds", name := "setOrigin", desc := "(III)V" } : Jvm.MethodName) prog_44_method_4_code (4 : Nat) (Option.none : Option Jvm.ClassFile.FieldType)).before args0 about1 = true := code_word (m := ⟨2, 2⟩) (meth := k2m2) (c := k2c2) (by decide +kernel) rfl rfl rfl (by decide +kernel)
set_option maxRecDepth 65536 in
theorem w_c7 : (Jvm.Cond.code ({ cls := "com/example/tidemark/tidemark/core/TaskColours", name := "<init>", desc := "(I)V" } : Jvm.MethodName) prog_45_method_1_code (2 : Nat) (Option.none : Option Jvm.ClassFile.FieldType)).before args0 about1 = true := code_word (m := ⟨10, 0⟩) (meth := k10m0) (c := k10c0) (by decide +kernel) rfl rfl rfl (by decide +kernel)
set_option maxRecDepth 65536 in
theorem w_c8 : (Jvm.Cond.code ({ cls := "com/example/tidemark/tidemark/core/TaskColours", name := "set", desc := "(III)V" } : Jvm.MethodName) prog_45_method_3_code (4 : Nat) (Option.none : Option Jvm.ClassFile.FieldType)).before args0 about1 = true := code_word (m := ⟨10, 1⟩) (meth := k10m1) (c := k10c1) (by decide +kernel) rfl rfl rfl (by decide +kernel)
set_option maxRecDepth 65536 in
theorem w_c9 : (Jvm.Cond.code ({ cls := "com/example/tidemark/tidemark/core/ColourProfile", name := "<init>", desc := "(II)V" } : Jvm.MethodName) prog_17_method_1_code (3 : Nat) (Option.none : Option Jvm.ClassFile.FieldType)).before args0 about1 = true := code_word (m := ⟨12, 0⟩) (meth := k12m0) (c := k12c0) (by decide +kernel) rfl rfl rfl (by decide +kernel)
set_option maxRecDepth 65536 in
theorem w_c10 : (Jvm.Cond.code ({ cls := "java/lang/Math", name := "max", desc := "(II)I" } : Jvm.MethodName) jdk_29_method_65_code (2 : Nat) (Option.some Jvm.ClassFile.FieldType.int)).before args0 about1 = true := code_word (m := ⟨13, 2⟩) (meth := k13m2) (c := k13c2) (by decide +kernel) rfl rfl rfl (by decide +kernel)
set_option maxRecDepth 65536 in
theorem w_c11 : (Jvm.Cond.code ({ cls := "com/example/tidemark/tidemark/core/Stretches", name := "<init>", desc := "(I)V" } : Jvm.MethodName) prog_38_method_1_code (2 : Nat) (Option.none : Option Jvm.ClassFile.FieldType)).before args0 about1 = true := code_word (m := ⟨11, 0⟩) (meth := k11m0) (c := k11c0) (by decide +kernel) rfl rfl rfl (by decide +kernel)
set_option maxRecDepth 65536 in
theorem w_c12 : (Jvm.Cond.code ({ cls := "com/example/tidemark/tidemark/core/Sweep", name := "<init>", desc := "(I)V" } : Jvm.MethodName) prog_40_method_1_code (2 : Nat) (Option.none : Option Jvm.ClassFile.FieldType)).before args0 about1 = true := code_word (m := ⟨14, 0⟩) (meth := k14m0) (c := k14c0) (by decide +kernel) rfl rfl rfl (by decide +kernel)
set_option maxRecDepth 65536 in
theorem w_c13 : (Jvm.Cond.code ({ cls := "com/example/tidemark/tidemark/core/ColourProfile", name := "build", desc := "(Lcom/example/tidemark/tidemark/core/TaskBounds;Lcom/example/tidemark/tidemark/core/TaskColours;)Z" } : Jvm.MethodName) prog_17_method_2_code (7 : Nat) (Option.some Jvm.ClassFile.FieldType.boolean)).before args0 about1 = true := code_word (m := ⟨12, 1⟩) (meth := k12m1) (c := k12c1) (by decide +kernel) rfl rfl rfl (by decide +kernel)
set_option maxRecDepth 65536 in
theorem w_c14 : (Jvm.Cond.code ({ cls := "com/example/tidemark/tidemark/core/TaskBounds", name := "count", desc := "()I" } : Jvm.MethodName) prog_44_method_2_code (1 : Nat) (Option.some Jvm.ClassFile.FieldType.int)).before args0 about1 = true := code_word (m := ⟨2, 1⟩) (meth := k2m1) (c := k2c1) (by decide +kernel) rfl rfl rfl (by decide +kernel)
set_option maxRecDepth 65536 in
theorem w_c15 : (Jvm.Cond.code ({ cls := "com/example/tidemark/tidemark/core/Sweep", name := "clear", desc := "()V" } : Jvm.MethodName) prog_40_method_2_code (1 : Nat) (Option.none : Option Jvm.ClassFile.FieldType)).before args0 about1 = true := code_word (m := ⟨14, 1⟩) (meth := k14m1) (c := k14c1) (by decide +kernel) rfl rfl rfl (by decide +kernel)
set_option maxRecDepth 65536 in
theorem w_c16 : (Jvm.Cond.code ({ cls := "com/example/tidemark/tidemark/core/TaskColours", name := "min", desc := "(I)I" } : Jvm.MethodName) prog_45_method_4_code (2 : Nat) (Option.some Jvm.ClassFile.FieldType.int)).before args0 about1 = true := code_word (m := ⟨10, 2⟩) (meth := k10m2) (c := k10c2) (by decide +kernel) rfl rfl rfl (by decide +kernel)
set_option maxRecDepth 65536 in
theorem w_c17 : (Jvm.Cond.code ({ cls := "com/example/tidemark/tidemark/core/TaskBounds", name := "originMax", desc := "(I)I" } : Jvm.MethodName) prog_44_method_9_code (2 : Nat) (Option.some Jvm.ClassFile.FieldType.int)).before args0 about1 = true := code_word (m := ⟨2, 4⟩) (meth := k2m4) (c := k2c4) (by decide +kernel) rfl rfl rfl (by decide +kernel)
set_option maxRecDepth 65536 in
theorem w_c18 : (Jvm.Cond.code ({ cls := "com/example/tidemark/tidemark/core/TaskBounds", name := "endMin", desc := "(I)I" } : Jvm.MethodName) prog_44_method_12_code (2 : Nat) (Option.some Jvm.ClassFile.FieldType.int)).before args0 about1 = true := code_word (m := ⟨2, 5⟩) (meth := k2m5) (c := k2c5) (by decide +kernel) rfl rfl rfl (by decide +kernel)
set_option maxRecDepth 65536 in
theorem w_c19 : (Jvm.Cond.code ({ cls := "com/example/tidemark/tidemark/core/TaskColours", name := "isFixed", desc := "(I)Z" } : Jvm.MethodName) prog_45_method_8_code (2 : Nat) (Option.some Jvm.ClassFile.FieldType.boolean)).before args0 about1 = true := code_word (m := ⟨10, 3⟩) (meth := k10m3) (c := k10c3) (by decide +kernel) rfl rfl rfl (by decide +kernel)
set_option maxRecDepth 65536 in
theorem w_c20 : (Jvm.Cond.code ({ cls := "com/example/tidemark/tidemark/core/Sweep", name := "add", desc := "(III)V" } : Jvm.MethodName) prog_40_method_3_code (5 : Nat) (Option.none : Option Jvm.ClassFile.FieldType)).before args0 about1 = true := code_word (m := ⟨14, 2⟩) (meth := k14m2) (c := k14c2) (by decide +kernel) rfl rfl rfl (by decide +kernel)
set_option maxRecDepth 65536 in
theorem w_c21 : (Jvm.Cond.code ({ cls := "com/example/tidemark/tidemark/core/Sweep", name := "event", desc := "(II)J" } : Jvm.MethodName) prog_40_method_8_code (2 : Nat) (Option.some Jvm.ClassFile.FieldType.long)).before args0 about1 = true := code_word (m := ⟨14, 5⟩) (meth := k14m5) (c := k14c5) (by decide +kernel) rfl rfl rfl (by decide +kernel)
set_option maxRecDepth 65536 in
theorem w_c22 : (Jvm.Cond.code ({ cls := "com/example/tidemark/tidemark/core/Stretches", name := "clear", desc := "()V" } : Jvm.MethodName) prog_38_method_2_code (1 : Nat) (Option.none : Option Jvm.ClassFile.FieldType)).before args0 about1 = true := code_word (m := ⟨11, 1⟩) (meth := k11m1) (c := k11c1) (by decide +kernel) rfl rfl rfl (by decide +kernel)
set_option maxRecDepth 65536 in
theorem w_c23 : (Jvm.Cond.code ({ cls := "com/example/tidemark/tidemark/core/DistinctValues", name := "<init>", desc := "([I)V" } : Jvm.MethodName) prog_28_method_1_code (8 : Nat) (Option.none : Option Jvm.ClassFile.FieldType)).before args0 about1 = true := code_word (m := ⟨16, 0⟩) (meth := k16m0) (c := k16c0) (by decide +kernel) rfl rfl rfl (by decide +kernel)
set_option maxRecDepth 65536 in
theorem w_c24 : (Jvm.Cond.code ({ cls := "java/util/Arrays", name := "sort", desc := "([I)V" } : Jvm.MethodName) jdk_65_method_2_code (1 : Nat) (Option.none : Option Jvm.ClassFile.FieldType)).before args0 about1 = true := code_word (m := ⟨18, 1⟩) (meth := k18m1) (c := k18c1) (by decide +kernel) rfl rfl rfl (by decide +kernel)
set_option maxRecDepth 65536 in
theorem w_c25 : (Jvm.Cond.code ({ cls := "java/util/DualPivotQuicksort", name := "sort", desc := "([IIII)V" } : Jvm.MethodName) jdk_2529_method_3_code (7 : Nat) (Option.none : Option Jvm.ClassFile.FieldType)).before args0 about1 = true := code_word (m := ⟨19, 1⟩) (meth := k19m1) (c := k19c1) (by decide +kernel) rfl rfl rfl (by decide +kernel)
set_option maxRecDepth 65536 in
theorem w_c26 : (Jvm.Cond.code ({ cls := "java/util/DualPivotQuicksort", name := "sort", desc := "(Ljava/util/DualPivotQuicksort$Sorter;[IIII)V" } : Jvm.MethodName) jdk_2529_method_4_code (21 : Nat) (Option.none : Option Jvm.ClassFile.FieldType)).before args0 about1 = true := code_word (m := ⟨19, 2⟩) (meth := k19m2) (c := k19c2) (by decide +kernel) rfl rfl rfl (by decide +kernel)
set_option maxRecDepth 65536 in
theorem w_c27 : (Jvm.Cond.code ({ cls := "java/util/DualPivotQuicksort", name := "insertionSort", desc := "([III)V" } : Jvm.MethodName) jdk_2529_method_6_code (6 : Nat) (Option.none : Option Jvm.ClassFile.FieldType)).before args0 about1 = true := code_word (m := ⟨19, 3⟩) (meth := k19m3) (c := k19c3) (by decide +kernel) rfl rfl rfl (by decide +kernel)
set_option maxRecDepth 65536 in
theorem w_c28 : (Jvm.Cond.code ({ cls := "java/util/Arrays", name := "copyOf", desc := "([II)[I" } : Jvm.MethodName) jdk_65_method_123_code (3 : Nat) (Option.some (Jvm.ClassFile.FieldType.array Jvm.ClassFile.FieldType.int))).before args0 about1 = true := code_word (m := ⟨18, 7⟩) (meth := k18m7) (c := k18c7) (by decide +kernel) rfl rfl rfl (by decide +kernel)
set_option maxRecDepth 65536 in
theorem w_c29 : (Jvm.Cond.code ({ cls := "java/util/Arrays", name := "binarySearch", desc := "([II)I" } : Jvm.MethodName) jdk_65_method_57_code (2 : Nat) (Option.some Jvm.ClassFile.FieldType.int)).before args0 about1 = true := code_word (m := ⟨18, 5⟩) (meth := k18m5) (c := k18c5) (by decide +kernel) rfl rfl rfl (by decide +kernel)
set_option maxRecDepth 65536 in
theorem w_c30 : (Jvm.Cond.code ({ cls := "java/util/Arrays", name := "binarySearch0", desc := "([IIII)I" } : Jvm.MethodName) jdk_65_method_59_code (8 : Nat) (Option.some Jvm.ClassFile.FieldType.int)).before args0 about1 = true := code_word (m := ⟨18, 6⟩) (meth := k18m6) (c := k18c6) (by decide +kernel) rfl rfl rfl (by decide +kernel)
set_option maxRecDepth 65536 in
theorem w_c31 : (Jvm.Cond.code ({ cls := "com/example/tidemark/tidemark/core/Sweep", name := "walk", desc := "(Lcom/example/tidemark/tidemark/core/Sweep$Tally;Lcom/example/tidemark/tidemark/core/Sweep$Visitor;)Ljava/util/OptionalInt;" } : Jvm.MethodName) prog_40_method_4_code (6 : Nat) (Option.some (Jvm.ClassFile.FieldType.object "java/util/OptionalInt"))).before args0 about1 = true := code_word (m := ⟨14, 3⟩) (meth := k14m3) (c := k14c3) (by decide +kernel) rfl rfl rfl (by decide +kernel)
set_option maxRecDepth 65536 in
theorem w_c32 : (Jvm.Cond.code ({ cls := "java/util/Arrays", name := "sort", desc := "([JII)V" } : Jvm.MethodName) jdk_65_method_5_code (3 : Nat) (Option.none : Option Jvm.ClassFile.FieldType)).before args0 about1 = true := code_word (m := ⟨18, 3⟩) (meth := k18m3) (c := k18c3) (by decide +kernel) rfl rfl rfl (by decide +kernel)
set_option maxRecDepth 65536 in
theorem w_c33 : (Jvm.Cond.code ({ cls := "java/util/Arrays", name := "rangeCheck", desc := "(III)V" } : Jvm.MethodName) jdk_65_method_30_code (3 : Nat) (Option.none : Option Jvm.ClassFile.FieldType)).before args0 about1 = true := code_word (m := ⟨18, 4⟩) (meth := k18m4) (c := k18c4) (by decide +kernel) rfl rfl rfl (by decide +kernel)
set_option maxRecDepth 65536 in
theorem w_c34 : (Jvm.Cond.code ({ cls := "java/util/DualPivotQuicksort", name := "sort", desc := "([JIII)V" } : Jvm.MethodName) jdk_2529_method_12_code (7 : Nat) (Option.none : Option Jvm.ClassFile.FieldType)).before args0 about1 = true := code_word (m := ⟨19, 4⟩) (meth := k19m4) (c := k19c4) (by decide +kernel) rfl rfl rfl (by decide +kernel)
set_option maxRecDepth 65536 in
theorem w_c35 : (Jvm.Cond.code ({ cls := "java/util/DualPivotQuicksort", name := "sort", desc := "(Ljava/util/DualPivotQuicksort$Sorter;[JIII)V" } : Jvm.MethodName) jdk_2529_method_13_code (25 : Nat) (Option.none : Option Jvm.ClassFile.FieldType)).before args0 about1 = true := code_word (m := ⟨19, 5⟩) (meth := k19m5) (c := k19c5) (by decide +kernel) rfl rfl rfl (by decide +kernel)
set_option maxRecDepth 65536 in
theorem w_c36 : (Jvm.Cond.code ({ cls := "java/util/DualPivotQuicksort", name := "insertionSort", desc := "([JII)V" } : Jvm.MethodName) jdk_2529_method_15_code (7 : Nat) (Option.none : Option Jvm.ClassFile.FieldType)).before args0 about1 = true := code_word (m := ⟨19, 6⟩) (meth := k19m6) (c := k19c6) (by decide +kernel) rfl rfl rfl (by decide +kernel)
set_option maxRecDepth 65536 in
theorem w_c37 : (Jvm.Cond.code ({ cls := "com/example/tidemark/tidemark/core/Sweep", name := "next", desc := "(II)I" } : Jvm.MethodName) prog_40_method_5_code (4 : Nat) (Option.some Jvm.ClassFile.FieldType.int)).before args0 about1 = true := code_word (m := ⟨14, 4⟩) (meth := k14m4) (c := k14c4) (by decide +kernel) rfl rfl rfl (by decide +kernel)
set_option maxRecDepth 65536 in
theorem w_c38 : (Jvm.Cond.code ({ cls := "com/example/tidemark/tidemark/core/Sweep", name := "point", desc := "(J)I" } : Jvm.MethodName) prog_40_method_9_code (2 : Nat) (Option.some Jvm.ClassFile.FieldType.int)).before args0 about1 = true := code_word (m := ⟨14, 6⟩) (meth := k14m6) (c := k14c6) (by decide +kernel) rfl rfl rfl (by decide +kernel)
set_option maxRecDepth 65536 in
theorem w_c39 : (Jvm.Cond.code ({ cls := "java/lang/Math", name := "min", desc := "(II)I" } : Jvm.MethodName) jdk_29_method_69_code (2 : Nat) (Option.some Jvm.ClassFile.FieldType.int)).before args0 about1 = true := code_word (m := ⟨13, 3⟩) (meth := k13m3) (c := k13c3) (by decide +kernel) rfl rfl rfl (by decide +kernel)
set_option maxRecDepth 65536 in
theorem w_c40 : (Jvm.Cond.code ({ cls := "com/example/tidemark/tidemark/core/Sweep", name := "task", desc := "(J)I" } : Jvm.MethodName) prog_40_method_10_code (2 : Nat) (Option.some Jvm.ClassFile.FieldType.int)).before args0 about1 = true := code_word (m := ⟨14, 7⟩) (meth := k14m7) (c := k14c7) (by decide +kernel) rfl rfl rfl (by decide +kernel)
set_option maxRecDepth 65536 in
theorem w_c41 : (Jvm.Cond.code ({ cls := "com/example/tidemark/tidemark/core/DistinctValues", name := "enter", desc := "(I)V" } : Jvm.MethodName) prog_28_method_2_code (3 : Nat) (Option.none : Option Jvm.ClassFile.FieldType)).before args0 about1 = true := code_word (m := ⟨16, 1⟩) (meth := k16m1) (c := k16c1) (by decide +kernel) rfl rfl rfl (by decide +kernel)
set_option maxRecDepth 65536 in
theorem w_c42 : (Jvm.Cond.code ({ cls := "com/example/tidemark/tidemark/core/ColourProfile", name := "lambda$build$0", desc := "(Lcom/example/tidemark/tidemark/core/DistinctValues;II)Z" } : Jvm.MethodName) prog_17_method_9_code (4 : Nat) (Option.some Jvm.ClassFile.FieldType.boolean)).before args0 about1 = true := code_word (m := ⟨12, 4⟩) (meth := k12m4) (c := k12c4) (by decide +kernel) rfl rfl rfl (by decide +kernel)
set_option maxRecDepth 65536 in
theorem w_c43 : (Jvm.Cond.code ({ cls := "com/example/tidemark/tidemark/core/ColourProfile", name := "layFull", desc := "(Lcom/example/tidemark/tidemark/core/DistinctValues;II)Z" } : Jvm.MethodName) prog_17_method_3_code (5 : Nat) (Option.some Jvm.ClassFile.FieldType.boolean)).before args0 about1 = true := code_word (m := ⟨12, 2⟩) (meth := k12m2) (c := k12c2) (by decide +kernel) rfl rfl rfl (by decide +kernel)
set_option maxRecDepth 65536 in
theorem w_c44 : (Jvm.Cond.code ({ cls := "com/example/tidemark/tidemark/core/DistinctValues", name := "count", desc := "()I" } : Jvm.MethodName) prog_28_method_4_code (1 : Nat) (Option.some Jvm.ClassFile.FieldType.int)).before args0 about1 = true := code_word (m := ⟨16, 3⟩) (meth := k16m3) (c := k16c3) (by decide +kernel) rfl rfl rfl (by decide +kernel)
set_option maxRecDepth 65536 in
theorem w_c45 : (Jvm.Cond.code ({ cls := "com/example/tidemark/tidemark/core/Stretches", name := "add", desc := "(II)I" } : Jvm.MethodName) prog_38_method_3_code (3 : Nat) (Option.some Jvm.ClassFile.FieldType.int)).before args0 about1 = true := code_word (m := ⟨11, 2⟩) (meth := k11m2) (c := k11c2) (by decide +kernel) rfl rfl rfl (by decide +kernel)
set_option maxRecDepth 65536 in
theorem w_c46 : (Jvm.Cond.code ({ cls := "java/lang/Math", name := "multiplyExact", desc := "(II)I" } : Jvm.MethodName) jdk_29_method_28_code (4 : Nat) (Option.some Jvm.ClassFile.FieldType.int)).before args0 about1 = true := code_word (m := ⟨13, 1⟩) (meth := k13m1) (c := k13c1) (by decide +kernel) rfl rfl rfl (by decide +kernel)
set_option maxRecDepth 65536 in
theorem w_c47 : (Jvm.Cond.code ({ cls := "com/example/tidemark/tidemark/core/DistinctValues", name := "copyValues", desc := "([II)V" } : Jvm.MethodName) prog_28_method_5_code (4 : Nat) (Option.none : Option Jvm.ClassFile.FieldType)).before args0 about1 = true := code_word (m := ⟨16, 4⟩) (meth := k16m4) (c := k16c4) (by decide +kernel) rfl rfl rfl (by decide +kernel)
set_option maxRecDepth 65536 in
theorem w_c48 : (Jvm.Cond.code ({ cls := "java/util/Arrays", name := "sort", desc := "([III)V" } : Jvm.MethodName) jdk_65_method_3_code (3 : Nat) (Option.none : Option Jvm.ClassFile.FieldType)).before args0 about1 = true := code_word (m := ⟨18, 2⟩) (meth := k18m2) (c := k18c2) (by decide +kernel) rfl rfl rfl (by decide +kernel)
set_option maxRecDepth 65536 in
theorem w_c49 : (Jvm.Cond.code ({ cls := "com/example/tidemark/tidemark/core/DistinctValues", name := "leave", desc := "(I)V" } : Jvm.MethodName) prog_28_method_3_code (4 : Nat) (Option.none : Option Jvm.ClassFile.FieldType)).before args0 about1 = true := code_word (m := ⟨16, 2⟩) (meth := k16m2) (c := k16c2) (by decide +kernel) rfl rfl rfl (by decide +kernel)
set_option maxRecDepth 65536 in
theorem w_c50 : (Jvm.Cond.code ({ cls := "java/util/OptionalInt", name := "empty", desc := "()Ljava/util/OptionalInt;" } : Jvm.MethodName) jdk_2649_method_2_code (0 : Nat) (Option.some (Jvm.ClassFile.FieldType.object "java/util/OptionalInt"))).before args0 about1 = true := code_word (m := ⟨22, 1⟩) (meth := k22m1) (c := k22c1) (by decide +kernel) rfl rfl rfl (by decide +kernel)
set_option maxRecDepth 65536 in
theorem w_c51 : (Jvm.Cond.code ({ cls := "java/util/OptionalInt", name := "isEmpty", desc := "()Z" } : Jvm.MethodName) jdk_2649_method_7_code (1 : Nat) (Option.some Jvm.ClassFile.FieldType.boolean)).before args0 about1 = true := code_word (m := ⟨22, 2⟩) (meth := k22m2) (c := k22c2) (by decide +kernel) rfl rfl rfl (by decide +kernel)
set_option maxRecDepth 65536 in
theorem w_c52 : (Jvm.Cond.code ({ cls := "com/example/tidemark/tidemark/core/ColourProfileRetainShownPinLaw", name := "pick", desc := "(IIIII)I" } : Jvm.MethodName) method_2_code (5 : Nat) (Option.some Jvm.ClassFile.FieldType.int)).before args0 about1 = true := code_word (m := ⟨1, 1⟩) (meth := k1m1) (c := k1c1) (by decide +kernel) rfl rfl rfl (by decide +kernel)
set_option maxRecDepth 65536 in
theorem w_c53 : (Jvm.Cond.code ({ cls := "com/example/tidemark/tidemark/core/ColourProfile", name := "retainShown", desc := "(I[II)I" } : Jvm.MethodName) prog_17_method_8_code (8 : Nat) (Option.some Jvm.ClassFile.FieldType.int)).before args0 about1 = true := code_word (m := ⟨12, 3⟩) (meth := k12m3) (c := k12c3) (by decide +kernel) rfl rfl rfl (by decide +kernel)
def codes1 : List Jvm.Cond := [Jvm.Cond.code x code maxLocals ret, Jvm.Cond.code ({ cls := "com/example/tidemark/tidemark/core/TaskBounds", name := "<init>", desc := "(I)V" } : Jvm.MethodName) prog_44_method_1_code (2 : Nat) (Option.none : Option Jvm.ClassFile.FieldType), Jvm.Cond.code ({ cls := "java/lang/Object", name := "<init>", desc := "()V" } : Jvm.MethodName) object_method_1_code (1 : Nat) (Option.none : Option Jvm.ClassFile.FieldType), Jvm.Cond.code ({ cls := "com/example/tidemark/tidemark/core/ArgumentRules", name := "requireNonNegative", desc := "(Ljava/lang/String;I)V" } : Jvm.MethodName) prog_15_method_2_code (2 : Nat) (Option.none : Option Jvm.ClassFile.FieldType), Jvm.Cond.code ({ cls := "com/example/tidemark/tidemark/core/TaskBounds", name := "setEnd", desc := "(III)V" } : Jvm.MethodName) prog_44_method_6_code (4 : Nat) (Option.none : Option Jvm.ClassFile.FieldType), Jvm.Cond.code ({ cls := "com/example/tidemark/tidemark/core/TaskBounds", name := "set", desc := "([I[IIII)V" } : Jvm.MethodName) prog_44_method_24_code (5 : Nat) (Option.none : Option Jvm.ClassFile.FieldType), Jvm.Cond.code ({ cls := "com/example/tidemark/tidemark/core/TaskBounds", name := "setOrigin", desc := "(III)V" } : Jvm.MethodName) prog_44_method_4_code (4 : Nat) (Option.none : Option Jvm.ClassFile.FieldType), Jvm.Cond.code ({ cls := "com/example/tidemark/tidemark/core/TaskColours", name := "<init>", desc := "(I)V" } : Jvm.MethodName) prog_45_method_1_code (2 : Nat) (Option.none : Option Jvm.ClassFile.FieldType), Jvm.Cond.code ({ cls := "com/example/tidemark/tidemark/core/TaskColours", name := "set", desc := "(III)V" } : Jvm.MethodName) prog_45_method_3_code (4 : Nat) (Option.none : Option Jvm.ClassFile.FieldType), Jvm.Cond.code ({ cls := "com/example/tidemark/tidemark/core/ColourProfile", name := "<init>", desc := "(II)V" } : Jvm.MethodName) prog_17_method_1_code (3 : Nat) (Option.none : Option Jvm.ClassFile.FieldType), Jvm.Cond.code ({ cls := "java/lang/Math", name := "max", desc := "(II)I" } : Jvm.MethodName) jdk_29_method_65_code (2 : Nat) (Option.some Jvm.ClassFile.FieldType.int), Jvm.Cond.code ({ cls := "com/example/tidemark/tidemark/core/Stretches", name := "<init>", desc := "(I)V" } : Jvm.MethodName) prog_38_method_1_code (2 : Nat) (Option.none : Option Jvm.ClassFile.FieldType), Jvm.Cond.code ({ cls := "com/example/tidemark/tidemark/core/Sweep", name := "<init>", desc := "(I)V" } : Jvm.MethodName) prog_40_method_1_code (2 : Nat) (Option.none : Option Jvm.ClassFile.FieldType), Jvm.Cond.code ({ cls := "com/example/tidemark/tidemark/core/ColourProfile", name := "build", desc := "(Lcom/example/tidemark/tidemark/core/TaskBounds;Lcom/example/tidemark/tidemark/core/TaskColours;)Z" } : Jvm.MethodName) prog_17_method_2_code (7 : Nat) (Option.some Jvm.ClassFile.FieldType.boolean), Jvm.Cond.code ({ cls := "com/example/tidemark/tidemark/core/TaskBounds", name := "count", desc := "()I" } : Jvm.MethodName) prog_44_method_2_code (1 : Nat) (Option.some Jvm.ClassFile.FieldType.int), Jvm.Cond.code ({ cls := "com/example/tidemark/tidemark/core/Sweep", name := "clear", desc := "()V" } : Jvm.MethodName) prog_40_method_2_code (1 : Nat) (Option.none : Option Jvm.ClassFile.FieldType), Jvm.Cond.code ({ cls := "com/example/tidemark/tidemark/core/TaskColours", name := "min", desc := "(I)I" } : Jvm.MethodName) prog_45_method_4_code (2 : Nat) (Option.some Jvm.ClassFile.FieldType.int), Jvm.Cond.code ({ cls := "com/example/tidemark/tidemark/core/TaskBounds", name := "originMax", desc := "(I)I" } : Jvm.MethodName) prog_44_method_9_code (2 : Nat) (Option.some Jvm.ClassFile.FieldType.int), Jvm.Cond.code ({ cls := "com/example/tidemark/tidemark/core/TaskBounds", name := "endMin", desc := "(I)I" } : Jvm.MethodName) prog_44_method_12_code (2 : Nat) (Option.some Jvm.ClassFile.FieldType.int), Jvm.Cond.code ({ cls := "com/example/tidemark/tidemark/core/TaskColours", name := "isFixed", desc := "(I)Z" } : Jvm.MethodName) prog_45_method_8_code (2 : Nat) (Option.some Jvm.ClassFile.FieldType.boolean), Jvm.Cond.code ({ cls := "com/example/tidemark/tidemark/core/Sweep", name := "add", desc := "(III)V" } : Jvm.MethodName) prog_40_method_3_code (5 : Nat) (Option.none : Option Jvm.ClassFile.FieldType), Jvm.Cond.code ({ cls := "com/example/tidemark/tidemark/core/Sweep", name := "event", desc := "(II)J" } : Jvm.MethodName) prog_40_method_8_code (2 : Nat) (Option.some Jvm.ClassFile.FieldType.long), Jvm.Cond.code ({ cls := "com/example/tidemark/tidemark/core/Stretches", name := "clear", desc := "()V" } : Jvm.MethodName) prog_38_method_2_code (1 : Nat) (Option.none : Option Jvm.ClassFile.FieldType), Jvm.Cond.code ({ cls := "com/example/tidemark/tidemark/core/DistinctValues", name := "<init>", desc := "([I)V" } : Jvm.MethodName) prog_28_method_1_code (8 : Nat) (Option.none : Option Jvm.ClassFile.FieldType), Jvm.Cond.code ({ cls := "java/util/Arrays", name := "sort", desc := "([I)V" } : Jvm.MethodName) jdk_65_method_2_code (1 : Nat) (Option.none : Option Jvm.ClassFile.FieldType), Jvm.Cond.code ({ cls := "java/util/DualPivotQuicksort", name := "sort", desc := "([IIII)V" } : Jvm.MethodName) jdk_2529_method_3_code (7 : Nat) (Option.none : Option Jvm.ClassFile.FieldType), Jvm.Cond.code ({ cls := "java/util/DualPivotQuicksort", name := "sort", desc := "(Ljava/util/DualPivotQuicksort$Sorter;[IIII)V" } : Jvm.MethodName) jdk_2529_method_4_code (21 : Nat) (Option.none : Option Jvm.ClassFile.FieldType), Jvm.Cond.code ({ cls := "java/util/DualPivotQuicksort", name := "insertionSort", desc := "([III)V" } : Jvm.MethodName) jdk_2529_method_6_code (6 : Nat) (Option.none : Option Jvm.ClassFile.FieldType), Jvm.Cond.code ({ cls := "java/util/Arrays", name := "copyOf", desc := "([II)[I" } : Jvm.MethodName) jdk_65_method_123_code (3 : Nat) (Option.some (Jvm.ClassFile.FieldType.array Jvm.ClassFile.FieldType.int)), Jvm.Cond.code ({ cls := "java/util/Arrays", name := "binarySearch", desc := "([II)I" } : Jvm.MethodName) jdk_65_method_57_code (2 : Nat) (Option.some Jvm.ClassFile.FieldType.int), Jvm.Cond.code ({ cls := "java/util/Arrays", name := "binarySearch0", desc := "([IIII)I" } : Jvm.MethodName) jdk_65_method_59_code (8 : Nat) (Option.some Jvm.ClassFile.FieldType.int), Jvm.Cond.code ({ cls := "com/example/tidemark/tidemark/core/Sweep", name := "walk", desc := "(Lcom/example/tidemark/tidemark/core/Sweep$Tally;Lcom/example/tidemark/tidemark/core/Sweep$Visitor;)Ljava/util/OptionalInt;" } : Jvm.MethodName) prog_40_method_4_code (6 : Nat) (Option.some (Jvm.ClassFile.FieldType.object "java/util/OptionalInt")), Jvm.Cond.code ({ cls := "java/util/Arrays", name := "sort", desc := "([JII)V" } : Jvm.MethodName) jdk_65_method_5_code (3 : Nat) (Option.none : Option Jvm.ClassFile.FieldType), Jvm.Cond.code ({ cls := "java/util/Arrays", name := "rangeCheck", desc := "(III)V" } : Jvm.MethodName) jdk_65_method_30_code (3 : Nat) (Option.none : Option Jvm.ClassFile.FieldType), Jvm.Cond.code ({ cls := "java/util/DualPivotQuicksort", name := "sort", desc := "([JIII)V" } : Jvm.MethodName) jdk_2529_method_12_code (7 : Nat) (Option.none : Option Jvm.ClassFile.FieldType), Jvm.Cond.code ({ cls := "java/util/DualPivotQuicksort", name := "sort", desc := "(Ljava/util/DualPivotQuicksort$Sorter;[JIII)V" } : Jvm.MethodName) jdk_2529_method_13_code (25 : Nat) (Option.none : Option Jvm.ClassFile.FieldType), Jvm.Cond.code ({ cls := "java/util/DualPivotQuicksort", name := "insertionSort", desc := "([JII)V" } : Jvm.MethodName) jdk_2529_method_15_code (7 : Nat) (Option.none : Option Jvm.ClassFile.FieldType), Jvm.Cond.code ({ cls := "com/example/tidemark/tidemark/core/Sweep", name := "next", desc := "(II)I" } : Jvm.MethodName) prog_40_method_5_code (4 : Nat) (Option.some Jvm.ClassFile.FieldType.int), Jvm.Cond.code ({ cls := "com/example/tidemark/tidemark/core/Sweep", name := "point", desc := "(J)I" } : Jvm.MethodName) prog_40_method_9_code (2 : Nat) (Option.some Jvm.ClassFile.FieldType.int), Jvm.Cond.code ({ cls := "java/lang/Math", name := "min", desc := "(II)I" } : Jvm.MethodName) jdk_29_method_69_code (2 : Nat) (Option.some Jvm.ClassFile.FieldType.int), Jvm.Cond.code ({ cls := "com/example/tidemark/tidemark/core/Sweep", name := "task", desc := "(J)I" } : Jvm.MethodName) prog_40_method_10_code (2 : Nat) (Option.some Jvm.ClassFile.FieldType.int), Jvm.Cond.code ({ cls := "com/example/tidemark/tidemark/core/DistinctValues", name := "enter", desc := "(I)V" } : Jvm.MethodName) prog_28_method_2_code (3 : Nat) (Option.none : Option Jvm.ClassFile.FieldType), Jvm.Cond.code ({ cls := "com/example/tidemark/tidemark/core/ColourProfile", name := "lambda$build$0", desc := "(Lcom/example/tidemark/tidemark/core/DistinctValues;II)Z" } : Jvm.MethodName) prog_17_method_9_code (4 : Nat) (Option.some Jvm.ClassFile.FieldType.boolean), Jvm.Cond.code ({ cls := "com/example/tidemark/tidemark/core/ColourProfile", name := "layFull", desc := "(Lcom/example/tidemark/tidemark/core/DistinctValues;II)Z" } : Jvm.MethodName) prog_17_method_3_code (5 : Nat) (Option.some Jvm.ClassFile.FieldType.boolean), Jvm.Cond.code ({ cls := "com/example/tidemark/tidemark/core/DistinctValues", name := "count", desc := "()I" } : Jvm.MethodName) prog_28_method_4_code (1 : Nat) (Option.some Jvm.ClassFile.FieldType.int), Jvm.Cond.code ({ cls := "com/example/tidemark/tidemark/core/Stretches", name := "add", desc := "(II)I" } : Jvm.MethodName) prog_38_method_3_code (3 : Nat) (Option.some Jvm.ClassFile.FieldType.int), Jvm.Cond.code ({ cls := "java/lang/Math", name := "multiplyExact", desc := "(II)I" } : Jvm.MethodName) jdk_29_method_28_code (4 : Nat) (Option.some Jvm.ClassFile.FieldType.int), Jvm.Cond.code ({ cls := "com/example/tidemark/tidemark/core/DistinctValues", name := "copyValues", desc := "([II)V" } : Jvm.MethodName) prog_28_method_5_code (4 : Nat) (Option.none : Option Jvm.ClassFile.FieldType), Jvm.Cond.code ({ cls := "java/util/Arrays", name := "sort", desc := "([III)V" } : Jvm.MethodName) jdk_65_method_3_code (3 : Nat) (Option.none : Option Jvm.ClassFile.FieldType), Jvm.Cond.code ({ cls := "com/example/tidemark/tidemark/core/DistinctValues", name := "leave", desc := "(I)V" } : Jvm.MethodName) prog_28_method_3_code (4 : Nat) (Option.none : Option Jvm.ClassFile.FieldType), Jvm.Cond.code ({ cls := "java/util/OptionalInt", name := "empty", desc := "()Ljava/util/OptionalInt;" } : Jvm.MethodName) jdk_2649_method_2_code (0 : Nat) (Option.some (Jvm.ClassFile.FieldType.object "java/util/OptionalInt")), Jvm.Cond.code ({ cls := "java/util/OptionalInt", name := "isEmpty", desc := "()Z" } : Jvm.MethodName) jdk_2649_method_7_code (1 : Nat) (Option.some Jvm.ClassFile.FieldType.boolean), Jvm.Cond.code ({ cls := "com/example/tidemark/tidemark/core/ColourProfileRetainShownPinLaw", name := "pick", desc := "(IIIII)I" } : Jvm.MethodName) method_2_code (5 : Nat) (Option.some Jvm.ClassFile.FieldType.int), Jvm.Cond.code ({ cls := "com/example/tidemark/tidemark/core/ColourProfile", name := "retainShown", desc := "(I[II)I" } : Jvm.MethodName) prog_17_method_8_code (8 : Nat) (Option.some Jvm.ClassFile.FieldType.int)]
set_option maxRecDepth 65536 in
theorem codes_eq : words1.filter isCode = codes1 := rfl
theorem w_codes : ∀ c ∈ words1.filter isCode, c.before args0 about1 = true := by
  rw [codes_eq]
  intro c hc
  simp only [codes1, List.mem_cons, List.not_mem_nil, or_false] at hc
  rcases hc with rfl | rfl | rfl | rfl | rfl | rfl | rfl | rfl | rfl | rfl | rfl | rfl | rfl | rfl | rfl | rfl | rfl | rfl | rfl | rfl | rfl | rfl | rfl | rfl | rfl | rfl | rfl | rfl | rfl | rfl | rfl | rfl | rfl | rfl | rfl | rfl | rfl | rfl | rfl | rfl | rfl | rfl | rfl | rfl | rfl | rfl | rfl | rfl | rfl | rfl | rfl | rfl | rfl | rfl
  · exact w_c0
  · exact w_c1
  · exact w_c2
  · exact w_c3
  · exact w_c4
  · exact w_c5
  · exact w_c6
  · exact w_c7
  · exact w_c8
  · exact w_c9
  · exact w_c10
  · exact w_c11
  · exact w_c12
  · exact w_c13
  · exact w_c14
  · exact w_c15
  · exact w_c16
  · exact w_c17
  · exact w_c18
  · exact w_c19
  · exact w_c20
  · exact w_c21
  · exact w_c22
  · exact w_c23
  · exact w_c24
  · exact w_c25
  · exact w_c26
  · exact w_c27
  · exact w_c28
  · exact w_c29
  · exact w_c30
  · exact w_c31
  · exact w_c32
  · exact w_c33
  · exact w_c34
  · exact w_c35
  · exact w_c36
  · exact w_c37
  · exact w_c38
  · exact w_c39
  · exact w_c40
  · exact w_c41
  · exact w_c42
  · exact w_c43
  · exact w_c44
  · exact w_c45
  · exact w_c46
  · exact w_c47
  · exact w_c48
  · exact w_c49
  · exact w_c50
  · exact w_c51
  · exact w_c52
  · exact w_c53
set_option maxRecDepth 65536 in
theorem w_t1 : (words1.take 24).all (fun c => isCode c || c.before args0 about1) = true := by decide +kernel
set_option maxRecDepth 65536 in
theorem w_t2 : ((words1.drop 24).take 24).all (fun c => isCode c || c.before args0 about1) = true := by decide +kernel
set_option maxRecDepth 65536 in
theorem w_t3 : (((words1.drop 24).drop 24).take 24).all (fun c => isCode c || c.before args0 about1) = true := by decide +kernel
set_option maxRecDepth 65536 in
theorem w_t4 : ((((words1.drop 24).drop 24).drop 24).take 24).all (fun c => isCode c || c.before args0 about1) = true := by decide +kernel
set_option maxRecDepth 65536 in
theorem w_t5 : (((((words1.drop 24).drop 24).drop 24).drop 24).take 24).all (fun c => isCode c || c.before args0 about1) = true := by decide +kernel
set_option maxRecDepth 65536 in
theorem w_t6 : ((((((words1.drop 24).drop 24).drop 24).drop 24).drop 24).take 24).all (fun c => isCode c || c.before args0 about1) = true := by decide +kernel
set_option maxRecDepth 65536 in
theorem w_t7 : (((((((words1.drop 24).drop 24).drop 24).drop 24).drop 24).drop 24).take 24).all (fun c => isCode c || c.before args0 about1) = true := by decide +kernel
set_option maxRecDepth 65536 in
theorem w_t8 : ((((((((words1.drop 24).drop 24).drop 24).drop 24).drop 24).drop 24).drop 24).take 24).all (fun c => isCode c || c.before args0 about1) = true := by decide +kernel
set_option maxRecDepth 65536 in
theorem w_t9 : (((((((((words1.drop 24).drop 24).drop 24).drop 24).drop 24).drop 24).drop 24).drop 24).take 24).all (fun c => isCode c || c.before args0 about1) = true := by decide +kernel
set_option maxRecDepth 65536 in
theorem w_t10 : ((((((((((words1.drop 24).drop 24).drop 24).drop 24).drop 24).drop 24).drop 24).drop 24).drop 24).take 24).all (fun c => isCode c || c.before args0 about1) = true := by decide +kernel
set_option maxRecDepth 65536 in
theorem w_t11 : (((((((((((words1.drop 24).drop 24).drop 24).drop 24).drop 24).drop 24).drop 24).drop 24).drop 24).drop 24).take 24).all (fun c => isCode c || c.before args0 about1) = true := by decide +kernel
set_option maxRecDepth 65536 in
theorem w_t12 : ((((((((((((words1.drop 24).drop 24).drop 24).drop 24).drop 24).drop 24).drop 24).drop 24).drop 24).drop 24).drop 24).take 24).all (fun c => isCode c || c.before args0 about1) = true := by decide +kernel
set_option maxRecDepth 65536 in
theorem w_t13 : (((((((((((((words1.drop 24).drop 24).drop 24).drop 24).drop 24).drop 24).drop 24).drop 24).drop 24).drop 24).drop 24).drop 24).take 24).all (fun c => isCode c || c.before args0 about1) = true := by decide +kernel
set_option maxRecDepth 65536 in
theorem w_t14 : ((((((((((((((words1.drop 24).drop 24).drop 24).drop 24).drop 24).drop 24).drop 24).drop 24).drop 24).drop 24).drop 24).drop 24).drop 24).take 24).all (fun c => isCode c || c.before args0 about1) = true := by decide +kernel
set_option maxRecDepth 65536 in
theorem w_t15 : ((((((((((((((words1.drop 24).drop 24).drop 24).drop 24).drop 24).drop 24).drop 24).drop 24).drop 24).drop 24).drop 24).drop 24).drop 24).drop 24).all (fun c => isCode c || c.before args0 about1) = true := by decide +kernel
theorem w_tables : (allAtoms (Jvm.Cond.code x code maxLocals ret :: tables_1)).before args0 about1 = true := by
  rw [allAtoms_all]
  show words1.all (fun c => c.before args0 about1) = true
  refine all_split ?_ w_codes
  rw [← List.take_append_drop 24 words1, List.all_append, w_t1, ← List.take_append_drop 24 (words1.drop 24), List.all_append, w_t2, ← List.take_append_drop 24 ((words1.drop 24).drop 24), List.all_append, w_t3, ← List.take_append_drop 24 (((words1.drop 24).drop 24).drop 24), List.all_append, w_t4, ← List.take_append_drop 24 ((((words1.drop 24).drop 24).drop 24).drop 24), List.all_append, w_t5, ← List.take_append_drop 24 (((((words1.drop 24).drop 24).drop 24).drop 24).drop 24), List.all_append, w_t6, ← List.take_append_drop 24 ((((((words1.drop 24).drop 24).drop 24).drop 24).drop 24).drop 24), List.all_append, w_t7, ← List.take_append_drop 24 (((((((words1.drop 24).drop 24).drop 24).drop 24).drop 24).drop 24).drop 24), List.all_append, w_t8, ← List.take_append_drop 24 ((((((((words1.drop 24).drop 24).drop 24).drop 24).drop 24).drop 24).drop 24).drop 24), List.all_append, w_t9, ← List.take_append_drop 24 (((((((((words1.drop 24).drop 24).drop 24).drop 24).drop 24).drop 24).drop 24).drop 24).drop 24), List.all_append, w_t10, ← List.take_append_drop 24 ((((((((((words1.drop 24).drop 24).drop 24).drop 24).drop 24).drop 24).drop 24).drop 24).drop 24).drop 24), List.all_append, w_t11, ← List.take_append_drop 24 (((((((((((words1.drop 24).drop 24).drop 24).drop 24).drop 24).drop 24).drop 24).drop 24).drop 24).drop 24).drop 24), List.all_append, w_t12, ← List.take_append_drop 24 ((((((((((((words1.drop 24).drop 24).drop 24).drop 24).drop 24).drop 24).drop 24).drop 24).drop 24).drop 24).drop 24).drop 24), List.all_append, w_t13, ← List.take_append_drop 24 (((((((((((((words1.drop 24).drop 24).drop 24).drop 24).drop 24).drop 24).drop 24).drop 24).drop 24).drop 24).drop 24).drop 24).drop 24), List.all_append, w_t14, w_t15]
  rfl
set_option maxRecDepth 65536 in
theorem w_rest : rest_1_c.before args0 about1 = true := by decide +kernel
set_option maxRecDepth 65536 in
theorem w_case : (Jvm.Cond.and given_1 narrow_1).before args0 about1 = true := by decide +kernel
theorem w_applies : (headSpec (Jvm.Cond.code x code maxLocals ret :: tables_1) room_1).applies x e0.platform about1 = true :=
  (Spec.applies_iff w_frames).mpr ⟨w_running, w_runnable, w_alone, w_named, w_hears, w_ripe, w_room, w_tables⟩
theorem atStart : AtStart classFile x code maxLocals ret World_1 tables_1 room_1 Calls_1 rest_1 Pre_1 launch0 p0 e0 about1 theMethod args0 below0 :=
  ⟨lists_1, trivial, launch0.admits_env _ _ _, launch0.least_env, fairChoices_fair.cas, fairChoices_fair.clock, w_frames, w_args, w_heap, w_applies, trivial, w_rest, w_case⟩
end start1
theorem witness_1 : WitnessClaimed_1 := ⟨start1.p0, start1.e0, start1.about1, start1.theMethod, start1.args0, start1.below0, start1.atStart⟩
end Jvm.Pilot.@@N@@
