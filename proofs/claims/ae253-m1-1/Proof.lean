import JvmDerived
import JvmDerived.Pilot.@@N@@Statement
import JvmDerived.Pilot.@@N@@Code
set_option linter.unusedVariables false
set_option linter.unusedSimpArgs false
namespace Jvm.Pilot.@@N@@
open Jvm Jvm.ClassFile Sem Op Lib Jvm.Free Jvm.Stand Jvm.LawKit Jvm.RoadKit Bundle Jvm.Pilot.@@N@@.Jvm.D
/-! own: the walk by continuation -/
def Go (p : Program) (e : Env) (below : List Frame) (A : State) (G : Outcome → State → Prop) : Prop :=
  ∃ s₂ o, Steps p.tables e below A s₂ ∧ s₂.status = .running ∧ Ended s₂ below o ∧ G o s₂
section Own
variable {p : Program} {l : Launch} {e : Env} {R : Room} {s : State} {m : MethodId} {args : Array Value} {below : List Frame} {meth : Method} {c : Code} {T : State} {locs : List Loc} {cells slots : Nat} {G : Outcome → State → Prop} {A B : State}
theorem go_of (h : ∀ t, Steps p.tables e below B t → Steps p.tables e below A t) (k : Go p e below B G) : Go p e below A G := by
  obtain ⟨s₂, o, h1, h2⟩ := k; exact ⟨s₂, o, h _ h1, h2⟩
theorem go_tr (h : Steps p.tables e below A B) (k : Go p e below B G) : Go p e below A G := go_of (fun _ q => h.trans q) k
theorem go_end (X : Stand p l e R s m args below meth c T locs cells slots) {v : Option Value} (hv : meth.sig.returnType = none → v = none) (hlocks : meth.locks = false) {C S : Nat} (hc : cells ≤ C) (hs : slots ≤ S)
    {Q : Option Value → Heap → List Loc → Prop} (hQ : Q v T.heap locs) {f : JFrame}
    (st : ∀ fs, (∀ (f : JFrame) (acts : List Action), f.method = m → f.locked = none → f.entered = [] → (doReturn e (T.setTop f) acts v).1 = T.setFrames fs) → Steps p.tables e below (T.setTop f) (T.setFrames fs)) :
    Go p e below (T.setTop f) (fun o U' => ∃ v L, o = .returned v ∧ Q v U'.heap L ∧ FrameEnd s o U' L C S) := by
  obtain ⟨fs, hr, hrun, hended, hW, hsame⟩ := X.leave (v := v) hv hlocks
  exact ⟨_, _, st fs hr, hrun, hended, _, _, rfl, hQ, ⟨_, rfl⟩, hW, hsame.mono hc hs⟩
theorem go_endW {vm : Vm} (X : Stand p l e R (s.setVm vm) m args below meth c T locs cells slots) {k : Nat} (hS : s.Since vm k) (hk : k ≤ T.heap.size) {v : Option Value} (hv : meth.sig.returnType = none → v = none) (hlocks : meth.locks = false) {C S : Nat} (hc : cells ≤ C) (hs : slots ≤ S)
    {Q : Option Value → Heap → List Loc → Prop} (hQ : Q v T.heap locs) {f : JFrame}
    (st : ∀ fs, (∀ (f : JFrame) (acts : List Action), f.method = m → f.locked = none → f.entered = [] → (doReturn e (T.setTop f) acts v).1 = T.setFrames fs) → Steps p.tables e below (T.setTop f) (T.setFrames fs)) :
    Go p e below (T.setTop f) (fun o U' => ∃ v L, o = .returned v ∧ Q v U'.heap L ∧ ReturnedEndW s o U' L C S) := by
  obtain ⟨fs, hr, hrun, hended, e1, e2, e3, e4⟩ := X.leaveW hS hk (v := v) hv hlocks
  exact ⟨_, _, st fs hr, hrun, hended, _, _, rfl, hQ, e1, e2, e3, e4.mono hc hs⟩
theorem own_retI (X : Stand p l e R s m args below meth c T locs cells slots) (hx : p.tables.exec = Jvm.exec) {pc : Nat} {Ls : Array Slot} {z : Int32} {rest : List Value} (hret : meth.sig.returnType = some .int) (hd : decode c.code pc = .ok (.ireturn, 1)) {fs : List Frame}
    (hl : ∀ (f : JFrame) (acts : List Action), f.method = m → f.locked = none → f.entered = [] → (doReturn e (T.setTop f) acts (some (.int z))).1 = T.setFrames fs) : Steps p.tables e below (T.setTop (mkF m pc Ls (.int z :: rest))) (T.setFrames fs) :=
  retOut X hx hret rfl (Or.inl ⟨rfl, Or.inl rfl, _, rfl⟩) hd hl
theorem own_retL (X : Stand p l e R s m args below meth c T locs cells slots) (hx : p.tables.exec = Jvm.exec) {pc : Nat} {Ls : Array Slot} {z : Int64} {rest : List Value} (hret : meth.sig.returnType = some .long) (hd : decode c.code pc = .ok (.lreturn, 1)) {fs : List Frame}
    (hl : ∀ (f : JFrame) (acts : List Action), f.method = m → f.locked = none → f.entered = [] → (doReturn e (T.setTop f) acts (some (.long z))).1 = T.setFrames fs) : Steps p.tables e below (T.setTop (mkF m pc Ls (.long z :: rest))) (T.setFrames fs) :=
  retOut X hx hret rfl (Or.inr (Or.inl ⟨rfl, rfl, _, rfl⟩)) hd hl
theorem own_retA (X : Stand p l e R s m args below meth c T locs cells slots) (hx : p.tables.exec = Jvm.exec) {pc : Nat} {Ls : Array Slot} {w : Value} {t : FieldType} {rest : List Value} (hret : meth.sig.returnType = some t) (ht : t.isReference = true) (hw : w.isRef = true) (hd : decode c.code pc = .ok (.areturn, 1)) {fs : List Frame}
    (hl : ∀ (f : JFrame) (acts : List Action), f.method = m → f.locked = none → f.entered = [] → (doReturn e (T.setTop f) acts (some w)).1 = T.setFrames fs) : Steps p.tables e below (T.setTop (mkF m pc Ls (w :: rest))) (T.setFrames fs) :=
  retOut X hx hret (by cases t <;> first | rfl | (cases ht; done)) (Or.inr (Or.inr (Or.inr (Or.inr ⟨rfl, ht, hw⟩)))) hd hl
theorem own_fldI {t : Term} {C n d : String} {k : Int32} {a : Addr} (ev : t.eval args s none [] s = some (.ref a)) (h : (Jvm.Cond.eq (.field t C n d) (.int k)).value args s none s [] = some true) : Fld s s.heap a C n d (.int k) := by
  obtain ⟨x, y, h1, h2, -, kyx⟩ := cmp_v (Or.inl h)
  have e2 : y = .int k := (Option.some.inj (h2.symm.trans (Term.int_eval k)))
  subst e2
  obtain ⟨z, rfl⟩ := kyx
  have hz : z = k := by simpa [Cond.value, h1, Term.int_eval] using h
  subst hz
  rw [fld_at ev] at h1
  exact Fld.start h1
theorem own_ne {a b : Addr} (h : @Ne Nat a b) : a ≠ b := h
theorem own_le {a b : Nat} (h : @LE.le Nat instLENat a b) : @LE.le Nat instLENat a b := h
theorem own_nlt {a : Addr} {n : Nat} (h : a < n) : @LT.lt Nat instLTNat a n := h
theorem own_nle {a : Nat} {b : Addr} (h : a ≤ b) : @LE.le Nat instLENat a b := h
theorem own_inskeep {Z : State} {h h' : Heap} {a : Addr} {C : String} {ws : List Addr} (F : Ins Z h a C true) (K : Keep h h' ws) : Ins Z h' a C true := by
  obtain ⟨cell, cT, h1, h2, h3⟩ := F; obtain ⟨c', q, r1, r2, -⟩ := K.2.2 a cell h1; exact ⟨c', cT, q, h2, by rw [r1, r2]; exact h3⟩
theorem own_inslt {Z : State} {h : Heap} {a : Addr} {C : String} {b : Bool} (F : Ins Z h a C b) : a < h.size := by obtain ⟨_, _, h1, -⟩ := F; exact (Array.getElem?_eq_some_iff.mp h1).1
theorem own_kx {h h' : Heap} (K : Keep h h' []) : Ext h h' := ⟨K.1, fun a c q => K.2.1 a c q nin0⟩
theorem own_cache {t : Term} {C : String} {q : Jvm.Cond} {cl : Cell} {a : Addr} {ty : FieldType} (ev : ∀ idx, t.eval args s none idx s = some (.ref a)) (Ar : Arr s s.heap a cl ty)
    (h : (Jvm.Cond.all t (.and (.exactly (.elem t (.index 0)) C) q)).value args s none s [] = some true) (hz : cl.slots.size = 256) : ∀ i, i < 256 → ∃ w, cl.slots[i]? = some (.ref w) ∧ Exa s s.heap w C := fun i hi => by
  have hat : s.arrayAt? a = some cl := Arr.fin (Vm.Alike.refl _) Ar
  have hv := Cond.all_elim (ev []) hat h i (by rw [hz]; exact hi)
  obtain ⟨h1, -⟩ := and_e hv
  obtain ⟨w, ew⟩ := exa_v h1
  have ex := exa_at ew h1
  obtain ⟨p1, p2⟩ := IntBox.place_nonneg i hi
  rw [elem_f (ev [i]) (j := i.toInt32) rfl hat p1, p2] at ew
  exact ⟨w, ew, ex⟩
theorem own_stev {C n d : String} {v : Value} (h : (Term.static C n d).eval args s none [] s = some v) (idx : List Nat) : (Term.static C n d).eval args s none idx s = some v := h
theorem own_len {t : Term} {a : Addr} {cl : Cell} {ty : FieldType} {k : Int32} (ev : t.eval args s none [] s = some (.ref a)) (Ar : Arr s s.heap a cl ty) (h : (Jvm.Cond.eq (.length t) (.int k)).value args s none s [] = some true) (hk : ¬ k < 0) : cl.slots.size = k.toNatClampNeg := by
  have hat : s.arrayAt? a = some cl := Arr.fin (Vm.Alike.refl _) Ar
  obtain ⟨x, y, h1, h2, -, kyx⟩ := cmp_v (Or.inl h)
  have e2 : y = .int k := (Option.some.inj (h2.symm.trans (Term.int_eval k)))
  subst e2
  obtain ⟨z, rfl⟩ := kyx
  have hz : z = k := by simpa [Cond.value, h1, Term.int_eval] using h
  subst hz
  have hl : cl.slots.size < 2 ^ 31 := by
    by_cases q : cl.slots.size < 2 ^ 31
    · exact q
    · simp [Term.eval, ev, hat, q] at h1
  rw [len_f ev hat hl] at h1
  have h3 : cl.slots.size.toInt32 = z := by simpa using h1
  rw [← h3]
  have h4 := len_toInt hl
  simp only [Int32.toNatClampNeg, h4]; rfl
end Own
def AL (Z : State) (h : Heap) (a : Addr) (m : Int32) (d : Addr) (z : Int32) : Prop := Exa Z h a "java/util/ArrayList" ∧ Fld Z h a "java/util/AbstractList" "modCount" "I" (.int m) ∧ Fld Z h a "java/util/ArrayList" "elementData" "[Ljava/lang/Object;" (.ref d) ∧ Fld Z h a "java/util/ArrayList" "size" "I" (.int z)
theorem AL.ext {Z : State} {h h' : Heap} {a : Addr} {m : Int32} {d : Addr} {z : Int32} (A : AL Z h a m d z) (E : Ext h h') : AL Z h' a m d z := ⟨A.1.ext E, A.2.1.ext E, A.2.2.1.ext E, A.2.2.2.ext E⟩
theorem AL.keep {Z : State} {h h' : Heap} {a : Addr} {m : Int32} {d : Addr} {z : Int32} {ws : List Addr} (A : AL Z h a m d z) (K : Keep h h' ws) (q : a ∉ ws) : AL Z h' a m d z := ⟨A.1.keep K, A.2.1.keep K q, A.2.2.1.keep K q, A.2.2.2.keep K q⟩

theorem d6_0 : decode jdk_22_method_1_code 0 = .ok (.aload_n 0, 1) := by decide +kernel
theorem d6_1 : decode jdk_22_method_1_code 1 = .ok (.invokespecial 1, 3) := by decide +kernel
theorem d6_4 : decode jdk_22_method_1_code 4 = .ok (.return_, 1) := by decide +kernel
def Q_rm6 (Z : State) (a : Addr) (h0 : Heap) (n0 : Nat) (v : Option Value) (h : Heap) (L : List Loc) : Prop := v = none ∧ Fr n0 L ∧ h = h0
theorem pn_java_util_AbstractCollection : plainName "java/util/AbstractCollection" = true := by first | (simp [plainName, overriddenIn]; done) | decide +kernel
theorem ef_rm6 (m : MethodId) (a : Addr)  : entryFrame m #[(.ref a)] 1 = mkF m 0 #[.val (.ref a)] [] := by first | (simp [entryFrame, mkF, argsToLocals, Value.category]; done) | rfl
set_option maxRecDepth 65536 in
set_option maxHeartbeats 40000000 in
theorem rm6 (l : Launch) (Z : State) (a0 : Array Value) (hw : ∀ d ∈ tables_1, d.before a0 Z = true) (ws : List Jvm.Cond) (a : Addr) (h0 : Heap) (n0 : Nat) (Z0 : n0 ≤ h0.size)  :
    MetFree l (⟨"java/util/AbstractCollection", "<init>", "()V"⟩ : MethodName) (head1 (Jvm.Cond.code (⟨"java/util/AbstractCollection", "<init>", "()V"⟩ : MethodName) jdk_22_method_1_code 1 none :: ws) ({ frames := 1, cells := 0, slots := 0, locals := 12 } : Room)) (fun aa' U1' => aa' = #[(.ref a)] ∧ Z.Warmed39 U1'.vm ∧ U1'.heap = h0) (fun _ _ _ _ _ => True) (fun _ U1' oo' U2' => ∃ vv' LL', oo' = .returned vv' ∧ (Q_rm6 Z a h0 n0) vv' U2'.heap LL' ∧ FrameEnd U1' oo' U2' LL' ({ frames := 1, cells := 0, slots := 0, locals := 12 } : Room).cells ({ frames := 1, cells := 0, slots := 0, locals := 12 } : Room).slots) := by
  refine MetFree.of_bodySF (plainFor_of_name pn_java_util_AbstractCollection) hisR ?_
  intro p e s m args below meth c s₁ Bd hml0 hP hK
  obtain ⟨rfl, hZ, hh⟩ := hP
  have hx := Bd.exec
  have hby := Bd.bytes
  have hml : c.maxLocals = 1 := hml0
  have hown : s.vm.findClass "java/util/AbstractCollection" = some m.cls := findClass_of_methodNamed Bd.named
  have hnm := (name_of_methodNamed Bd.named Bd.method).1
  have X0 : Stand p l e ({ frames := 1, cells := 0, slots := 0, locals := 12 } : Room) s m #[(.ref a)] below meth c s₁ [] 0 0 := Stand.of_body Bd
  have e0 : s₁.heap = h0 := by rw [← hh, Bd.state]; rfl
  have N0 := Fr.nil n0
  refine go_of (A := s₁.setTop (entryFrame m #[(.ref a)] 1)) (B := s₁.setTop (mkF m 0 #[.val (.ref a)] [])) (fun _ kk' => castTop (ef_rm6 m a) kk') ?_
  refine go_of (B := (s₁.setTop (mkF m 1 #[.val (.ref a)] [(.ref a)]))) (fun _ kk => XS.aloadN X0.here hx rfl (hb hby d6_0) rfl rfl kk) ?_
  obtain ⟨T1, X1, e1, st1⟩ := initO X0 hx hZ hown (hw _ (List.mem_of_getElem? (i := 36) rfl)) (hw _ (List.mem_of_getElem? (i := 7) rfl)) (hw _ (List.mem_of_getElem? (i := 8) rfl)) e0 (g := (mkF m 1 #[.val (.ref a)] [(.ref a)])) rfl (by rw [hml]; rfl) rfl (hb hby d6_1) (by decide) (W := 0) (by show 2 * 0 + _ ≤ _; exact Nat.le_of_eq rfl) (by decide)
  refine go_of (B := (T1.setTop (mkF m 4 #[.val (.ref a)] []))) (st1) ?_
  refine go_end X1 (v := none) (fun _ => rfl) Bd.notSynchronized (by decide) (by decide) (Q := (Q_rm6 Z a h0 n0)) ?_ (fun fs hr => X1.returnOut hx Bd.returns (hb hby d6_4) hr)
  show (fun (v : Option Value) (h : Heap) (L : List Loc) => v = none ∧ Fr n0 L ∧ h = h0) (none) T1.heap _
  rw [e1]
  exact ⟨rfl, N0, rfl⟩
theorem d5_0 : decode jdk_39_method_1_code 0 = .ok (.aload_n 0, 1) := by decide +kernel
theorem d5_1 : decode jdk_39_method_1_code 1 = .ok (.invokespecial 1, 3) := by decide +kernel
theorem pd___V : parseMethodDescriptor "()V" = some ⟨[], none⟩ := by decide +kernel
theorem d5_4 : decode jdk_39_method_1_code 4 = .ok (.aload_n 0, 1) := by decide +kernel
theorem d5_5 : decode jdk_39_method_1_code 5 = .ok (.iconst 0, 1) := by decide +kernel
theorem d5_6 : decode jdk_39_method_1_code 6 = .ok (.putfield 7, 3) := by decide +kernel
theorem d5_9 : decode jdk_39_method_1_code 9 = .ok (.return_, 1) := by decide +kernel
def Q_rm5 (Z : State) (a : Addr) (u : Value) (h0 : Heap) (n0 : Nat) (v : Option Value) (h : Heap) (L : List Loc) : Prop := v = none ∧ Fr n0 L ∧ Wr h0 h a (Jvm.RoadKit.slotOf Z "java/util/AbstractList" "modCount" "I") (.int 0)
theorem pn_java_util_AbstractList : plainName "java/util/AbstractList" = true := by first | (simp [plainName, overriddenIn]; done) | decide +kernel
theorem ef_rm5 (m : MethodId) (a : Addr)  : entryFrame m #[(.ref a)] 1 = mkF m 0 #[.val (.ref a)] [] := by first | (simp [entryFrame, mkF, argsToLocals, Value.category]; done) | rfl
set_option maxRecDepth 65536 in
set_option maxHeartbeats 40000000 in
theorem rm5 (l : Launch) (Z : State) (a0 : Array Value) (hw : ∀ d ∈ tables_1, d.before a0 Z = true) (ws : List Jvm.Cond) (a : Addr) (u : Value) (h0 : Heap) (n0 : Nat) (Z0 : n0 ≤ h0.size) (E : Exa Z h0 a "java/util/ArrayList") (F : Fld Z h0 a "java/util/AbstractList" "modCount" "I" u) (g : n0 ≤ a) :
    MetFree l (⟨"java/util/AbstractList", "<init>", "()V"⟩ : MethodName) (head1 (Jvm.Cond.code (⟨"java/util/AbstractList", "<init>", "()V"⟩ : MethodName) jdk_39_method_1_code 1 none :: ws) ({ frames := 2, cells := 0, slots := 0, locals := 24 } : Room)) (fun aa' U1' => aa' = #[(.ref a)] ∧ Z.Warmed39 U1'.vm ∧ U1'.heap = h0) (fun _ _ _ _ _ => True) (fun _ U1' oo' U2' => ∃ vv' LL', oo' = .returned vv' ∧ (Q_rm5 Z a u h0 n0) vv' U2'.heap LL' ∧ FrameEnd U1' oo' U2' LL' ({ frames := 2, cells := 0, slots := 0, locals := 24 } : Room).cells ({ frames := 2, cells := 0, slots := 0, locals := 24 } : Room).slots) := by
  refine MetFree.of_bodySF (plainFor_of_name pn_java_util_AbstractList) hisR ?_
  intro p e s m args below meth c s₁ Bd hml0 hP hK
  obtain ⟨rfl, hZ, hh⟩ := hP
  have hx := Bd.exec
  have hby := Bd.bytes
  have hml : c.maxLocals = 1 := hml0
  have hown : s.vm.findClass "java/util/AbstractList" = some m.cls := findClass_of_methodNamed Bd.named
  have hnm := (name_of_methodNamed Bd.named Bd.method).1
  have X0 : Stand p l e ({ frames := 2, cells := 0, slots := 0, locals := 24 } : Room) s m #[(.ref a)] below meth c s₁ [] 0 0 := Stand.of_body Bd
  have e0 : s₁.heap = h0 := by rw [← hh, Bd.state]; rfl
  have N0 := Fr.nil n0
  refine go_of (A := s₁.setTop (entryFrame m #[(.ref a)] 1)) (B := s₁.setTop (mkF m 0 #[.val (.ref a)] [])) (fun _ kk' => castTop (ef_rm5 m a) kk') ?_
  refine go_of (B := (s₁.setTop (mkF m 1 #[.val (.ref a)] [(.ref a)]))) (fun _ kk => XS.aloadN X0.here hx rfl (hb hby d5_0) rfl rfl kk) ?_
  obtain ⟨_, _, ⟨T1, L1, k1, n1⟩, -, X1, ⟨Lc1, hQ1, l1, y1, z1⟩, st1⟩ := X0.specialBack hx (y := (⟨"java/util/AbstractCollection", "<init>", "()V"⟩ : MethodName)) rfl hown (mvT hZ (hw _ (List.mem_of_getElem? (i := 30) rfl))) (mvT hZ (hw _ (List.mem_of_getElem? (i := 31) rfl))) (mvT hZ (hw _ (List.mem_of_getElem? (i := 35) rfl))) (by decide) (backOf (W := 0) (rm6 l Z a0 hw [] a h0 n0 Z0) hZ (hw _ (List.mem_of_getElem? (i := 35) rfl)) (hw _ (List.mem_of_getElem? (i := 34) rfl)) (by decide) (by decide)) (g := (mkF m 1 #[.val (.ref a)] [(.ref a)])) rfl (by rw [hml]; rfl) (Steps.refl _) (a := a) (argsL := []) (rest := []) (lenOf pd___V rfl) rfl (by show 2 * 0 + _ ≤ _; exact Nat.le_of_eq rfl) (hb hby d5_1) (fun _ _ => ⟨rfl, e0, (by decide : 0 + 0 ≤ _), (by decide : 0 + 0 ≤ _)⟩)
  dsimp only [Pt.U, Pt.locs, Pt.cells, Pt.slots] at X1 l1 y1 z1 st1 hQ1
  subst l1 y1 z1
  obtain ⟨rfl, N1q, e1⟩ := hQ1
  have N1 := Fr.app N0 N1q
  refine go_tr (B := (T1.setTop (mkF m 4 #[.val (.ref a)] []))) (st1) ?_
  refine go_of (B := (T1.setTop (mkF m 5 #[.val (.ref a)] [(.ref a)]))) (fun _ kk => XS.aloadN X1.here hx rfl (hb hby d5_4) rfl rfl kk) ?_
  refine go_of (B := (T1.setTop (mkF m 6 #[.val (.ref a)] [(.int (0 : Int32)), (.ref a)]))) (fun _ kk => XS.iconst X1.here hx rfl (hb hby d5_5) kk) ?_
  obtain ⟨T2, h2, X2, e2, W2, st2⟩ := putF X1 hx hZ hown (host := "") (Or.inl (hw _ (List.mem_of_getElem? (i := 37) rfl))) Via.refl e1 F E (Or.inl (hw _ (List.mem_of_getElem? (i := 38) rfl))) (hw _ (List.mem_of_getElem? (i := 19) rfl)) (ty := .int) (by decide) rfl rfl (g := (mkF m 6 #[.val (.ref a)] [(.int (0 : Int32)), (.ref a)])) rfl rfl (hb hby d5_6)
  have sz2 := W2.size
  have Fw2 := F.same W2
  have N2 := Fr.snoc X2 N1 (g : n0 ≤ a)
  refine go_of (B := (T2.setTop (mkF m 9 #[.val (.ref a)] []))) (st2) ?_
  refine go_end X2 (v := none) (fun _ => rfl) Bd.notSynchronized (by decide) (by decide) (Q := (Q_rm5 Z a u h0 n0)) ?_ (fun fs hr => X2.returnOut hx Bd.returns (hb hby d5_9) hr)
  show (fun (v : Option Value) (h : Heap) (L : List Loc) => v = none ∧ Fr n0 L ∧ Wr h0 h a (Jvm.RoadKit.slotOf Z "java/util/AbstractList" "modCount" "I") (.int 0)) (none) T2.heap _
  rw [e2]
  exact ⟨rfl, N2, W2⟩
theorem d4_0 : decode jdk_38_method_2_code 0 = .ok (.aload_n 0, 1) := by decide +kernel
theorem d4_1 : decode jdk_38_method_2_code 1 = .ok (.invokespecial 1, 3) := by decide +kernel
theorem d4_4 : decode jdk_38_method_2_code 4 = .ok (.aload_n 0, 1) := by decide +kernel
theorem d4_5 : decode jdk_38_method_2_code 5 = .ok (.getstatic 39, 3) := by decide +kernel
theorem d4_8 : decode jdk_38_method_2_code 8 = .ok (.putfield 9, 3) := by decide +kernel
theorem d4_11 : decode jdk_38_method_2_code 11 = .ok (.return_, 1) := by decide +kernel
def Q_rm4 (Z : State) (a : Addr) (u : Value) (u2 : Value) (wD : Addr) (h0 : Heap) (n0 : Nat) (v : Option Value) (h : Heap) (L : List Loc) : Prop := v = none ∧ Fr n0 L ∧ Keep h0 h [a] ∧ AL Z h a 0 wD 0
theorem pn_java_util_ArrayList : plainName "java/util/ArrayList" = true := by first | (simp [plainName, overriddenIn]; done) | decide +kernel
theorem ef_rm4 (m : MethodId) (a : Addr)  : entryFrame m #[(.ref a)] 1 = mkF m 0 #[.val (.ref a)] [] := by first | (simp [entryFrame, mkF, argsToLocals, Value.category]; done) | rfl
set_option maxRecDepth 65536 in
set_option maxHeartbeats 40000000 in
theorem rm4 (l : Launch) (Z : State) (a0 : Array Value) (hw : ∀ d ∈ tables_1, d.before a0 Z = true) (ws : List Jvm.Cond) (a : Addr) (u : Value) (u2 : Value) (wD : Addr) (h0 : Heap) (n0 : Nat) (Z0 : n0 ≤ h0.size) (E : Exa Z h0 a "java/util/ArrayList") (F : Fld Z h0 a "java/util/AbstractList" "modCount" "I" u) (Fd : Fld Z h0 a "java/util/ArrayList" "elementData" "[Ljava/lang/Object;" u2) (Fs : Fld Z h0 a "java/util/ArrayList" "size" "I" (.int 0)) (g : n0 ≤ a) (O : Old Z n0 h0) (S : Sta Z Z.heap "java/util/ArrayList" "DEFAULTCAPACITY_EMPTY_ELEMENTDATA" "[Ljava/lang/Object;" (.ref wD)) :
    MetFree l (⟨"java/util/ArrayList", "<init>", "()V"⟩ : MethodName) (head1 (Jvm.Cond.code (⟨"java/util/ArrayList", "<init>", "()V"⟩ : MethodName) jdk_38_method_2_code 1 none :: ws) ({ frames := 3, cells := 0, slots := 0, locals := 36 } : Room)) (fun aa' U1' => aa' = #[(.ref a)] ∧ Z.Warmed39 U1'.vm ∧ U1'.heap = h0) (fun _ _ _ _ _ => True) (fun _ U1' oo' U2' => ∃ vv' LL', oo' = .returned vv' ∧ (Q_rm4 Z a u u2 wD h0 n0) vv' U2'.heap LL' ∧ FrameEnd U1' oo' U2' LL' ({ frames := 3, cells := 0, slots := 0, locals := 36 } : Room).cells ({ frames := 3, cells := 0, slots := 0, locals := 36 } : Room).slots) := by
  refine MetFree.of_bodySF (plainFor_of_name pn_java_util_ArrayList) hisR ?_
  intro p e s m args below meth c s₁ Bd hml0 hP hK
  obtain ⟨rfl, hZ, hh⟩ := hP
  have hx := Bd.exec
  have hby := Bd.bytes
  have hml : c.maxLocals = 1 := hml0
  have hown : s.vm.findClass "java/util/ArrayList" = some m.cls := findClass_of_methodNamed Bd.named
  have hnm := (name_of_methodNamed Bd.named Bd.method).1
  have X0 : Stand p l e ({ frames := 3, cells := 0, slots := 0, locals := 36 } : Room) s m #[(.ref a)] below meth c s₁ [] 0 0 := Stand.of_body Bd
  have e0 : s₁.heap = h0 := by rw [← hh, Bd.state]; rfl
  have N0 := Fr.nil n0
  refine go_of (A := s₁.setTop (entryFrame m #[(.ref a)] 1)) (B := s₁.setTop (mkF m 0 #[.val (.ref a)] [])) (fun _ kk' => castTop (ef_rm4 m a) kk') ?_
  refine go_of (B := (s₁.setTop (mkF m 1 #[.val (.ref a)] [(.ref a)]))) (fun _ kk => XS.aloadN X0.here hx rfl (hb hby d4_0) rfl rfl kk) ?_
  obtain ⟨_, _, ⟨T1, L1, k1, n1⟩, -, X1, ⟨Lc1, hQ1, l1, y1, z1⟩, st1⟩ := X0.specialBack hx (y := (⟨"java/util/AbstractList", "<init>", "()V"⟩ : MethodName)) rfl hown (mvT hZ (hw _ (List.mem_of_getElem? (i := 24) rfl))) (mvT hZ (hw _ (List.mem_of_getElem? (i := 25) rfl))) (mvT hZ (hw _ (List.mem_of_getElem? (i := 29) rfl))) (by decide) (backOf (W := 0) (rm5 l Z a0 hw [] a u h0 n0 Z0 E F g) hZ (hw _ (List.mem_of_getElem? (i := 29) rfl)) (hw _ (List.mem_of_getElem? (i := 28) rfl)) (by decide) (by decide)) (g := (mkF m 1 #[.val (.ref a)] [(.ref a)])) rfl (by rw [hml]; rfl) (Steps.refl _) (a := a) (argsL := []) (rest := []) (lenOf pd___V rfl) rfl (by show 2 * 0 + _ ≤ _; exact Nat.le_of_eq rfl) (hb hby d4_1) (fun _ _ => ⟨rfl, e0, (by decide : 0 + 0 ≤ _), (by decide : 0 + 0 ≤ _)⟩)
  dsimp only [Pt.U, Pt.locs, Pt.cells, Pt.slots] at X1 l1 y1 z1 st1 hQ1
  subst l1 y1 z1
  obtain ⟨rfl, N1q, W1⟩ := hQ1
  have N1 := Fr.app N0 N1q
  have sz1 := W1.size
  have Fw1 := F.same W1
  refine go_tr (B := (T1.setTop (mkF m 4 #[.val (.ref a)] []))) (st1) ?_
  refine go_of (B := (T1.setTop (mkF m 5 #[.val (.ref a)] [(.ref a)]))) (fun _ kk => XS.aloadN X1.here hx rfl (hb hby d4_4) rfl rfl kk) ?_
  have cf_2 := (O.wr W1 (by first | omega | exact own_ne (by omega) | exact own_le (by omega)))
  obtain ⟨T3, X3, e3, st3⟩ := getS2 X1 hx hZ hown (host := "") (Or.inl (hw _ (List.mem_of_getElem? (i := 39) rfl))) Via.refl rfl (S.ext cf_2.2) (g := (mkF m 5 #[.val (.ref a)] [(.ref a)])) rfl (hb hby d4_5)
  refine go_of (B := (T3.setTop (mkF m 8 #[.val (.ref a)] [(.ref wD), (.ref a)]))) (st3) ?_
  have cf_4 := (E.wr W1)
  have cf_5 := (Fd.other W1 (Or.inr (slot_ne (Or.inl (hw _ (List.mem_of_getElem? (i := 41) rfl))) (Or.inl (hw _ (List.mem_of_getElem? (i := 38) rfl))) (by decide) (t := (.array (.object "java/lang/Object"))) (t' := .int) (by decide) (by decide))))
  obtain ⟨T6, h6, X6, e6, W6, st6⟩ := putF X3 hx hZ hown (host := "") (Or.inl (hw _ (List.mem_of_getElem? (i := 40) rfl))) Via.refl e3 cf_5 cf_4 (Or.inl (hw _ (List.mem_of_getElem? (i := 41) rfl))) (hw _ (List.mem_of_getElem? (i := 19) rfl)) (ty := (.array (.object "java/lang/Object"))) (by decide) rfl rfl (g := (mkF m 8 #[.val (.ref a)] [(.ref wD), (.ref a)])) rfl rfl (hb hby d4_8)
  have sz6 := W6.size
  have Fw6 := cf_5.same W6
  have N6 := Fr.snoc X6 N1 (g : n0 ≤ a)
  refine go_of (B := (T6.setTop (mkF m 11 #[.val (.ref a)] []))) (st6) ?_
  have cf_7 := (cf_4.wr W6)
  have cf_8 := (Fw1.other W6 (Or.inr (slot_ne (Or.inl (hw _ (List.mem_of_getElem? (i := 38) rfl))) (Or.inl (hw _ (List.mem_of_getElem? (i := 41) rfl))) (by decide) (t := .int) (t' := (.array (.object "java/lang/Object"))) (by decide) (by decide))))
  have cf_9 := ((Fs.other W1 (Or.inr (slot_ne (Or.inl (hw _ (List.mem_of_getElem? (i := 62) rfl))) (Or.inl (hw _ (List.mem_of_getElem? (i := 38) rfl))) (by decide) (t := .int) (t' := .int) (by decide) (by decide)))).other W6 (Or.inr (slot_ne (Or.inl (hw _ (List.mem_of_getElem? (i := 62) rfl))) (Or.inl (hw _ (List.mem_of_getElem? (i := 41) rfl))) (by decide) (t := .int) (t' := (.array (.object "java/lang/Object"))) (by decide) (by decide))))
  refine go_end X6 (v := none) (fun _ => rfl) Bd.notSynchronized (by decide) (by decide) (Q := (Q_rm4 Z a u u2 wD h0 n0)) ?_ (fun fs hr => X6.returnOut hx Bd.returns (hb hby d4_11) hr)
  show (fun (v : Option Value) (h : Heap) (L : List Loc) => v = none ∧ Fr n0 L ∧ Keep h0 h [a] ∧ AL Z h a 0 wD 0) (none) T6.heap _
  rw [e6]
  exact ⟨rfl, N6, (((Keep.refl h0 [a]).wr W1 (Or.inl (List.mem_of_getElem? (i := 0) rfl))).wr W6 (Or.inl (List.mem_of_getElem? (i := 0) rfl))), ⟨cf_7, cf_8, Fw6, cf_9⟩⟩
def own_max (x y : Int32) : Int32 := if x < y then y else x
theorem d12_0 : decode jdk_29_method_65_code 0 = .ok (.iload_n 0, 1) := by decide +kernel
theorem d12_1 : decode jdk_29_method_65_code 1 = .ok (.iload_n 1, 1) := by decide +kernel
theorem d12_2 : decode jdk_29_method_65_code 2 = .ok (.if_icmp .lt 7, 3) := by decide +kernel
theorem d12_9 : decode jdk_29_method_65_code 9 = .ok (.iload_n 1, 1) := by decide +kernel
theorem d12_10 : decode jdk_29_method_65_code 10 = .ok (.ireturn, 1) := by decide +kernel
def Q_rm12 (Z : State) (x : Int32) (y : Int32) (r : Int32) (h0 : Heap) (n0 : Nat) (v : Option Value) (h : Heap) (L : List Loc) : Prop := v = some (.int r) ∧ Fr n0 L ∧ h = h0
theorem d12_5 : decode jdk_29_method_65_code 5 = .ok (.iload_n 0, 1) := by decide +kernel
theorem d12_6 : decode jdk_29_method_65_code 6 = .ok (.goto 4, 3) := by decide +kernel
theorem ef_rm12 (m : MethodId) (x : Int32) (y : Int32)  : entryFrame m #[(.int x), (.int y)] 2 = mkF m 0 #[.val (.int x), .val (.int y)] [] := by first | (simp [entryFrame, mkF, argsToLocals, Value.category]; done) | rfl
set_option maxRecDepth 65536 in
set_option maxHeartbeats 40000000 in
theorem rm12 (l : Launch) (Z : State) (a0 : Array Value) (hw : ∀ d ∈ tables_1, d.before a0 Z = true) (ws : List Jvm.Cond) (x : Int32) (y : Int32) (r : Int32) (h0 : Heap) (n0 : Nat) (Z0 : n0 ≤ h0.size) (hr : own_max x y = r) :
    MetFree l (⟨"java/lang/Math", "max", "(II)I"⟩ : MethodName) (head1 (Jvm.Cond.code (⟨"java/lang/Math", "max", "(II)I"⟩ : MethodName) jdk_29_method_65_code 2 (some .int) :: ws) ({ frames := 0, cells := 0, slots := 0, locals := 0 } : Room)) (fun aa' U1' => aa' = #[(.int x), (.int y)] ∧ Z.Warmed39 U1'.vm ∧ U1'.heap = h0) (fun _ _ _ _ _ => True) (fun _ U1' oo' U2' => ∃ vv' LL', oo' = .returned vv' ∧ (Q_rm12 Z x y r h0 n0) vv' U2'.heap LL' ∧ FrameEnd U1' oo' U2' LL' ({ frames := 0, cells := 0, slots := 0, locals := 0 } : Room).cells ({ frames := 0, cells := 0, slots := 0, locals := 0 } : Room).slots) := by
  refine MetFree.of_bodySF (Jvm.Free.JP.mathPlain rfl (by decide +kernel)) hisR ?_
  intro p e s m args below meth c s₁ Bd hml0 hP hK
  obtain ⟨rfl, hZ, hh⟩ := hP
  have hx := Bd.exec
  have hby := Bd.bytes
  have hml : c.maxLocals = 2 := hml0
  have hown : s.vm.findClass "java/lang/Math" = some m.cls := findClass_of_methodNamed Bd.named
  have hnm := (name_of_methodNamed Bd.named Bd.method).1
  have X0 : Stand p l e ({ frames := 0, cells := 0, slots := 0, locals := 0 } : Room) s m #[(.int x), (.int y)] below meth c s₁ [] 0 0 := Stand.of_body Bd
  have e0 : s₁.heap = h0 := by rw [← hh, Bd.state]; rfl
  have N0 := Fr.nil n0
  refine go_of (A := s₁.setTop (entryFrame m #[(.int x), (.int y)] 2)) (B := s₁.setTop (mkF m 0 #[.val (.int x), .val (.int y)] [])) (fun _ kk' => castTop (ef_rm12 m x y) kk') ?_
  refine go_of (B := (s₁.setTop (mkF m 1 #[.val (.int x), .val (.int y)] [(.int x)]))) (fun _ kk => XS.iloadN X0.here hx rfl (hb hby d12_0) rfl kk) ?_
  refine go_of (B := (s₁.setTop (mkF m 2 #[.val (.int x), .val (.int y)] [(.int y), (.int x)]))) (fun _ kk => XS.iloadN X0.here hx rfl (hb hby d12_1) rfl kk) ?_
  by_cases hc1 : x < y
  · refine go_of (B := (s₁.setTop (mkF m 9 #[.val (.int x), .val (.int y)] []))) (fun _ kk => XS.icmpYes X0.here hx rfl (pc0 := 2) (pc' := 9) rfl (hb hby d12_2) rfl (tlt hc1).1 (by decide) (by decide) kk) ?_
    refine go_of (B := (s₁.setTop (mkF m 10 #[.val (.int x), .val (.int y)] [(.int y)]))) (fun _ kk => XS.iloadN X0.here hx rfl (hb hby d12_9) rfl kk) ?_
    refine go_end X0 (v := some (.int y)) (fun h => by rw [Bd.returns] at h; cases h) Bd.notSynchronized (by decide) (by decide) (Q := (Q_rm12 Z x y r h0 n0)) ?_ (fun fs hr => own_retI X0 hx Bd.returns (hb hby d12_10) hr)
    show (fun (v : Option Value) (h : Heap) (L : List Loc) => v = some (.int r) ∧ Fr n0 L ∧ h = h0) (some (.int y)) s₁.heap _
    rw [e0]
    refine ⟨?_, N0, rfl⟩
    rw [← hr]; simp [own_max, hc1]
  · refine go_of (B := (s₁.setTop (mkF m 5 #[.val (.int x), .val (.int y)] []))) (fun _ kk => XS.icmpNo X0.here hx rfl (hb hby d12_2) rfl (flt hc1).1 kk) ?_
    refine go_of (B := (s₁.setTop (mkF m 6 #[.val (.int x), .val (.int y)] [(.int x)]))) (fun _ kk => XS.iloadN X0.here hx rfl (hb hby d12_5) rfl kk) ?_
    refine go_of (B := (s₁.setTop (mkF m 10 #[.val (.int x), .val (.int y)] [(.int x)]))) (fun _ kk => XS.goto X0.here hx rfl (pc0 := 6) (pc' := 10) rfl (hb hby d12_6) (by decide) (by decide) kk) ?_
    refine go_end X0 (v := some (.int x)) (fun h => by rw [Bd.returns] at h; cases h) Bd.notSynchronized (by decide) (by decide) (Q := (Q_rm12 Z x y r h0 n0)) ?_ (fun fs hr => own_retI X0 hx Bd.returns (hb hby d12_10) hr)
    show (fun (v : Option Value) (h : Heap) (L : List Loc) => v = some (.int r) ∧ Fr n0 L ∧ h = h0) (some (.int x)) s₁.heap _
    rw [e0]
    refine ⟨?_, N0, rfl⟩
    rw [← hr]; simp [own_max, hc1]
theorem d11_0 : decode jdk_38_method_6_code 0 = .ok (.aload_n 0, 1) := by decide +kernel
theorem d11_1 : decode jdk_38_method_6_code 1 = .ok (.getfield 9, 3) := by decide +kernel
theorem d11_4 : decode jdk_38_method_6_code 4 = .ok (.arraylength, 1) := by decide +kernel
theorem d11_5 : decode jdk_38_method_6_code 5 = .ok (.istore_n 2, 1) := by decide +kernel
theorem d11_6 : decode jdk_38_method_6_code 6 = .ok (.iload_n 2, 1) := by decide +kernel
theorem d11_7 : decode jdk_38_method_6_code 7 = .ok (.ifCond .gt 13, 3) := by decide +kernel
theorem d11_10 : decode jdk_38_method_6_code 10 = .ok (.aload_n 0, 1) := by decide +kernel
theorem d11_11 : decode jdk_38_method_6_code 11 = .ok (.getfield 9, 3) := by decide +kernel
theorem d11_14 : decode jdk_38_method_6_code 14 = .ok (.getstatic 39, 3) := by decide +kernel
theorem d11_17 : decode jdk_38_method_6_code 17 = .ok (.if_acmp .eq 28, 3) := by decide +kernel
theorem d11_45 : decode jdk_38_method_6_code 45 = .ok (.aload_n 0, 1) := by decide +kernel
theorem d11_46 : decode jdk_38_method_6_code 46 = .ok (.bipush 10, 2) := by decide +kernel
theorem d11_48 : decode jdk_38_method_6_code 48 = .ok (.iload_n 1, 1) := by decide +kernel
theorem d11_49 : decode jdk_38_method_6_code 49 = .ok (.invokestatic 79, 3) := by decide +kernel
theorem pd__II_I : parseMethodDescriptor "(II)I" = some ⟨[.int, .int], some .int⟩ := by decide +kernel
theorem d11_52 : decode jdk_38_method_6_code 52 = .ok (.anewarray 7, 3) := by decide +kernel
theorem d11_55 : decode jdk_38_method_6_code 55 = .ok (.dup_x1, 1) := by decide +kernel
theorem d11_56 : decode jdk_38_method_6_code 56 = .ok (.putfield 9, 3) := by decide +kernel
theorem d11_59 : decode jdk_38_method_6_code 59 = .ok (.areturn, 1) := by decide +kernel
def Q_rm11 (Z : State) (a : Addr) (mc : Int32) (wD : Addr) (kD : ClassId) (h0 : Heap) (n0 : Nat) (v : Option Value) (h : Heap) (L : List Loc) : Prop := ∃ (b : Addr) (k : ClassId), v = some (.ref b) ∧ Fr n0 L ∧ h0.size ≤ b ∧ Keep h0 h [a] ∧ AL Z h a mc b 0 ∧ Arv Z h b k (.object "java/lang/Object") 10 [.null, .null, .null, .null, .null, .null, .null, .null, .null, .null] .null ∧ Ovr Z k "java/lang/Object"
theorem ef_rm11 (m : MethodId) (a : Addr)  : entryFrame m #[(.ref a), (.int (1 : Int32))] 4 = mkF m 0 #[.val (.ref a), .val (.int (1 : Int32)), .unset, .unset] [] := by first | (simp [entryFrame, mkF, argsToLocals, Value.category]; done) | rfl
set_option maxRecDepth 65536 in
set_option maxHeartbeats 40000000 in
theorem rm11 (l : Launch) (Z : State) (a0 : Array Value) (hw : ∀ d ∈ tables_1, d.before a0 Z = true) (ws : List Jvm.Cond) (a : Addr) (mc : Int32) (wD : Addr) (kD : ClassId) (h0 : Heap) (n0 : Nat) (Z0 : n0 ≤ h0.size) (A : AL Z h0 a mc wD 0) (g : n0 ≤ a) (O : Old Z n0 h0) (S : Sta Z Z.heap "java/util/ArrayList" "DEFAULTCAPACITY_EMPTY_ELEMENTDATA" "[Ljava/lang/Object;" (.ref wD)) (VD : Arv Z h0 wD kD (.object "java/lang/Object") 0 [] .null) (D0 : wD < n0) :
    MetFree l (⟨"java/util/ArrayList", "grow", "(I)[Ljava/lang/Object;"⟩ : MethodName) (head1 (Jvm.Cond.code (⟨"java/util/ArrayList", "grow", "(I)[Ljava/lang/Object;"⟩ : MethodName) jdk_38_method_6_code 4 (some (.array (.object "java/lang/Object"))) :: ws) ({ frames := 1, cells := 1, slots := 10, locals := 14 } : Room)) (fun aa' U1' => aa' = #[(.ref a), (.int (1 : Int32))] ∧ Z.Warmed39 U1'.vm ∧ U1'.heap = h0) (fun _ _ _ _ _ => True) (fun _ U1' oo' U2' => ∃ vv' LL', oo' = .returned vv' ∧ (Q_rm11 Z a mc wD kD h0 n0) vv' U2'.heap LL' ∧ FrameEnd U1' oo' U2' LL' ({ frames := 1, cells := 1, slots := 10, locals := 14 } : Room).cells ({ frames := 1, cells := 1, slots := 10, locals := 14 } : Room).slots) := by
  refine MetFree.of_bodySF (plainFor_of_name pn_java_util_ArrayList) hisR ?_
  intro p e s m args below meth c s₁ Bd hml0 hP hK
  obtain ⟨rfl, hZ, hh⟩ := hP
  have hx := Bd.exec
  have hby := Bd.bytes
  have hml : c.maxLocals = 4 := hml0
  have hown : s.vm.findClass "java/util/ArrayList" = some m.cls := findClass_of_methodNamed Bd.named
  have hnm := (name_of_methodNamed Bd.named Bd.method).1
  have X0 : Stand p l e ({ frames := 1, cells := 1, slots := 10, locals := 14 } : Room) s m #[(.ref a), (.int (1 : Int32))] below meth c s₁ [] 0 0 := Stand.of_body Bd
  have e0 : s₁.heap = h0 := by rw [← hh, Bd.state]; rfl
  have N0 := Fr.nil n0
  have lta := own_nlt (A.1.lt)
  have ltD := own_nlt (VD.lt)
  have D0' := own_nlt D0
  refine go_of (A := s₁.setTop (entryFrame m #[(.ref a), (.int (1 : Int32))] 4)) (B := s₁.setTop (mkF m 0 #[.val (.ref a), .val (.int (1 : Int32)), .unset, .unset] [])) (fun _ kk' => castTop (ef_rm11 m a) kk') ?_
  refine go_of (B := (s₁.setTop (mkF m 1 #[.val (.ref a), .val (.int (1 : Int32)), .unset, .unset] [(.ref a)]))) (fun _ kk => XS.aloadN X0.here hx rfl (hb hby d11_0) rfl rfl kk) ?_
  obtain ⟨T1, X1, e1, st1⟩ := getF X0 hx hZ hown (host := "") (Or.inl (hw _ (List.mem_of_getElem? (i := 40) rfl))) Via.refl e0 A.2.2.1 (g := (mkF m 1 #[.val (.ref a), .val (.int (1 : Int32)), .unset, .unset] [(.ref a)])) rfl rfl (hb hby d11_1)
  refine go_of (B := (T1.setTop (mkF m 4 #[.val (.ref a), .val (.int (1 : Int32)), .unset, .unset] [(.ref wD)]))) (st1) ?_
  obtain ⟨cl2, Ar2, q2, Sz2, Nn2, Hh2, G2⟩ := id (VD)
  have ln2 := len_of Sz2 Nn2
  refine go_of (B := (T1.setTop (mkF m 5 #[.val (.ref a), .val (.int (1 : Int32)), .unset, .unset] [(.int (0 : Int32))]))) (fun _ kk => X1.arraylength hx (by rw [e1]; exact Ar2.1) (State.isArrayOf_alike hZ.alike Ar2.2.1) (g := (mkF m 4 #[.val (.ref a), .val (.int (1 : Int32)), .unset, .unset] [(.ref wD)])) rfl rfl (hb hby d11_4) _ (by rw [ln2]; exact kk)) ?_
  refine go_of (B := (T1.setTop (mkF m 6 #[.val (.ref a), .val (.int (1 : Int32)), .val (.int (0 : Int32)), .unset] []))) (fun _ kk => XS.istoreN X1.here hx rfl (hb hby d11_5) rfl rfl kk) ?_
  refine go_of (B := (T1.setTop (mkF m 7 #[.val (.ref a), .val (.int (1 : Int32)), .val (.int (0 : Int32)), .unset] [(.int (0 : Int32))]))) (fun _ kk => XS.iloadN X1.here hx rfl (hb hby d11_6) rfl kk) ?_
  refine go_of (B := (T1.setTop (mkF m 10 #[.val (.ref a), .val (.int (1 : Int32)), .val (.int (0 : Int32)), .unset] []))) (fun _ kk => XS.ifNo X1.here hx rfl (hb hby d11_7) rfl ((if0 _ _).trans (flt (by decide : ¬ ((0 : Int32) < (0 : Int32)))).2.2.1) kk) ?_
  refine go_of (B := (T1.setTop (mkF m 11 #[.val (.ref a), .val (.int (1 : Int32)), .val (.int (0 : Int32)), .unset] [(.ref a)]))) (fun _ kk => XS.aloadN X1.here hx rfl (hb hby d11_10) rfl rfl kk) ?_
  obtain ⟨T3, X3, e3, st3⟩ := getF X1 hx hZ hown (host := "") (Or.inl (hw _ (List.mem_of_getElem? (i := 40) rfl))) Via.refl e1 A.2.2.1 (g := (mkF m 11 #[.val (.ref a), .val (.int (1 : Int32)), .val (.int (0 : Int32)), .unset] [(.ref a)])) rfl rfl (hb hby d11_11)
  refine go_of (B := (T3.setTop (mkF m 14 #[.val (.ref a), .val (.int (1 : Int32)), .val (.int (0 : Int32)), .unset] [(.ref wD)]))) (st3) ?_
  obtain ⟨T4, X4, e4, st4⟩ := getS2 X3 hx hZ hown (host := "") (Or.inl (hw _ (List.mem_of_getElem? (i := 39) rfl))) Via.refl e3 (S.ext O.2) (g := (mkF m 14 #[.val (.ref a), .val (.int (1 : Int32)), .val (.int (0 : Int32)), .unset] [(.ref wD)])) rfl (hb hby d11_14)
  refine go_of (B := (T4.setTop (mkF m 17 #[.val (.ref a), .val (.int (1 : Int32)), .val (.int (0 : Int32)), .unset] [(.ref wD), (.ref wD)]))) (st4) ?_
  refine go_of (B := (T4.setTop (mkF m 45 #[.val (.ref a), .val (.int (1 : Int32)), .val (.int (0 : Int32)), .unset] []))) (fun _ kk => Jvm.RoadKit.acmp (g := (mkF m 17 #[.val (.ref a), .val (.int (1 : Int32)), .val (.int (0 : Int32)), .unset] [(.ref wD), (.ref wD)])) X4 hx rfl rfl rfl (pc0 := 17) (pc' := 45) (same := true) rfl (hb hby d11_17) rfl (decide_eq_true rfl) (by decide) (by decide) kk) ?_
  refine go_of (B := (T4.setTop (mkF m 46 #[.val (.ref a), .val (.int (1 : Int32)), .val (.int (0 : Int32)), .unset] [(.ref a)]))) (fun _ kk => XS.aloadN X4.here hx rfl (hb hby d11_45) rfl rfl kk) ?_
  refine go_of (B := (T4.setTop (mkF m 48 #[.val (.ref a), .val (.int (1 : Int32)), .val (.int (0 : Int32)), .unset] [(.int (10 : Int32)), (.ref a)]))) (fun _ kk => XS.bipush X4.here hx rfl (hb hby d11_46) kk) ?_
  refine go_of (B := (T4.setTop (mkF m 49 #[.val (.ref a), .val (.int (1 : Int32)), .val (.int (0 : Int32)), .unset] [(.int (1 : Int32)), (.int (10 : Int32)), (.ref a)]))) (fun _ kk => XS.iloadN X4.here hx rfl (hb hby d11_48) rfl kk) ?_
  obtain ⟨_, _, ⟨T5, L5, k5, n5⟩, -, X5, ⟨Lc5, hQ5, l5, y5, z5⟩, st5⟩ := Jvm.LawKit.callS X4 hx (y := (⟨"java/lang/Math", "max", "(II)I"⟩ : MethodName)) hown (mvT hZ (hw _ (List.mem_of_getElem? (i := 78) rfl))) (mvT hZ (hw _ (List.mem_of_getElem? (i := 79) rfl))) (mvT hZ (hw _ (List.mem_of_getElem? (i := 80) rfl))) (mvT hZ (hw _ (List.mem_of_getElem? (i := 81) rfl))) (by decide) (backOf (W := 1) (rm12 l Z a0 hw [] (10 : Int32) (1 : Int32) (10 : Int32) h0 n0 (by first | omega | exact own_ne (by omega) | exact own_le (by omega)) (by decide)) hZ (hw _ (List.mem_of_getElem? (i := 81) rfl)) (hw _ (List.mem_of_getElem? (i := 80) rfl)) (by decide) (by decide)) (g := (mkF m 49 #[.val (.ref a), .val (.int (1 : Int32)), .val (.int (0 : Int32)), .unset] [(.int (1 : Int32)), (.int (10 : Int32)), (.ref a)])) rfl (by rw [hml]; rfl) (argsL := [(.int (10 : Int32)), (.int (1 : Int32))]) (rest := [(.ref a)]) (lenOf pd__II_I rfl) rfl (by show 2 * 0 + _ ≤ _; exact Nat.le_of_eq rfl) (hb hby d11_49) (fun _ _ => ⟨rfl, e4, (by decide : 0 + 0 ≤ _), (by decide : 0 + 0 ≤ _)⟩)
  dsimp only [Pt.U, Pt.locs, Pt.cells, Pt.slots] at X5 l5 y5 z5 st5 hQ5
  subst l5 y5 z5
  obtain ⟨rfl, N5q, e5⟩ := hQ5
  have N5 := Fr.app N0 N5q
  refine go_of (B := (T5.setTop (mkF m 52 #[.val (.ref a), .val (.int (1 : Int32)), .val (.int (0 : Int32)), .unset] [(.int (10 : Int32)), (.ref a)]))) (st5) ?_
  obtain ⟨T6, h6, k6, X6, e6, E6, A6, O6, st6⟩ := newR X5 hx hZ hown (hw _ (List.mem_of_getElem? (i := 82) rfl)) (hw _ (List.mem_of_getElem? (i := 83) rfl)) e5 (g := (mkF m 52 #[.val (.ref a), .val (.int (1 : Int32)), .val (.int (0 : Int32)), .unset] [(.int (10 : Int32)), (.ref a)])) rfl (hb hby d11_52) rfl (by decide) (cap := 10) (by decide) (by decide) (by decide) (by decide)
  obtain ⟨b6, g6⟩ : ∃ z, z = h0.size := ⟨_, rfl⟩
  rw [← g6] at A6 st6
  have hi6 := own_nlt A6.lt
  have sz6 := E6.1
  have V6 : Arv Z h6 b6 k6 (.object "java/lang/Object") (10 : Int32) [.null, .null, .null, .null, .null, .null, .null, .null, .null, .null] .null := (Arv.new A6 (by decide)).pad (pad_rep [] .null 10)
  refine go_of (B := (T6.setTop (mkF m 55 #[.val (.ref a), .val (.int (1 : Int32)), .val (.int (0 : Int32)), .unset] [(.ref b6), (.ref a)]))) (st6) ?_
  refine go_of (B := (T6.setTop (mkF m 56 #[.val (.ref a), .val (.int (1 : Int32)), .val (.int (0 : Int32)), .unset] [(.ref b6), (.ref a), (.ref b6)]))) (fun _ kk => XS.dupX1 X6.here hx rfl (hb hby d11_55) rfl rfl rfl kk) ?_
  have cf_7 := (A.1.ext E6)
  have cf_8 := (A.2.2.1.ext E6)
  obtain ⟨T9, h9, X9, e9, W9, st9⟩ := putF X6 hx hZ hown (host := "") (Or.inl (hw _ (List.mem_of_getElem? (i := 40) rfl))) Via.refl e6 cf_8 cf_7 (Or.inl (hw _ (List.mem_of_getElem? (i := 41) rfl))) (hw _ (List.mem_of_getElem? (i := 19) rfl)) (ty := (.array (.object "java/lang/Object"))) (by decide) rfl rfl (g := (mkF m 56 #[.val (.ref a), .val (.int (1 : Int32)), .val (.int (0 : Int32)), .unset] [(.ref b6), (.ref a), (.ref b6)])) rfl rfl (hb hby d11_56)
  have sz9 := W9.size
  have Fw9 := cf_8.same W9
  have N9 := Fr.snoc X9 N5 (g : n0 ≤ a)
  refine go_of (B := (T9.setTop (mkF m 59 #[.val (.ref a), .val (.int (1 : Int32)), .val (.int (0 : Int32)), .unset] [(.ref b6)]))) (st9) ?_
  have cf_10 := (V6.other W9 (by first | omega | exact own_ne (by omega) | exact own_le (by omega)))
  have cf_11 := (cf_7.wr W9)
  have cf_12 := ((A.2.1.ext E6).other W9 (Or.inr (slot_ne (Or.inl (hw _ (List.mem_of_getElem? (i := 38) rfl))) (Or.inl (hw _ (List.mem_of_getElem? (i := 41) rfl))) (by decide) (t := .int) (t' := (.array (.object "java/lang/Object"))) (by decide) (by decide))))
  have cf_13 := ((A.2.2.2.ext E6).other W9 (Or.inr (slot_ne (Or.inl (hw _ (List.mem_of_getElem? (i := 62) rfl))) (Or.inl (hw _ (List.mem_of_getElem? (i := 41) rfl))) (by decide) (t := .int) (t' := (.array (.object "java/lang/Object"))) (by decide) (by decide))))
  refine go_end X9 (v := some (.ref b6)) (fun h => by rw [Bd.returns] at h; cases h) Bd.notSynchronized (by decide) (by decide) (Q := (Q_rm11 Z a mc wD kD h0 n0)) ?_ (fun fs hr => own_retA X9 hx Bd.returns rfl rfl (hb hby d11_59) hr)
  show (fun (v : Option Value) (h : Heap) (L : List Loc) => ∃ (b : Addr) (k : ClassId), v = some (.ref b) ∧ Fr n0 L ∧ h0.size ≤ b ∧ Keep h0 h [a] ∧ AL Z h a mc b 0 ∧ Arv Z h b k (.object "java/lang/Object") 10 [.null, .null, .null, .null, .null, .null, .null, .null, .null, .null] .null ∧ Ovr Z k "java/lang/Object") (some (.ref b6)) T9.heap _
  rw [e9]
  exact ⟨b6, k6, rfl, N9, by omega, (((Keep.refl h0 [a]).ext E6).wr W9 (Or.inl (List.mem_of_getElem? (i := 0) rfl))), ⟨cf_11, cf_12, Fw9, cf_13⟩, cf_10, O6⟩
theorem d10_0 : decode jdk_38_method_7_code 0 = .ok (.aload_n 0, 1) := by decide +kernel
theorem d10_1 : decode jdk_38_method_7_code 1 = .ok (.aload_n 0, 1) := by decide +kernel
theorem d10_2 : decode jdk_38_method_7_code 2 = .ok (.getfield 48, 3) := by decide +kernel
theorem d10_5 : decode jdk_38_method_7_code 5 = .ok (.iconst 1, 1) := by decide +kernel
theorem d10_6 : decode jdk_38_method_7_code 6 = .ok (.iadd, 1) := by decide +kernel
theorem d10_7 : decode jdk_38_method_7_code 7 = .ok (.invokevirtual 69, 3) := by decide +kernel
theorem pd__I__Ljava_lang_Object_ : parseMethodDescriptor "(I)[Ljava/lang/Object;" = some ⟨[.int], some (.array (.object "java/lang/Object"))⟩ := by decide +kernel
theorem d10_10 : decode jdk_38_method_7_code 10 = .ok (.areturn, 1) := by decide +kernel
def Q_rm10 (Z : State) (a : Addr) (mc : Int32) (wD : Addr) (kD : ClassId) (h0 : Heap) (n0 : Nat) (v : Option Value) (h : Heap) (L : List Loc) : Prop := ∃ (b : Addr) (k : ClassId), v = some (.ref b) ∧ Fr n0 L ∧ h0.size ≤ b ∧ Keep h0 h [a] ∧ AL Z h a mc b 0 ∧ Arv Z h b k (.object "java/lang/Object") 10 [.null, .null, .null, .null, .null, .null, .null, .null, .null, .null] .null ∧ Ovr Z k "java/lang/Object"
theorem ef_rm10 (m : MethodId) (a : Addr)  : entryFrame m #[(.ref a)] 1 = mkF m 0 #[.val (.ref a)] [] := by first | (simp [entryFrame, mkF, argsToLocals, Value.category]; done) | rfl
set_option maxRecDepth 65536 in
set_option maxHeartbeats 40000000 in
theorem rm10 (l : Launch) (Z : State) (a0 : Array Value) (hw : ∀ d ∈ tables_1, d.before a0 Z = true) (ws : List Jvm.Cond) (a : Addr) (mc : Int32) (wD : Addr) (kD : ClassId) (h0 : Heap) (n0 : Nat) (Z0 : n0 ≤ h0.size) (A : AL Z h0 a mc wD 0) (g : n0 ≤ a) (O : Old Z n0 h0) (S : Sta Z Z.heap "java/util/ArrayList" "DEFAULTCAPACITY_EMPTY_ELEMENTDATA" "[Ljava/lang/Object;" (.ref wD)) (VD : Arv Z h0 wD kD (.object "java/lang/Object") 0 [] .null) (D0 : wD < n0) :
    MetFree l (⟨"java/util/ArrayList", "grow", "()[Ljava/lang/Object;"⟩ : MethodName) (head1 (Jvm.Cond.code (⟨"java/util/ArrayList", "grow", "()[Ljava/lang/Object;"⟩ : MethodName) jdk_38_method_7_code 1 (some (.array (.object "java/lang/Object"))) :: ws) ({ frames := 2, cells := 1, slots := 10, locals := 29 } : Room)) (fun aa' U1' => aa' = #[(.ref a)] ∧ Z.Warmed39 U1'.vm ∧ U1'.heap = h0) (fun _ _ _ _ _ => True) (fun _ U1' oo' U2' => ∃ vv' LL', oo' = .returned vv' ∧ (Q_rm10 Z a mc wD kD h0 n0) vv' U2'.heap LL' ∧ FrameEnd U1' oo' U2' LL' ({ frames := 2, cells := 1, slots := 10, locals := 29 } : Room).cells ({ frames := 2, cells := 1, slots := 10, locals := 29 } : Room).slots) := by
  refine MetFree.of_bodySF (plainFor_of_name pn_java_util_ArrayList) hisR ?_
  intro p e s m args below meth c s₁ Bd hml0 hP hK
  obtain ⟨rfl, hZ, hh⟩ := hP
  have hx := Bd.exec
  have hby := Bd.bytes
  have hml : c.maxLocals = 1 := hml0
  have hown : s.vm.findClass "java/util/ArrayList" = some m.cls := findClass_of_methodNamed Bd.named
  have hnm := (name_of_methodNamed Bd.named Bd.method).1
  have X0 : Stand p l e ({ frames := 2, cells := 1, slots := 10, locals := 29 } : Room) s m #[(.ref a)] below meth c s₁ [] 0 0 := Stand.of_body Bd
  have e0 : s₁.heap = h0 := by rw [← hh, Bd.state]; rfl
  have N0 := Fr.nil n0
  refine go_of (A := s₁.setTop (entryFrame m #[(.ref a)] 1)) (B := s₁.setTop (mkF m 0 #[.val (.ref a)] [])) (fun _ kk' => castTop (ef_rm10 m a) kk') ?_
  refine go_of (B := (s₁.setTop (mkF m 1 #[.val (.ref a)] [(.ref a)]))) (fun _ kk => XS.aloadN X0.here hx rfl (hb hby d10_0) rfl rfl kk) ?_
  refine go_of (B := (s₁.setTop (mkF m 2 #[.val (.ref a)] [(.ref a), (.ref a)]))) (fun _ kk => XS.aloadN X0.here hx rfl (hb hby d10_1) rfl rfl kk) ?_
  obtain ⟨T1, X1, e1, st1⟩ := getF X0 hx hZ hown (host := "") (Or.inl (hw _ (List.mem_of_getElem? (i := 61) rfl))) Via.refl e0 A.2.2.2 (g := (mkF m 2 #[.val (.ref a)] [(.ref a), (.ref a)])) rfl rfl (hb hby d10_2)
  refine go_of (B := (T1.setTop (mkF m 5 #[.val (.ref a)] [(.int (0 : Int32)), (.ref a)]))) (st1) ?_
  refine go_of (B := (T1.setTop (mkF m 6 #[.val (.ref a)] [(.int (1 : Int32)), (.int (0 : Int32)), (.ref a)]))) (fun _ kk => XS.iconst X1.here hx rfl (hb hby d10_5) kk) ?_
  refine go_of (B := (T1.setTop (mkF m 7 #[.val (.ref a)] [(.int (1 : Int32)), (.ref a)]))) (fun _ kk => XS.iadd X1.here hx rfl (hb hby d10_6) rfl kk) ?_
  obtain ⟨cq2, q2, q2'⟩ := A.1.cell
  obtain ⟨_, _, ⟨T2, L2, k2, n2⟩, -, X2, ⟨Lc2, hQ2, l2, y2, z2⟩, st2⟩ := X1.privateBack hx (y := (⟨"java/util/ArrayList", "grow", "(I)[Ljava/lang/Object;"⟩ : MethodName)) hown (mvT hZ (hw _ (List.mem_of_getElem? (i := 73) rfl))) (mvT hZ (hw _ (List.mem_of_getElem? (i := 74) rfl))) (mvT hZ (hw _ (List.mem_of_getElem? (i := 76) rfl))) (Cond.privateMethod_at (mvP hZ (hw _ (List.mem_of_getElem? (i := 75) rfl)) (args := #[]))) (mvT hZ (hw _ (List.mem_of_getElem? (i := 77) rfl))) (by decide) (backOf (W := 0) (rm11 l Z a0 hw [] a mc wD kD h0 n0 Z0 A g O S VD D0) hZ (hw _ (List.mem_of_getElem? (i := 77) rfl)) (hw _ (List.mem_of_getElem? (i := 20) rfl)) (by decide) (by decide)) (g := (mkF m 7 #[.val (.ref a)] [(.int (1 : Int32)), (.ref a)])) rfl (by rw [hml]; rfl) (Steps.refl _) (a := a) (by rw [e1]; exact q2) q2' (argsL := [(.int (1 : Int32))]) (rest := []) (lenOf pd__I__Ljava_lang_Object_ rfl) rfl (by show 2 * 0 + _ ≤ _; exact Nat.le_of_eq rfl) (hb hby d10_7) (fun _ _ => ⟨rfl, e1, (by decide : 0 + 1 ≤ _), (by decide : 0 + 10 ≤ _)⟩)
  dsimp only [Pt.U, Pt.locs, Pt.cells, Pt.slots] at X2 l2 y2 z2 st2 hQ2
  subst l2 y2 z2
  obtain ⟨b2, k2, rfl, N2q, lo2, K2, A2, V2, O2⟩ := hQ2
  have lo2 := own_nle lo2
  have N2 := Fr.app N0 N2q
  have hi2 := own_nlt (V2.lt)
  have sz2 := K2.1
  refine go_tr (B := (T2.setTop (mkF m 10 #[.val (.ref a)] [(.ref b2)]))) (st2) ?_
  refine go_end X2 (v := some (.ref b2)) (fun h => by rw [Bd.returns] at h; cases h) Bd.notSynchronized (by decide) (by decide) (Q := (Q_rm10 Z a mc wD kD h0 n0)) ?_ (fun fs hr => own_retA X2 hx Bd.returns rfl rfl (hb hby d10_10) hr)
  show (fun (v : Option Value) (h : Heap) (L : List Loc) => ∃ (b : Addr) (k : ClassId), v = some (.ref b) ∧ Fr n0 L ∧ h0.size ≤ b ∧ Keep h0 h [a] ∧ AL Z h a mc b 0 ∧ Arv Z h b k (.object "java/lang/Object") 10 [.null, .null, .null, .null, .null, .null, .null, .null, .null, .null] .null ∧ Ovr Z k "java/lang/Object") (some (.ref b2)) T2.heap _
  exact ⟨b2, k2, rfl, N2, by omega, ((Keep.refl h0 [a]).trans K2 (allS (Or.inl (List.mem_of_getElem? (i := 0) rfl)) all0)), ⟨A2.1, A2.2.1, A2.2.2.1, A2.2.2.2⟩, V2, O2⟩
theorem d9_0 : decode jdk_38_method_24_code 0 = .ok (.iload_n 3, 1) := by decide +kernel
theorem d9_1 : decode jdk_38_method_24_code 1 = .ok (.aload_n 2, 1) := by decide +kernel
theorem d9_2 : decode jdk_38_method_24_code 2 = .ok (.arraylength, 1) := by decide +kernel
theorem d9_3 : decode jdk_38_method_24_code 3 = .ok (.if_icmp .ne 8, 3) := by decide +kernel
theorem d9_6 : decode jdk_38_method_24_code 6 = .ok (.aload_n 0, 1) := by decide +kernel
theorem d9_7 : decode jdk_38_method_24_code 7 = .ok (.invokevirtual 129, 3) := by decide +kernel
theorem pd____Ljava_lang_Object_ : parseMethodDescriptor "()[Ljava/lang/Object;" = some ⟨[], some (.array (.object "java/lang/Object"))⟩ := by decide +kernel
theorem d9_10 : decode jdk_38_method_24_code 10 = .ok (.astore_n 2, 1) := by decide +kernel
theorem d9_11 : decode jdk_38_method_24_code 11 = .ok (.aload_n 2, 1) := by decide +kernel
theorem d9_12 : decode jdk_38_method_24_code 12 = .ok (.iload_n 3, 1) := by decide +kernel
theorem d9_13 : decode jdk_38_method_24_code 13 = .ok (.aload_n 1, 1) := by decide +kernel
theorem d9_14 : decode jdk_38_method_24_code 14 = .ok (.aastore, 1) := by decide +kernel
theorem d9_15 : decode jdk_38_method_24_code 15 = .ok (.aload_n 0, 1) := by decide +kernel
theorem d9_16 : decode jdk_38_method_24_code 16 = .ok (.iload_n 3, 1) := by decide +kernel
theorem d9_17 : decode jdk_38_method_24_code 17 = .ok (.iconst 1, 1) := by decide +kernel
theorem d9_18 : decode jdk_38_method_24_code 18 = .ok (.iadd, 1) := by decide +kernel
theorem d9_19 : decode jdk_38_method_24_code 19 = .ok (.putfield 48, 3) := by decide +kernel
theorem d9_22 : decode jdk_38_method_24_code 22 = .ok (.return_, 1) := by decide +kernel
def Q_addh0 (Z : State) (a : Addr) (x : Addr) (wD : Addr) (mc : Int32) (kD : ClassId) (h0 : Heap) (n0 : Nat) (v : Option Value) (h : Heap) (L : List Loc) : Prop := ∃ (b : Addr) (k : ClassId), v = none ∧ Fr n0 L ∧ h0.size ≤ b ∧ Keep h0 h [a] ∧ AL Z h a mc b 1 ∧ Arv Z h b k (.object "java/lang/Object") 10 [.ref x, .null, .null, .null, .null, .null, .null, .null, .null, .null] .null ∧ Ovr Z k "java/lang/Object"
theorem ef_addh0 (m : MethodId) (a : Addr) (x : Addr) (wD : Addr)  : entryFrame m #[(.ref a), (.ref x), (.ref wD), (.int (0 : Int32))] 4 = mkF m 0 #[.val (.ref a), .val (.ref x), .val (.ref wD), .val (.int (0 : Int32))] [] := by first | (simp [entryFrame, mkF, argsToLocals, Value.category]; done) | rfl
set_option maxRecDepth 65536 in
set_option maxHeartbeats 40000000 in
theorem addh0 (l : Launch) (Z : State) (a0 : Array Value) (hw : ∀ d ∈ tables_1, d.before a0 Z = true) (ws : List Jvm.Cond) (a : Addr) (x : Addr) (wD : Addr) (mc : Int32) (kD : ClassId) (h0 : Heap) (n0 : Nat) (Z0 : n0 ≤ h0.size) (A : AL Z h0 a mc wD 0) (g : n0 ≤ a) (O : Old Z n0 h0) (S : Sta Z Z.heap "java/util/ArrayList" "DEFAULTCAPACITY_EMPTY_ELEMENTDATA" "[Ljava/lang/Object;" (.ref wD)) (VD : Arv Z h0 wD kD (.object "java/lang/Object") 0 [] .null) (D0 : wD < n0) (Ix : Ins Z h0 x "java/lang/Object" true) :
    MetFree l (⟨"java/util/ArrayList", "add", "(Ljava/lang/Object;[Ljava/lang/Object;I)V"⟩ : MethodName) (head1 (Jvm.Cond.code (⟨"java/util/ArrayList", "add", "(Ljava/lang/Object;[Ljava/lang/Object;I)V"⟩ : MethodName) jdk_38_method_24_code 4 none :: ws) ({ frames := 3, cells := 1, slots := 10, locals := 41 } : Room)) (fun aa' U1' => aa' = #[(.ref a), (.ref x), (.ref wD), (.int (0 : Int32))] ∧ Z.Warmed39 U1'.vm ∧ U1'.heap = h0) (fun _ _ _ _ _ => True) (fun _ U1' oo' U2' => ∃ vv' LL', oo' = .returned vv' ∧ (Q_addh0 Z a x wD mc kD h0 n0) vv' U2'.heap LL' ∧ FrameEnd U1' oo' U2' LL' ({ frames := 3, cells := 1, slots := 10, locals := 41 } : Room).cells ({ frames := 3, cells := 1, slots := 10, locals := 41 } : Room).slots) := by
  refine MetFree.of_bodySF (plainFor_of_name pn_java_util_ArrayList) hisR ?_
  intro p e s m args below meth c s₁ Bd hml0 hP hK
  obtain ⟨rfl, hZ, hh⟩ := hP
  have hx := Bd.exec
  have hby := Bd.bytes
  have hml : c.maxLocals = 4 := hml0
  have hown : s.vm.findClass "java/util/ArrayList" = some m.cls := findClass_of_methodNamed Bd.named
  have hnm := (name_of_methodNamed Bd.named Bd.method).1
  have X0 : Stand p l e ({ frames := 3, cells := 1, slots := 10, locals := 41 } : Room) s m #[(.ref a), (.ref x), (.ref wD), (.int (0 : Int32))] below meth c s₁ [] 0 0 := Stand.of_body Bd
  have e0 : s₁.heap = h0 := by rw [← hh, Bd.state]; rfl
  have N0 := Fr.nil n0
  have lta := own_nlt (A.1.lt)
  have ltD := own_nlt (VD.lt)
  have ltx := own_nlt (own_inslt Ix)
  have D0' := own_nlt D0
  refine go_of (A := s₁.setTop (entryFrame m #[(.ref a), (.ref x), (.ref wD), (.int (0 : Int32))] 4)) (B := s₁.setTop (mkF m 0 #[.val (.ref a), .val (.ref x), .val (.ref wD), .val (.int (0 : Int32))] [])) (fun _ kk' => castTop (ef_addh0 m a x wD) kk') ?_
  refine go_of (B := (s₁.setTop (mkF m 1 #[.val (.ref a), .val (.ref x), .val (.ref wD), .val (.int (0 : Int32))] [(.int (0 : Int32))]))) (fun _ kk => XS.iloadN X0.here hx rfl (hb hby d9_0) rfl kk) ?_
  refine go_of (B := (s₁.setTop (mkF m 2 #[.val (.ref a), .val (.ref x), .val (.ref wD), .val (.int (0 : Int32))] [(.ref wD), (.int (0 : Int32))]))) (fun _ kk => XS.aloadN X0.here hx rfl (hb hby d9_1) rfl rfl kk) ?_
  obtain ⟨cl1, Ar1, q1, Sz1, Nn1, Hh1, G1⟩ := id (VD)
  have ln1 := len_of Sz1 Nn1
  refine go_of (B := (s₁.setTop (mkF m 3 #[.val (.ref a), .val (.ref x), .val (.ref wD), .val (.int (0 : Int32))] [(.int (0 : Int32)), (.int (0 : Int32))]))) (fun _ kk => X0.arraylength hx (by rw [e0]; exact Ar1.1) (State.isArrayOf_alike hZ.alike Ar1.2.1) (g := (mkF m 2 #[.val (.ref a), .val (.ref x), .val (.ref wD), .val (.int (0 : Int32))] [(.ref wD), (.int (0 : Int32))])) rfl rfl (hb hby d9_2) _ (by rw [ln1]; exact kk)) ?_
  refine go_of (B := (s₁.setTop (mkF m 6 #[.val (.ref a), .val (.ref x), .val (.ref wD), .val (.int (0 : Int32))] []))) (fun _ kk => XS.icmpNo X0.here hx rfl (hb hby d9_3) rfl (teq (by decide : (0 : Int32) = (0 : Int32))).2 kk) ?_
  refine go_of (B := (s₁.setTop (mkF m 7 #[.val (.ref a), .val (.ref x), .val (.ref wD), .val (.int (0 : Int32))] [(.ref a)]))) (fun _ kk => XS.aloadN X0.here hx rfl (hb hby d9_6) rfl rfl kk) ?_
  obtain ⟨cq2, q2, q2'⟩ := A.1.cell
  obtain ⟨_, _, ⟨T2, L2, k2, n2⟩, -, X2, ⟨Lc2, hQ2, l2, y2, z2⟩, st2⟩ := X0.privateBack hx (y := (⟨"java/util/ArrayList", "grow", "()[Ljava/lang/Object;"⟩ : MethodName)) hown (mvT hZ (hw _ (List.mem_of_getElem? (i := 68) rfl))) (mvT hZ (hw _ (List.mem_of_getElem? (i := 69) rfl))) (mvT hZ (hw _ (List.mem_of_getElem? (i := 71) rfl))) (Cond.privateMethod_at (mvP hZ (hw _ (List.mem_of_getElem? (i := 70) rfl)) (args := #[]))) (mvT hZ (hw _ (List.mem_of_getElem? (i := 72) rfl))) (by decide) (backOf (W := 0) (rm10 l Z a0 hw [] a mc wD kD h0 n0 Z0 A g O S VD D0) hZ (hw _ (List.mem_of_getElem? (i := 72) rfl)) (hw _ (List.mem_of_getElem? (i := 20) rfl)) (by decide) (by decide)) (g := (mkF m 7 #[.val (.ref a), .val (.ref x), .val (.ref wD), .val (.int (0 : Int32))] [(.ref a)])) rfl (by rw [hml]; rfl) (Steps.refl _) (a := a) (by rw [e0]; exact q2) q2' (argsL := []) (rest := []) (lenOf pd____Ljava_lang_Object_ rfl) rfl (by show 2 * 0 + _ ≤ _; exact Nat.le_of_eq rfl) (hb hby d9_7) (fun _ _ => ⟨rfl, e0, (by decide : 0 + 1 ≤ _), (by decide : 0 + 10 ≤ _)⟩)
  dsimp only [Pt.U, Pt.locs, Pt.cells, Pt.slots] at X2 l2 y2 z2 st2 hQ2
  subst l2 y2 z2
  obtain ⟨b2, k2, rfl, N2q, lo2, K2, A2, V2, O2⟩ := hQ2
  have lo2 := own_nle lo2
  have N2 := Fr.app N0 N2q
  have hi2 := own_nlt (V2.lt)
  have sz2 := K2.1
  refine go_tr (B := (T2.setTop (mkF m 10 #[.val (.ref a), .val (.ref x), .val (.ref wD), .val (.int (0 : Int32))] [(.ref b2)]))) (st2) ?_
  refine go_of (B := (T2.setTop (mkF m 11 #[.val (.ref a), .val (.ref x), .val (.ref b2), .val (.int (0 : Int32))] []))) (fun _ kk => XS.astoreN X2.here hx rfl (hb hby d9_10) rfl rfl rfl kk) ?_
  refine go_of (B := (T2.setTop (mkF m 12 #[.val (.ref a), .val (.ref x), .val (.ref b2), .val (.int (0 : Int32))] [(.ref b2)]))) (fun _ kk => XS.aloadN X2.here hx rfl (hb hby d9_11) rfl rfl kk) ?_
  refine go_of (B := (T2.setTop (mkF m 13 #[.val (.ref a), .val (.ref x), .val (.ref b2), .val (.int (0 : Int32))] [(.int (0 : Int32)), (.ref b2)]))) (fun _ kk => XS.iloadN X2.here hx rfl (hb hby d9_12) rfl kk) ?_
  refine go_of (B := (T2.setTop (mkF m 14 #[.val (.ref a), .val (.ref x), .val (.ref b2), .val (.int (0 : Int32))] [(.ref x), (.int (0 : Int32)), (.ref b2)]))) (fun _ kk => XS.aloadN X2.here hx rfl (hb hby d9_13) rfl rfl kk) ?_
  obtain ⟨cl3, Ar3, q3, Sz3, Nn3, Hh3, G3⟩ := id (V2)
  have cf_5 := (own_inskeep Ix K2)
  obtain ⟨T4, h4, X4, e4, W4, st4⟩ := stR X2 hx hZ rfl Ar3 (j := (0 : Int32)) (inb_of Sz3 ⟨by decide, by decide⟩) rfl (Sto.of Ar3 (by rw [q3]; exact O2) cf_5) (g := (mkF m 14 #[.val (.ref a), .val (.ref x), .val (.ref b2), .val (.int (0 : Int32))] [(.ref x), (.int (0 : Int32)), (.ref b2)])) rfl rfl (hb hby d9_14)
  have sz4 := W4.size
  have N4 := Fr.snoc X4 N2 (own_le (by omega) : n0 ≤ b2)
  have V4 : Arv Z h4 b2 k2 (.object "java/lang/Object") (10 : Int32) [(.ref x), .null, .null, .null, .null, .null, .null, .null, .null, .null] .null := Arv.set Ar3 q3 Sz3 Nn3 Hh3 G3 rfl W4 0 rfl (Nat.le_of_ble_eq_true rfl)
  refine go_of (B := (T4.setTop (mkF m 15 #[.val (.ref a), .val (.ref x), .val (.ref b2), .val (.int (0 : Int32))] []))) (st4) ?_
  refine go_of (B := (T4.setTop (mkF m 16 #[.val (.ref a), .val (.ref x), .val (.ref b2), .val (.int (0 : Int32))] [(.ref a)]))) (fun _ kk => XS.aloadN X4.here hx rfl (hb hby d9_15) rfl rfl kk) ?_
  refine go_of (B := (T4.setTop (mkF m 17 #[.val (.ref a), .val (.ref x), .val (.ref b2), .val (.int (0 : Int32))] [(.int (0 : Int32)), (.ref a)]))) (fun _ kk => XS.iloadN X4.here hx rfl (hb hby d9_16) rfl kk) ?_
  refine go_of (B := (T4.setTop (mkF m 18 #[.val (.ref a), .val (.ref x), .val (.ref b2), .val (.int (0 : Int32))] [(.int (1 : Int32)), (.int (0 : Int32)), (.ref a)]))) (fun _ kk => XS.iconst X4.here hx rfl (hb hby d9_17) kk) ?_
  refine go_of (B := (T4.setTop (mkF m 19 #[.val (.ref a), .val (.ref x), .val (.ref b2), .val (.int (0 : Int32))] [(.int (1 : Int32)), (.ref a)]))) (fun _ kk => XS.iadd X4.here hx rfl (hb hby d9_18) rfl kk) ?_
  have cf_6 := (A2.1.wr W4)
  have cf_7 := (A2.2.2.2.other W4 (Or.inl (by first | omega | exact own_ne (by omega) | exact own_le (by omega))))
  obtain ⟨T8, h8, X8, e8, W8, st8⟩ := putF X4 hx hZ hown (host := "") (Or.inl (hw _ (List.mem_of_getElem? (i := 61) rfl))) Via.refl e4 cf_7 cf_6 (Or.inl (hw _ (List.mem_of_getElem? (i := 62) rfl))) (hw _ (List.mem_of_getElem? (i := 19) rfl)) (ty := .int) (by decide) rfl rfl (g := (mkF m 19 #[.val (.ref a), .val (.ref x), .val (.ref b2), .val (.int (0 : Int32))] [(.int (1 : Int32)), (.ref a)])) rfl rfl (hb hby d9_19)
  have sz8 := W8.size
  have Fw8 := cf_7.same W8
  have N8 := Fr.snoc X8 N4 (own_le (by omega) : n0 ≤ a)
  refine go_of (B := (T8.setTop (mkF m 22 #[.val (.ref a), .val (.ref x), .val (.ref b2), .val (.int (0 : Int32))] []))) (st8) ?_
  have cf_9 := (V4.other W8 (by first | omega | exact own_ne (by omega) | exact own_le (by omega)))
  have cf_10 := (cf_6.wr W8)
  have cf_11 := ((A2.2.1.other W4 (Or.inl (by first | omega | exact own_ne (by omega) | exact own_le (by omega)))).other W8 (Or.inr (slot_ne (Or.inl (hw _ (List.mem_of_getElem? (i := 38) rfl))) (Or.inl (hw _ (List.mem_of_getElem? (i := 62) rfl))) (by decide) (t := .int) (t' := .int) (by decide) (by decide))))
  have cf_12 := ((A2.2.2.1.other W4 (Or.inl (by first | omega | exact own_ne (by omega) | exact own_le (by omega)))).other W8 (Or.inr (slot_ne (Or.inl (hw _ (List.mem_of_getElem? (i := 41) rfl))) (Or.inl (hw _ (List.mem_of_getElem? (i := 62) rfl))) (by decide) (t := (.array (.object "java/lang/Object"))) (t' := .int) (by decide) (by decide))))
  refine go_end X8 (v := none) (fun _ => rfl) Bd.notSynchronized (by decide) (by decide) (Q := (Q_addh0 Z a x wD mc kD h0 n0)) ?_ (fun fs hr => X8.returnOut hx Bd.returns (hb hby d9_22) hr)
  show (fun (v : Option Value) (h : Heap) (L : List Loc) => ∃ (b : Addr) (k : ClassId), v = none ∧ Fr n0 L ∧ h0.size ≤ b ∧ Keep h0 h [a] ∧ AL Z h a mc b 1 ∧ Arv Z h b k (.object "java/lang/Object") 10 [.ref x, .null, .null, .null, .null, .null, .null, .null, .null, .null] .null ∧ Ovr Z k "java/lang/Object") (none) T8.heap _
  rw [e8]
  exact ⟨b2, k2, rfl, N8, by omega, ((((Keep.refl h0 [a]).trans K2 (allS (Or.inl (List.mem_of_getElem? (i := 0) rfl)) all0)).wr W4 (Or.inr (by first | omega | exact own_ne (by omega) | exact own_le (by omega)))).wr W8 (Or.inl (List.mem_of_getElem? (i := 0) rfl))), ⟨cf_10, cf_11, cf_12, Fw8⟩, cf_9, O2⟩
theorem d8_0 : decode jdk_38_method_25_code 0 = .ok (.aload_n 0, 1) := by decide +kernel
theorem d8_1 : decode jdk_38_method_25_code 1 = .ok (.dup, 1) := by decide +kernel
theorem d8_2 : decode jdk_38_method_25_code 2 = .ok (.getfield 63, 3) := by decide +kernel
theorem d8_5 : decode jdk_38_method_25_code 5 = .ok (.iconst 1, 1) := by decide +kernel
theorem d8_6 : decode jdk_38_method_25_code 6 = .ok (.iadd, 1) := by decide +kernel
theorem d8_7 : decode jdk_38_method_25_code 7 = .ok (.putfield 63, 3) := by decide +kernel
theorem d8_10 : decode jdk_38_method_25_code 10 = .ok (.aload_n 0, 1) := by decide +kernel
theorem d8_11 : decode jdk_38_method_25_code 11 = .ok (.aload_n 1, 1) := by decide +kernel
theorem d8_12 : decode jdk_38_method_25_code 12 = .ok (.aload_n 0, 1) := by decide +kernel
theorem d8_13 : decode jdk_38_method_25_code 13 = .ok (.getfield 9, 3) := by decide +kernel
theorem d8_16 : decode jdk_38_method_25_code 16 = .ok (.aload_n 0, 1) := by decide +kernel
theorem d8_17 : decode jdk_38_method_25_code 17 = .ok (.getfield 48, 3) := by decide +kernel
theorem d8_20 : decode jdk_38_method_25_code 20 = .ok (.invokevirtual 131, 3) := by decide +kernel
theorem pd__Ljava_lang_Object__Ljava_lang_Object_I_V : parseMethodDescriptor "(Ljava/lang/Object;[Ljava/lang/Object;I)V" = some ⟨[(.object "java/lang/Object"), (.array (.object "java/lang/Object")), .int], none⟩ := by decide +kernel
theorem d8_23 : decode jdk_38_method_25_code 23 = .ok (.iconst 1, 1) := by decide +kernel
theorem d8_24 : decode jdk_38_method_25_code 24 = .ok (.ireturn, 1) := by decide +kernel
def Q_add0 (Z : State) (a : Addr) (x : Addr) (mc : Int32) (wD : Addr) (kD : ClassId) (h0 : Heap) (n0 : Nat) (v : Option Value) (h : Heap) (L : List Loc) : Prop := ∃ (b : Addr) (k : ClassId), v = some (.int 1) ∧ Fr n0 L ∧ h0.size ≤ b ∧ Keep h0 h [a] ∧ AL Z h a (mc + (1 : Int32)) b 1 ∧ Arv Z h b k (.object "java/lang/Object") 10 [.ref x, .null, .null, .null, .null, .null, .null, .null, .null, .null] .null ∧ Ovr Z k "java/lang/Object"
theorem ef_add0 (m : MethodId) (a : Addr) (x : Addr)  : entryFrame m #[(.ref a), (.ref x)] 2 = mkF m 0 #[.val (.ref a), .val (.ref x)] [] := by first | (simp [entryFrame, mkF, argsToLocals, Value.category]; done) | rfl
set_option maxRecDepth 65536 in
set_option maxHeartbeats 40000000 in
theorem add0 (l : Launch) (Z : State) (a0 : Array Value) (hw : ∀ d ∈ tables_1, d.before a0 Z = true) (ws : List Jvm.Cond) (a : Addr) (x : Addr) (mc : Int32) (wD : Addr) (kD : ClassId) (h0 : Heap) (n0 : Nat) (Z0 : n0 ≤ h0.size) (A : AL Z h0 a mc wD 0) (g : n0 ≤ a) (O : Old Z n0 h0) (S : Sta Z Z.heap "java/util/ArrayList" "DEFAULTCAPACITY_EMPTY_ELEMENTDATA" "[Ljava/lang/Object;" (.ref wD)) (VD : Arv Z h0 wD kD (.object "java/lang/Object") 0 [] .null) (D0 : wD < n0) (Ix : Ins Z h0 x "java/lang/Object" true) :
    MetFree l (⟨"java/util/ArrayList", "add", "(Ljava/lang/Object;)Z"⟩ : MethodName) (head1 (Jvm.Cond.code (⟨"java/util/ArrayList", "add", "(Ljava/lang/Object;)Z"⟩ : MethodName) jdk_38_method_25_code 2 (some .boolean) :: ws) ({ frames := 4, cells := 1, slots := 10, locals := 56 } : Room)) (fun aa' U1' => aa' = #[(.ref a), (.ref x)] ∧ Z.Warmed39 U1'.vm ∧ U1'.heap = h0) (fun _ _ _ _ _ => True) (fun _ U1' oo' U2' => ∃ vv' LL', oo' = .returned vv' ∧ (Q_add0 Z a x mc wD kD h0 n0) vv' U2'.heap LL' ∧ FrameEnd U1' oo' U2' LL' ({ frames := 4, cells := 1, slots := 10, locals := 56 } : Room).cells ({ frames := 4, cells := 1, slots := 10, locals := 56 } : Room).slots) := by
  refine MetFree.of_bodySF (plainFor_of_name pn_java_util_ArrayList) hisR ?_
  intro p e s m args below meth c s₁ Bd hml0 hP hK
  obtain ⟨rfl, hZ, hh⟩ := hP
  have hx := Bd.exec
  have hby := Bd.bytes
  have hml : c.maxLocals = 2 := hml0
  have hown : s.vm.findClass "java/util/ArrayList" = some m.cls := findClass_of_methodNamed Bd.named
  have hnm := (name_of_methodNamed Bd.named Bd.method).1
  have X0 : Stand p l e ({ frames := 4, cells := 1, slots := 10, locals := 56 } : Room) s m #[(.ref a), (.ref x)] below meth c s₁ [] 0 0 := Stand.of_body Bd
  have e0 : s₁.heap = h0 := by rw [← hh, Bd.state]; rfl
  have N0 := Fr.nil n0
  have lta := own_nlt (A.1.lt)
  have ltD := own_nlt (VD.lt)
  have ltx := own_nlt (own_inslt Ix)
  have D0' := own_nlt D0
  refine go_of (A := s₁.setTop (entryFrame m #[(.ref a), (.ref x)] 2)) (B := s₁.setTop (mkF m 0 #[.val (.ref a), .val (.ref x)] [])) (fun _ kk' => castTop (ef_add0 m a x) kk') ?_
  refine go_of (B := (s₁.setTop (mkF m 1 #[.val (.ref a), .val (.ref x)] [(.ref a)]))) (fun _ kk => XS.aloadN X0.here hx rfl (hb hby d8_0) rfl rfl kk) ?_
  refine go_of (B := (s₁.setTop (mkF m 2 #[.val (.ref a), .val (.ref x)] [(.ref a), (.ref a)]))) (fun _ kk => XS.dup X0.here hx rfl (hb hby d8_1) rfl rfl kk) ?_
  obtain ⟨T1, X1, e1, st1⟩ := getF X0 hx hZ hown (host := "") (Or.inl (hw _ (List.mem_of_getElem? (i := 59) rfl))) (Via.of (hw _ (List.mem_of_getElem? (i := 60) rfl))) e0 A.2.1 (g := (mkF m 2 #[.val (.ref a), .val (.ref x)] [(.ref a), (.ref a)])) rfl rfl (hb hby d8_2)
  refine go_of (B := (T1.setTop (mkF m 5 #[.val (.ref a), .val (.ref x)] [(.int mc), (.ref a)]))) (st1) ?_
  refine go_of (B := (T1.setTop (mkF m 6 #[.val (.ref a), .val (.ref x)] [(.int (1 : Int32)), (.int mc), (.ref a)]))) (fun _ kk => XS.iconst X1.here hx rfl (hb hby d8_5) kk) ?_
  refine go_of (B := (T1.setTop (mkF m 7 #[.val (.ref a), .val (.ref x)] [(.int (mc + (1 : Int32))), (.ref a)]))) (fun _ kk => XS.iadd X1.here hx rfl (hb hby d8_6) rfl kk) ?_
  obtain ⟨T2, h2, X2, e2, W2, st2⟩ := putF X1 hx hZ hown (host := "") (Or.inl (hw _ (List.mem_of_getElem? (i := 59) rfl))) (Via.of (hw _ (List.mem_of_getElem? (i := 60) rfl))) e1 A.2.1 A.1 (Or.inl (hw _ (List.mem_of_getElem? (i := 38) rfl))) (hw _ (List.mem_of_getElem? (i := 19) rfl)) (ty := .int) (by decide) rfl rfl (g := (mkF m 7 #[.val (.ref a), .val (.ref x)] [(.int (mc + (1 : Int32))), (.ref a)])) rfl rfl (hb hby d8_7)
  have sz2 := W2.size
  have Fw2 := A.2.1.same W2
  have N2 := Fr.snoc X2 N0 (g : n0 ≤ a)
  refine go_of (B := (T2.setTop (mkF m 10 #[.val (.ref a), .val (.ref x)] []))) (st2) ?_
  refine go_of (B := (T2.setTop (mkF m 11 #[.val (.ref a), .val (.ref x)] [(.ref a)]))) (fun _ kk => XS.aloadN X2.here hx rfl (hb hby d8_10) rfl rfl kk) ?_
  refine go_of (B := (T2.setTop (mkF m 12 #[.val (.ref a), .val (.ref x)] [(.ref x), (.ref a)]))) (fun _ kk => XS.aloadN X2.here hx rfl (hb hby d8_11) rfl rfl kk) ?_
  refine go_of (B := (T2.setTop (mkF m 13 #[.val (.ref a), .val (.ref x)] [(.ref a), (.ref x), (.ref a)]))) (fun _ kk => XS.aloadN X2.here hx rfl (hb hby d8_12) rfl rfl kk) ?_
  have cf_3 := (A.2.2.1.other W2 (Or.inr (slot_ne (Or.inl (hw _ (List.mem_of_getElem? (i := 41) rfl))) (Or.inl (hw _ (List.mem_of_getElem? (i := 38) rfl))) (by decide) (t := (.array (.object "java/lang/Object"))) (t' := .int) (by decide) (by decide))))
  obtain ⟨T4, X4, e4, st4⟩ := getF X2 hx hZ hown (host := "") (Or.inl (hw _ (List.mem_of_getElem? (i := 40) rfl))) Via.refl e2 cf_3 (g := (mkF m 13 #[.val (.ref a), .val (.ref x)] [(.ref a), (.ref x), (.ref a)])) rfl rfl (hb hby d8_13)
  refine go_of (B := (T4.setTop (mkF m 16 #[.val (.ref a), .val (.ref x)] [(.ref wD), (.ref x), (.ref a)]))) (st4) ?_
  refine go_of (B := (T4.setTop (mkF m 17 #[.val (.ref a), .val (.ref x)] [(.ref a), (.ref wD), (.ref x), (.ref a)]))) (fun _ kk => XS.aloadN X4.here hx rfl (hb hby d8_16) rfl rfl kk) ?_
  have cf_5 := (A.2.2.2.other W2 (Or.inr (slot_ne (Or.inl (hw _ (List.mem_of_getElem? (i := 62) rfl))) (Or.inl (hw _ (List.mem_of_getElem? (i := 38) rfl))) (by decide) (t := .int) (t' := .int) (by decide) (by decide))))
  obtain ⟨T6, X6, e6, st6⟩ := getF X4 hx hZ hown (host := "") (Or.inl (hw _ (List.mem_of_getElem? (i := 61) rfl))) Via.refl e4 cf_5 (g := (mkF m 17 #[.val (.ref a), .val (.ref x)] [(.ref a), (.ref wD), (.ref x), (.ref a)])) rfl rfl (hb hby d8_17)
  refine go_of (B := (T6.setTop (mkF m 20 #[.val (.ref a), .val (.ref x)] [(.int (0 : Int32)), (.ref wD), (.ref x), (.ref a)]))) (st6) ?_
  have cf_7 := (O.wr W2 (by first | omega | exact own_ne (by omega) | exact own_le (by omega)))
  have cf_8 := (A.1.wr W2)
  have cf_9 := (VD.other W2 (by first | omega | exact own_ne (by omega) | exact own_le (by omega)))
  obtain ⟨cq10, q10, q10'⟩ := cf_8.cell
  obtain ⟨_, _, ⟨T10, L10, k10, n10⟩, -, X10, ⟨Lc10, hQ10, l10, y10, z10⟩, st10⟩ := X6.privateBack hx (y := (⟨"java/util/ArrayList", "add", "(Ljava/lang/Object;[Ljava/lang/Object;I)V"⟩ : MethodName)) hown (mvT hZ (hw _ (List.mem_of_getElem? (i := 63) rfl))) (mvT hZ (hw _ (List.mem_of_getElem? (i := 64) rfl))) (mvT hZ (hw _ (List.mem_of_getElem? (i := 66) rfl))) (Cond.privateMethod_at (mvP hZ (hw _ (List.mem_of_getElem? (i := 65) rfl)) (args := #[]))) (mvT hZ (hw _ (List.mem_of_getElem? (i := 67) rfl))) (by decide) (backOf (W := 0) (addh0 l Z a0 hw [] a x wD (mc + (1 : Int32)) kD h2 n0 (by first | omega | exact own_ne (by omega) | exact own_le (by omega)) ⟨cf_8, Fw2, cf_3, cf_5⟩ g cf_7 S cf_9 D0 (Ix.wr W2)) hZ (hw _ (List.mem_of_getElem? (i := 67) rfl)) (hw _ (List.mem_of_getElem? (i := 20) rfl)) (by decide) (by decide)) (g := (mkF m 20 #[.val (.ref a), .val (.ref x)] [(.int (0 : Int32)), (.ref wD), (.ref x), (.ref a)])) rfl (by rw [hml]; rfl) (Steps.refl _) (a := a) (by rw [e6]; exact q10) q10' (argsL := [(.ref x), (.ref wD), (.int (0 : Int32))]) (rest := []) (lenOf pd__Ljava_lang_Object__Ljava_lang_Object_I_V rfl) rfl (by show 2 * 0 + _ ≤ _; exact Nat.le_of_eq rfl) (hb hby d8_20) (fun _ _ => ⟨rfl, e6, (by decide : 0 + 1 ≤ _), (by decide : 0 + 10 ≤ _)⟩)
  dsimp only [Pt.U, Pt.locs, Pt.cells, Pt.slots] at X10 l10 y10 z10 st10 hQ10
  subst l10 y10 z10
  obtain ⟨b10, k10, rfl, N10q, lo10, K10, A10, V10, O10⟩ := hQ10
  have lo10 := own_nle lo10
  have N10 := Fr.app N2 N10q
  have hi10 := own_nlt (V10.lt)
  have sz10 := K10.1
  refine go_tr (B := (T10.setTop (mkF m 23 #[.val (.ref a), .val (.ref x)] []))) (st10) ?_
  refine go_of (B := (T10.setTop (mkF m 24 #[.val (.ref a), .val (.ref x)] [(.int (1 : Int32))]))) (fun _ kk => XS.iconst X10.here hx rfl (hb hby d8_23) kk) ?_
  refine go_end X10 (v := some (.int (nar .boolean (1 : Int32)))) (fun h => by rw [Bd.returns] at h; cases h) Bd.notSynchronized (by decide) (by decide) (Q := (Q_add0 Z a x mc wD kD h0 n0)) ?_ (fun fs hr => retN X10 hx (t := .boolean) Bd.returns (by simp) (hb hby d8_24) hr)
  show (fun (v : Option Value) (h : Heap) (L : List Loc) => ∃ (b : Addr) (k : ClassId), v = some (.int 1) ∧ Fr n0 L ∧ h0.size ≤ b ∧ Keep h0 h [a] ∧ AL Z h a (mc + (1 : Int32)) b 1 ∧ Arv Z h b k (.object "java/lang/Object") 10 [.ref x, .null, .null, .null, .null, .null, .null, .null, .null, .null] .null ∧ Ovr Z k "java/lang/Object") (some (.int (nar .boolean (1 : Int32)))) T10.heap _
  exact ⟨b10, k10, rfl, N10, by omega, (((Keep.refl h0 [a]).wr W2 (Or.inl (List.mem_of_getElem? (i := 0) rfl))).trans K10 (allS (Or.inl (List.mem_of_getElem? (i := 0) rfl)) all0)), ⟨A10.1, A10.2.1, A10.2.2.1, A10.2.2.2⟩, V10, O10⟩
def Q_addh1 (Z : State) (a : Addr) (x : Addr) (d : Addr) (mc : Int32) (kD : ClassId) (x0 : Addr) (h0 : Heap) (n0 : Nat) (v : Option Value) (h : Heap) (L : List Loc) : Prop := v = none ∧ Fr n0 L ∧ Keep h0 h [a, d] ∧ AL Z h a mc d 2 ∧ Arv Z h d kD (.object "java/lang/Object") 10 [.ref x0, .ref x, .null, .null, .null, .null, .null, .null, .null, .null] .null
theorem ef_addh1 (m : MethodId) (a : Addr) (x : Addr) (d : Addr)  : entryFrame m #[(.ref a), (.ref x), (.ref d), (.int (1 : Int32))] 4 = mkF m 0 #[.val (.ref a), .val (.ref x), .val (.ref d), .val (.int (1 : Int32))] [] := by first | (simp [entryFrame, mkF, argsToLocals, Value.category]; done) | rfl
set_option maxRecDepth 65536 in
set_option maxHeartbeats 40000000 in
theorem addh1 (l : Launch) (Z : State) (a0 : Array Value) (hw : ∀ d ∈ tables_1, d.before a0 Z = true) (ws : List Jvm.Cond) (a : Addr) (x : Addr) (d : Addr) (mc : Int32) (kD : ClassId) (x0 : Addr) (h0 : Heap) (n0 : Nat) (Z0 : n0 ≤ h0.size) (A : AL Z h0 a mc d 1) (g : n0 ≤ a) (gd : n0 ≤ d) (VD : Arv Z h0 d kD (.object "java/lang/Object") 10 [.ref x0, .null, .null, .null, .null, .null, .null, .null, .null, .null] .null) (OV : Ovr Z kD "java/lang/Object") (Ix : Ins Z h0 x "java/lang/Object" true) (nad : a ≠ d) :
    MetFree l (⟨"java/util/ArrayList", "add", "(Ljava/lang/Object;[Ljava/lang/Object;I)V"⟩ : MethodName) (head1 (Jvm.Cond.code (⟨"java/util/ArrayList", "add", "(Ljava/lang/Object;[Ljava/lang/Object;I)V"⟩ : MethodName) jdk_38_method_24_code 4 none :: ws) ({ frames := 0, cells := 0, slots := 0, locals := 0 } : Room)) (fun aa' U1' => aa' = #[(.ref a), (.ref x), (.ref d), (.int (1 : Int32))] ∧ Z.Warmed39 U1'.vm ∧ U1'.heap = h0) (fun _ _ _ _ _ => True) (fun _ U1' oo' U2' => ∃ vv' LL', oo' = .returned vv' ∧ (Q_addh1 Z a x d mc kD x0 h0 n0) vv' U2'.heap LL' ∧ FrameEnd U1' oo' U2' LL' ({ frames := 0, cells := 0, slots := 0, locals := 0 } : Room).cells ({ frames := 0, cells := 0, slots := 0, locals := 0 } : Room).slots) := by
  refine MetFree.of_bodySF (plainFor_of_name pn_java_util_ArrayList) hisR ?_
  intro p e s m args below meth c s₁ Bd hml0 hP hK
  obtain ⟨rfl, hZ, hh⟩ := hP
  have hx := Bd.exec
  have hby := Bd.bytes
  have hml : c.maxLocals = 4 := hml0
  have hown : s.vm.findClass "java/util/ArrayList" = some m.cls := findClass_of_methodNamed Bd.named
  have hnm := (name_of_methodNamed Bd.named Bd.method).1
  have X0 : Stand p l e ({ frames := 0, cells := 0, slots := 0, locals := 0 } : Room) s m #[(.ref a), (.ref x), (.ref d), (.int (1 : Int32))] below meth c s₁ [] 0 0 := Stand.of_body Bd
  have e0 : s₁.heap = h0 := by rw [← hh, Bd.state]; rfl
  have N0 := Fr.nil n0
  have lta := own_nlt (A.1.lt)
  have ltD := own_nlt (VD.lt)
  have ltx := own_nlt (own_inslt Ix)
  have nad' : @Ne Nat a d := nad
  refine go_of (A := s₁.setTop (entryFrame m #[(.ref a), (.ref x), (.ref d), (.int (1 : Int32))] 4)) (B := s₁.setTop (mkF m 0 #[.val (.ref a), .val (.ref x), .val (.ref d), .val (.int (1 : Int32))] [])) (fun _ kk' => castTop (ef_addh1 m a x d) kk') ?_
  refine go_of (B := (s₁.setTop (mkF m 1 #[.val (.ref a), .val (.ref x), .val (.ref d), .val (.int (1 : Int32))] [(.int (1 : Int32))]))) (fun _ kk => XS.iloadN X0.here hx rfl (hb hby d9_0) rfl kk) ?_
  refine go_of (B := (s₁.setTop (mkF m 2 #[.val (.ref a), .val (.ref x), .val (.ref d), .val (.int (1 : Int32))] [(.ref d), (.int (1 : Int32))]))) (fun _ kk => XS.aloadN X0.here hx rfl (hb hby d9_1) rfl rfl kk) ?_
  obtain ⟨cl1, Ar1, q1, Sz1, Nn1, Hh1, G1⟩ := id (VD)
  have ln1 := len_of Sz1 Nn1
  refine go_of (B := (s₁.setTop (mkF m 3 #[.val (.ref a), .val (.ref x), .val (.ref d), .val (.int (1 : Int32))] [(.int (10 : Int32)), (.int (1 : Int32))]))) (fun _ kk => X0.arraylength hx (by rw [e0]; exact Ar1.1) (State.isArrayOf_alike hZ.alike Ar1.2.1) (g := (mkF m 2 #[.val (.ref a), .val (.ref x), .val (.ref d), .val (.int (1 : Int32))] [(.ref d), (.int (1 : Int32))])) rfl rfl (hb hby d9_2) _ (by rw [ln1]; exact kk)) ?_
  refine go_of (B := (s₁.setTop (mkF m 11 #[.val (.ref a), .val (.ref x), .val (.ref d), .val (.int (1 : Int32))] []))) (fun _ kk => XS.icmpYes X0.here hx rfl (pc0 := 3) (pc' := 11) rfl (hb hby d9_3) rfl (feq (by decide : ¬ ((1 : Int32) = (10 : Int32)))).2 (by decide) (by decide) kk) ?_
  refine go_of (B := (s₁.setTop (mkF m 12 #[.val (.ref a), .val (.ref x), .val (.ref d), .val (.int (1 : Int32))] [(.ref d)]))) (fun _ kk => XS.aloadN X0.here hx rfl (hb hby d9_11) rfl rfl kk) ?_
  refine go_of (B := (s₁.setTop (mkF m 13 #[.val (.ref a), .val (.ref x), .val (.ref d), .val (.int (1 : Int32))] [(.int (1 : Int32)), (.ref d)]))) (fun _ kk => XS.iloadN X0.here hx rfl (hb hby d9_12) rfl kk) ?_
  refine go_of (B := (s₁.setTop (mkF m 14 #[.val (.ref a), .val (.ref x), .val (.ref d), .val (.int (1 : Int32))] [(.ref x), (.int (1 : Int32)), (.ref d)]))) (fun _ kk => XS.aloadN X0.here hx rfl (hb hby d9_13) rfl rfl kk) ?_
  obtain ⟨cl2, Ar2, q2, Sz2, Nn2, Hh2, G2⟩ := id (VD)
  obtain ⟨T3, h3, X3, e3, W3, st3⟩ := stR X0 hx hZ e0 Ar2 (j := (1 : Int32)) (inb_of Sz2 ⟨by decide, by decide⟩) rfl (Sto.of Ar2 (by rw [q2]; exact OV) Ix) (g := (mkF m 14 #[.val (.ref a), .val (.ref x), .val (.ref d), .val (.int (1 : Int32))] [(.ref x), (.int (1 : Int32)), (.ref d)])) rfl rfl (hb hby d9_14)
  have sz3 := W3.size
  have N3 := Fr.snoc X3 N0 (gd : n0 ≤ d)
  have V3 : Arv Z h3 d kD (.object "java/lang/Object") (10 : Int32) [(.ref x0), (.ref x), .null, .null, .null, .null, .null, .null, .null, .null] .null := Arv.set Ar2 q2 Sz2 Nn2 Hh2 G2 rfl W3 1 rfl (Nat.le_of_ble_eq_true rfl)
  refine go_of (B := (T3.setTop (mkF m 15 #[.val (.ref a), .val (.ref x), .val (.ref d), .val (.int (1 : Int32))] []))) (st3) ?_
  refine go_of (B := (T3.setTop (mkF m 16 #[.val (.ref a), .val (.ref x), .val (.ref d), .val (.int (1 : Int32))] [(.ref a)]))) (fun _ kk => XS.aloadN X3.here hx rfl (hb hby d9_15) rfl rfl kk) ?_
  refine go_of (B := (T3.setTop (mkF m 17 #[.val (.ref a), .val (.ref x), .val (.ref d), .val (.int (1 : Int32))] [(.int (1 : Int32)), (.ref a)]))) (fun _ kk => XS.iloadN X3.here hx rfl (hb hby d9_16) rfl kk) ?_
  refine go_of (B := (T3.setTop (mkF m 18 #[.val (.ref a), .val (.ref x), .val (.ref d), .val (.int (1 : Int32))] [(.int (1 : Int32)), (.int (1 : Int32)), (.ref a)]))) (fun _ kk => XS.iconst X3.here hx rfl (hb hby d9_17) kk) ?_
  refine go_of (B := (T3.setTop (mkF m 19 #[.val (.ref a), .val (.ref x), .val (.ref d), .val (.int (1 : Int32))] [(.int (2 : Int32)), (.ref a)]))) (fun _ kk => XS.iadd X3.here hx rfl (hb hby d9_18) rfl kk) ?_
  have cf_4 := (A.1.wr W3)
  have cf_5 := (A.2.2.2.other W3 (Or.inl (by first | omega | exact own_ne (by omega) | exact own_le (by omega))))
  obtain ⟨T6, h6, X6, e6, W6, st6⟩ := putF X3 hx hZ hown (host := "") (Or.inl (hw _ (List.mem_of_getElem? (i := 61) rfl))) Via.refl e3 cf_5 cf_4 (Or.inl (hw _ (List.mem_of_getElem? (i := 62) rfl))) (hw _ (List.mem_of_getElem? (i := 19) rfl)) (ty := .int) (by decide) rfl rfl (g := (mkF m 19 #[.val (.ref a), .val (.ref x), .val (.ref d), .val (.int (1 : Int32))] [(.int (2 : Int32)), (.ref a)])) rfl rfl (hb hby d9_19)
  have sz6 := W6.size
  have Fw6 := cf_5.same W6
  have N6 := Fr.snoc X6 N3 (g : n0 ≤ a)
  refine go_of (B := (T6.setTop (mkF m 22 #[.val (.ref a), .val (.ref x), .val (.ref d), .val (.int (1 : Int32))] []))) (st6) ?_
  have cf_7 := (V3.other W6 (by first | omega | exact own_ne (by omega) | exact own_le (by omega)))
  have cf_8 := (cf_4.wr W6)
  have cf_9 := ((A.2.1.other W3 (Or.inl (by first | omega | exact own_ne (by omega) | exact own_le (by omega)))).other W6 (Or.inr (slot_ne (Or.inl (hw _ (List.mem_of_getElem? (i := 38) rfl))) (Or.inl (hw _ (List.mem_of_getElem? (i := 62) rfl))) (by decide) (t := .int) (t' := .int) (by decide) (by decide))))
  have cf_10 := ((A.2.2.1.other W3 (Or.inl (by first | omega | exact own_ne (by omega) | exact own_le (by omega)))).other W6 (Or.inr (slot_ne (Or.inl (hw _ (List.mem_of_getElem? (i := 41) rfl))) (Or.inl (hw _ (List.mem_of_getElem? (i := 62) rfl))) (by decide) (t := (.array (.object "java/lang/Object"))) (t' := .int) (by decide) (by decide))))
  refine go_end X6 (v := none) (fun _ => rfl) Bd.notSynchronized (by decide) (by decide) (Q := (Q_addh1 Z a x d mc kD x0 h0 n0)) ?_ (fun fs hr => X6.returnOut hx Bd.returns (hb hby d9_22) hr)
  show (fun (v : Option Value) (h : Heap) (L : List Loc) => v = none ∧ Fr n0 L ∧ Keep h0 h [a, d] ∧ AL Z h a mc d 2 ∧ Arv Z h d kD (.object "java/lang/Object") 10 [.ref x0, .ref x, .null, .null, .null, .null, .null, .null, .null, .null] .null) (none) T6.heap _
  rw [e6]
  exact ⟨rfl, N6, (((Keep.refl h0 [a, d]).wr W3 (Or.inl (List.mem_of_getElem? (i := 1) rfl))).wr W6 (Or.inl (List.mem_of_getElem? (i := 0) rfl))), ⟨cf_8, cf_9, cf_10, Fw6⟩, cf_7⟩
def Q_add1 (Z : State) (a : Addr) (x : Addr) (d : Addr) (mc : Int32) (kD : ClassId) (x0 : Addr) (h0 : Heap) (n0 : Nat) (v : Option Value) (h : Heap) (L : List Loc) : Prop := v = some (.int 1) ∧ Fr n0 L ∧ Keep h0 h [a, d] ∧ AL Z h a (mc + (1 : Int32)) d 2 ∧ Arv Z h d kD (.object "java/lang/Object") 10 [.ref x0, .ref x, .null, .null, .null, .null, .null, .null, .null, .null] .null
theorem ef_add1 (m : MethodId) (a : Addr) (x : Addr)  : entryFrame m #[(.ref a), (.ref x)] 2 = mkF m 0 #[.val (.ref a), .val (.ref x)] [] := by first | (simp [entryFrame, mkF, argsToLocals, Value.category]; done) | rfl
set_option maxRecDepth 65536 in
set_option maxHeartbeats 40000000 in
theorem add1 (l : Launch) (Z : State) (a0 : Array Value) (hw : ∀ d ∈ tables_1, d.before a0 Z = true) (ws : List Jvm.Cond) (a : Addr) (x : Addr) (d : Addr) (mc : Int32) (kD : ClassId) (x0 : Addr) (h0 : Heap) (n0 : Nat) (Z0 : n0 ≤ h0.size) (A : AL Z h0 a mc d 1) (g : n0 ≤ a) (gd : n0 ≤ d) (VD : Arv Z h0 d kD (.object "java/lang/Object") 10 [.ref x0, .null, .null, .null, .null, .null, .null, .null, .null, .null] .null) (OV : Ovr Z kD "java/lang/Object") (Ix : Ins Z h0 x "java/lang/Object" true) (nad : a ≠ d) :
    MetFree l (⟨"java/util/ArrayList", "add", "(Ljava/lang/Object;)Z"⟩ : MethodName) (head1 (Jvm.Cond.code (⟨"java/util/ArrayList", "add", "(Ljava/lang/Object;)Z"⟩ : MethodName) jdk_38_method_25_code 2 (some .boolean) :: ws) ({ frames := 1, cells := 0, slots := 0, locals := 15 } : Room)) (fun aa' U1' => aa' = #[(.ref a), (.ref x)] ∧ Z.Warmed39 U1'.vm ∧ U1'.heap = h0) (fun _ _ _ _ _ => True) (fun _ U1' oo' U2' => ∃ vv' LL', oo' = .returned vv' ∧ (Q_add1 Z a x d mc kD x0 h0 n0) vv' U2'.heap LL' ∧ FrameEnd U1' oo' U2' LL' ({ frames := 1, cells := 0, slots := 0, locals := 15 } : Room).cells ({ frames := 1, cells := 0, slots := 0, locals := 15 } : Room).slots) := by
  refine MetFree.of_bodySF (plainFor_of_name pn_java_util_ArrayList) hisR ?_
  intro p e s m args below meth c s₁ Bd hml0 hP hK
  obtain ⟨rfl, hZ, hh⟩ := hP
  have hx := Bd.exec
  have hby := Bd.bytes
  have hml : c.maxLocals = 2 := hml0
  have hown : s.vm.findClass "java/util/ArrayList" = some m.cls := findClass_of_methodNamed Bd.named
  have hnm := (name_of_methodNamed Bd.named Bd.method).1
  have X0 : Stand p l e ({ frames := 1, cells := 0, slots := 0, locals := 15 } : Room) s m #[(.ref a), (.ref x)] below meth c s₁ [] 0 0 := Stand.of_body Bd
  have e0 : s₁.heap = h0 := by rw [← hh, Bd.state]; rfl
  have N0 := Fr.nil n0
  have lta := own_nlt (A.1.lt)
  have ltD := own_nlt (VD.lt)
  have ltx := own_nlt (own_inslt Ix)
  have nad' : @Ne Nat a d := nad
  refine go_of (A := s₁.setTop (entryFrame m #[(.ref a), (.ref x)] 2)) (B := s₁.setTop (mkF m 0 #[.val (.ref a), .val (.ref x)] [])) (fun _ kk' => castTop (ef_add1 m a x) kk') ?_
  refine go_of (B := (s₁.setTop (mkF m 1 #[.val (.ref a), .val (.ref x)] [(.ref a)]))) (fun _ kk => XS.aloadN X0.here hx rfl (hb hby d8_0) rfl rfl kk) ?_
  refine go_of (B := (s₁.setTop (mkF m 2 #[.val (.ref a), .val (.ref x)] [(.ref a), (.ref a)]))) (fun _ kk => XS.dup X0.here hx rfl (hb hby d8_1) rfl rfl kk) ?_
  obtain ⟨T1, X1, e1, st1⟩ := getF X0 hx hZ hown (host := "") (Or.inl (hw _ (List.mem_of_getElem? (i := 59) rfl))) (Via.of (hw _ (List.mem_of_getElem? (i := 60) rfl))) e0 A.2.1 (g := (mkF m 2 #[.val (.ref a), .val (.ref x)] [(.ref a), (.ref a)])) rfl rfl (hb hby d8_2)
  refine go_of (B := (T1.setTop (mkF m 5 #[.val (.ref a), .val (.ref x)] [(.int mc), (.ref a)]))) (st1) ?_
  refine go_of (B := (T1.setTop (mkF m 6 #[.val (.ref a), .val (.ref x)] [(.int (1 : Int32)), (.int mc), (.ref a)]))) (fun _ kk => XS.iconst X1.here hx rfl (hb hby d8_5) kk) ?_
  refine go_of (B := (T1.setTop (mkF m 7 #[.val (.ref a), .val (.ref x)] [(.int (mc + (1 : Int32))), (.ref a)]))) (fun _ kk => XS.iadd X1.here hx rfl (hb hby d8_6) rfl kk) ?_
  obtain ⟨T2, h2, X2, e2, W2, st2⟩ := putF X1 hx hZ hown (host := "") (Or.inl (hw _ (List.mem_of_getElem? (i := 59) rfl))) (Via.of (hw _ (List.mem_of_getElem? (i := 60) rfl))) e1 A.2.1 A.1 (Or.inl (hw _ (List.mem_of_getElem? (i := 38) rfl))) (hw _ (List.mem_of_getElem? (i := 19) rfl)) (ty := .int) (by decide) rfl rfl (g := (mkF m 7 #[.val (.ref a), .val (.ref x)] [(.int (mc + (1 : Int32))), (.ref a)])) rfl rfl (hb hby d8_7)
  have sz2 := W2.size
  have Fw2 := A.2.1.same W2
  have N2 := Fr.snoc X2 N0 (g : n0 ≤ a)
  refine go_of (B := (T2.setTop (mkF m 10 #[.val (.ref a), .val (.ref x)] []))) (st2) ?_
  refine go_of (B := (T2.setTop (mkF m 11 #[.val (.ref a), .val (.ref x)] [(.ref a)]))) (fun _ kk => XS.aloadN X2.here hx rfl (hb hby d8_10) rfl rfl kk) ?_
  refine go_of (B := (T2.setTop (mkF m 12 #[.val (.ref a), .val (.ref x)] [(.ref x), (.ref a)]))) (fun _ kk => XS.aloadN X2.here hx rfl (hb hby d8_11) rfl rfl kk) ?_
  refine go_of (B := (T2.setTop (mkF m 13 #[.val (.ref a), .val (.ref x)] [(.ref a), (.ref x), (.ref a)]))) (fun _ kk => XS.aloadN X2.here hx rfl (hb hby d8_12) rfl rfl kk) ?_
  have cf_3 := (A.2.2.1.other W2 (Or.inr (slot_ne (Or.inl (hw _ (List.mem_of_getElem? (i := 41) rfl))) (Or.inl (hw _ (List.mem_of_getElem? (i := 38) rfl))) (by decide) (t := (.array (.object "java/lang/Object"))) (t' := .int) (by decide) (by decide))))
  obtain ⟨T4, X4, e4, st4⟩ := getF X2 hx hZ hown (host := "") (Or.inl (hw _ (List.mem_of_getElem? (i := 40) rfl))) Via.refl e2 cf_3 (g := (mkF m 13 #[.val (.ref a), .val (.ref x)] [(.ref a), (.ref x), (.ref a)])) rfl rfl (hb hby d8_13)
  refine go_of (B := (T4.setTop (mkF m 16 #[.val (.ref a), .val (.ref x)] [(.ref d), (.ref x), (.ref a)]))) (st4) ?_
  refine go_of (B := (T4.setTop (mkF m 17 #[.val (.ref a), .val (.ref x)] [(.ref a), (.ref d), (.ref x), (.ref a)]))) (fun _ kk => XS.aloadN X4.here hx rfl (hb hby d8_16) rfl rfl kk) ?_
  have cf_5 := (A.2.2.2.other W2 (Or.inr (slot_ne (Or.inl (hw _ (List.mem_of_getElem? (i := 62) rfl))) (Or.inl (hw _ (List.mem_of_getElem? (i := 38) rfl))) (by decide) (t := .int) (t' := .int) (by decide) (by decide))))
  obtain ⟨T6, X6, e6, st6⟩ := getF X4 hx hZ hown (host := "") (Or.inl (hw _ (List.mem_of_getElem? (i := 61) rfl))) Via.refl e4 cf_5 (g := (mkF m 17 #[.val (.ref a), .val (.ref x)] [(.ref a), (.ref d), (.ref x), (.ref a)])) rfl rfl (hb hby d8_17)
  refine go_of (B := (T6.setTop (mkF m 20 #[.val (.ref a), .val (.ref x)] [(.int (1 : Int32)), (.ref d), (.ref x), (.ref a)]))) (st6) ?_
  have cf_7 := (A.1.wr W2)
  have cf_8 := (VD.other W2 (by first | omega | exact own_ne (by omega) | exact own_le (by omega)))
  obtain ⟨cq9, q9, q9'⟩ := cf_7.cell
  obtain ⟨_, _, ⟨T9, L9, k9, n9⟩, -, X9, ⟨Lc9, hQ9, l9, y9, z9⟩, st9⟩ := X6.privateBack hx (y := (⟨"java/util/ArrayList", "add", "(Ljava/lang/Object;[Ljava/lang/Object;I)V"⟩ : MethodName)) hown (mvT hZ (hw _ (List.mem_of_getElem? (i := 63) rfl))) (mvT hZ (hw _ (List.mem_of_getElem? (i := 64) rfl))) (mvT hZ (hw _ (List.mem_of_getElem? (i := 66) rfl))) (Cond.privateMethod_at (mvP hZ (hw _ (List.mem_of_getElem? (i := 65) rfl)) (args := #[]))) (mvT hZ (hw _ (List.mem_of_getElem? (i := 67) rfl))) (by decide) (backOf (W := 0) (addh1 l Z a0 hw [] a x d (mc + (1 : Int32)) kD x0 h2 n0 (by first | omega | exact own_ne (by omega) | exact own_le (by omega)) ⟨cf_7, Fw2, cf_3, cf_5⟩ g gd cf_8 OV (Ix.wr W2) nad) hZ (hw _ (List.mem_of_getElem? (i := 67) rfl)) (hw _ (List.mem_of_getElem? (i := 20) rfl)) (by decide) (by decide)) (g := (mkF m 20 #[.val (.ref a), .val (.ref x)] [(.int (1 : Int32)), (.ref d), (.ref x), (.ref a)])) rfl (by rw [hml]; rfl) (Steps.refl _) (a := a) (by rw [e6]; exact q9) q9' (argsL := [(.ref x), (.ref d), (.int (1 : Int32))]) (rest := []) (lenOf pd__Ljava_lang_Object__Ljava_lang_Object_I_V rfl) rfl (by show 2 * 0 + _ ≤ _; exact Nat.le_of_eq rfl) (hb hby d8_20) (fun _ _ => ⟨rfl, e6, (by decide : 0 + 0 ≤ _), (by decide : 0 + 0 ≤ _)⟩)
  dsimp only [Pt.U, Pt.locs, Pt.cells, Pt.slots] at X9 l9 y9 z9 st9 hQ9
  subst l9 y9 z9
  obtain ⟨rfl, N9q, K9, A9, V9⟩ := hQ9
  have N9 := Fr.app N2 N9q
  have sz9 := K9.1
  refine go_tr (B := (T9.setTop (mkF m 23 #[.val (.ref a), .val (.ref x)] []))) (st9) ?_
  refine go_of (B := (T9.setTop (mkF m 24 #[.val (.ref a), .val (.ref x)] [(.int (1 : Int32))]))) (fun _ kk => XS.iconst X9.here hx rfl (hb hby d8_23) kk) ?_
  refine go_end X9 (v := some (.int (nar .boolean (1 : Int32)))) (fun h => by rw [Bd.returns] at h; cases h) Bd.notSynchronized (by decide) (by decide) (Q := (Q_add1 Z a x d mc kD x0 h0 n0)) ?_ (fun fs hr => retN X9 hx (t := .boolean) Bd.returns (by simp) (hb hby d8_24) hr)
  show (fun (v : Option Value) (h : Heap) (L : List Loc) => v = some (.int 1) ∧ Fr n0 L ∧ Keep h0 h [a, d] ∧ AL Z h a (mc + (1 : Int32)) d 2 ∧ Arv Z h d kD (.object "java/lang/Object") 10 [.ref x0, .ref x, .null, .null, .null, .null, .null, .null, .null, .null] .null) (some (.int (nar .boolean (1 : Int32)))) T9.heap _
  exact ⟨rfl, N9, (((Keep.refl h0 [a, d]).wr W2 (Or.inl (List.mem_of_getElem? (i := 0) rfl))).trans K9 (allS (Or.inl (List.mem_of_getElem? (i := 0) rfl)) (allS (Or.inl (List.mem_of_getElem? (i := 1) rfl)) all0))), ⟨A9.1, A9.2.1, A9.2.2.1, A9.2.2.2⟩, V9⟩
theorem d14_0 : decode jdk_18_method_1_code 0 = .ok (.aload_n 0, 1) := by decide +kernel
theorem d14_1 : decode jdk_18_method_1_code 1 = .ok (.invokespecial 1, 3) := by decide +kernel
theorem d14_4 : decode jdk_18_method_1_code 4 = .ok (.return_, 1) := by decide +kernel
def Q_rm14 (Z : State) (a : Addr) (h0 : Heap) (n0 : Nat) (v : Option Value) (h : Heap) (L : List Loc) : Prop := v = none ∧ Fr n0 L ∧ h = h0
theorem pn_java_lang_Number : plainName "java/lang/Number" = true := by first | (simp [plainName, overriddenIn]; done) | decide +kernel
theorem ef_rm14 (m : MethodId) (a : Addr)  : entryFrame m #[(.ref a)] 1 = mkF m 0 #[.val (.ref a)] [] := by first | (simp [entryFrame, mkF, argsToLocals, Value.category]; done) | rfl
set_option maxRecDepth 65536 in
set_option maxHeartbeats 40000000 in
theorem rm14 (l : Launch) (Z : State) (a0 : Array Value) (hw : ∀ d ∈ tables_1, d.before a0 Z = true) (ws : List Jvm.Cond) (a : Addr) (h0 : Heap) (n0 : Nat) (Z0 : n0 ≤ h0.size)  :
    MetFree l (⟨"java/lang/Number", "<init>", "()V"⟩ : MethodName) (head1 (Jvm.Cond.code (⟨"java/lang/Number", "<init>", "()V"⟩ : MethodName) jdk_18_method_1_code 1 none :: ws) ({ frames := 1, cells := 0, slots := 0, locals := 12 } : Room)) (fun aa' U1' => aa' = #[(.ref a)] ∧ Z.Warmed39 U1'.vm ∧ U1'.heap = h0) (fun _ _ _ _ _ => True) (fun _ U1' oo' U2' => ∃ vv' LL', oo' = .returned vv' ∧ (Q_rm14 Z a h0 n0) vv' U2'.heap LL' ∧ FrameEnd U1' oo' U2' LL' ({ frames := 1, cells := 0, slots := 0, locals := 12 } : Room).cells ({ frames := 1, cells := 0, slots := 0, locals := 12 } : Room).slots) := by
  refine MetFree.of_bodySF (plainFor_of_name pn_java_lang_Number) hisR ?_
  intro p e s m args below meth c s₁ Bd hml0 hP hK
  obtain ⟨rfl, hZ, hh⟩ := hP
  have hx := Bd.exec
  have hby := Bd.bytes
  have hml : c.maxLocals = 1 := hml0
  have hown : s.vm.findClass "java/lang/Number" = some m.cls := findClass_of_methodNamed Bd.named
  have hnm := (name_of_methodNamed Bd.named Bd.method).1
  have X0 : Stand p l e ({ frames := 1, cells := 0, slots := 0, locals := 12 } : Room) s m #[(.ref a)] below meth c s₁ [] 0 0 := Stand.of_body Bd
  have e0 : s₁.heap = h0 := by rw [← hh, Bd.state]; rfl
  have N0 := Fr.nil n0
  refine go_of (A := s₁.setTop (entryFrame m #[(.ref a)] 1)) (B := s₁.setTop (mkF m 0 #[.val (.ref a)] [])) (fun _ kk' => castTop (ef_rm14 m a) kk') ?_
  refine go_of (B := (s₁.setTop (mkF m 1 #[.val (.ref a)] [(.ref a)]))) (fun _ kk => XS.aloadN X0.here hx rfl (hb hby d14_0) rfl rfl kk) ?_
  obtain ⟨T1, X1, e1, st1⟩ := initO X0 hx hZ hown (hw _ (List.mem_of_getElem? (i := 97) rfl)) (hw _ (List.mem_of_getElem? (i := 7) rfl)) (hw _ (List.mem_of_getElem? (i := 8) rfl)) e0 (g := (mkF m 1 #[.val (.ref a)] [(.ref a)])) rfl (by rw [hml]; rfl) rfl (hb hby d14_1) (by decide) (W := 0) (by show 2 * 0 + _ ≤ _; exact Nat.le_of_eq rfl) (by decide)
  refine go_of (B := (T1.setTop (mkF m 4 #[.val (.ref a)] []))) (st1) ?_
  refine go_end X1 (v := none) (fun _ => rfl) Bd.notSynchronized (by decide) (by decide) (Q := (Q_rm14 Z a h0 n0)) ?_ (fun fs hr => X1.returnOut hx Bd.returns (hb hby d14_4) hr)
  show (fun (v : Option Value) (h : Heap) (L : List Loc) => v = none ∧ Fr n0 L ∧ h = h0) (none) T1.heap _
  rw [e1]
  exact ⟨rfl, N0, rfl⟩
theorem d13_0 : decode jdk_35_method_26_code 0 = .ok (.aload_n 0, 1) := by decide +kernel
theorem d13_1 : decode jdk_35_method_26_code 1 = .ok (.invokespecial 270, 3) := by decide +kernel
theorem d13_4 : decode jdk_35_method_26_code 4 = .ok (.aload_n 0, 1) := by decide +kernel
theorem d13_5 : decode jdk_35_method_26_code 5 = .ok (.lload_n 1, 1) := by decide +kernel
theorem d13_6 : decode jdk_35_method_26_code 6 = .ok (.putfield 273, 3) := by decide +kernel
theorem d13_9 : decode jdk_35_method_26_code 9 = .ok (.return_, 1) := by decide +kernel
def Q_rm13 (Z : State) (a : Addr) (q : Int64) (u : Value) (h0 : Heap) (n0 : Nat) (v : Option Value) (h : Heap) (L : List Loc) : Prop := v = none ∧ Fr n0 L ∧ Wr h0 h a (Jvm.RoadKit.slotOf Z "java/lang/Long" "value" "J") (.long q)
theorem pn_java_lang_Long : plainName "java/lang/Long" = true := by first | (simp [plainName, overriddenIn]; done) | decide +kernel
theorem ef_rm13 (m : MethodId) (a : Addr) (q : Int64)  : entryFrame m #[(.ref a), (.long q)] 3 = mkF m 0 #[.val (.ref a), .val (.long q), .second] [] := by first | (simp [entryFrame, mkF, argsToLocals, Value.category]; done) | rfl
set_option maxRecDepth 65536 in
set_option maxHeartbeats 40000000 in
theorem rm13 (l : Launch) (Z : State) (a0 : Array Value) (hw : ∀ d ∈ tables_1, d.before a0 Z = true) (ws : List Jvm.Cond) (a : Addr) (q : Int64) (u : Value) (h0 : Heap) (n0 : Nat) (Z0 : n0 ≤ h0.size) (E : Exa Z h0 a "java/lang/Long") (F : Fld Z h0 a "java/lang/Long" "value" "J" u) (g : n0 ≤ a) :
    MetFree l (⟨"java/lang/Long", "<init>", "(J)V"⟩ : MethodName) (head1 (Jvm.Cond.code (⟨"java/lang/Long", "<init>", "(J)V"⟩ : MethodName) jdk_35_method_26_code 3 none :: ws) ({ frames := 2, cells := 0, slots := 0, locals := 24 } : Room)) (fun aa' U1' => aa' = #[(.ref a), (.long q)] ∧ Z.Warmed39 U1'.vm ∧ U1'.heap = h0) (fun _ _ _ _ _ => True) (fun _ U1' oo' U2' => ∃ vv' LL', oo' = .returned vv' ∧ (Q_rm13 Z a q u h0 n0) vv' U2'.heap LL' ∧ FrameEnd U1' oo' U2' LL' ({ frames := 2, cells := 0, slots := 0, locals := 24 } : Room).cells ({ frames := 2, cells := 0, slots := 0, locals := 24 } : Room).slots) := by
  refine MetFree.of_bodySF (plainFor_of_name pn_java_lang_Long) hisR ?_
  intro p e s m args below meth c s₁ Bd hml0 hP hK
  obtain ⟨rfl, hZ, hh⟩ := hP
  have hx := Bd.exec
  have hby := Bd.bytes
  have hml : c.maxLocals = 3 := hml0
  have hown : s.vm.findClass "java/lang/Long" = some m.cls := findClass_of_methodNamed Bd.named
  have hnm := (name_of_methodNamed Bd.named Bd.method).1
  have X0 : Stand p l e ({ frames := 2, cells := 0, slots := 0, locals := 24 } : Room) s m #[(.ref a), (.long q)] below meth c s₁ [] 0 0 := Stand.of_body Bd
  have e0 : s₁.heap = h0 := by rw [← hh, Bd.state]; rfl
  have N0 := Fr.nil n0
  refine go_of (A := s₁.setTop (entryFrame m #[(.ref a), (.long q)] 3)) (B := s₁.setTop (mkF m 0 #[.val (.ref a), .val (.long q), .second] [])) (fun _ kk' => castTop (ef_rm13 m a q) kk') ?_
  refine go_of (B := (s₁.setTop (mkF m 1 #[.val (.ref a), .val (.long q), .second] [(.ref a)]))) (fun _ kk => XS.aloadN X0.here hx rfl (hb hby d13_0) rfl rfl kk) ?_
  obtain ⟨_, _, ⟨T1, L1, k1, n1⟩, -, X1, ⟨Lc1, hQ1, l1, y1, z1⟩, st1⟩ := X0.specialBack hx (y := (⟨"java/lang/Number", "<init>", "()V"⟩ : MethodName)) rfl hown (mvT hZ (hw _ (List.mem_of_getElem? (i := 91) rfl))) (mvT hZ (hw _ (List.mem_of_getElem? (i := 92) rfl))) (mvT hZ (hw _ (List.mem_of_getElem? (i := 96) rfl))) (by decide) (backOf (W := 0) (rm14 l Z a0 hw [] a h0 n0 Z0) hZ (hw _ (List.mem_of_getElem? (i := 96) rfl)) (hw _ (List.mem_of_getElem? (i := 95) rfl)) (by decide) (by decide)) (g := (mkF m 1 #[.val (.ref a), .val (.long q), .second] [(.ref a)])) rfl (by rw [hml]; rfl) (Steps.refl _) (a := a) (argsL := []) (rest := []) (lenOf pd___V rfl) rfl (by show 2 * 0 + _ ≤ _; exact Nat.le_of_eq rfl) (hb hby d13_1) (fun _ _ => ⟨rfl, e0, (by decide : 0 + 0 ≤ _), (by decide : 0 + 0 ≤ _)⟩)
  dsimp only [Pt.U, Pt.locs, Pt.cells, Pt.slots] at X1 l1 y1 z1 st1 hQ1
  subst l1 y1 z1
  obtain ⟨rfl, N1q, e1⟩ := hQ1
  have N1 := Fr.app N0 N1q
  refine go_tr (B := (T1.setTop (mkF m 4 #[.val (.ref a), .val (.long q), .second] []))) (st1) ?_
  refine go_of (B := (T1.setTop (mkF m 5 #[.val (.ref a), .val (.long q), .second] [(.ref a)]))) (fun _ kk => XS.aloadN X1.here hx rfl (hb hby d13_4) rfl rfl kk) ?_
  refine go_of (B := (T1.setTop (mkF m 6 #[.val (.ref a), .val (.long q), .second] [(.long q), (.ref a)]))) (fun _ kk => XS.lloadN X1.here hx rfl (hb hby d13_5) rfl kk) ?_
  obtain ⟨T2, h2, X2, e2, W2, st2⟩ := putF X1 hx hZ hown (host := "") (Or.inl (hw _ (List.mem_of_getElem? (i := 98) rfl))) Via.refl e1 F E (Or.inr ⟨(hw _ (List.mem_of_getElem? (i := 99) rfl)), rfl, hnm⟩) (hw _ (List.mem_of_getElem? (i := 86) rfl)) (ty := .long) (by decide) rfl rfl (g := (mkF m 6 #[.val (.ref a), .val (.long q), .second] [(.long q), (.ref a)])) rfl rfl (hb hby d13_6)
  have sz2 := W2.size
  have Fw2 := F.same W2
  have N2 := Fr.snoc X2 N1 (g : n0 ≤ a)
  refine go_of (B := (T2.setTop (mkF m 9 #[.val (.ref a), .val (.long q), .second] []))) (st2) ?_
  refine go_end X2 (v := none) (fun _ => rfl) Bd.notSynchronized (by decide) (by decide) (Q := (Q_rm13 Z a q u h0 n0)) ?_ (fun fs hr => X2.returnOut hx Bd.returns (hb hby d13_9) hr)
  show (fun (v : Option Value) (h : Heap) (L : List Loc) => v = none ∧ Fr n0 L ∧ Wr h0 h a (Jvm.RoadKit.slotOf Z "java/lang/Long" "value" "J") (.long q)) (none) T2.heap _
  rw [e2]
  exact ⟨rfl, N2, W2⟩
theorem d7_0 : decode jdk_35_method_24_code 0 = .ok (.sipush 128, 3) := by decide +kernel
theorem d7_3 : decode jdk_35_method_24_code 3 = .ok (.istore_n 2, 1) := by decide +kernel
theorem d7_4 : decode jdk_35_method_24_code 4 = .ok (.lload_n 0, 1) := by decide +kernel
theorem d7_5 : decode jdk_35_method_24_code 5 = .ok (.ldc2_w 230, 3) := by decide +kernel
theorem d7_8 : decode jdk_35_method_24_code 8 = .ok (.lcmp, 1) := by decide +kernel
theorem d7_9 : decode jdk_35_method_24_code 9 = .ok (.ifCond .lt 22, 3) := by decide +kernel
theorem d7_31 : decode jdk_35_method_24_code 31 = .ok (.new 1, 3) := by decide +kernel
theorem d7_34 : decode jdk_35_method_24_code 34 = .ok (.dup, 1) := by decide +kernel
theorem d7_35 : decode jdk_35_method_24_code 35 = .ok (.lload_n 0, 1) := by decide +kernel
theorem d7_36 : decode jdk_35_method_24_code 36 = .ok (.invokespecial 240, 3) := by decide +kernel
theorem pd__J_V : parseMethodDescriptor "(J)V" = some ⟨[.long], none⟩ := by decide +kernel
theorem d7_39 : decode jdk_35_method_24_code 39 = .ok (.areturn, 1) := by decide +kernel
def Q_rm7 (Z : State) (q : Int64) (wC : Addr) (clC : Cell) (h0 : Heap) (n0 : Nat) (v : Option Value) (h : Heap) (L : List Loc) : Prop := ∃ b : Addr, v = some (.ref b) ∧ Fr n0 L ∧ Keep h0 h [] ∧ Exa Z h b "java/lang/Long"
theorem d7_12 : decode jdk_35_method_24_code 12 = .ok (.lload_n 0, 1) := by decide +kernel
theorem d7_13 : decode jdk_35_method_24_code 13 = .ok (.ldc2_w 232, 3) := by decide +kernel
theorem d7_16 : decode jdk_35_method_24_code 16 = .ok (.lcmp, 1) := by decide +kernel
theorem d7_17 : decode jdk_35_method_24_code 17 = .ok (.ifCond .gt 14, 3) := by decide +kernel
theorem d7_20 : decode jdk_35_method_24_code 20 = .ok (.getstatic 234, 3) := by decide +kernel
theorem d7_23 : decode jdk_35_method_24_code 23 = .ok (.lload_n 0, 1) := by decide +kernel
theorem d7_24 : decode jdk_35_method_24_code 24 = .ok (.l2i, 1) := by decide +kernel
theorem d7_25 : decode jdk_35_method_24_code 25 = .ok (.sipush 128, 3) := by decide +kernel
theorem d7_28 : decode jdk_35_method_24_code 28 = .ok (.iadd, 1) := by decide +kernel
theorem d7_29 : decode jdk_35_method_24_code 29 = .ok (.aaload, 1) := by decide +kernel
theorem d7_30 : decode jdk_35_method_24_code 30 = .ok (.areturn, 1) := by decide +kernel
theorem ef_rm7 (m : MethodId) (q : Int64)  : entryFrame m #[(.long q)] 3 = mkF m 0 #[.val (.long q), .second, .unset] [] := by first | (simp [entryFrame, mkF, argsToLocals, Value.category]; done) | rfl
set_option maxRecDepth 65536 in
set_option maxHeartbeats 40000000 in
theorem rm7 (l : Launch) (Z : State) (a0 : Array Value) (hw : ∀ d ∈ tables_1, d.before a0 Z = true) (ws : List Jvm.Cond) (q : Int64) (wC : Addr) (clC : Cell) (h0 : Heap) (n0 : Nat) (Z0 : n0 ≤ h0.size) (O : Old Z n0 h0) (S : Sta Z Z.heap "java/lang/Long$LongCache" "cache" "[Ljava/lang/Long;" (.ref wC)) (Ar : Arr Z Z.heap wC clC (.object "java/lang/Long")) (hz : clC.slots.size = 256) (hcache : ∀ i, i < 256 → ∃ w, clC.slots[i]? = some (.ref w) ∧ Exa Z Z.heap w "java/lang/Long") :
    MetFree l (⟨"java/lang/Long", "valueOf", "(J)Ljava/lang/Long;"⟩ : MethodName) (head1 (Jvm.Cond.code (⟨"java/lang/Long", "valueOf", "(J)Ljava/lang/Long;"⟩ : MethodName) jdk_35_method_24_code 3 (some (.object "java/lang/Long")) :: ws) ({ frames := 3, cells := 1, slots := 1, locals := 39 } : Room)) (fun aa' U1' => aa' = #[(.long q)] ∧ Z.Warmed39 U1'.vm ∧ U1'.heap = h0) (fun _ _ _ _ _ => True) (fun _ U1' oo' U2' => ∃ vv' LL', oo' = .returned vv' ∧ (Q_rm7 Z q wC clC h0 n0) vv' U2'.heap LL' ∧ FrameEnd U1' oo' U2' LL' ({ frames := 3, cells := 1, slots := 1, locals := 39 } : Room).cells ({ frames := 3, cells := 1, slots := 1, locals := 39 } : Room).slots) := by
  refine MetFree.of_bodySF (plainFor_of_name pn_java_lang_Long) hisR ?_
  intro p e s m args below meth c s₁ Bd hml0 hP hK
  obtain ⟨rfl, hZ, hh⟩ := hP
  have hx := Bd.exec
  have hby := Bd.bytes
  have hml : c.maxLocals = 3 := hml0
  have hown : s.vm.findClass "java/lang/Long" = some m.cls := findClass_of_methodNamed Bd.named
  have hnm := (name_of_methodNamed Bd.named Bd.method).1
  have X0 : Stand p l e ({ frames := 3, cells := 1, slots := 1, locals := 39 } : Room) s m #[(.long q)] below meth c s₁ [] 0 0 := Stand.of_body Bd
  have e0 : s₁.heap = h0 := by rw [← hh, Bd.state]; rfl
  have N0 := Fr.nil n0
  refine go_of (A := s₁.setTop (entryFrame m #[(.long q)] 3)) (B := s₁.setTop (mkF m 0 #[.val (.long q), .second, .unset] [])) (fun _ kk' => castTop (ef_rm7 m q) kk') ?_
  refine go_of (B := (s₁.setTop (mkF m 3 #[.val (.long q), .second, .unset] [(.int (128 : Int32))]))) (fun _ kk => XS.sipush X0.here hx rfl (hb hby d7_0) kk) ?_
  refine go_of (B := (s₁.setTop (mkF m 4 #[.val (.long q), .second, .val (.int (128 : Int32))] []))) (fun _ kk => XS.istoreN X0.here hx rfl (hb hby d7_3) rfl rfl kk) ?_
  refine go_of (B := (s₁.setTop (mkF m 5 #[.val (.long q), .second, .val (.int (128 : Int32))] [(.long q)]))) (fun _ kk => XS.lloadN X0.here hx rfl (hb hby d7_4) rfl kk) ?_
  refine go_of (B := (s₁.setTop (mkF m 8 #[.val (.long q), .second, .val (.int (128 : Int32))] [(.long (-128 : Int64)), (.long q)]))) (fun _ kk => X0.ldc2Long hx hown (mvT hZ (hw _ (List.mem_of_getElem? (i := 46) rfl))) (g := (mkF m 5 #[.val (.long q), .second, .val (.int (128 : Int32))] [(.long q)])) rfl (hb hby d7_5) _ kk) ?_
  refine go_of (B := (s₁.setTop (mkF m 9 #[.val (.long q), .second, .val (.int (128 : Int32))] [(.int (lcmpW q (-128 : Int64)))]))) (fun _ kk => XS.lcmp X0.here hx rfl (hb hby d7_8) rfl kk) ?_
  by_cases hc1 : (lcmpW q (-128 : Int64)) < (0 : Int32)
  · refine go_of (B := (s₁.setTop (mkF m 31 #[.val (.long q), .second, .val (.int (128 : Int32))] []))) (fun _ kk => XS.ifYes X0.here hx rfl (pc0 := 9) (pc' := 31) rfl (hb hby d7_9) rfl ((if0 _ _).trans (tlt hc1).1) (by decide) (by decide) kk) ?_
    obtain ⟨T2, h2, X2, e2, E2, A2, D2, -, st2⟩ := newO X0 hx hZ hown (hw _ (List.mem_of_getElem? (i := 85) rfl)) (hw _ (List.mem_of_getElem? (i := 86) rfl)) (hw _ (List.mem_of_getElem? (i := 44) rfl)) e0 (g := (mkF m 31 #[.val (.long q), .second, .val (.int (128 : Int32))] [])) rfl (hb hby d7_31) (by decide) (by decide)
    obtain ⟨b2, g2⟩ : ∃ z, z = h0.size := ⟨_, rfl⟩
    rw [← g2] at A2 D2 st2
    have hi2 := own_nlt A2.lt
    have sz2 := E2.1
    have F2_value : Fld Z h2 b2 "java/lang/Long" "value" "J" (.long (0 : Int64)) := D2 (Or.inr (hw _ (List.mem_of_getElem? (i := 99) rfl))) (ty := .long) (by decide)
    refine go_of (B := (T2.setTop (mkF m 34 #[.val (.long q), .second, .val (.int (128 : Int32))] [(.ref b2)]))) (st2) ?_
    refine go_of (B := (T2.setTop (mkF m 35 #[.val (.long q), .second, .val (.int (128 : Int32))] [(.ref b2), (.ref b2)]))) (fun _ kk => XS.dup X2.here hx rfl (hb hby d7_34) rfl rfl kk) ?_
    refine go_of (B := (T2.setTop (mkF m 36 #[.val (.long q), .second, .val (.int (128 : Int32))] [(.long q), (.ref b2), (.ref b2)]))) (fun _ kk => XS.lloadN X2.here hx rfl (hb hby d7_35) rfl kk) ?_
    obtain ⟨_, _, ⟨T3, L3, k3, n3⟩, -, X3, ⟨Lc3, hQ3, l3, y3, z3⟩, st3⟩ := X2.specialBack hx (y := (⟨"java/lang/Long", "<init>", "(J)V"⟩ : MethodName)) rfl hown (mvT hZ (hw _ (List.mem_of_getElem? (i := 87) rfl))) (mvT hZ (hw _ (List.mem_of_getElem? (i := 88) rfl))) (mvT hZ (hw _ (List.mem_of_getElem? (i := 90) rfl))) (by decide) (backOf (W := 1) (rm13 l Z a0 hw [] b2 q _ h2 n0 (by first | omega | exact own_ne (by omega) | exact own_le (by omega)) A2 F2_value (by first | omega | exact own_ne (by omega) | exact own_le (by omega))) hZ (hw _ (List.mem_of_getElem? (i := 90) rfl)) (hw _ (List.mem_of_getElem? (i := 44) rfl)) (by decide) (by decide)) (g := (mkF m 36 #[.val (.long q), .second, .val (.int (128 : Int32))] [(.long q), (.ref b2), (.ref b2)])) rfl (by rw [hml]; rfl) (Steps.refl _) (a := b2) (argsL := [(.long q)]) (rest := [(.ref b2)]) (lenOf pd__J_V rfl) rfl (by show 2 * 0 + _ ≤ _; exact Nat.le_of_eq rfl) (hb hby d7_36) (fun _ _ => ⟨rfl, e2, (by decide : 1 + 0 ≤ _), (by decide : 1 + 0 ≤ _)⟩)
    dsimp only [Pt.U, Pt.locs, Pt.cells, Pt.slots] at X3 l3 y3 z3 st3 hQ3
    subst l3 y3 z3
    obtain ⟨rfl, N3q, W3⟩ := hQ3
    have N3 := Fr.app N0 N3q
    have sz3 := W3.size
    have Fw3 := F2_value.same W3
    refine go_tr (B := (T3.setTop (mkF m 39 #[.val (.long q), .second, .val (.int (128 : Int32))] [(.ref b2)]))) (st3) ?_
    have cf_4 := (A2.wr W3)
    refine go_end X3 (v := some (.ref b2)) (fun h => by rw [Bd.returns] at h; cases h) Bd.notSynchronized (by decide) (by decide) (Q := (Q_rm7 Z q wC clC h0 n0)) ?_ (fun fs hr => own_retA X3 hx Bd.returns rfl rfl (hb hby d7_39) hr)
    show (fun (v : Option Value) (h : Heap) (L : List Loc) => ∃ b : Addr, v = some (.ref b) ∧ Fr n0 L ∧ Keep h0 h [] ∧ Exa Z h b "java/lang/Long") (some (.ref b2)) T3.heap _
    exact ⟨b2, rfl, N3, (((Keep.refl h0 []).ext E2).wr W3 (Or.inr (by first | omega | exact own_ne (by omega) | exact own_le (by omega)))), cf_4⟩
  · refine go_of (B := (s₁.setTop (mkF m 12 #[.val (.long q), .second, .val (.int (128 : Int32))] []))) (fun _ kk => XS.ifNo X0.here hx rfl (hb hby d7_9) rfl ((if0 _ _).trans (flt hc1).1) kk) ?_
    refine go_of (B := (s₁.setTop (mkF m 13 #[.val (.long q), .second, .val (.int (128 : Int32))] [(.long q)]))) (fun _ kk => XS.lloadN X0.here hx rfl (hb hby d7_12) rfl kk) ?_
    refine go_of (B := (s₁.setTop (mkF m 16 #[.val (.long q), .second, .val (.int (128 : Int32))] [(.long (127 : Int64)), (.long q)]))) (fun _ kk => X0.ldc2Long hx hown (mvT hZ (hw _ (List.mem_of_getElem? (i := 47) rfl))) (g := (mkF m 13 #[.val (.long q), .second, .val (.int (128 : Int32))] [(.long q)])) rfl (hb hby d7_13) _ kk) ?_
    refine go_of (B := (s₁.setTop (mkF m 17 #[.val (.long q), .second, .val (.int (128 : Int32))] [(.int (lcmpW q (127 : Int64)))]))) (fun _ kk => XS.lcmp X0.here hx rfl (hb hby d7_16) rfl kk) ?_
    by_cases hc5 : (0 : Int32) < (lcmpW q (127 : Int64))
    · refine go_of (B := (s₁.setTop (mkF m 31 #[.val (.long q), .second, .val (.int (128 : Int32))] []))) (fun _ kk => XS.ifYes X0.here hx rfl (pc0 := 17) (pc' := 31) rfl (hb hby d7_17) rfl ((if0 _ _).trans (tlt hc5).2.2.1) (by decide) (by decide) kk) ?_
      obtain ⟨T6, h6, X6, e6, E6, A6, D6, -, st6⟩ := newO X0 hx hZ hown (hw _ (List.mem_of_getElem? (i := 85) rfl)) (hw _ (List.mem_of_getElem? (i := 86) rfl)) (hw _ (List.mem_of_getElem? (i := 44) rfl)) e0 (g := (mkF m 31 #[.val (.long q), .second, .val (.int (128 : Int32))] [])) rfl (hb hby d7_31) (by decide) (by decide)
      obtain ⟨b6, g6⟩ : ∃ z, z = h0.size := ⟨_, rfl⟩
      rw [← g6] at A6 D6 st6
      have hi6 := own_nlt A6.lt
      have sz6 := E6.1
      have F6_value : Fld Z h6 b6 "java/lang/Long" "value" "J" (.long (0 : Int64)) := D6 (Or.inr (hw _ (List.mem_of_getElem? (i := 99) rfl))) (ty := .long) (by decide)
      refine go_of (B := (T6.setTop (mkF m 34 #[.val (.long q), .second, .val (.int (128 : Int32))] [(.ref b6)]))) (st6) ?_
      refine go_of (B := (T6.setTop (mkF m 35 #[.val (.long q), .second, .val (.int (128 : Int32))] [(.ref b6), (.ref b6)]))) (fun _ kk => XS.dup X6.here hx rfl (hb hby d7_34) rfl rfl kk) ?_
      refine go_of (B := (T6.setTop (mkF m 36 #[.val (.long q), .second, .val (.int (128 : Int32))] [(.long q), (.ref b6), (.ref b6)]))) (fun _ kk => XS.lloadN X6.here hx rfl (hb hby d7_35) rfl kk) ?_
      obtain ⟨_, _, ⟨T7, L7, k7, n7⟩, -, X7, ⟨Lc7, hQ7, l7, y7, z7⟩, st7⟩ := X6.specialBack hx (y := (⟨"java/lang/Long", "<init>", "(J)V"⟩ : MethodName)) rfl hown (mvT hZ (hw _ (List.mem_of_getElem? (i := 87) rfl))) (mvT hZ (hw _ (List.mem_of_getElem? (i := 88) rfl))) (mvT hZ (hw _ (List.mem_of_getElem? (i := 90) rfl))) (by decide) (backOf (W := 1) (rm13 l Z a0 hw [] b6 q _ h6 n0 (by first | omega | exact own_ne (by omega) | exact own_le (by omega)) A6 F6_value (by first | omega | exact own_ne (by omega) | exact own_le (by omega))) hZ (hw _ (List.mem_of_getElem? (i := 90) rfl)) (hw _ (List.mem_of_getElem? (i := 44) rfl)) (by decide) (by decide)) (g := (mkF m 36 #[.val (.long q), .second, .val (.int (128 : Int32))] [(.long q), (.ref b6), (.ref b6)])) rfl (by rw [hml]; rfl) (Steps.refl _) (a := b6) (argsL := [(.long q)]) (rest := [(.ref b6)]) (lenOf pd__J_V rfl) rfl (by show 2 * 0 + _ ≤ _; exact Nat.le_of_eq rfl) (hb hby d7_36) (fun _ _ => ⟨rfl, e6, (by decide : 1 + 0 ≤ _), (by decide : 1 + 0 ≤ _)⟩)
      dsimp only [Pt.U, Pt.locs, Pt.cells, Pt.slots] at X7 l7 y7 z7 st7 hQ7
      subst l7 y7 z7
      obtain ⟨rfl, N7q, W7⟩ := hQ7
      have N7 := Fr.app N0 N7q
      have sz7 := W7.size
      have Fw7 := F6_value.same W7
      refine go_tr (B := (T7.setTop (mkF m 39 #[.val (.long q), .second, .val (.int (128 : Int32))] [(.ref b6)]))) (st7) ?_
      have cf_8 := (A6.wr W7)
      refine go_end X7 (v := some (.ref b6)) (fun h => by rw [Bd.returns] at h; cases h) Bd.notSynchronized (by decide) (by decide) (Q := (Q_rm7 Z q wC clC h0 n0)) ?_ (fun fs hr => own_retA X7 hx Bd.returns rfl rfl (hb hby d7_39) hr)
      show (fun (v : Option Value) (h : Heap) (L : List Loc) => ∃ b : Addr, v = some (.ref b) ∧ Fr n0 L ∧ Keep h0 h [] ∧ Exa Z h b "java/lang/Long") (some (.ref b6)) T7.heap _
      exact ⟨b6, rfl, N7, (((Keep.refl h0 []).ext E6).wr W7 (Or.inr (by first | omega | exact own_ne (by omega) | exact own_le (by omega)))), cf_8⟩
    · refine go_of (B := (s₁.setTop (mkF m 20 #[.val (.long q), .second, .val (.int (128 : Int32))] []))) (fun _ kk => XS.ifNo X0.here hx rfl (hb hby d7_17) rfl ((if0 _ _).trans (flt hc5).2.2.1) kk) ?_
      obtain ⟨T9, X9, e9, st9⟩ := getS2 X0 hx hZ hown (host := "") (Or.inl (hw _ (List.mem_of_getElem? (i := 48) rfl))) Via.refl e0 (S.ext O.2) (g := (mkF m 20 #[.val (.long q), .second, .val (.int (128 : Int32))] [])) rfl (hb hby d7_20)
      refine go_of (B := (T9.setTop (mkF m 23 #[.val (.long q), .second, .val (.int (128 : Int32))] [(.ref wC)]))) (st9) ?_
      refine go_of (B := (T9.setTop (mkF m 24 #[.val (.long q), .second, .val (.int (128 : Int32))] [(.long q), (.ref wC)]))) (fun _ kk => XS.lloadN X9.here hx rfl (hb hby d7_23) rfl kk) ?_
      refine go_of (B := (T9.setTop (mkF m 25 #[.val (.long q), .second, .val (.int (128 : Int32))] [(.int (q.toInt32)), (.ref wC)]))) (fun _ kk => XS.l2i X9.here hx rfl (hb hby d7_24) rfl kk) ?_
      refine go_of (B := (T9.setTop (mkF m 28 #[.val (.long q), .second, .val (.int (128 : Int32))] [(.int (128 : Int32)), (.int (q.toInt32)), (.ref wC)]))) (fun _ kk => XS.sipush X9.here hx rfl (hb hby d7_25) kk) ?_
      refine go_of (B := (T9.setTop (mkF m 29 #[.val (.long q), .second, .val (.int (128 : Int32))] [(.int ((q.toInt32) + (128 : Int32))), (.ref wC)]))) (fun _ kk => XS.iadd X9.here hx rfl (hb hby d7_28) rfl kk) ?_
      obtain ⟨hk10, hlt10⟩ := LongBox.place_okL q (fun z => hc1 ((lw_lt _ _).mpr z)) (fun z => hc5 ((lw_gt _ _).mpr z))
      obtain ⟨w10, hat10, Ew10⟩ := hcache _ hlt10
      have Ar10 := Ar.ext O.2
      refine go_of (B := (T9.setTop (mkF m 30 #[.val (.long q), .second, .val (.int (128 : Int32))] [(.ref w10)]))) (fun _ kk => X9.aaload hx (j := ((q.toInt32) + (128 : Int32))) (v := (.ref w10)) (by rw [e9]; exact Ar10.1) (State.isArrayOf_alike hZ.alike Ar10.2.1) rfl Ar10.2.2 (by rw [hz]; exact hk10) hat10 (g := (mkF m 29 #[.val (.long q), .second, .val (.int (128 : Int32))] [(.int ((q.toInt32) + (128 : Int32))), (.ref wC)])) rfl rfl (hb hby d7_29) _ kk) ?_
      refine go_end X9 (v := some (.ref w10)) (fun h => by rw [Bd.returns] at h; cases h) Bd.notSynchronized (by decide) (by decide) (Q := (Q_rm7 Z q wC clC h0 n0)) ?_ (fun fs hr => own_retA X9 hx Bd.returns rfl rfl (hb hby d7_30) hr)
      show (fun (v : Option Value) (h : Heap) (L : List Loc) => ∃ b : Addr, v = some (.ref b) ∧ Fr n0 L ∧ Keep h0 h [] ∧ Exa Z h b "java/lang/Long") (some (.ref w10)) T9.heap _
      rw [e9]
      exact ⟨w10, rfl, N0, (Keep.refl h0 []), (Ew10.ext O.2)⟩
theorem d1_0 : decode prog_11_method_1_code 0 = .ok (.aload_n 0, 1) := by decide +kernel
theorem d1_1 : decode prog_11_method_1_code 1 = .ok (.invokespecial 1, 3) := by decide +kernel
theorem d1_4 : decode prog_11_method_1_code 4 = .ok (.aload_n 0, 1) := by decide +kernel
theorem d1_5 : decode prog_11_method_1_code 5 = .ok (.lload_n 1, 1) := by decide +kernel
theorem d1_6 : decode prog_11_method_1_code 6 = .ok (.putfield 7, 3) := by decide +kernel
theorem d1_9 : decode prog_11_method_1_code 9 = .ok (.aload_n 0, 1) := by decide +kernel
theorem d1_10 : decode prog_11_method_1_code 10 = .ok (.aload_n 3, 1) := by decide +kernel
theorem d1_11 : decode prog_11_method_1_code 11 = .ok (.putfield 13, 3) := by decide +kernel
theorem d1_14 : decode prog_11_method_1_code 14 = .ok (.return_, 1) := by decide +kernel
def Q_ansL (Z : State) (a : Addr) (q : Int64) (y : Addr) (u : Value) (u2 : Value) (h0 : Heap) (n0 : Nat) (v : Option Value) (h : Heap) (L : List Loc) : Prop := v = none ∧ Fr n0 L ∧ Keep h0 h [a] ∧ Fld Z h a "com/example/holdfast/holdfast/HoldfastLock$Exclusive$Answer" "fence" "J" (.long q)
theorem pn_com_example_holdfast_holdfast_HoldfastLock_Exclusive_Answer : plainName "com/example/holdfast/holdfast/HoldfastLock$Exclusive$Answer" = true := by first | (simp [plainName, overriddenIn]; done) | decide +kernel
theorem ef_ansL (m : MethodId) (a : Addr) (q : Int64) (y : Addr)  : entryFrame m #[(.ref a), (.long q), (.ref y)] 4 = mkF m 0 #[.val (.ref a), .val (.long q), .second, .val (.ref y)] [] := by first | (simp [entryFrame, mkF, argsToLocals, Value.category]; done) | rfl
set_option maxRecDepth 65536 in
set_option maxHeartbeats 40000000 in
theorem ansL (l : Launch) (Z : State) (a0 : Array Value) (hw : ∀ d ∈ tables_1, d.before a0 Z = true) (ws : List Jvm.Cond) (a : Addr) (q : Int64) (y : Addr) (u : Value) (u2 : Value) (h0 : Heap) (n0 : Nat) (Z0 : n0 ≤ h0.size) (E : Exa Z h0 a "com/example/holdfast/holdfast/HoldfastLock$Exclusive$Answer") (F : Fld Z h0 a "com/example/holdfast/holdfast/HoldfastLock$Exclusive$Answer" "fence" "J" u) (F2 : Fld Z h0 a "com/example/holdfast/holdfast/HoldfastLock$Exclusive$Answer" "holder" "Ljava/util/List;" u2) (g : n0 ≤ a) :
    MetFree l (⟨"com/example/holdfast/holdfast/HoldfastLock$Exclusive$Answer", "<init>", "(JLjava/util/List;)V"⟩ : MethodName) (head1 (Jvm.Cond.code (⟨"com/example/holdfast/holdfast/HoldfastLock$Exclusive$Answer", "<init>", "(JLjava/util/List;)V"⟩ : MethodName) prog_11_method_1_code 4 none :: ws) ({ frames := 1, cells := 0, slots := 0, locals := 12 } : Room)) (fun aa' U1' => aa' = #[(.ref a), (.long q), (.ref y)] ∧ Z.Warmed39 U1'.vm ∧ U1'.heap = h0) (fun _ _ _ _ _ => True) (fun _ U1' oo' U2' => ∃ vv' LL', oo' = .returned vv' ∧ (Q_ansL Z a q y u u2 h0 n0) vv' U2'.heap LL' ∧ FrameEnd U1' oo' U2' LL' ({ frames := 1, cells := 0, slots := 0, locals := 12 } : Room).cells ({ frames := 1, cells := 0, slots := 0, locals := 12 } : Room).slots) := by
  refine MetFree.of_bodySF (plainFor_of_name pn_com_example_holdfast_holdfast_HoldfastLock_Exclusive_Answer) hisR ?_
  intro p e s m args below meth c s₁ Bd hml0 hP hK
  obtain ⟨rfl, hZ, hh⟩ := hP
  have hx := Bd.exec
  have hby := Bd.bytes
  have hml : c.maxLocals = 4 := hml0
  have hown : s.vm.findClass "com/example/holdfast/holdfast/HoldfastLock$Exclusive$Answer" = some m.cls := findClass_of_methodNamed Bd.named
  have hnm := (name_of_methodNamed Bd.named Bd.method).1
  have X0 : Stand p l e ({ frames := 1, cells := 0, slots := 0, locals := 12 } : Room) s m #[(.ref a), (.long q), (.ref y)] below meth c s₁ [] 0 0 := Stand.of_body Bd
  have e0 : s₁.heap = h0 := by rw [← hh, Bd.state]; rfl
  have N0 := Fr.nil n0
  refine go_of (A := s₁.setTop (entryFrame m #[(.ref a), (.long q), (.ref y)] 4)) (B := s₁.setTop (mkF m 0 #[.val (.ref a), .val (.long q), .second, .val (.ref y)] [])) (fun _ kk' => castTop (ef_ansL m a q y) kk') ?_
  refine go_of (B := (s₁.setTop (mkF m 1 #[.val (.ref a), .val (.long q), .second, .val (.ref y)] [(.ref a)]))) (fun _ kk => XS.aloadN X0.here hx rfl (hb hby d1_0) rfl rfl kk) ?_
  obtain ⟨T1, X1, e1, st1⟩ := initO X0 hx hZ hown (hw _ (List.mem_of_getElem? (i := 6) rfl)) (hw _ (List.mem_of_getElem? (i := 7) rfl)) (hw _ (List.mem_of_getElem? (i := 8) rfl)) e0 (g := (mkF m 1 #[.val (.ref a), .val (.long q), .second, .val (.ref y)] [(.ref a)])) rfl (by rw [hml]; rfl) rfl (hb hby d1_1) (by decide) (W := 0) (by show 2 * 0 + _ ≤ _; exact Nat.le_of_eq rfl) (by decide)
  refine go_of (B := (T1.setTop (mkF m 4 #[.val (.ref a), .val (.long q), .second, .val (.ref y)] []))) (st1) ?_
  refine go_of (B := (T1.setTop (mkF m 5 #[.val (.ref a), .val (.long q), .second, .val (.ref y)] [(.ref a)]))) (fun _ kk => XS.aloadN X1.here hx rfl (hb hby d1_4) rfl rfl kk) ?_
  refine go_of (B := (T1.setTop (mkF m 6 #[.val (.ref a), .val (.long q), .second, .val (.ref y)] [(.long q), (.ref a)]))) (fun _ kk => XS.lloadN X1.here hx rfl (hb hby d1_5) rfl kk) ?_
  obtain ⟨T2, h2, X2, e2, W2, st2⟩ := putF X1 hx hZ hown (host := "") (Or.inl (hw _ (List.mem_of_getElem? (i := 9) rfl))) Via.refl e1 F E (Or.inr ⟨(hw _ (List.mem_of_getElem? (i := 10) rfl)), rfl, hnm⟩) (hw _ (List.mem_of_getElem? (i := 1) rfl)) (ty := .long) (by decide) rfl rfl (g := (mkF m 6 #[.val (.ref a), .val (.long q), .second, .val (.ref y)] [(.long q), (.ref a)])) rfl rfl (hb hby d1_6)
  have sz2 := W2.size
  have Fw2 := F.same W2
  have N2 := Fr.snoc X2 N0 (g : n0 ≤ a)
  refine go_of (B := (T2.setTop (mkF m 9 #[.val (.ref a), .val (.long q), .second, .val (.ref y)] []))) (st2) ?_
  refine go_of (B := (T2.setTop (mkF m 10 #[.val (.ref a), .val (.long q), .second, .val (.ref y)] [(.ref a)]))) (fun _ kk => XS.aloadN X2.here hx rfl (hb hby d1_9) rfl rfl kk) ?_
  refine go_of (B := (T2.setTop (mkF m 11 #[.val (.ref a), .val (.long q), .second, .val (.ref y)] [(.ref y), (.ref a)]))) (fun _ kk => XS.aloadN X2.here hx rfl (hb hby d1_10) rfl rfl kk) ?_
  have cf_3 := (E.wr W2)
  have cf_4 := (F2.other W2 (Or.inr (slot_ne (Or.inr (hw _ (List.mem_of_getElem? (i := 12) rfl))) (Or.inr (hw _ (List.mem_of_getElem? (i := 10) rfl))) (by decide) (t := (.object "java/util/List")) (t' := .long) (by decide) (by decide))))
  obtain ⟨T5, h5, X5, e5, W5, st5⟩ := putF X2 hx hZ hown (host := "") (Or.inl (hw _ (List.mem_of_getElem? (i := 11) rfl))) Via.refl e2 cf_4 cf_3 (Or.inr ⟨(hw _ (List.mem_of_getElem? (i := 12) rfl)), rfl, hnm⟩) (hw _ (List.mem_of_getElem? (i := 1) rfl)) (ty := (.object "java/util/List")) (by decide) rfl rfl (g := (mkF m 11 #[.val (.ref a), .val (.long q), .second, .val (.ref y)] [(.ref y), (.ref a)])) rfl rfl (hb hby d1_11)
  have sz5 := W5.size
  have Fw5 := cf_4.same W5
  have N5 := Fr.snoc X5 N2 (g : n0 ≤ a)
  refine go_of (B := (T5.setTop (mkF m 14 #[.val (.ref a), .val (.long q), .second, .val (.ref y)] []))) (st5) ?_
  have cf_6 := (Fw2.other W5 (Or.inr (slot_ne (Or.inr (hw _ (List.mem_of_getElem? (i := 10) rfl))) (Or.inr (hw _ (List.mem_of_getElem? (i := 12) rfl))) (by decide) (t := .long) (t' := (.object "java/util/List")) (by decide) (by decide))))
  refine go_end X5 (v := none) (fun _ => rfl) Bd.notSynchronized (by decide) (by decide) (Q := (Q_ansL Z a q y u u2 h0 n0)) ?_ (fun fs hr => X5.returnOut hx Bd.returns (hb hby d1_14) hr)
  show (fun (v : Option Value) (h : Heap) (L : List Loc) => v = none ∧ Fr n0 L ∧ Keep h0 h [a] ∧ Fld Z h a "com/example/holdfast/holdfast/HoldfastLock$Exclusive$Answer" "fence" "J" (.long q)) (none) T5.heap _
  rw [e5]
  exact ⟨rfl, N5, (((Keep.refl h0 [a]).wr W2 (Or.inl (List.mem_of_getElem? (i := 0) rfl))).wr W5 (Or.inl (List.mem_of_getElem? (i := 0) rfl))), cf_6⟩
def Q_ansN (Z : State) (a : Addr) (q : Int64) (u : Value) (u2 : Value) (h0 : Heap) (n0 : Nat) (v : Option Value) (h : Heap) (L : List Loc) : Prop := v = none ∧ Fr n0 L ∧ Keep h0 h [a] ∧ Fld Z h a "com/example/holdfast/holdfast/HoldfastLock$Exclusive$Answer" "fence" "J" (.long q)
theorem ef_ansN (m : MethodId) (a : Addr) (q : Int64)  : entryFrame m #[(.ref a), (.long q), .null] 4 = mkF m 0 #[.val (.ref a), .val (.long q), .second, .val .null] [] := by first | (simp [entryFrame, mkF, argsToLocals, Value.category]; done) | rfl
set_option maxRecDepth 65536 in
set_option maxHeartbeats 40000000 in
theorem ansN (l : Launch) (Z : State) (a0 : Array Value) (hw : ∀ d ∈ tables_1, d.before a0 Z = true) (ws : List Jvm.Cond) (a : Addr) (q : Int64) (u : Value) (u2 : Value) (h0 : Heap) (n0 : Nat) (Z0 : n0 ≤ h0.size) (E : Exa Z h0 a "com/example/holdfast/holdfast/HoldfastLock$Exclusive$Answer") (F : Fld Z h0 a "com/example/holdfast/holdfast/HoldfastLock$Exclusive$Answer" "fence" "J" u) (F2 : Fld Z h0 a "com/example/holdfast/holdfast/HoldfastLock$Exclusive$Answer" "holder" "Ljava/util/List;" u2) (g : n0 ≤ a) :
    MetFree l (⟨"com/example/holdfast/holdfast/HoldfastLock$Exclusive$Answer", "<init>", "(JLjava/util/List;)V"⟩ : MethodName) (head1 (Jvm.Cond.code (⟨"com/example/holdfast/holdfast/HoldfastLock$Exclusive$Answer", "<init>", "(JLjava/util/List;)V"⟩ : MethodName) prog_11_method_1_code 4 none :: ws) ({ frames := 1, cells := 0, slots := 0, locals := 12 } : Room)) (fun aa' U1' => aa' = #[(.ref a), (.long q), .null] ∧ Z.Warmed39 U1'.vm ∧ U1'.heap = h0) (fun _ _ _ _ _ => True) (fun _ U1' oo' U2' => ∃ vv' LL', oo' = .returned vv' ∧ (Q_ansN Z a q u u2 h0 n0) vv' U2'.heap LL' ∧ FrameEnd U1' oo' U2' LL' ({ frames := 1, cells := 0, slots := 0, locals := 12 } : Room).cells ({ frames := 1, cells := 0, slots := 0, locals := 12 } : Room).slots) := by
  refine MetFree.of_bodySF (plainFor_of_name pn_com_example_holdfast_holdfast_HoldfastLock_Exclusive_Answer) hisR ?_
  intro p e s m args below meth c s₁ Bd hml0 hP hK
  obtain ⟨rfl, hZ, hh⟩ := hP
  have hx := Bd.exec
  have hby := Bd.bytes
  have hml : c.maxLocals = 4 := hml0
  have hown : s.vm.findClass "com/example/holdfast/holdfast/HoldfastLock$Exclusive$Answer" = some m.cls := findClass_of_methodNamed Bd.named
  have hnm := (name_of_methodNamed Bd.named Bd.method).1
  have X0 : Stand p l e ({ frames := 1, cells := 0, slots := 0, locals := 12 } : Room) s m #[(.ref a), (.long q), .null] below meth c s₁ [] 0 0 := Stand.of_body Bd
  have e0 : s₁.heap = h0 := by rw [← hh, Bd.state]; rfl
  have N0 := Fr.nil n0
  refine go_of (A := s₁.setTop (entryFrame m #[(.ref a), (.long q), .null] 4)) (B := s₁.setTop (mkF m 0 #[.val (.ref a), .val (.long q), .second, .val .null] [])) (fun _ kk' => castTop (ef_ansN m a q) kk') ?_
  refine go_of (B := (s₁.setTop (mkF m 1 #[.val (.ref a), .val (.long q), .second, .val .null] [(.ref a)]))) (fun _ kk => XS.aloadN X0.here hx rfl (hb hby d1_0) rfl rfl kk) ?_
  obtain ⟨T1, X1, e1, st1⟩ := initO X0 hx hZ hown (hw _ (List.mem_of_getElem? (i := 6) rfl)) (hw _ (List.mem_of_getElem? (i := 7) rfl)) (hw _ (List.mem_of_getElem? (i := 8) rfl)) e0 (g := (mkF m 1 #[.val (.ref a), .val (.long q), .second, .val .null] [(.ref a)])) rfl (by rw [hml]; rfl) rfl (hb hby d1_1) (by decide) (W := 0) (by show 2 * 0 + _ ≤ _; exact Nat.le_of_eq rfl) (by decide)
  refine go_of (B := (T1.setTop (mkF m 4 #[.val (.ref a), .val (.long q), .second, .val .null] []))) (st1) ?_
  refine go_of (B := (T1.setTop (mkF m 5 #[.val (.ref a), .val (.long q), .second, .val .null] [(.ref a)]))) (fun _ kk => XS.aloadN X1.here hx rfl (hb hby d1_4) rfl rfl kk) ?_
  refine go_of (B := (T1.setTop (mkF m 6 #[.val (.ref a), .val (.long q), .second, .val .null] [(.long q), (.ref a)]))) (fun _ kk => XS.lloadN X1.here hx rfl (hb hby d1_5) rfl kk) ?_
  obtain ⟨T2, h2, X2, e2, W2, st2⟩ := putF X1 hx hZ hown (host := "") (Or.inl (hw _ (List.mem_of_getElem? (i := 9) rfl))) Via.refl e1 F E (Or.inr ⟨(hw _ (List.mem_of_getElem? (i := 10) rfl)), rfl, hnm⟩) (hw _ (List.mem_of_getElem? (i := 1) rfl)) (ty := .long) (by decide) rfl rfl (g := (mkF m 6 #[.val (.ref a), .val (.long q), .second, .val .null] [(.long q), (.ref a)])) rfl rfl (hb hby d1_6)
  have sz2 := W2.size
  have Fw2 := F.same W2
  have N2 := Fr.snoc X2 N0 (g : n0 ≤ a)
  refine go_of (B := (T2.setTop (mkF m 9 #[.val (.ref a), .val (.long q), .second, .val .null] []))) (st2) ?_
  refine go_of (B := (T2.setTop (mkF m 10 #[.val (.ref a), .val (.long q), .second, .val .null] [(.ref a)]))) (fun _ kk => XS.aloadN X2.here hx rfl (hb hby d1_9) rfl rfl kk) ?_
  refine go_of (B := (T2.setTop (mkF m 11 #[.val (.ref a), .val (.long q), .second, .val .null] [.null, (.ref a)]))) (fun _ kk => XS.aloadN X2.here hx rfl (hb hby d1_10) rfl rfl kk) ?_
  have cf_3 := (E.wr W2)
  have cf_4 := (F2.other W2 (Or.inr (slot_ne (Or.inr (hw _ (List.mem_of_getElem? (i := 12) rfl))) (Or.inr (hw _ (List.mem_of_getElem? (i := 10) rfl))) (by decide) (t := (.object "java/util/List")) (t' := .long) (by decide) (by decide))))
  obtain ⟨T5, h5, X5, e5, W5, st5⟩ := putF X2 hx hZ hown (host := "") (Or.inl (hw _ (List.mem_of_getElem? (i := 11) rfl))) Via.refl e2 cf_4 cf_3 (Or.inr ⟨(hw _ (List.mem_of_getElem? (i := 12) rfl)), rfl, hnm⟩) (hw _ (List.mem_of_getElem? (i := 1) rfl)) (ty := (.object "java/util/List")) (by decide) rfl rfl (g := (mkF m 11 #[.val (.ref a), .val (.long q), .second, .val .null] [.null, (.ref a)])) rfl rfl (hb hby d1_11)
  have sz5 := W5.size
  have Fw5 := cf_4.same W5
  have N5 := Fr.snoc X5 N2 (g : n0 ≤ a)
  refine go_of (B := (T5.setTop (mkF m 14 #[.val (.ref a), .val (.long q), .second, .val .null] []))) (st5) ?_
  have cf_6 := (Fw2.other W5 (Or.inr (slot_ne (Or.inr (hw _ (List.mem_of_getElem? (i := 10) rfl))) (Or.inr (hw _ (List.mem_of_getElem? (i := 12) rfl))) (by decide) (t := .long) (t' := (.object "java/util/List")) (by decide) (by decide))))
  refine go_end X5 (v := none) (fun _ => rfl) Bd.notSynchronized (by decide) (by decide) (Q := (Q_ansN Z a q u u2 h0 n0)) ?_ (fun fs hr => X5.returnOut hx Bd.returns (hb hby d1_14) hr)
  show (fun (v : Option Value) (h : Heap) (L : List Loc) => v = none ∧ Fr n0 L ∧ Keep h0 h [a] ∧ Fld Z h a "com/example/holdfast/holdfast/HoldfastLock$Exclusive$Answer" "fence" "J" (.long q)) (none) T5.heap _
  rw [e5]
  exact ⟨rfl, N5, (((Keep.refl h0 [a]).wr W2 (Or.inl (List.mem_of_getElem? (i := 0) rfl))).wr W5 (Or.inl (List.mem_of_getElem? (i := 0) rfl))), cf_6⟩
def own_gr (q : Int64) : Int32 := if 0 < q then 1 else 0
theorem d3_0 : decode prog_11_method_2_code 0 = .ok (.aload_n 0, 1) := by decide +kernel
theorem d3_1 : decode prog_11_method_2_code 1 = .ok (.getfield 7, 3) := by decide +kernel
theorem d3_4 : decode prog_11_method_2_code 4 = .ok (.lconst 0, 1) := by decide +kernel
theorem d3_5 : decode prog_11_method_2_code 5 = .ok (.lcmp, 1) := by decide +kernel
theorem d3_6 : decode prog_11_method_2_code 6 = .ok (.ifCond .le 7, 3) := by decide +kernel
theorem d3_9 : decode prog_11_method_2_code 9 = .ok (.iconst 1, 1) := by decide +kernel
theorem d3_10 : decode prog_11_method_2_code 10 = .ok (.goto 4, 3) := by decide +kernel
theorem d3_14 : decode prog_11_method_2_code 14 = .ok (.ireturn, 1) := by decide +kernel
def Q_rm3 (Z : State) (a : Addr) (q : Int64) (h0 : Heap) (n0 : Nat) (v : Option Value) (h : Heap) (L : List Loc) : Prop := v = some (.int (own_gr q)) ∧ Fr n0 L ∧ h = h0
theorem d3_13 : decode prog_11_method_2_code 13 = .ok (.iconst 0, 1) := by decide +kernel
theorem ef_rm3 (m : MethodId) (a : Addr)  : entryFrame m #[(.ref a)] 1 = mkF m 0 #[.val (.ref a)] [] := by first | (simp [entryFrame, mkF, argsToLocals, Value.category]; done) | rfl
set_option maxRecDepth 65536 in
set_option maxHeartbeats 40000000 in
theorem rm3 (l : Launch) (Z : State) (a0 : Array Value) (hw : ∀ d ∈ tables_1, d.before a0 Z = true) (ws : List Jvm.Cond) (a : Addr) (q : Int64) (h0 : Heap) (n0 : Nat) (Z0 : n0 ≤ h0.size) (F : Fld Z h0 a "com/example/holdfast/holdfast/HoldfastLock$Exclusive$Answer" "fence" "J" (.long q)) :
    MetFree l (⟨"com/example/holdfast/holdfast/HoldfastLock$Exclusive$Answer", "granted", "()Z"⟩ : MethodName) (head1 (Jvm.Cond.code (⟨"com/example/holdfast/holdfast/HoldfastLock$Exclusive$Answer", "granted", "()Z"⟩ : MethodName) prog_11_method_2_code 1 (some .boolean) :: ws) ({ frames := 0, cells := 0, slots := 0, locals := 0 } : Room)) (fun aa' U1' => aa' = #[(.ref a)] ∧ Z.Warmed39 U1'.vm ∧ U1'.heap = h0) (fun _ _ _ _ _ => True) (fun _ U1' oo' U2' => ∃ vv' LL', oo' = .returned vv' ∧ (Q_rm3 Z a q h0 n0) vv' U2'.heap LL' ∧ FrameEnd U1' oo' U2' LL' ({ frames := 0, cells := 0, slots := 0, locals := 0 } : Room).cells ({ frames := 0, cells := 0, slots := 0, locals := 0 } : Room).slots) := by
  refine MetFree.of_bodySF (plainFor_of_name pn_com_example_holdfast_holdfast_HoldfastLock_Exclusive_Answer) hisR ?_
  intro p e s m args below meth c s₁ Bd hml0 hP hK
  obtain ⟨rfl, hZ, hh⟩ := hP
  have hx := Bd.exec
  have hby := Bd.bytes
  have hml : c.maxLocals = 1 := hml0
  have hown : s.vm.findClass "com/example/holdfast/holdfast/HoldfastLock$Exclusive$Answer" = some m.cls := findClass_of_methodNamed Bd.named
  have hnm := (name_of_methodNamed Bd.named Bd.method).1
  have X0 : Stand p l e ({ frames := 0, cells := 0, slots := 0, locals := 0 } : Room) s m #[(.ref a)] below meth c s₁ [] 0 0 := Stand.of_body Bd
  have e0 : s₁.heap = h0 := by rw [← hh, Bd.state]; rfl
  have N0 := Fr.nil n0
  refine go_of (A := s₁.setTop (entryFrame m #[(.ref a)] 1)) (B := s₁.setTop (mkF m 0 #[.val (.ref a)] [])) (fun _ kk' => castTop (ef_rm3 m a) kk') ?_
  refine go_of (B := (s₁.setTop (mkF m 1 #[.val (.ref a)] [(.ref a)]))) (fun _ kk => XS.aloadN X0.here hx rfl (hb hby d3_0) rfl rfl kk) ?_
  obtain ⟨T1, X1, e1, st1⟩ := getF X0 hx hZ hown (host := "") (Or.inl (hw _ (List.mem_of_getElem? (i := 9) rfl))) Via.refl e0 F (g := (mkF m 1 #[.val (.ref a)] [(.ref a)])) rfl rfl (hb hby d3_1)
  refine go_of (B := (T1.setTop (mkF m 4 #[.val (.ref a)] [(.long q)]))) (st1) ?_
  refine go_of (B := (T1.setTop (mkF m 5 #[.val (.ref a)] [(.long (0 : Int64)), (.long q)]))) (fun _ kk => XS.lconst X1.here hx rfl (hb hby d3_4) kk) ?_
  refine go_of (B := (T1.setTop (mkF m 6 #[.val (.ref a)] [(.int (lcmpW q (0 : Int64)))]))) (fun _ kk => XS.lcmp X1.here hx rfl (hb hby d3_5) rfl kk) ?_
  by_cases hc2 : (0 : Int32) < (lcmpW q (0 : Int64))
  · refine go_of (B := (T1.setTop (mkF m 9 #[.val (.ref a)] []))) (fun _ kk => XS.ifNo X1.here hx rfl (hb hby d3_6) rfl ((if0 _ _).trans (tlt hc2).2.2.2) kk) ?_
    refine go_of (B := (T1.setTop (mkF m 10 #[.val (.ref a)] [(.int (1 : Int32))]))) (fun _ kk => XS.iconst X1.here hx rfl (hb hby d3_9) kk) ?_
    refine go_of (B := (T1.setTop (mkF m 14 #[.val (.ref a)] [(.int (1 : Int32))]))) (fun _ kk => XS.goto X1.here hx rfl (pc0 := 10) (pc' := 14) rfl (hb hby d3_10) (by decide) (by decide) kk) ?_
    refine go_end X1 (v := some (.int (nar .boolean (1 : Int32)))) (fun h => by rw [Bd.returns] at h; cases h) Bd.notSynchronized (by decide) (by decide) (Q := (Q_rm3 Z a q h0 n0)) ?_ (fun fs hr => retN X1 hx (t := .boolean) Bd.returns (by simp) (hb hby d3_14) hr)
    show (fun (v : Option Value) (h : Heap) (L : List Loc) => v = some (.int (own_gr q)) ∧ Fr n0 L ∧ h = h0) (some (.int (nar .boolean (1 : Int32)))) T1.heap _
    rw [e1]
    simp only [lw_gt] at hc2
    refine ⟨?_, N0, rfl⟩
    simp [own_gr, nar, hc2]
  · refine go_of (B := (T1.setTop (mkF m 13 #[.val (.ref a)] []))) (fun _ kk => XS.ifYes X1.here hx rfl (pc0 := 6) (pc' := 13) rfl (hb hby d3_6) rfl ((if0 _ _).trans (flt hc2).2.2.2) (by decide) (by decide) kk) ?_
    refine go_of (B := (T1.setTop (mkF m 14 #[.val (.ref a)] [(.int (0 : Int32))]))) (fun _ kk => XS.iconst X1.here hx rfl (hb hby d3_13) kk) ?_
    refine go_end X1 (v := some (.int (nar .boolean (0 : Int32)))) (fun h => by rw [Bd.returns] at h; cases h) Bd.notSynchronized (by decide) (by decide) (Q := (Q_rm3 Z a q h0 n0)) ?_ (fun fs hr => retN X1 hx (t := .boolean) Bd.returns (by simp) (hb hby d3_14) hr)
    show (fun (v : Option Value) (h : Heap) (L : List Loc) => v = some (.int (own_gr q)) ∧ Fr n0 L ∧ h = h0) (some (.int (nar .boolean (0 : Int32)))) T1.heap _
    rw [e1]
    simp only [lw_gt] at hc2
    refine ⟨?_, N0, rfl⟩
    simp [own_gr, nar, hc2]
theorem own_gr_lt (q : Int64) (h : (lcmpW q (1 : Int64)) < (0 : Int32)) : own_gr q = (0 : Int32) := by
  rw [lw_lt, Int64.lt_iff_toInt_lt] at h
  rw [own_gr, if_neg]; rw [Int64.lt_iff_toInt_lt]; have e : (1 : Int64).toInt = 1 := rfl; have e0 : (0 : Int64).toInt = 0 := rfl; omega
theorem own_gr_ge (q : Int64) (h : ¬ (lcmpW q (1 : Int64)) < (0 : Int32)) : own_gr q = (1 : Int32) := by
  rw [lw_lt, Int64.lt_iff_toInt_lt] at h
  rw [own_gr, if_pos]; rw [Int64.lt_iff_toInt_lt]; have e : (1 : Int64).toInt = 1 := rfl; have e0 : (0 : Int64).toInt = 0 := rfl; omega
theorem pd__JLjava_util_List__V : parseMethodDescriptor "(JLjava/util/List;)V" = some ⟨[.long, (.object "java/util/List")], none⟩ := by decide +kernel
theorem pd___Z : parseMethodDescriptor "()Z" = some ⟨[], some .boolean⟩ := by decide +kernel
def Q_rm0 (Z : State) (q : Int64) (r : Int64) (fl : Int32) (wD : Addr) (kD : ClassId) (wC : Addr) (clC : Cell) (h0 : Heap) (n0 : Nat) (v : Option Value) (h : Heap) (L : List Loc) : Prop := v = some (.int 1) ∧ Fr n0 L
theorem pd__J_Ljava_lang_Long_ : parseMethodDescriptor "(J)Ljava/lang/Long;" = some ⟨[.long], some (.object "java/lang/Long")⟩ := by decide +kernel
theorem pd__Ljava_lang_Object__Z : parseMethodDescriptor "(Ljava/lang/Object;)Z" = some ⟨[(.object "java/lang/Object")], some .boolean⟩ := by decide +kernel
theorem pn_com_example_holdfast_holdfast_AnswerGrantedPinLaw : plainName "com/example/holdfast/holdfast/AnswerGrantedPinLaw" = true := by first | (simp [plainName, overriddenIn]; done) | decide +kernel
theorem ef_rm0 (m : MethodId) (q : Int64) (r : Int64) (fl : Int32)  : entryFrame m #[(.long q), (.long r), (.int fl)] maxLocals = mkF m 0 #[.val (.long q), .second, .val (.long r), .second, .val (.int fl), .unset, .unset, .unset] [] := by first | (simp [entryFrame, mkF, argsToLocals, Value.category, maxLocals]; done) | rfl
set_option maxRecDepth 65536 in
set_option maxHeartbeats 40000000 in
theorem rm0 (l : Launch) (Z : State) (a0 : Array Value) (hw : ∀ d ∈ tables_1, d.before a0 Z = true) (ws : List Jvm.Cond) (q : Int64) (r : Int64) (fl : Int32) (wD : Addr) (kD : ClassId) (wC : Addr) (clC : Cell) (h0 : Heap) (n0 : Nat) (Z0 : n0 ≤ h0.size) (O : Old Z n0 h0) (SD : Sta Z Z.heap "java/util/ArrayList" "DEFAULTCAPACITY_EMPTY_ELEMENTDATA" "[Ljava/lang/Object;" (.ref wD)) (VD : Arv Z Z.heap wD kD (.object "java/lang/Object") 0 [] .null) (SC : Sta Z Z.heap "java/lang/Long$LongCache" "cache" "[Ljava/lang/Long;" (.ref wC)) (Ar : Arr Z Z.heap wC clC (.object "java/lang/Long")) (hz : clC.slots.size = 256) (hcache : ∀ i, i < 256 → ∃ w, clC.slots[i]? = some (.ref w) ∧ Exa Z Z.heap w "java/lang/Long") :
    MetFree l x (head1 (Jvm.Cond.code x code maxLocals ret :: ws) room_1) (fun aa' U1' => aa' = #[(.long q), (.long r), (.int fl)] ∧ Z.Warmed39 U1'.vm ∧ U1'.heap = h0) (fun _ _ _ _ _ => True) (fun _ U1' oo' U2' => ∃ vv' LL', oo' = .returned vv' ∧ (Q_rm0 Z q r fl wD kD wC clC h0 n0) vv' U2'.heap LL' ∧ FrameEnd U1' oo' U2' LL' room_1.cells room_1.slots) := by
  refine MetFree.of_bodySF (plainFor_of_name pn_com_example_holdfast_holdfast_AnswerGrantedPinLaw) hisR ?_
  intro p e s m args below meth c s₁ Bd hml0 hP hK
  obtain ⟨rfl, hZ, hh⟩ := hP
  have hx := Bd.exec
  have hby := Bd.bytes
  have hml : c.maxLocals = 8 := hml0
  have hown : s.vm.findClass "com/example/holdfast/holdfast/AnswerGrantedPinLaw" = some m.cls := findClass_of_methodNamed Bd.named
  have hnm := (name_of_methodNamed Bd.named Bd.method).1
  have X0 : Stand p l e room_1 s m #[(.long q), (.long r), (.int fl)] below meth c s₁ [] 0 0 := Stand.of_body Bd
  have e0 : s₁.heap = h0 := by rw [← hh, Bd.state]; rfl
  have N0 := Fr.nil n0
  have D0 : wD < n0 := by have q := own_nlt VD.lt; have r := O.1; exact (show @LT.lt Nat instLTNat wD n0 by omega)
  refine go_of (A := s₁.setTop (entryFrame m #[(.long q), (.long r), (.int fl)] maxLocals)) (B := s₁.setTop (mkF m 0 #[.val (.long q), .second, .val (.long r), .second, .val (.int fl), .unset, .unset, .unset] [])) (fun _ kk' => castTop (ef_rm0 m q r fl) kk') ?_
  refine go_of (B := (s₁.setTop (mkF m 1 #[.val (.long q), .second, .val (.long r), .second, .val (.int fl), .unset, .unset, .unset] [.null]))) (fun _ kk => XS.aconstNull X0.here hx rfl (hb hby at_0) kk) ?_
  refine go_of (B := (s₁.setTop (mkF m 3 #[.val (.long q), .second, .val (.long r), .second, .val (.int fl), .val .null, .unset, .unset] []))) (fun _ kk => XS.astore X0.here hx rfl (hb hby at_1) rfl rfl rfl kk) ?_
  refine go_of (B := (s₁.setTop (mkF m 5 #[.val (.long q), .second, .val (.long r), .second, .val (.int fl), .val .null, .unset, .unset] [(.int fl)]))) (fun _ kk => XS.iload X0.here hx rfl (hb hby at_3) rfl kk) ?_
  refine go_of (B := (s₁.setTop (mkF m 6 #[.val (.long q), .second, .val (.long r), .second, .val (.int fl), .val .null, .unset, .unset] [(.int (1 : Int32)), (.int fl)]))) (fun _ kk => XS.iconst X0.here hx rfl (hb hby at_5) kk) ?_
  refine go_of (B := (s₁.setTop (mkF m 7 #[.val (.long q), .second, .val (.long r), .second, .val (.int fl), .val .null, .unset, .unset] [(.int (fl &&& (1 : Int32)))]))) (fun _ kk => XS.iand X0.here hx rfl (hb hby at_6) rfl kk) ?_
  by_cases hc1 : (fl &&& (1 : Int32)) = (0 : Int32)
  · refine go_of (B := (s₁.setTop (mkF m 43 #[.val (.long q), .second, .val (.long r), .second, .val (.int fl), .val .null, .unset, .unset] []))) (fun _ kk => XS.ifYes X0.here hx rfl (pc0 := 7) (pc' := 43) rfl (hb hby at_7) rfl ((if0 _ _).trans (teq hc1).1) (by decide) (by decide) kk) ?_
    obtain ⟨T2, h2, X2, e2, E2, A2, D2, -, st2⟩ := newO X0 hx hZ hown (hw _ (List.mem_of_getElem? (i := 0) rfl)) (hw _ (List.mem_of_getElem? (i := 1) rfl)) (hw _ (List.mem_of_getElem? (i := 2) rfl)) e0 (g := (mkF m 43 #[.val (.long q), .second, .val (.long r), .second, .val (.int fl), .val .null, .unset, .unset] [])) rfl (hb hby at_43) (by decide) (by decide)
    obtain ⟨b2, g2⟩ : ∃ z, z = h0.size := ⟨_, rfl⟩
    rw [← g2] at A2 D2 st2
    have hi2 := own_nlt A2.lt
    have sz2 := E2.1
    have F2_fence : Fld Z h2 b2 "com/example/holdfast/holdfast/HoldfastLock$Exclusive$Answer" "fence" "J" (.long (0 : Int64)) := D2 (Or.inr (hw _ (List.mem_of_getElem? (i := 10) rfl))) (ty := .long) (by decide)
    have F2_holder : Fld Z h2 b2 "com/example/holdfast/holdfast/HoldfastLock$Exclusive$Answer" "holder" "Ljava/util/List;" .null := D2 (Or.inr (hw _ (List.mem_of_getElem? (i := 12) rfl))) (ty := (.object "java/util/List")) (by decide)
    refine go_of (B := (T2.setTop (mkF m 46 #[.val (.long q), .second, .val (.long r), .second, .val (.int fl), .val .null, .unset, .unset] [(.ref b2)]))) (st2) ?_
    refine go_of (B := (T2.setTop (mkF m 47 #[.val (.long q), .second, .val (.long r), .second, .val (.int fl), .val .null, .unset, .unset] [(.ref b2), (.ref b2)]))) (fun _ kk => XS.dup X2.here hx rfl (hb hby at_46) rfl rfl kk) ?_
    refine go_of (B := (T2.setTop (mkF m 48 #[.val (.long q), .second, .val (.long r), .second, .val (.int fl), .val .null, .unset, .unset] [(.long q), (.ref b2), (.ref b2)]))) (fun _ kk => XS.lloadN X2.here hx rfl (hb hby at_47) rfl kk) ?_
    refine go_of (B := (T2.setTop (mkF m 50 #[.val (.long q), .second, .val (.long r), .second, .val (.int fl), .val .null, .unset, .unset] [.null, (.long q), (.ref b2), (.ref b2)]))) (fun _ kk => XS.aload X2.here hx rfl (hb hby at_48) rfl rfl kk) ?_
    obtain ⟨_, _, ⟨T3, L3, k3, n3⟩, -, X3, ⟨Lc3, hQ3, l3, y3, z3⟩, st3⟩ := X2.specialBack hx (y := (⟨"com/example/holdfast/holdfast/HoldfastLock$Exclusive$Answer", "<init>", "(JLjava/util/List;)V"⟩ : MethodName)) rfl hown (mvT hZ (hw _ (List.mem_of_getElem? (i := 3) rfl))) (mvT hZ (hw _ (List.mem_of_getElem? (i := 4) rfl))) (mvT hZ (hw _ (List.mem_of_getElem? (i := 5) rfl))) (by decide) (backOf (W := 1) (ansN l Z a0 hw [] b2 q _ _ h2 n0 (by first | omega | exact own_ne (by omega) | exact own_le (by omega)) A2 F2_fence F2_holder (by first | omega | exact own_ne (by omega) | exact own_le (by omega))) hZ (hw _ (List.mem_of_getElem? (i := 5) rfl)) (hw _ (List.mem_of_getElem? (i := 2) rfl)) (by decide) (by decide)) (g := (mkF m 50 #[.val (.long q), .second, .val (.long r), .second, .val (.int fl), .val .null, .unset, .unset] [.null, (.long q), (.ref b2), (.ref b2)])) rfl (by rw [hml]; rfl) (Steps.refl _) (a := b2) (argsL := [(.long q), .null]) (rest := [(.ref b2)]) (lenOf pd__JLjava_util_List__V rfl) rfl (by show 2 * 0 + _ ≤ _; exact Nat.le_of_eq rfl) (hb hby at_50) (fun _ _ => ⟨rfl, e2, (by decide : 1 + 0 ≤ _), (by decide : 2 + 0 ≤ _)⟩)
    dsimp only [Pt.U, Pt.locs, Pt.cells, Pt.slots] at X3 l3 y3 z3 st3 hQ3
    subst l3 y3 z3
    obtain ⟨rfl, N3q, K3, F3⟩ := hQ3
    have N3 := Fr.app N0 N3q
    have sz3 := K3.1
    refine go_tr (B := (T3.setTop (mkF m 53 #[.val (.long q), .second, .val (.long r), .second, .val (.int fl), .val .null, .unset, .unset] [(.ref b2)]))) (st3) ?_
    refine go_of (B := (T3.setTop (mkF m 55 #[.val (.long q), .second, .val (.long r), .second, .val (.int fl), .val .null, .val (.ref b2), .unset] []))) (fun _ kk => XS.astore X3.here hx rfl (hb hby at_53) rfl rfl rfl kk) ?_
    refine go_of (B := (T3.setTop (mkF m 56 #[.val (.long q), .second, .val (.long r), .second, .val (.int fl), .val .null, .val (.ref b2), .unset] [(.long q)]))) (fun _ kk => XS.lloadN X3.here hx rfl (hb hby at_55) rfl kk) ?_
    refine go_of (B := (T3.setTop (mkF m 57 #[.val (.long q), .second, .val (.long r), .second, .val (.int fl), .val .null, .val (.ref b2), .unset] [(.long (1 : Int64)), (.long q)]))) (fun _ kk => XS.lconst X3.here hx rfl (hb hby at_56) kk) ?_
    refine go_of (B := (T3.setTop (mkF m 58 #[.val (.long q), .second, .val (.long r), .second, .val (.int fl), .val .null, .val (.ref b2), .unset] [(.int (lcmpW q (1 : Int64)))]))) (fun _ kk => XS.lcmp X3.here hx rfl (hb hby at_57) rfl kk) ?_
    by_cases hc4 : (lcmpW q (1 : Int64)) < (0 : Int32)
    · refine go_of (B := (T3.setTop (mkF m 67 #[.val (.long q), .second, .val (.long r), .second, .val (.int fl), .val .null, .val (.ref b2), .unset] []))) (fun _ kk => XS.ifYes X3.here hx rfl (pc0 := 58) (pc' := 67) rfl (hb hby at_58) rfl ((if0 _ _).trans (tlt hc4).1) (by decide) (by decide) kk) ?_
      refine go_of (B := (T3.setTop (mkF m 68 #[.val (.long q), .second, .val (.long r), .second, .val (.int fl), .val .null, .val (.ref b2), .unset] [(.int (0 : Int32))]))) (fun _ kk => XS.iconst X3.here hx rfl (hb hby at_67) kk) ?_
      refine go_of (B := (T3.setTop (mkF m 70 #[.val (.long q), .second, .val (.long r), .second, .val (.int fl), .val .null, .val (.ref b2), .val (.int (0 : Int32))] []))) (fun _ kk => XS.istore X3.here hx rfl (hb hby at_68) rfl rfl kk) ?_
      refine go_of (B := (T3.setTop (mkF m 72 #[.val (.long q), .second, .val (.long r), .second, .val (.int fl), .val .null, .val (.ref b2), .val (.int (0 : Int32))] [(.ref b2)]))) (fun _ kk => XS.aload X3.here hx rfl (hb hby at_70) rfl rfl kk) ?_
      have cf_6 := (A2.keep K3)
      obtain ⟨cq5, kq5, q5a, q5b, q5c⟩ := isOf hZ rfl cf_6
      obtain ⟨_, _, ⟨T5, L5, k5, n5⟩, -, X5, ⟨Lc5, hQ5, l5, y5, z5⟩, st5⟩ := X3.virtualBack hx (y := (⟨"com/example/holdfast/holdfast/HoldfastLock$Exclusive$Answer", "granted", "()Z"⟩ : MethodName)) (z := (⟨"com/example/holdfast/holdfast/HoldfastLock$Exclusive$Answer", "granted", "()Z"⟩ : MethodName)) hown (mvT hZ (hw _ (List.mem_of_getElem? (i := 13) rfl))) (mvT hZ (hw _ (List.mem_of_getElem? (i := 14) rfl))) (notFace_of_selects (args := #[]) (mvT hZ (hw _ (List.mem_of_getElem? (i := 16) rfl)))) (mvT hZ (hw _ (List.mem_of_getElem? (i := 16) rfl))) (mvT hZ (hw _ (List.mem_of_getElem? (i := 15) rfl))) (by decide) (backOf (W := 0) (rm3 l Z a0 hw [] b2 q T3.heap n0 (by first | omega | exact own_ne (by omega) | exact own_le (by omega)) F3) hZ (hw _ (List.mem_of_getElem? (i := 17) rfl)) (hw _ (List.mem_of_getElem? (i := 2) rfl)) (by decide) (by decide)) q5a q5c (g := (mkF m 72 #[.val (.long q), .second, .val (.long r), .second, .val (.int fl), .val .null, .val (.ref b2), .val (.int (0 : Int32))] [(.ref b2)])) rfl (by rw [hml]; rfl) (Steps.refl _) (argsL := []) (rest := []) (lenOf pd___Z rfl) rfl (by show 2 * 0 + _ ≤ _; exact Nat.le_of_eq rfl) (hb hby at_72) (fun _ _ => ⟨rfl, rfl, (by decide : 1 + 0 ≤ _), (by decide : 2 + 0 ≤ _)⟩)
      dsimp only [Pt.U, Pt.locs, Pt.cells, Pt.slots] at X5 l5 y5 z5 st5 hQ5
      subst l5 y5 z5
      obtain ⟨rfl, N5q, e5⟩ := hQ5
      have N5 := Fr.app N3 N5q
      refine go_tr (B := (T5.setTop (mkF m 75 #[.val (.long q), .second, .val (.long r), .second, .val (.int fl), .val .null, .val (.ref b2), .val (.int (0 : Int32))] [(.int (own_gr q))]))) (st5) ?_
      refine go_of (B := (T5.setTop (mkF m 77 #[.val (.long q), .second, .val (.long r), .second, .val (.int fl), .val .null, .val (.ref b2), .val (.int (0 : Int32))] [(.int (0 : Int32)), (.int (own_gr q))]))) (fun _ kk => XS.iload X5.here hx rfl (hb hby at_75) rfl kk) ?_
      refine go_of (B := (T5.setTop (mkF m 80 #[.val (.long q), .second, .val (.long r), .second, .val (.int fl), .val .null, .val (.ref b2), .val (.int (0 : Int32))] []))) (fun _ kk => XS.icmpNo X5.here hx rfl (hb hby at_77) rfl (teq (own_gr_lt q hc4 : (own_gr q) = (0 : Int32))).2 kk) ?_
      refine go_of (B := (T5.setTop (mkF m 81 #[.val (.long q), .second, .val (.long r), .second, .val (.int fl), .val .null, .val (.ref b2), .val (.int (0 : Int32))] [(.int (1 : Int32))]))) (fun _ kk => XS.iconst X5.here hx rfl (hb hby at_80) kk) ?_
      refine go_of (B := (T5.setTop (mkF m 85 #[.val (.long q), .second, .val (.long r), .second, .val (.int fl), .val .null, .val (.ref b2), .val (.int (0 : Int32))] [(.int (1 : Int32))]))) (fun _ kk => XS.goto X5.here hx rfl (pc0 := 81) (pc' := 85) rfl (hb hby at_81) (by decide) (by decide) kk) ?_
      refine go_end X5 (v := some (.int (nar .boolean (1 : Int32)))) (fun h => by rw [Bd.returns] at h; cases h) Bd.notSynchronized (by decide) (by decide) (Q := (Q_rm0 Z q r fl wD kD wC clC h0 n0)) ?_ (fun fs hr => retN X5 hx (t := .boolean) Bd.returns (by simp) (hb hby at_85) hr)
      show (fun (v : Option Value) (h : Heap) (L : List Loc) => v = some (.int 1) ∧ Fr n0 L) (some (.int (nar .boolean (1 : Int32)))) T5.heap _
      rw [e5]
      exact ⟨rfl, N5⟩
    · refine go_of (B := (T3.setTop (mkF m 61 #[.val (.long q), .second, .val (.long r), .second, .val (.int fl), .val .null, .val (.ref b2), .unset] []))) (fun _ kk => XS.ifNo X3.here hx rfl (hb hby at_58) rfl ((if0 _ _).trans (flt hc4).1) kk) ?_
      refine go_of (B := (T3.setTop (mkF m 62 #[.val (.long q), .second, .val (.long r), .second, .val (.int fl), .val .null, .val (.ref b2), .unset] [(.int (1 : Int32))]))) (fun _ kk => XS.iconst X3.here hx rfl (hb hby at_61) kk) ?_
      refine go_of (B := (T3.setTop (mkF m 64 #[.val (.long q), .second, .val (.long r), .second, .val (.int fl), .val .null, .val (.ref b2), .val (.int (1 : Int32))] []))) (fun _ kk => XS.istore X3.here hx rfl (hb hby at_62) rfl rfl kk) ?_
      refine go_of (B := (T3.setTop (mkF m 70 #[.val (.long q), .second, .val (.long r), .second, .val (.int fl), .val .null, .val (.ref b2), .val (.int (1 : Int32))] []))) (fun _ kk => XS.goto X3.here hx rfl (pc0 := 64) (pc' := 70) rfl (hb hby at_64) (by decide) (by decide) kk) ?_
      refine go_of (B := (T3.setTop (mkF m 72 #[.val (.long q), .second, .val (.long r), .second, .val (.int fl), .val .null, .val (.ref b2), .val (.int (1 : Int32))] [(.ref b2)]))) (fun _ kk => XS.aload X3.here hx rfl (hb hby at_70) rfl rfl kk) ?_
      have cf_8 := (A2.keep K3)
      obtain ⟨cq7, kq7, q7a, q7b, q7c⟩ := isOf hZ rfl cf_8
      obtain ⟨_, _, ⟨T7, L7, k7, n7⟩, -, X7, ⟨Lc7, hQ7, l7, y7, z7⟩, st7⟩ := X3.virtualBack hx (y := (⟨"com/example/holdfast/holdfast/HoldfastLock$Exclusive$Answer", "granted", "()Z"⟩ : MethodName)) (z := (⟨"com/example/holdfast/holdfast/HoldfastLock$Exclusive$Answer", "granted", "()Z"⟩ : MethodName)) hown (mvT hZ (hw _ (List.mem_of_getElem? (i := 13) rfl))) (mvT hZ (hw _ (List.mem_of_getElem? (i := 14) rfl))) (notFace_of_selects (args := #[]) (mvT hZ (hw _ (List.mem_of_getElem? (i := 16) rfl)))) (mvT hZ (hw _ (List.mem_of_getElem? (i := 16) rfl))) (mvT hZ (hw _ (List.mem_of_getElem? (i := 15) rfl))) (by decide) (backOf (W := 0) (rm3 l Z a0 hw [] b2 q T3.heap n0 (by first | omega | exact own_ne (by omega) | exact own_le (by omega)) F3) hZ (hw _ (List.mem_of_getElem? (i := 17) rfl)) (hw _ (List.mem_of_getElem? (i := 2) rfl)) (by decide) (by decide)) q7a q7c (g := (mkF m 72 #[.val (.long q), .second, .val (.long r), .second, .val (.int fl), .val .null, .val (.ref b2), .val (.int (1 : Int32))] [(.ref b2)])) rfl (by rw [hml]; rfl) (Steps.refl _) (argsL := []) (rest := []) (lenOf pd___Z rfl) rfl (by show 2 * 0 + _ ≤ _; exact Nat.le_of_eq rfl) (hb hby at_72) (fun _ _ => ⟨rfl, rfl, (by decide : 1 + 0 ≤ _), (by decide : 2 + 0 ≤ _)⟩)
      dsimp only [Pt.U, Pt.locs, Pt.cells, Pt.slots] at X7 l7 y7 z7 st7 hQ7
      subst l7 y7 z7
      obtain ⟨rfl, N7q, e7⟩ := hQ7
      have N7 := Fr.app N3 N7q
      refine go_tr (B := (T7.setTop (mkF m 75 #[.val (.long q), .second, .val (.long r), .second, .val (.int fl), .val .null, .val (.ref b2), .val (.int (1 : Int32))] [(.int (own_gr q))]))) (st7) ?_
      refine go_of (B := (T7.setTop (mkF m 77 #[.val (.long q), .second, .val (.long r), .second, .val (.int fl), .val .null, .val (.ref b2), .val (.int (1 : Int32))] [(.int (1 : Int32)), (.int (own_gr q))]))) (fun _ kk => XS.iload X7.here hx rfl (hb hby at_75) rfl kk) ?_
      refine go_of (B := (T7.setTop (mkF m 80 #[.val (.long q), .second, .val (.long r), .second, .val (.int fl), .val .null, .val (.ref b2), .val (.int (1 : Int32))] []))) (fun _ kk => XS.icmpNo X7.here hx rfl (hb hby at_77) rfl (teq (own_gr_ge q hc4 : (own_gr q) = (1 : Int32))).2 kk) ?_
      refine go_of (B := (T7.setTop (mkF m 81 #[.val (.long q), .second, .val (.long r), .second, .val (.int fl), .val .null, .val (.ref b2), .val (.int (1 : Int32))] [(.int (1 : Int32))]))) (fun _ kk => XS.iconst X7.here hx rfl (hb hby at_80) kk) ?_
      refine go_of (B := (T7.setTop (mkF m 85 #[.val (.long q), .second, .val (.long r), .second, .val (.int fl), .val .null, .val (.ref b2), .val (.int (1 : Int32))] [(.int (1 : Int32))]))) (fun _ kk => XS.goto X7.here hx rfl (pc0 := 81) (pc' := 85) rfl (hb hby at_81) (by decide) (by decide) kk) ?_
      refine go_end X7 (v := some (.int (nar .boolean (1 : Int32)))) (fun h => by rw [Bd.returns] at h; cases h) Bd.notSynchronized (by decide) (by decide) (Q := (Q_rm0 Z q r fl wD kD wC clC h0 n0)) ?_ (fun fs hr => retN X7 hx (t := .boolean) Bd.returns (by simp) (hb hby at_85) hr)
      show (fun (v : Option Value) (h : Heap) (L : List Loc) => v = some (.int 1) ∧ Fr n0 L) (some (.int (nar .boolean (1 : Int32)))) T7.heap _
      rw [e7]
      exact ⟨rfl, N7⟩
  · refine go_of (B := (s₁.setTop (mkF m 10 #[.val (.long q), .second, .val (.long r), .second, .val (.int fl), .val .null, .unset, .unset] []))) (fun _ kk => XS.ifNo X0.here hx rfl (hb hby at_7) rfl ((if0 _ _).trans (feq hc1).1) kk) ?_
    obtain ⟨T9, h9, X9, e9, E9, A9, D9, -, st9⟩ := newO X0 hx hZ hown (hw _ (List.mem_of_getElem? (i := 18) rfl)) (hw _ (List.mem_of_getElem? (i := 19) rfl)) (hw _ (List.mem_of_getElem? (i := 20) rfl)) e0 (g := (mkF m 10 #[.val (.long q), .second, .val (.long r), .second, .val (.int fl), .val .null, .unset, .unset] [])) rfl (hb hby at_10) (by decide) (by decide)
    obtain ⟨b9, g9⟩ : ∃ z, z = h0.size := ⟨_, rfl⟩
    rw [← g9] at A9 D9 st9
    have hi9 := own_nlt A9.lt
    have sz9 := E9.1
    have F9_modCount : Fld Z h9 b9 "java/util/AbstractList" "modCount" "I" (.int (0 : Int32)) := D9 (Or.inl (hw _ (List.mem_of_getElem? (i := 38) rfl))) (ty := .int) (by decide)
    have F9_elementData : Fld Z h9 b9 "java/util/ArrayList" "elementData" "[Ljava/lang/Object;" .null := D9 (Or.inl (hw _ (List.mem_of_getElem? (i := 41) rfl))) (ty := (.array (.object "java/lang/Object"))) (by decide)
    have F9_size : Fld Z h9 b9 "java/util/ArrayList" "size" "I" (.int (0 : Int32)) := D9 (Or.inl (hw _ (List.mem_of_getElem? (i := 62) rfl))) (ty := .int) (by decide)
    refine go_of (B := (T9.setTop (mkF m 13 #[.val (.long q), .second, .val (.long r), .second, .val (.int fl), .val .null, .unset, .unset] [(.ref b9)]))) (st9) ?_
    refine go_of (B := (T9.setTop (mkF m 14 #[.val (.long q), .second, .val (.long r), .second, .val (.int fl), .val .null, .unset, .unset] [(.ref b9), (.ref b9)]))) (fun _ kk => XS.dup X9.here hx rfl (hb hby at_13) rfl rfl kk) ?_
    have cf_10 := (O.ext E9)
    obtain ⟨_, _, ⟨T11, L11, k11, n11⟩, -, X11, ⟨Lc11, hQ11, l11, y11, z11⟩, st11⟩ := X9.specialBack hx (y := (⟨"java/util/ArrayList", "<init>", "()V"⟩ : MethodName)) rfl hown (mvT hZ (hw _ (List.mem_of_getElem? (i := 21) rfl))) (mvT hZ (hw _ (List.mem_of_getElem? (i := 22) rfl))) (mvT hZ (hw _ (List.mem_of_getElem? (i := 23) rfl))) (by decide) (backOf (W := 1) (rm4 l Z a0 hw [] b9 _ _ wD h9 n0 (by first | omega | exact own_ne (by omega) | exact own_le (by omega)) A9 F9_modCount F9_elementData F9_size (by first | omega | exact own_ne (by omega) | exact own_le (by omega)) cf_10 SD) hZ (hw _ (List.mem_of_getElem? (i := 23) rfl)) (hw _ (List.mem_of_getElem? (i := 20) rfl)) (by decide) (by decide)) (g := (mkF m 14 #[.val (.long q), .second, .val (.long r), .second, .val (.int fl), .val .null, .unset, .unset] [(.ref b9), (.ref b9)])) rfl (by rw [hml]; rfl) (Steps.refl _) (a := b9) (argsL := []) (rest := [(.ref b9)]) (lenOf pd___V rfl) rfl (by show 2 * 0 + _ ≤ _; exact Nat.le_of_eq rfl) (hb hby at_14) (fun _ _ => ⟨rfl, e9, (by decide : 1 + 0 ≤ _), (by decide : 3 + 0 ≤ _)⟩)
    dsimp only [Pt.U, Pt.locs, Pt.cells, Pt.slots] at X11 l11 y11 z11 st11 hQ11
    subst l11 y11 z11
    obtain ⟨rfl, N11q, K11, A11⟩ := hQ11
    have N11 := Fr.app N0 N11q
    have sz11 := K11.1
    refine go_tr (B := (T11.setTop (mkF m 17 #[.val (.long q), .second, .val (.long r), .second, .val (.int fl), .val .null, .unset, .unset] [(.ref b9)]))) (st11) ?_
    refine go_of (B := (T11.setTop (mkF m 19 #[.val (.long q), .second, .val (.long r), .second, .val (.int fl), .val (.ref b9), .unset, .unset] []))) (fun _ kk => XS.astore X11.here hx rfl (hb hby at_17) rfl rfl rfl kk) ?_
    refine go_of (B := (T11.setTop (mkF m 21 #[.val (.long q), .second, .val (.long r), .second, .val (.int fl), .val (.ref b9), .unset, .unset] [(.ref b9)]))) (fun _ kk => XS.aload X11.here hx rfl (hb hby at_19) rfl rfl kk) ?_
    refine go_of (B := (T11.setTop (mkF m 22 #[.val (.long q), .second, .val (.long r), .second, .val (.int fl), .val (.ref b9), .unset, .unset] [(.long r), (.ref b9)]))) (fun _ kk => XS.lloadN X11.here hx rfl (hb hby at_21) rfl kk) ?_
    have cf_12 := (cf_10.keep K11 (allS (by first | omega | exact own_ne (by omega) | exact own_le (by omega)) all0))
    obtain ⟨_, _, ⟨T13, L13, k13, n13⟩, -, X13, ⟨Lc13, hQ13, l13, y13, z13⟩, st13⟩ := Jvm.LawKit.callS X11 hx (y := (⟨"java/lang/Long", "valueOf", "(J)Ljava/lang/Long;"⟩ : MethodName)) hown (mvT hZ (hw _ (List.mem_of_getElem? (i := 42) rfl))) (mvT hZ (hw _ (List.mem_of_getElem? (i := 43) rfl))) (mvT hZ (hw _ (List.mem_of_getElem? (i := 44) rfl))) (mvT hZ (hw _ (List.mem_of_getElem? (i := 45) rfl))) (by decide) (backOf (W := 1) (rm7 l Z a0 hw [] r wC clC T11.heap n0 (by first | omega | exact own_ne (by omega) | exact own_le (by omega)) cf_12 SC Ar hz hcache) hZ (hw _ (List.mem_of_getElem? (i := 45) rfl)) (hw _ (List.mem_of_getElem? (i := 44) rfl)) (by decide) (by decide)) (g := (mkF m 22 #[.val (.long q), .second, .val (.long r), .second, .val (.int fl), .val (.ref b9), .unset, .unset] [(.long r), (.ref b9)])) rfl (by rw [hml]; rfl) (argsL := [(.long r)]) (rest := [(.ref b9)]) (lenOf pd__J_Ljava_lang_Long_ rfl) rfl (by show 2 * 0 + _ ≤ _; exact Nat.le_of_eq rfl) (hb hby at_22) (fun _ _ => ⟨rfl, rfl, (by decide : 1 + 1 ≤ _), (by decide : 3 + 1 ≤ _)⟩)
    dsimp only [Pt.U, Pt.locs, Pt.cells, Pt.slots] at X13 l13 y13 z13 st13 hQ13
    subst l13 y13 z13
    obtain ⟨b13, rfl, N13q, K13, E13⟩ := hQ13
    have N13 := Fr.app N11 N13q
    have hi13 := own_nlt (E13.lt)
    have sz13 := K13.1
    refine go_of (B := (T13.setTop (mkF m 25 #[.val (.long q), .second, .val (.long r), .second, .val (.int fl), .val (.ref b9), .unset, .unset] [(.ref b13), (.ref b9)]))) (st13) ?_
    have cf_14 := (cf_12.keep K13 all0)
    have cf_15 := (A11.1.keep K13)
    have cf_16 := (A11.2.1.keep K13 nin0)
    have cf_17 := (A11.2.2.1.keep K13 nin0)
    have cf_18 := (A11.2.2.2.keep K13 nin0)
    obtain ⟨cq19, kq19, q19a, q19b, q19c⟩ := isOf hZ rfl cf_15
    obtain ⟨_, _, ⟨T19, L19, k19, n19⟩, -, X19, ⟨Lc19, hQ19, l19, y19, z19⟩, st19⟩ := X13.interfaceBack hx (xi := (⟨"java/util/List", "add", "(Ljava/lang/Object;)Z"⟩ : MethodName)) (y := (⟨"java/util/ArrayList", "add", "(Ljava/lang/Object;)Z"⟩ : MethodName)) hown (mvT hZ (hw _ (List.mem_of_getElem? (i := 50) rfl))) (mvT hZ (hw _ (List.mem_of_getElem? (i := 51) rfl))) (mvT hZ (hw _ (List.mem_of_getElem? (i := 52) rfl))) (mvT hZ (hw _ (List.mem_of_getElem? (i := 53) rfl))) (mvT hZ (hw _ (List.mem_of_getElem? (i := 54) rfl))) (mvT hZ (hw _ (List.mem_of_getElem? (i := 55) rfl))) (mvT hZ (hw _ (List.mem_of_getElem? (i := 56) rfl))) (mvT hZ (hw _ (List.mem_of_getElem? (i := 57) rfl))) (by decide) (backOf (W := 0) (add0 l Z a0 hw [] b9 b13 (0 : Int32) wD kD T13.heap n0 (by first | omega | exact own_ne (by omega) | exact own_le (by omega)) ⟨cf_15, cf_16, cf_17, cf_18⟩ (by first | omega | exact own_ne (by omega) | exact own_le (by omega)) cf_14 SD (VD.ext cf_14.2) D0 (Ins.of_exa E13 (hw _ (List.mem_of_getElem? (i := 84) rfl)))) hZ (hw _ (List.mem_of_getElem? (i := 58) rfl)) (hw _ (List.mem_of_getElem? (i := 20) rfl)) (by decide) (by decide)) q19a q19b q19c (g := (mkF m 25 #[.val (.long q), .second, .val (.long r), .second, .val (.int fl), .val (.ref b9), .unset, .unset] [(.ref b13), (.ref b9)])) rfl (by rw [hml]; rfl) (Steps.refl _) (argsL := [(.ref b13)]) (rest := []) (lenOf pd__Ljava_lang_Object__Z rfl) rfl (by show 2 * 0 + _ ≤ _; exact Nat.le_of_eq rfl) (hb hby at_25) (fun _ _ => ⟨rfl, rfl, (by decide : 2 + 1 ≤ _), (by decide : 4 + 10 ≤ _)⟩)
    dsimp only [Pt.U, Pt.locs, Pt.cells, Pt.slots] at X19 l19 y19 z19 st19 hQ19
    subst l19 y19 z19
    obtain ⟨b19, k19, rfl, N19q, lo19, K19, A19, V19, O19⟩ := hQ19
    have lo19 := own_nle lo19
    have N19 := Fr.app N13 N19q
    have hi19 := own_nlt (V19.lt)
    have sz19 := K19.1
    refine go_tr (B := (T19.setTop (mkF m 30 #[.val (.long q), .second, .val (.long r), .second, .val (.int fl), .val (.ref b9), .unset, .unset] [(.int (1 : Int32))]))) (st19) ?_
    refine go_of (B := (T19.setTop (mkF m 31 #[.val (.long q), .second, .val (.long r), .second, .val (.int fl), .val (.ref b9), .unset, .unset] []))) (fun _ kk => XS.pop X19.here hx rfl (hb hby at_30) rfl rfl kk) ?_
    refine go_of (B := (T19.setTop (mkF m 33 #[.val (.long q), .second, .val (.long r), .second, .val (.int fl), .val (.ref b9), .unset, .unset] [(.ref b9)]))) (fun _ kk => XS.aload X19.here hx rfl (hb hby at_31) rfl rfl kk) ?_
    refine go_of (B := (T19.setTop (mkF m 34 #[.val (.long q), .second, .val (.long r), .second, .val (.int fl), .val (.ref b9), .unset, .unset] [(.long q), (.ref b9)]))) (fun _ kk => XS.lloadN X19.here hx rfl (hb hby at_33) rfl kk) ?_
    have cf_20 := (cf_14.keep K19 (allS (by first | omega | exact own_ne (by omega) | exact own_le (by omega)) all0))
    obtain ⟨_, _, ⟨T21, L21, k21, n21⟩, -, X21, ⟨Lc21, hQ21, l21, y21, z21⟩, st21⟩ := Jvm.LawKit.callS X19 hx (y := (⟨"java/lang/Long", "valueOf", "(J)Ljava/lang/Long;"⟩ : MethodName)) hown (mvT hZ (hw _ (List.mem_of_getElem? (i := 42) rfl))) (mvT hZ (hw _ (List.mem_of_getElem? (i := 43) rfl))) (mvT hZ (hw _ (List.mem_of_getElem? (i := 44) rfl))) (mvT hZ (hw _ (List.mem_of_getElem? (i := 45) rfl))) (by decide) (backOf (W := 1) (rm7 l Z a0 hw [] q wC clC T19.heap n0 (by first | omega | exact own_ne (by omega) | exact own_le (by omega)) cf_20 SC Ar hz hcache) hZ (hw _ (List.mem_of_getElem? (i := 45) rfl)) (hw _ (List.mem_of_getElem? (i := 44) rfl)) (by decide) (by decide)) (g := (mkF m 34 #[.val (.long q), .second, .val (.long r), .second, .val (.int fl), .val (.ref b9), .unset, .unset] [(.long q), (.ref b9)])) rfl (by rw [hml]; rfl) (argsL := [(.long q)]) (rest := [(.ref b9)]) (lenOf pd__J_Ljava_lang_Long_ rfl) rfl (by show 2 * 0 + _ ≤ _; exact Nat.le_of_eq rfl) (hb hby at_34) (fun _ _ => ⟨rfl, rfl, (by decide : 3 + 1 ≤ _), (by decide : 14 + 1 ≤ _)⟩)
    dsimp only [Pt.U, Pt.locs, Pt.cells, Pt.slots] at X21 l21 y21 z21 st21 hQ21
    subst l21 y21 z21
    obtain ⟨b21, rfl, N21q, K21, E21⟩ := hQ21
    have N21 := Fr.app N19 N21q
    have hi21 := own_nlt (E21.lt)
    have sz21 := K21.1
    refine go_of (B := (T21.setTop (mkF m 37 #[.val (.long q), .second, .val (.long r), .second, .val (.int fl), .val (.ref b9), .unset, .unset] [(.ref b21), (.ref b9)]))) (st21) ?_
    have cf_22 := (A19.1.keep K21)
    have cf_23 := (A19.2.1.keep K21 nin0)
    have cf_24 := (A19.2.2.1.keep K21 nin0)
    have cf_25 := (A19.2.2.2.keep K21 nin0)
    have cf_26 := (V19.keep K21 nin0)
    obtain ⟨cq27, kq27, q27a, q27b, q27c⟩ := isOf hZ rfl cf_22
    obtain ⟨_, _, ⟨T27, L27, k27, n27⟩, -, X27, ⟨Lc27, hQ27, l27, y27, z27⟩, st27⟩ := X21.interfaceBack hx (xi := (⟨"java/util/List", "add", "(Ljava/lang/Object;)Z"⟩ : MethodName)) (y := (⟨"java/util/ArrayList", "add", "(Ljava/lang/Object;)Z"⟩ : MethodName)) hown (mvT hZ (hw _ (List.mem_of_getElem? (i := 50) rfl))) (mvT hZ (hw _ (List.mem_of_getElem? (i := 51) rfl))) (mvT hZ (hw _ (List.mem_of_getElem? (i := 52) rfl))) (mvT hZ (hw _ (List.mem_of_getElem? (i := 53) rfl))) (mvT hZ (hw _ (List.mem_of_getElem? (i := 54) rfl))) (mvT hZ (hw _ (List.mem_of_getElem? (i := 55) rfl))) (mvT hZ (hw _ (List.mem_of_getElem? (i := 56) rfl))) (mvT hZ (hw _ (List.mem_of_getElem? (i := 57) rfl))) (by decide) (backOf (W := 0) (add1 l Z a0 hw [] b9 b21 b19 ((0 : Int32) + (1 : Int32)) k19 b13 T21.heap n0 (by first | omega | exact own_ne (by omega) | exact own_le (by omega)) ⟨cf_22, cf_23, cf_24, cf_25⟩ (by first | omega | exact own_ne (by omega) | exact own_le (by omega)) (by first | omega | exact own_ne (by omega) | exact own_le (by omega)) cf_26 O19 (Ins.of_exa E21 (hw _ (List.mem_of_getElem? (i := 84) rfl))) (by first | omega | exact own_ne (by omega) | exact own_le (by omega))) hZ (hw _ (List.mem_of_getElem? (i := 58) rfl)) (hw _ (List.mem_of_getElem? (i := 20) rfl)) (by decide) (by decide)) q27a q27b q27c (g := (mkF m 37 #[.val (.long q), .second, .val (.long r), .second, .val (.int fl), .val (.ref b9), .unset, .unset] [(.ref b21), (.ref b9)])) rfl (by rw [hml]; rfl) (Steps.refl _) (argsL := [(.ref b21)]) (rest := []) (lenOf pd__Ljava_lang_Object__Z rfl) rfl (by show 2 * 0 + _ ≤ _; exact Nat.le_of_eq rfl) (hb hby at_37) (fun _ _ => ⟨rfl, rfl, (by decide : 4 + 0 ≤ _), (by decide : 15 + 0 ≤ _)⟩)
    dsimp only [Pt.U, Pt.locs, Pt.cells, Pt.slots] at X27 l27 y27 z27 st27 hQ27
    subst l27 y27 z27
    obtain ⟨rfl, N27q, K27, A27, V27⟩ := hQ27
    have N27 := Fr.app N21 N27q
    have sz27 := K27.1
    refine go_tr (B := (T27.setTop (mkF m 42 #[.val (.long q), .second, .val (.long r), .second, .val (.int fl), .val (.ref b9), .unset, .unset] [(.int (1 : Int32))]))) (st27) ?_
    refine go_of (B := (T27.setTop (mkF m 43 #[.val (.long q), .second, .val (.long r), .second, .val (.int fl), .val (.ref b9), .unset, .unset] []))) (fun _ kk => XS.pop X27.here hx rfl (hb hby at_42) rfl rfl kk) ?_
    obtain ⟨T28, h28, X28, e28, E28, A28, D28, -, st28⟩ := newO X27 hx hZ hown (hw _ (List.mem_of_getElem? (i := 0) rfl)) (hw _ (List.mem_of_getElem? (i := 1) rfl)) (hw _ (List.mem_of_getElem? (i := 2) rfl)) rfl (g := (mkF m 43 #[.val (.long q), .second, .val (.long r), .second, .val (.int fl), .val (.ref b9), .unset, .unset] [])) rfl (hb hby at_43) (by decide) (by decide)
    obtain ⟨b28, g28⟩ : ∃ z, z = T27.heap.size := ⟨_, rfl⟩
    rw [← g28] at A28 D28 st28
    have hi28 := own_nlt A28.lt
    have sz28 := E28.1
    have F28_fence : Fld Z h28 b28 "com/example/holdfast/holdfast/HoldfastLock$Exclusive$Answer" "fence" "J" (.long (0 : Int64)) := D28 (Or.inr (hw _ (List.mem_of_getElem? (i := 10) rfl))) (ty := .long) (by decide)
    have F28_holder : Fld Z h28 b28 "com/example/holdfast/holdfast/HoldfastLock$Exclusive$Answer" "holder" "Ljava/util/List;" .null := D28 (Or.inr (hw _ (List.mem_of_getElem? (i := 12) rfl))) (ty := (.object "java/util/List")) (by decide)
    refine go_of (B := (T28.setTop (mkF m 46 #[.val (.long q), .second, .val (.long r), .second, .val (.int fl), .val (.ref b9), .unset, .unset] [(.ref b28)]))) (st28) ?_
    refine go_of (B := (T28.setTop (mkF m 47 #[.val (.long q), .second, .val (.long r), .second, .val (.int fl), .val (.ref b9), .unset, .unset] [(.ref b28), (.ref b28)]))) (fun _ kk => XS.dup X28.here hx rfl (hb hby at_46) rfl rfl kk) ?_
    refine go_of (B := (T28.setTop (mkF m 48 #[.val (.long q), .second, .val (.long r), .second, .val (.int fl), .val (.ref b9), .unset, .unset] [(.long q), (.ref b28), (.ref b28)]))) (fun _ kk => XS.lloadN X28.here hx rfl (hb hby at_47) rfl kk) ?_
    refine go_of (B := (T28.setTop (mkF m 50 #[.val (.long q), .second, .val (.long r), .second, .val (.int fl), .val (.ref b9), .unset, .unset] [(.ref b9), (.long q), (.ref b28), (.ref b28)]))) (fun _ kk => XS.aload X28.here hx rfl (hb hby at_48) rfl rfl kk) ?_
    obtain ⟨_, _, ⟨T29, L29, k29, n29⟩, -, X29, ⟨Lc29, hQ29, l29, y29, z29⟩, st29⟩ := X28.specialBack hx (y := (⟨"com/example/holdfast/holdfast/HoldfastLock$Exclusive$Answer", "<init>", "(JLjava/util/List;)V"⟩ : MethodName)) rfl hown (mvT hZ (hw _ (List.mem_of_getElem? (i := 3) rfl))) (mvT hZ (hw _ (List.mem_of_getElem? (i := 4) rfl))) (mvT hZ (hw _ (List.mem_of_getElem? (i := 5) rfl))) (by decide) (backOf (W := 1) (ansL l Z a0 hw [] b28 q b9 _ _ h28 n0 (by first | omega | exact own_ne (by omega) | exact own_le (by omega)) A28 F28_fence F28_holder (by first | omega | exact own_ne (by omega) | exact own_le (by omega))) hZ (hw _ (List.mem_of_getElem? (i := 5) rfl)) (hw _ (List.mem_of_getElem? (i := 2) rfl)) (by decide) (by decide)) (g := (mkF m 50 #[.val (.long q), .second, .val (.long r), .second, .val (.int fl), .val (.ref b9), .unset, .unset] [(.ref b9), (.long q), (.ref b28), (.ref b28)])) rfl (by rw [hml]; rfl) (Steps.refl _) (a := b28) (argsL := [(.long q), (.ref b9)]) (rest := [(.ref b28)]) (lenOf pd__JLjava_util_List__V rfl) rfl (by show 2 * 0 + _ ≤ _; exact Nat.le_of_eq rfl) (hb hby at_50) (fun _ _ => ⟨rfl, e28, (by decide : 5 + 0 ≤ _), (by decide : 17 + 0 ≤ _)⟩)
    dsimp only [Pt.U, Pt.locs, Pt.cells, Pt.slots] at X29 l29 y29 z29 st29 hQ29
    subst l29 y29 z29
    obtain ⟨rfl, N29q, K29, F29⟩ := hQ29
    have N29 := Fr.app N27 N29q
    have sz29 := K29.1
    refine go_tr (B := (T29.setTop (mkF m 53 #[.val (.long q), .second, .val (.long r), .second, .val (.int fl), .val (.ref b9), .unset, .unset] [(.ref b28)]))) (st29) ?_
    refine go_of (B := (T29.setTop (mkF m 55 #[.val (.long q), .second, .val (.long r), .second, .val (.int fl), .val (.ref b9), .val (.ref b28), .unset] []))) (fun _ kk => XS.astore X29.here hx rfl (hb hby at_53) rfl rfl rfl kk) ?_
    refine go_of (B := (T29.setTop (mkF m 56 #[.val (.long q), .second, .val (.long r), .second, .val (.int fl), .val (.ref b9), .val (.ref b28), .unset] [(.long q)]))) (fun _ kk => XS.lloadN X29.here hx rfl (hb hby at_55) rfl kk) ?_
    refine go_of (B := (T29.setTop (mkF m 57 #[.val (.long q), .second, .val (.long r), .second, .val (.int fl), .val (.ref b9), .val (.ref b28), .unset] [(.long (1 : Int64)), (.long q)]))) (fun _ kk => XS.lconst X29.here hx rfl (hb hby at_56) kk) ?_
    refine go_of (B := (T29.setTop (mkF m 58 #[.val (.long q), .second, .val (.long r), .second, .val (.int fl), .val (.ref b9), .val (.ref b28), .unset] [(.int (lcmpW q (1 : Int64)))]))) (fun _ kk => XS.lcmp X29.here hx rfl (hb hby at_57) rfl kk) ?_
    by_cases hc30 : (lcmpW q (1 : Int64)) < (0 : Int32)
    · refine go_of (B := (T29.setTop (mkF m 67 #[.val (.long q), .second, .val (.long r), .second, .val (.int fl), .val (.ref b9), .val (.ref b28), .unset] []))) (fun _ kk => XS.ifYes X29.here hx rfl (pc0 := 58) (pc' := 67) rfl (hb hby at_58) rfl ((if0 _ _).trans (tlt hc30).1) (by decide) (by decide) kk) ?_
      refine go_of (B := (T29.setTop (mkF m 68 #[.val (.long q), .second, .val (.long r), .second, .val (.int fl), .val (.ref b9), .val (.ref b28), .unset] [(.int (0 : Int32))]))) (fun _ kk => XS.iconst X29.here hx rfl (hb hby at_67) kk) ?_
      refine go_of (B := (T29.setTop (mkF m 70 #[.val (.long q), .second, .val (.long r), .second, .val (.int fl), .val (.ref b9), .val (.ref b28), .val (.int (0 : Int32))] []))) (fun _ kk => XS.istore X29.here hx rfl (hb hby at_68) rfl rfl kk) ?_
      refine go_of (B := (T29.setTop (mkF m 72 #[.val (.long q), .second, .val (.long r), .second, .val (.int fl), .val (.ref b9), .val (.ref b28), .val (.int (0 : Int32))] [(.ref b28)]))) (fun _ kk => XS.aload X29.here hx rfl (hb hby at_70) rfl rfl kk) ?_
      have cf_32 := (A28.keep K29)
      obtain ⟨cq31, kq31, q31a, q31b, q31c⟩ := isOf hZ rfl cf_32
      obtain ⟨_, _, ⟨T31, L31, k31, n31⟩, -, X31, ⟨Lc31, hQ31, l31, y31, z31⟩, st31⟩ := X29.virtualBack hx (y := (⟨"com/example/holdfast/holdfast/HoldfastLock$Exclusive$Answer", "granted", "()Z"⟩ : MethodName)) (z := (⟨"com/example/holdfast/holdfast/HoldfastLock$Exclusive$Answer", "granted", "()Z"⟩ : MethodName)) hown (mvT hZ (hw _ (List.mem_of_getElem? (i := 13) rfl))) (mvT hZ (hw _ (List.mem_of_getElem? (i := 14) rfl))) (notFace_of_selects (args := #[]) (mvT hZ (hw _ (List.mem_of_getElem? (i := 16) rfl)))) (mvT hZ (hw _ (List.mem_of_getElem? (i := 16) rfl))) (mvT hZ (hw _ (List.mem_of_getElem? (i := 15) rfl))) (by decide) (backOf (W := 0) (rm3 l Z a0 hw [] b28 q T29.heap n0 (by first | omega | exact own_ne (by omega) | exact own_le (by omega)) F29) hZ (hw _ (List.mem_of_getElem? (i := 17) rfl)) (hw _ (List.mem_of_getElem? (i := 2) rfl)) (by decide) (by decide)) q31a q31c (g := (mkF m 72 #[.val (.long q), .second, .val (.long r), .second, .val (.int fl), .val (.ref b9), .val (.ref b28), .val (.int (0 : Int32))] [(.ref b28)])) rfl (by rw [hml]; rfl) (Steps.refl _) (argsL := []) (rest := []) (lenOf pd___Z rfl) rfl (by show 2 * 0 + _ ≤ _; exact Nat.le_of_eq rfl) (hb hby at_72) (fun _ _ => ⟨rfl, rfl, (by decide : 5 + 0 ≤ _), (by decide : 17 + 0 ≤ _)⟩)
      dsimp only [Pt.U, Pt.locs, Pt.cells, Pt.slots] at X31 l31 y31 z31 st31 hQ31
      subst l31 y31 z31
      obtain ⟨rfl, N31q, e31⟩ := hQ31
      have N31 := Fr.app N29 N31q
      refine go_tr (B := (T31.setTop (mkF m 75 #[.val (.long q), .second, .val (.long r), .second, .val (.int fl), .val (.ref b9), .val (.ref b28), .val (.int (0 : Int32))] [(.int (own_gr q))]))) (st31) ?_
      refine go_of (B := (T31.setTop (mkF m 77 #[.val (.long q), .second, .val (.long r), .second, .val (.int fl), .val (.ref b9), .val (.ref b28), .val (.int (0 : Int32))] [(.int (0 : Int32)), (.int (own_gr q))]))) (fun _ kk => XS.iload X31.here hx rfl (hb hby at_75) rfl kk) ?_
      refine go_of (B := (T31.setTop (mkF m 80 #[.val (.long q), .second, .val (.long r), .second, .val (.int fl), .val (.ref b9), .val (.ref b28), .val (.int (0 : Int32))] []))) (fun _ kk => XS.icmpNo X31.here hx rfl (hb hby at_77) rfl (teq (own_gr_lt q hc30 : (own_gr q) = (0 : Int32))).2 kk) ?_
      refine go_of (B := (T31.setTop (mkF m 81 #[.val (.long q), .second, .val (.long r), .second, .val (.int fl), .val (.ref b9), .val (.ref b28), .val (.int (0 : Int32))] [(.int (1 : Int32))]))) (fun _ kk => XS.iconst X31.here hx rfl (hb hby at_80) kk) ?_
      refine go_of (B := (T31.setTop (mkF m 85 #[.val (.long q), .second, .val (.long r), .second, .val (.int fl), .val (.ref b9), .val (.ref b28), .val (.int (0 : Int32))] [(.int (1 : Int32))]))) (fun _ kk => XS.goto X31.here hx rfl (pc0 := 81) (pc' := 85) rfl (hb hby at_81) (by decide) (by decide) kk) ?_
      refine go_end X31 (v := some (.int (nar .boolean (1 : Int32)))) (fun h => by rw [Bd.returns] at h; cases h) Bd.notSynchronized (by decide) (by decide) (Q := (Q_rm0 Z q r fl wD kD wC clC h0 n0)) ?_ (fun fs hr => retN X31 hx (t := .boolean) Bd.returns (by simp) (hb hby at_85) hr)
      show (fun (v : Option Value) (h : Heap) (L : List Loc) => v = some (.int 1) ∧ Fr n0 L) (some (.int (nar .boolean (1 : Int32)))) T31.heap _
      rw [e31]
      exact ⟨rfl, N31⟩
    · refine go_of (B := (T29.setTop (mkF m 61 #[.val (.long q), .second, .val (.long r), .second, .val (.int fl), .val (.ref b9), .val (.ref b28), .unset] []))) (fun _ kk => XS.ifNo X29.here hx rfl (hb hby at_58) rfl ((if0 _ _).trans (flt hc30).1) kk) ?_
      refine go_of (B := (T29.setTop (mkF m 62 #[.val (.long q), .second, .val (.long r), .second, .val (.int fl), .val (.ref b9), .val (.ref b28), .unset] [(.int (1 : Int32))]))) (fun _ kk => XS.iconst X29.here hx rfl (hb hby at_61) kk) ?_
      refine go_of (B := (T29.setTop (mkF m 64 #[.val (.long q), .second, .val (.long r), .second, .val (.int fl), .val (.ref b9), .val (.ref b28), .val (.int (1 : Int32))] []))) (fun _ kk => XS.istore X29.here hx rfl (hb hby at_62) rfl rfl kk) ?_
      refine go_of (B := (T29.setTop (mkF m 70 #[.val (.long q), .second, .val (.long r), .second, .val (.int fl), .val (.ref b9), .val (.ref b28), .val (.int (1 : Int32))] []))) (fun _ kk => XS.goto X29.here hx rfl (pc0 := 64) (pc' := 70) rfl (hb hby at_64) (by decide) (by decide) kk) ?_
      refine go_of (B := (T29.setTop (mkF m 72 #[.val (.long q), .second, .val (.long r), .second, .val (.int fl), .val (.ref b9), .val (.ref b28), .val (.int (1 : Int32))] [(.ref b28)]))) (fun _ kk => XS.aload X29.here hx rfl (hb hby at_70) rfl rfl kk) ?_
      have cf_34 := (A28.keep K29)
      obtain ⟨cq33, kq33, q33a, q33b, q33c⟩ := isOf hZ rfl cf_34
      obtain ⟨_, _, ⟨T33, L33, k33, n33⟩, -, X33, ⟨Lc33, hQ33, l33, y33, z33⟩, st33⟩ := X29.virtualBack hx (y := (⟨"com/example/holdfast/holdfast/HoldfastLock$Exclusive$Answer", "granted", "()Z"⟩ : MethodName)) (z := (⟨"com/example/holdfast/holdfast/HoldfastLock$Exclusive$Answer", "granted", "()Z"⟩ : MethodName)) hown (mvT hZ (hw _ (List.mem_of_getElem? (i := 13) rfl))) (mvT hZ (hw _ (List.mem_of_getElem? (i := 14) rfl))) (notFace_of_selects (args := #[]) (mvT hZ (hw _ (List.mem_of_getElem? (i := 16) rfl)))) (mvT hZ (hw _ (List.mem_of_getElem? (i := 16) rfl))) (mvT hZ (hw _ (List.mem_of_getElem? (i := 15) rfl))) (by decide) (backOf (W := 0) (rm3 l Z a0 hw [] b28 q T29.heap n0 (by first | omega | exact own_ne (by omega) | exact own_le (by omega)) F29) hZ (hw _ (List.mem_of_getElem? (i := 17) rfl)) (hw _ (List.mem_of_getElem? (i := 2) rfl)) (by decide) (by decide)) q33a q33c (g := (mkF m 72 #[.val (.long q), .second, .val (.long r), .second, .val (.int fl), .val (.ref b9), .val (.ref b28), .val (.int (1 : Int32))] [(.ref b28)])) rfl (by rw [hml]; rfl) (Steps.refl _) (argsL := []) (rest := []) (lenOf pd___Z rfl) rfl (by show 2 * 0 + _ ≤ _; exact Nat.le_of_eq rfl) (hb hby at_72) (fun _ _ => ⟨rfl, rfl, (by decide : 5 + 0 ≤ _), (by decide : 17 + 0 ≤ _)⟩)
      dsimp only [Pt.U, Pt.locs, Pt.cells, Pt.slots] at X33 l33 y33 z33 st33 hQ33
      subst l33 y33 z33
      obtain ⟨rfl, N33q, e33⟩ := hQ33
      have N33 := Fr.app N29 N33q
      refine go_tr (B := (T33.setTop (mkF m 75 #[.val (.long q), .second, .val (.long r), .second, .val (.int fl), .val (.ref b9), .val (.ref b28), .val (.int (1 : Int32))] [(.int (own_gr q))]))) (st33) ?_
      refine go_of (B := (T33.setTop (mkF m 77 #[.val (.long q), .second, .val (.long r), .second, .val (.int fl), .val (.ref b9), .val (.ref b28), .val (.int (1 : Int32))] [(.int (1 : Int32)), (.int (own_gr q))]))) (fun _ kk => XS.iload X33.here hx rfl (hb hby at_75) rfl kk) ?_
      refine go_of (B := (T33.setTop (mkF m 80 #[.val (.long q), .second, .val (.long r), .second, .val (.int fl), .val (.ref b9), .val (.ref b28), .val (.int (1 : Int32))] []))) (fun _ kk => XS.icmpNo X33.here hx rfl (hb hby at_77) rfl (teq (own_gr_ge q hc30 : (own_gr q) = (1 : Int32))).2 kk) ?_
      refine go_of (B := (T33.setTop (mkF m 81 #[.val (.long q), .second, .val (.long r), .second, .val (.int fl), .val (.ref b9), .val (.ref b28), .val (.int (1 : Int32))] [(.int (1 : Int32))]))) (fun _ kk => XS.iconst X33.here hx rfl (hb hby at_80) kk) ?_
      refine go_of (B := (T33.setTop (mkF m 85 #[.val (.long q), .second, .val (.long r), .second, .val (.int fl), .val (.ref b9), .val (.ref b28), .val (.int (1 : Int32))] [(.int (1 : Int32))]))) (fun _ kk => XS.goto X33.here hx rfl (pc0 := 81) (pc' := 85) rfl (hb hby at_81) (by decide) (by decide) kk) ?_
      refine go_end X33 (v := some (.int (nar .boolean (1 : Int32)))) (fun h => by rw [Bd.returns] at h; cases h) Bd.notSynchronized (by decide) (by decide) (Q := (Q_rm0 Z q r fl wD kD wC clC h0 n0)) ?_ (fun fs hr => retN X33 hx (t := .boolean) Bd.returns (by simp) (hb hby at_85) hr)
      show (fun (v : Option Value) (h : Heap) (L : List Loc) => v = some (.int 1) ∧ Fr n0 L) (some (.int (nar .boolean (1 : Int32)))) T33.heap _
      rw [e33]
      exact ⟨rfl, N33⟩
set_option maxRecDepth 65536 in
set_option maxHeartbeats 40000000 in
theorem comes_1 {Post : Tables → Env → Array Value → State → Outcome → State → Prop} (hpost : ∀ tb e args s v u, (limb_1_1.after args s (.returned v) u = true ∧ limb_1_2.after args s (.returned v) u = true ∧ True) → FrameEnd s (.returned v) u (Jvm.fieldLocs frame_1_writes args s ++ Jvm.arrayLocs frame_1_arrays args s ++ Jvm.staticLocs frame_1_statics s) 24 128 → Post tb e args s (.returned v) u) :
    ArmFor flags0 classFile x code maxLocals ret World_1 tables_1 room_1 Calls_1 rest_1 Pre_1 Post := by
  intro l hfl _ _ p e ha hc hk s m args below hf hA hF happ hP
  obtain ⟨hcalls, hrest, hpre⟩ := hP
  obtain ⟨-, -, -, hnamed, -, -, -, hat⟩ := (Spec.applies_iff hf).mp happ
  obtain ⟨hg, hn⟩ := and_e (Cond.before_iff.mp (show (Jvm.Cond.and given_1 narrow_1).before args s = true from hpre))
  obtain ⟨g1, g2⟩ := and_e hg
  obtain ⟨g3, g4⟩ := and_e g2
  obtain ⟨g5, g6⟩ := and_e g4
  obtain ⟨w0, w1, w2, rfl⟩ : ∃ w0 w1 w2 : Value, args = #[w0, w1, w2] := by
    have hs : args.size = 3 := by simpa [Cond.value, given_1] using g1
    obtain ⟨L⟩ := args
    match L, hs with
    | [w0, w1, w2], _ => exact ⟨w0, w1, w2, rfl⟩
  have hw := fun d (hd : d ∈ tables_1) => atoms_spec (ws := Jvm.Cond.code x code maxLocals ret :: tables_1) hat d (List.mem_cons_of_mem _ hd)
  have hfit : Fit s := fun {y c} hc i hi => by
    obtain ⟨ha, rfl⟩ := Array.getElem?_eq_some_iff.mp hc
    have q := List.all_eq_true.mp ((Array.all_eq_true_iff_forall_mem.mp hF) _ (Array.getElem_mem ha)) i (List.mem_range.mpr hi)
    simpa [Array.getElem?_eq_getElem hi] using q
  obtain ⟨hsets, hown0⟩ := atoms_of _ (rest_1_c_eq ▸ (show rest_1_c.before _ s = true from hrest))
  have hr0 := Cond.before_iff.mp hown0
  obtain ⟨i0, ei0⟩ := isL_v g3
  obtain rfl : w0 = (.long i0) := Option.some.inj ei0
  obtain ⟨i1, ei1⟩ := isL_v g5
  obtain rfl : w1 = (.long i1) := Option.some.inj ei1
  obtain ⟨i2, ei2⟩ := is_v g6
  obtain rfl : w2 = (.int i2) := Option.some.inj ei2
  obtain ⟨wD, evD⟩ := arr_v (Cond.before_iff.mp (hsets _ (List.mem_of_getElem? (i := 6) rfl)))
  obtain ⟨cD, ArD⟩ := Arr.start evD (Cond.before_iff.mp (hsets _ (List.mem_of_getElem? (i := 6) rfl)))
  have szD := own_len evD ArD (Cond.before_iff.mp (hsets _ (List.mem_of_getElem? (i := 8) rfl))) (by decide)
  have SD := Sta.start evD (Or.inr ⟨(hw _ (List.mem_of_getElem? (i := 20) rfl)), hsets _ (List.mem_of_getElem? (i := 2) rfl)⟩)
  have VD : Arv s s.heap wD cD.cls (.object "java/lang/Object") 0 [] .null := Arv.start hfit ArD (by rw [szD]; decide) (by rw [szD]; rfl) (by decide) rfl trivial
  obtain ⟨wC, evC⟩ := arr_v (Cond.before_iff.mp (hsets _ (List.mem_of_getElem? (i := 11) rfl)))
  obtain ⟨cC, ArC⟩ := Arr.start evC (Cond.before_iff.mp (hsets _ (List.mem_of_getElem? (i := 11) rfl)))
  have szC := own_len evC ArC (Cond.before_iff.mp (hsets _ (List.mem_of_getElem? (i := 13) rfl))) (by decide)
  have SC := Sta.start evC (Or.inl (hsets _ (List.mem_of_getElem? (i := 10) rfl)))
  have hC := own_cache (own_stev evC) ArC (Cond.before_iff.mp (hsets _ (List.mem_of_getElem? (i := 14) rfl))) szC
  obtain ⟨n, o, h1, h2, h3, _, L, rfl, ⟨rfl, N⟩, hq⟩ := rm0 l s _ hw tables_1 i0 i1 i2 wD cD.cls wC cC s.heap s.heap.size (Nat.le_refl _) (Old.start s) SD VD SC ArC szC hC p e ha hc hk s m _ below hf ((Spec.applies_iff_loose hf).mp happ).1 ⟨rfl, State.Warmed39.refl s, rfl⟩ trivial
  exact ⟨n, _, h1, h2, h3, hpost _ _ _ _ _ _ ⟨Cond.after_iff.mpr rfl, Cond.after_iff.mpr (eq_i res_at (Term.int_eval (1)) rfl), trivial⟩ ⟨hq.1, hq.2.1, (hq.2.2.sift fun y hy => Or.inr (N y hy)).mono (by decide) (by decide)⟩⟩
theorem main_1_1 : Claimed_1_1 := comes_1 fun _ _ _ _ _ _ h hF => ⟨h.1, hF⟩
theorem main_1_2 : Claimed_1_2 := comes_1 fun _ _ _ _ _ _ h hF => ⟨h.2.1, hF⟩
end Jvm.Pilot.@@N@@
namespace Jvm.Pilot.@@N@@
open Jvm Jvm.ClassFile Sem Op Lib Jvm.Free Jvm.Stand Jvm.Pilot.@@N@@.Jvm.D
/-! MADE BY PROGRAM (witnessworld.py) out of the Statement's table words and the real class files: 26 classes; the members and pool entries that the words name. The judged class is class 1, her method 1. -/
namespace start1
open Jvm.ClassFile
def u (s : String) : CpInfo := .utf8 (stringToUtf16 s)
/-- a pool by its gaps: so many unusable entries, then the entry; so many at the end -/
def gap : Nat → List CpInfo → List CpInfo
  | 0, r => r
  | n + 1, r => .unusable :: gap n r
def poolList (es : List (Nat × CpInfo)) (last : Nat) : List CpInfo := es.foldr (fun e r => gap e.1 (e.2 :: r)) (gap last [])
def pool (es : List (Nat × CpInfo)) (last : Nat) : Array CpInfo := ⟨poolList es last⟩
def fileOf (pool : Array CpInfo) (this : Nat) (attrs : Array Attribute := #[]) (ms : Array MethodInfo := #[]) (fl : Nat := 33) (sup : Nat := 0) (ifs : Array Nat := #[]) (fds : Array FieldInfo := #[]) : ClassFile where
  minorVersion := 0
  majorVersion := 65
  constantPool := pool
  accessFlags := fl
  thisClass := this
  superClass := sup
  interfaces := ifs
  fields := fds
  methods := ms
  attributes := attrs
def plain (name : String) (sup : Option ClassId) : Class where
  name := name
  kind := .ordinary
  loader := none
  accessFlags := 33
  super := sup
  interfaces := #[]
  cf := none
  fields := #[]
  methods := #[]
  instanceTypes := #[]
  staticTypes := #[]
  resolved := #[]
  callSites := []
  init := .initialized
  statics := none
  mirror := none

def pool0 : Array CpInfo := pool [(5, u "<init>"), (0, u "()V"), (1, .class_ 10), (1, u "java/lang/Object")] 113

def k0c0 : Code := { maxStack := 0, maxLocals := 1, code := object_method_1_code, exceptionTable := #[], attributes := #[] }
def k0m0 : Method := { name := "<init>", desc := "()V", sig := { parameters := [], returnType := none }, accessFlags := 1, code := some k0c0 }
/-- java/lang/Object -/
def k0 : Class := { plain "java/lang/Object" none with
  accessFlags := 33
  interfaces := #[]
  cf := some (fileOf pool0 8 #[] #[{ accessFlags := 1, nameIndex := 5, descriptorIndex := 6, attributes := #[] }] 33 0 #[] #[])
  fields := #[]
  methods := #[k0m0]
  instanceTypes := #[]
  staticTypes := #[]
  resolved := Array.replicate 124 none
  statics := none }

def pool1 : Array CpInfo := pool [(2, .class_ 4), (0, .nameAndType 5 6), (0, u "java/lang/Object"), (0, u "<init>"), (0, u "()V"), (0, .class_ 8), (0, u "java/util/ArrayList"), (0, .methodref 7 3), (0, .methodref 11 12), (0, .class_ 13), (0, .nameAndType 14 15), (0, u "java/lang/Long"), (0, u "valueOf"), (0, u "(J)Ljava/lang/Long;"), (0, .interfaceMethodref 17 18), (0, .class_ 19), (0, .nameAndType 20 21), (0, u "java/util/List"), (0, u "add"), (0, u "(Ljava/lang/Object;)Z"), (0, .class_ 23), (0, u "com/example/holdfast/holdfast/HoldfastLock$Exclusive$Answer"), (0, .methodref 22 25), (0, .nameAndType 5 26), (0, u "(JLjava/util/List;)V"), (0, .methodref 22 28), (0, .nameAndType 29 30), (0, u "granted"), (0, u "()Z"), (0, .class_ 32), (0, u "com/example/holdfast/holdfast/AnswerGrantedPinLaw"), (2, u "law"), (0, u "(JJI)Z")] 10

def k1m0 : Method := { name := "<init>", desc := "()V", sig := { parameters := [], returnType := none }, accessFlags := 1, code := none }
def k1c1 : Code := { maxStack := 5, maxLocals := 8, code := code, exceptionTable := #[], attributes := #[] }
def k1m1 : Method := { name := "law", desc := "(JJI)Z", sig := { parameters := [.long, .long, .int], returnType := some .boolean }, accessFlags := 9, code := some k1c1 }
/-- com/example/holdfast/holdfast/AnswerGrantedPinLaw -/
def k1 : Class := { plain "com/example/holdfast/holdfast/AnswerGrantedPinLaw" (some 0) with
  accessFlags := 49
  interfaces := #[]
  cf := some (fileOf pool1 31 #[] #[{ accessFlags := 1, nameIndex := 5, descriptorIndex := 6, attributes := #[] }, { accessFlags := 9, nameIndex := 35, descriptorIndex := 36, attributes := #[] }] 49 2 #[] #[])
  fields := #[]
  methods := #[k1m0, k1m1]
  instanceTypes := #[]
  staticTypes := #[]
  resolved := Array.replicate 47 none
  statics := none }

def pool2 : Array CpInfo := pool [(1, .methodref 2 3), (0, .class_ 4), (0, .nameAndType 5 6), (0, u "java/lang/Object"), (0, u "<init>"), (0, u "()V"), (0, .fieldref 8 9), (0, .class_ 10), (0, .nameAndType 11 12), (0, u "com/example/holdfast/holdfast/HoldfastLock$Exclusive$Answer"), (0, u "fence"), (0, u "J"), (0, .fieldref 8 14), (0, .nameAndType 15 16), (0, u "holder"), (0, u "Ljava/util/List;"), (2, u "(JLjava/util/List;)V"), (3, u "granted"), (0, u "()Z"), (4, .class_ 30), (0, u "com/example/holdfast/holdfast/HoldfastLock")] 5

def k2c0 : Code := { maxStack := 3, maxLocals := 4, code := prog_11_method_1_code, exceptionTable := #[], attributes := #[] }
def k2m0 : Method := { name := "<init>", desc := "(JLjava/util/List;)V", sig := { parameters := [.long, (.object "java/util/List")], returnType := none }, accessFlags := 0, code := some k2c0 }
def k2c1 : Code := { maxStack := 4, maxLocals := 1, code := prog_11_method_2_code, exceptionTable := #[], attributes := #[] }
def k2m1 : Method := { name := "granted", desc := "()Z", sig := { parameters := [], returnType := some .boolean }, accessFlags := 0, code := some k2c1 }
/-- com/example/holdfast/holdfast/HoldfastLock$Exclusive$Answer -/
def k2 : Class := { plain "com/example/holdfast/holdfast/HoldfastLock$Exclusive$Answer" (some 0) with
  accessFlags := 48
  interfaces := #[]
  cf := some (fileOf pool2 8 #[.nestHost 29] #[{ accessFlags := 0, nameIndex := 5, descriptorIndex := 19, attributes := #[] }, { accessFlags := 0, nameIndex := 23, descriptorIndex := 24, attributes := #[] }] 48 2 #[] #[{ accessFlags := 16, nameIndex := 11, descriptorIndex := 12, attributes := #[] }, { accessFlags := 16, nameIndex := 15, descriptorIndex := 16, attributes := #[] }])
  fields := #[{ name := "fence", type := .long, accessFlags := 16, slot := 0, constantValue := 0 }, { name := "holder", type := (.object "java/util/List"), accessFlags := 16, slot := 1, constantValue := 0 }]
  methods := #[k2m0, k2m1]
  instanceTypes := #[.long, (.object "java/util/List")]
  staticTypes := #[]
  resolved := Array.replicate 36 none
  statics := none }

def pool3 : Array CpInfo := pool [(8, .class_ 10), (1, u "java/lang/Iterable"), (24, .class_ 36), (0, u "java/lang/Object")] 25

/-- java/lang/Iterable -/
def k3 : Class := { plain "java/lang/Iterable" (some 0) with
  accessFlags := 1537
  interfaces := #[]
  cf := some (fileOf pool3 8 #[] #[] 1537 35 #[] #[])
  fields := #[]
  methods := #[]
  instanceTypes := #[]
  staticTypes := #[]
  resolved := Array.replicate 62 none
  statics := none }

def pool4 : Array CpInfo := pool [(10, .class_ 12), (1, u "java/util/Collection"), (47, .class_ 61), (0, u "java/lang/Object"), (0, .class_ 63), (0, u "java/lang/Iterable")] 51

/-- java/util/Collection -/
def k4 : Class := { plain "java/util/Collection" (some 0) with
  accessFlags := 1537
  interfaces := #[3]
  cf := some (fileOf pool4 10 #[] #[] 1537 60 #[62] #[])
  fields := #[]
  methods := #[]
  instanceTypes := #[]
  staticTypes := #[]
  resolved := Array.replicate 115 none
  statics := none }

def pool5 : Array CpInfo := pool [(1, .methodref 2 3), (0, .class_ 4), (0, .nameAndType 5 6), (0, u "java/lang/Object"), (0, u "<init>"), (0, u "()V"), (1, .class_ 10), (1, u "java/util/AbstractCollection"), (66, .class_ 78), (0, u "java/util/Collection")] 81

def k5c0 : Code := { maxStack := 1, maxLocals := 1, code := jdk_22_method_1_code, exceptionTable := #[], attributes := #[] }
def k5m0 : Method := { name := "<init>", desc := "()V", sig := { parameters := [], returnType := none }, accessFlags := 4, code := some k5c0 }
/-- java/util/AbstractCollection -/
def k5 : Class := { plain "java/util/AbstractCollection" (some 0) with
  accessFlags := 1057
  interfaces := #[4]
  cf := some (fileOf pool5 8 #[] #[{ accessFlags := 4, nameIndex := 5, descriptorIndex := 6, attributes := #[] }] 1057 2 #[77] #[])
  fields := #[]
  methods := #[k5m0]
  instanceTypes := #[]
  staticTypes := #[]
  resolved := Array.replicate 160 none
  statics := none }

def pool6 : Array CpInfo := pool [(8, .class_ 10), (1, u "java/util/SequencedCollection"), (15, .class_ 27), (0, u "java/lang/Object"), (0, .class_ 29), (0, u "java/util/Collection")] 27

/-- java/util/SequencedCollection -/
def k6 : Class := { plain "java/util/SequencedCollection" (some 0) with
  accessFlags := 1537
  interfaces := #[4]
  cf := some (fileOf pool6 8 #[] #[] 1537 26 #[28] #[])
  fields := #[]
  methods := #[]
  instanceTypes := #[]
  staticTypes := #[]
  resolved := Array.replicate 57 none
  statics := none }

def pool7 : Array CpInfo := pool [(8, .class_ 10), (1, u "java/util/List"), (49, u "add"), (3, u "(Ljava/lang/Object;)Z"), (38, .class_ 104), (0, u "java/lang/Object"), (15, .class_ 121), (0, u "java/util/SequencedCollection")] 129

def k7m0 : Method := { name := "add", desc := "(Ljava/lang/Object;)Z", sig := { parameters := [(.object "java/lang/Object")], returnType := some .boolean }, accessFlags := 1025, code := none }
/-- java/util/List -/
def k7 : Class := { plain "java/util/List" (some 0) with
  accessFlags := 1537
  interfaces := #[6]
  cf := some (fileOf pool7 8 #[] #[{ accessFlags := 1025, nameIndex := 60, descriptorIndex := 64, attributes := #[] }] 1537 103 #[120] #[])
  fields := #[]
  methods := #[k7m0]
  instanceTypes := #[]
  staticTypes := #[]
  resolved := Array.replicate 251 none
  statics := none }

def pool8 : Array CpInfo := pool [(1, .methodref 2 3), (0, .class_ 4), (0, .nameAndType 5 6), (0, u "java/util/AbstractCollection"), (0, u "<init>"), (0, u "()V"), (0, .fieldref 8 9), (0, .class_ 10), (0, .nameAndType 11 12), (0, u "java/util/AbstractList"), (0, u "modCount"), (0, u "I"), (64, .class_ 78), (0, u "java/util/AbstractList$Itr"), (3, .class_ 83), (0, u "java/util/AbstractList$ListItr"), (9, .class_ 94), (0, u "java/util/AbstractList$RandomAccessSubList"), (3, .class_ 99), (0, u "java/util/AbstractList$SubList"), (33, .class_ 134), (0, u "java/util/List"), (73, .class_ 209), (0, u "java/util/AbstractList$SubList$1"), (0, .class_ 211), (0, u "java/util/AbstractList$RandomAccessSpliterator")] 6

def k8c0 : Code := { maxStack := 2, maxLocals := 1, code := jdk_39_method_1_code, exceptionTable := #[], attributes := #[] }
def k8m0 : Method := { name := "<init>", desc := "()V", sig := { parameters := [], returnType := none }, accessFlags := 4, code := some k8c0 }
/-- java/util/AbstractList -/
def k8 : Class := { plain "java/util/AbstractList" (some 5) with
  accessFlags := 1057
  interfaces := #[7]
  cf := some (fileOf pool8 8 #[.nestMembers #[93, 98, 208, 210, 82, 77]] #[{ accessFlags := 4, nameIndex := 5, descriptorIndex := 6, attributes := #[] }] 1057 2 #[133] #[{ accessFlags := 132, nameIndex := 11, descriptorIndex := 12, attributes := #[] }])
  fields := #[{ name := "modCount", type := .int, accessFlags := 132, slot := 0, constantValue := 0 }]
  methods := #[k8m0]
  instanceTypes := #[.int]
  staticTypes := #[]
  resolved := Array.replicate 218 none
  statics := none }

def pool9 : Array CpInfo := pool [(1, .class_ 2), (0, u "java/util/RandomAccess"), (0, .class_ 4), (0, u "java/lang/Object")] 2

/-- java/util/RandomAccess -/
def k9 : Class := { plain "java/util/RandomAccess" (some 0) with
  accessFlags := 1537
  interfaces := #[]
  cf := some (fileOf pool9 1 #[] #[] 1537 3 #[] #[])
  fields := #[]
  methods := #[]
  instanceTypes := #[]
  staticTypes := #[]
  resolved := Array.replicate 7 none
  statics := none }

def pool10 : Array CpInfo := pool [(1, .class_ 2), (0, u "java/lang/Cloneable"), (0, .class_ 4), (0, u "java/lang/Object")] 2

/-- java/lang/Cloneable -/
def k10 : Class := { plain "java/lang/Cloneable" (some 0) with
  accessFlags := 1537
  interfaces := #[]
  cf := some (fileOf pool10 1 #[] #[] 1537 3 #[] #[])
  fields := #[]
  methods := #[]
  instanceTypes := #[]
  staticTypes := #[]
  resolved := Array.replicate 7 none
  statics := none }

def pool11 : Array CpInfo := pool [(1, .class_ 2), (0, u "java/io/Serializable"), (0, .class_ 4), (0, u "java/lang/Object")] 2

/-- java/io/Serializable -/
def k11 : Class := { plain "java/io/Serializable" (some 0) with
  accessFlags := 1537
  interfaces := #[]
  cf := some (fileOf pool11 1 #[] #[] 1537 3 #[] #[])
  fields := #[]
  methods := #[]
  instanceTypes := #[]
  staticTypes := #[]
  resolved := Array.replicate 7 none
  statics := none }

def pool12 : Array CpInfo := pool [(1, .methodref 2 3), (0, .class_ 4), (0, .nameAndType 5 6), (0, u "java/util/AbstractList"), (0, u "<init>"), (0, u "()V"), (0, .class_ 8), (0, u "java/lang/Object"), (0, .fieldref 10 11), (0, .class_ 12), (0, .nameAndType 13 14), (0, u "java/util/ArrayList"), (0, u "elementData"), (0, u "[Ljava/lang/Object;"), (2, u "EMPTY_ELEMENTDATA"), (21, .fieldref 10 40), (0, .nameAndType 41 14), (0, u "DEFAULTCAPACITY_EMPTY_ELEMENTDATA"), (5, u "()[Ljava/lang/Object;"), (0, .fieldref 10 49), (0, .nameAndType 50 51), (0, u "size"), (0, u "I"), (11, .fieldref 10 64), (0, .nameAndType 65 51), (0, u "modCount"), (3, .methodref 10 70), (0, .nameAndType 71 72), (0, u "grow"), (0, u "(I)[Ljava/lang/Object;"), (6, .methodref 80 81), (0, .class_ 82), (0, .nameAndType 83 84), (0, u "java/lang/Math"), (0, u "max"), (0, u "(II)I"), (11, u "(Ljava/lang/Object;)Z"), (32, .methodref 10 130), (0, .nameAndType 71 47), (0, .methodref 10 132), (0, .nameAndType 133 134), (0, u "add"), (0, u "(Ljava/lang/Object;[Ljava/lang/Object;I)V"), (13, .class_ 149), (0, u "java/util/List"), (112, .class_ 263), (0, u "java/util/ArrayList$ListItr"), (3, .class_ 268), (0, u "java/util/ArrayList$Itr"), (7, .class_ 277), (0, u "java/util/ArrayList$SubList"), (12, .class_ 291), (0, u "java/util/ArrayList$ArrayListSpliterator"), (37, .class_ 330), (0, u "java/util/RandomAccess"), (0, .class_ 332), (0, u "java/lang/Cloneable"), (0, .class_ 334), (0, u "java/io/Serializable"), (0, u "serialVersionUID"), (0, u "J"), (3, u "DEFAULT_CAPACITY"), (159, .class_ 501), (0, u "java/util/ArrayList$SubList$2"), (0, .class_ 503), (0, u "java/util/ArrayList$SubList$1")] 5

def k12c0 : Code := { maxStack := 2, maxLocals := 1, code := jdk_38_method_2_code, exceptionTable := #[], attributes := #[] }
def k12m0 : Method := { name := "<init>", desc := "()V", sig := { parameters := [], returnType := none }, accessFlags := 1, code := some k12c0 }
def k12c1 : Code := { maxStack := 4, maxLocals := 4, code := jdk_38_method_6_code, exceptionTable := #[], attributes := #[] }
def k12m1 : Method := { name := "grow", desc := "(I)[Ljava/lang/Object;", sig := { parameters := [.int], returnType := some (.array (.object "java/lang/Object")) }, accessFlags := 2, code := some k12c1 }
def k12c2 : Code := { maxStack := 3, maxLocals := 1, code := jdk_38_method_7_code, exceptionTable := #[], attributes := #[] }
def k12m2 : Method := { name := "grow", desc := "()[Ljava/lang/Object;", sig := { parameters := [], returnType := some (.array (.object "java/lang/Object")) }, accessFlags := 2, code := some k12c2 }
def k12c3 : Code := { maxStack := 3, maxLocals := 4, code := jdk_38_method_24_code, exceptionTable := #[], attributes := #[] }
def k12m3 : Method := { name := "add", desc := "(Ljava/lang/Object;[Ljava/lang/Object;I)V", sig := { parameters := [(.object "java/lang/Object"), (.array (.object "java/lang/Object")), .int], returnType := none }, accessFlags := 2, code := some k12c3 }
def k12c4 : Code := { maxStack := 4, maxLocals := 2, code := jdk_38_method_25_code, exceptionTable := #[], attributes := #[] }
def k12m4 : Method := { name := "add", desc := "(Ljava/lang/Object;)Z", sig := { parameters := [(.object "java/lang/Object")], returnType := some .boolean }, accessFlags := 1, code := some k12c4 }
/-- java/util/ArrayList -/
def k12 : Class := { plain "java/util/ArrayList" (some 8) with
  accessFlags := 33
  interfaces := #[7, 9, 10, 11]
  cf := some (fileOf pool12 10 #[.nestMembers #[290, 276, 500, 502, 262, 267]] #[{ accessFlags := 1, nameIndex := 5, descriptorIndex := 6, attributes := #[] }, { accessFlags := 2, nameIndex := 71, descriptorIndex := 72, attributes := #[] }, { accessFlags := 2, nameIndex := 71, descriptorIndex := 47, attributes := #[] }, { accessFlags := 2, nameIndex := 133, descriptorIndex := 134, attributes := #[] }, { accessFlags := 1, nameIndex := 133, descriptorIndex := 96, attributes := #[] }] 33 2 #[148, 329, 331, 333] #[{ accessFlags := 26, nameIndex := 335, descriptorIndex := 336, attributes := #[] }, { accessFlags := 26, nameIndex := 340, descriptorIndex := 51, attributes := #[] }, { accessFlags := 26, nameIndex := 17, descriptorIndex := 14, attributes := #[] }, { accessFlags := 26, nameIndex := 41, descriptorIndex := 14, attributes := #[] }, { accessFlags := 128, nameIndex := 13, descriptorIndex := 14, attributes := #[] }, { accessFlags := 2, nameIndex := 50, descriptorIndex := 51, attributes := #[] }])
  fields := #[{ name := "serialVersionUID", type := .long, accessFlags := 26, slot := 0, constantValue := 0 }, { name := "DEFAULT_CAPACITY", type := .int, accessFlags := 26, slot := 1, constantValue := 0 }, { name := "EMPTY_ELEMENTDATA", type := (.array (.object "java/lang/Object")), accessFlags := 26, slot := 2, constantValue := 0 }, { name := "DEFAULTCAPACITY_EMPTY_ELEMENTDATA", type := (.array (.object "java/lang/Object")), accessFlags := 26, slot := 3, constantValue := 0 }, { name := "elementData", type := (.array (.object "java/lang/Object")), accessFlags := 128, slot := 1, constantValue := 0 }, { name := "size", type := .int, accessFlags := 2, slot := 2, constantValue := 0 }]
  methods := #[k12m0, k12m1, k12m2, k12m3, k12m4]
  instanceTypes := #[.int, (.array (.object "java/lang/Object")), .int]
  staticTypes := #[.long, .int, (.array (.object "java/lang/Object")), (.array (.object "java/lang/Object"))]
  resolved := Array.replicate 509 none
  statics := some 0 }

def pool13 : Array CpInfo := pool [(1, .methodref 2 3), (0, .class_ 4), (0, .nameAndType 5 6), (0, u "java/lang/Object"), (0, u "<init>"), (0, u "()V"), (1, .class_ 10), (1, u "java/lang/Number"), (2, .class_ 14), (0, u "java/io/Serializable"), (0, u "serialVersionUID"), (0, u "J")] 20

def k13c0 : Code := { maxStack := 1, maxLocals := 1, code := jdk_18_method_1_code, exceptionTable := #[], attributes := #[] }
def k13m0 : Method := { name := "<init>", desc := "()V", sig := { parameters := [], returnType := none }, accessFlags := 1, code := some k13c0 }
/-- java/lang/Number -/
def k13 : Class := { plain "java/lang/Number" (some 0) with
  accessFlags := 1057
  interfaces := #[11]
  cf := some (fileOf pool13 8 #[] #[{ accessFlags := 1, nameIndex := 5, descriptorIndex := 6, attributes := #[] }] 1057 2 #[13] #[{ accessFlags := 26, nameIndex := 15, descriptorIndex := 16, attributes := #[] }])
  fields := #[{ name := "serialVersionUID", type := .long, accessFlags := 26, slot := 0, constantValue := 0 }]
  methods := #[k13m0]
  instanceTypes := #[]
  staticTypes := #[.long]
  resolved := Array.replicate 37 none
  statics := none }

def pool14 : Array CpInfo := pool [(1, .class_ 2), (0, u "java/lang/Comparable"), (0, .class_ 4), (0, u "java/lang/Object")] 7

/-- java/lang/Comparable -/
def k14 : Class := { plain "java/lang/Comparable" (some 0) with
  accessFlags := 1537
  interfaces := #[]
  cf := some (fileOf pool14 1 #[] #[] 1537 3 #[] #[])
  fields := #[]
  methods := #[]
  instanceTypes := #[]
  staticTypes := #[]
  resolved := Array.replicate 12 none
  statics := none }

def pool15 : Array CpInfo := pool [(1, .class_ 2), (0, u "java/lang/constant/Constable"), (0, .class_ 4), (0, u "java/lang/Object")] 6

/-- java/lang/constant/Constable -/
def k15 : Class := { plain "java/lang/constant/Constable" (some 0) with
  accessFlags := 1537
  interfaces := #[]
  cf := some (fileOf pool15 1 #[] #[] 1537 3 #[] #[])
  fields := #[]
  methods := #[]
  instanceTypes := #[]
  staticTypes := #[]
  resolved := Array.replicate 11 none
  statics := none }

def pool16 : Array CpInfo := pool [(1, .class_ 2), (0, u "java/lang/constant/ConstantDesc"), (0, .class_ 4), (0, u "java/lang/Object")] 32

/-- java/lang/constant/ConstantDesc -/
def k16 : Class := { plain "java/lang/constant/ConstantDesc" (some 0) with
  accessFlags := 1537
  interfaces := #[]
  cf := some (fileOf pool16 1 #[] #[] 1537 3 #[] #[])
  fields := #[]
  methods := #[]
  instanceTypes := #[]
  staticTypes := #[]
  resolved := Array.replicate 37 none
  statics := none }

def pool17 : Array CpInfo := pool [(1, .class_ 2), (0, u "java/lang/Long"), (55, .nameAndType 59 60), (0, u "<init>"), (0, u "()V"), (24, u "valueOf"), (143, u "(J)Ljava/lang/Long;"), (0, .long 18446744073709551488), (1, .long 127), (1, .fieldref 235 236), (0, .class_ 237), (0, .nameAndType 238 239), (0, u "java/lang/Long$LongCache"), (0, u "cache"), (0, u "[Ljava/lang/Long;"), (0, .methodref 1 241), (0, .nameAndType 59 242), (0, u "(J)V"), (27, .methodref 271 58), (0, .class_ 272), (0, u "java/lang/Number"), (0, .fieldref 1 274), (0, .nameAndType 275 276), (0, u "value"), (0, u "J"), (84, u "TYPE"), (0, u "Ljava/lang/Class;"), (0, .class_ 364), (0, u "java/lang/Comparable"), (0, .class_ 366), (0, u "java/lang/constant/Constable"), (0, .class_ 368), (0, u "java/lang/constant/ConstantDesc"), (0, u "MIN_VALUE"), (1, u "MAX_VALUE"), (4, u "SIZE"), (0, u "I"), (1, u "BYTES"), (1, u "serialVersionUID")] 142

def k17c0 : Code := { maxStack := 4, maxLocals := 3, code := jdk_35_method_24_code, exceptionTable := #[], attributes := #[] }
def k17m0 : Method := { name := "valueOf", desc := "(J)Ljava/lang/Long;", sig := { parameters := [.long], returnType := some (.object "java/lang/Long") }, accessFlags := 9, code := some k17c0 }
def k17c1 : Code := { maxStack := 3, maxLocals := 3, code := jdk_35_method_26_code, exceptionTable := #[], attributes := #[] }
def k17m1 : Method := { name := "<init>", desc := "(J)V", sig := { parameters := [.long], returnType := none }, accessFlags := 1, code := some k17c1 }
/-- java/lang/Long -/
def k17 : Class := { plain "java/lang/Long" (some 13) with
  accessFlags := 49
  interfaces := #[14, 15, 16]
  cf := some (fileOf pool17 1 #[.nestMembers #[235]] #[{ accessFlags := 9, nameIndex := 85, descriptorIndex := 229, attributes := #[] }, { accessFlags := 1, nameIndex := 59, descriptorIndex := 242, attributes := #[] }] 49 271 #[363, 365, 367] #[{ accessFlags := 25, nameIndex := 369, descriptorIndex := 276, attributes := #[] }, { accessFlags := 25, nameIndex := 371, descriptorIndex := 276, attributes := #[] }, { accessFlags := 25, nameIndex := 361, descriptorIndex := 362, attributes := #[] }, { accessFlags := 18, nameIndex := 275, descriptorIndex := 276, attributes := #[] }, { accessFlags := 25, nameIndex := 376, descriptorIndex := 377, attributes := #[] }, { accessFlags := 25, nameIndex := 379, descriptorIndex := 377, attributes := #[] }, { accessFlags := 26, nameIndex := 381, descriptorIndex := 276, attributes := #[] }])
  fields := #[{ name := "MIN_VALUE", type := .long, accessFlags := 25, slot := 0, constantValue := 0 }, { name := "MAX_VALUE", type := .long, accessFlags := 25, slot := 1, constantValue := 0 }, { name := "TYPE", type := (.object "java/lang/Class"), accessFlags := 25, slot := 2, constantValue := 0 }, { name := "value", type := .long, accessFlags := 18, slot := 0, constantValue := 0 }, { name := "SIZE", type := .int, accessFlags := 25, slot := 3, constantValue := 0 }, { name := "BYTES", type := .int, accessFlags := 25, slot := 4, constantValue := 0 }, { name := "serialVersionUID", type := .long, accessFlags := 26, slot := 5, constantValue := 0 }]
  methods := #[k17m0, k17m1]
  instanceTypes := #[.long]
  staticTypes := #[.long, .long, (.object "java/lang/Class"), .int, .int, .long]
  resolved := Array.replicate 524 none
  statics := none }

def pool18 : Array CpInfo := pool [(2, .class_ 4), (1, u "java/lang/Object"), (0, u "<init>"), (0, u "()V"), (0, .class_ 8), (0, u "java/lang/Long"), (7, .class_ 18), (1, u "java/lang/Long$LongCache"), (0, u "$assertionsDisabled"), (0, u "Z"), (8, u "archivedCache"), (0, u "[Ljava/lang/Long;"), (7, u "cache")] 24

def k18m0 : Method := { name := "<init>", desc := "()V", sig := { parameters := [], returnType := none }, accessFlags := 2, code := none }
/-- java/lang/Long$LongCache -/
def k18 : Class := { plain "java/lang/Long$LongCache" (some 0) with
  accessFlags := 48
  interfaces := #[]
  cf := some (fileOf pool18 16 #[.nestHost 7] #[{ accessFlags := 2, nameIndex := 5, descriptorIndex := 6, attributes := #[] }] 48 2 #[] #[{ accessFlags := 24, nameIndex := 38, descriptorIndex := 30, attributes := #[] }, { accessFlags := 8, nameIndex := 29, descriptorIndex := 30, attributes := #[] }, { accessFlags := 4120, nameIndex := 19, descriptorIndex := 20, attributes := #[] }])
  fields := #[{ name := "cache", type := (.array (.object "java/lang/Long")), accessFlags := 24, slot := 0, constantValue := 0 }, { name := "archivedCache", type := (.array (.object "java/lang/Long")), accessFlags := 8, slot := 1, constantValue := 0 }, { name := "$assertionsDisabled", type := .boolean, accessFlags := 4120, slot := 2, constantValue := 0 }]
  methods := #[k18m0]
  instanceTypes := #[]
  staticTypes := #[(.array (.object "java/lang/Long")), (.array (.object "java/lang/Long")), .boolean]
  resolved := Array.replicate 63 none
  statics := some 1 }

def pool19 : Array CpInfo := pool [(1, .class_ 2), (0, u "java/lang/Math"), (1, .class_ 6), (1, u "java/lang/Object"), (0, u "<init>"), (0, u "()V"), (89, .class_ 100), (1, u "java/lang/Math$RandomNumberGeneratorHolder"), (71, u "negativeZeroFloatBits"), (0, u "J"), (2, u "negativeZeroDoubleBits"), (21, u "max"), (46, u "$assertionsDisabled"), (0, u "Z"), (88, u "(II)I"), (2, u "twoToTheDoubleScaleDown"), (0, u "D"), (4, u "twoToTheDoubleScaleUp"), (9, u "E"), (3, u "PI"), (2, u "TAU"), (2, u "DEGREES_TO_RADIANS"), (0, u "RADIANS_TO_DEGREES")] 94

def k19m0 : Method := { name := "<init>", desc := "()V", sig := { parameters := [], returnType := none }, accessFlags := 2, code := none }
def k19c1 : Code := { maxStack := 2, maxLocals := 2, code := jdk_29_method_65_code, exceptionTable := #[], attributes := #[] }
def k19m1 : Method := { name := "max", desc := "(II)I", sig := { parameters := [.int, .int], returnType := some .int }, accessFlags := 9, code := some k19c1 }
/-- java/lang/Math -/
def k19 : Class := { plain "java/lang/Math" (some 0) with
  accessFlags := 49
  interfaces := #[]
  cf := some (fileOf pool19 1 #[.nestMembers #[98]] #[{ accessFlags := 2, nameIndex := 7, descriptorIndex := 8, attributes := #[] }, { accessFlags := 9, nameIndex := 198, descriptorIndex := 335, attributes := #[] }] 49 4 #[] #[{ accessFlags := 25, nameIndex := 354, descriptorIndex := 339, attributes := #[] }, { accessFlags := 25, nameIndex := 358, descriptorIndex := 339, attributes := #[] }, { accessFlags := 25, nameIndex := 361, descriptorIndex := 339, attributes := #[] }, { accessFlags := 26, nameIndex := 364, descriptorIndex := 339, attributes := #[] }, { accessFlags := 26, nameIndex := 365, descriptorIndex := 339, attributes := #[] }, { accessFlags := 26, nameIndex := 172, descriptorIndex := 173, attributes := #[] }, { accessFlags := 26, nameIndex := 176, descriptorIndex := 173, attributes := #[] }, { accessFlags := 8, nameIndex := 344, descriptorIndex := 339, attributes := #[] }, { accessFlags := 8, nameIndex := 338, descriptorIndex := 339, attributes := #[] }, { accessFlags := 4120, nameIndex := 245, descriptorIndex := 246, attributes := #[] }])
  fields := #[{ name := "E", type := .double, accessFlags := 25, slot := 0, constantValue := 0 }, { name := "PI", type := .double, accessFlags := 25, slot := 1, constantValue := 0 }, { name := "TAU", type := .double, accessFlags := 25, slot := 2, constantValue := 0 }, { name := "DEGREES_TO_RADIANS", type := .double, accessFlags := 26, slot := 3, constantValue := 0 }, { name := "RADIANS_TO_DEGREES", type := .double, accessFlags := 26, slot := 4, constantValue := 0 }, { name := "negativeZeroFloatBits", type := .long, accessFlags := 26, slot := 5, constantValue := 0 }, { name := "negativeZeroDoubleBits", type := .long, accessFlags := 26, slot := 6, constantValue := 0 }, { name := "twoToTheDoubleScaleUp", type := .double, accessFlags := 8, slot := 7, constantValue := 0 }, { name := "twoToTheDoubleScaleDown", type := .double, accessFlags := 8, slot := 8, constantValue := 0 }, { name := "$assertionsDisabled", type := .boolean, accessFlags := 4120, slot := 9, constantValue := 0 }]
  methods := #[k19m0, k19m1]
  instanceTypes := #[]
  staticTypes := #[.double, .double, .double, .double, .double, .long, .long, .double, .double, .boolean]
  resolved := Array.replicate 460 none
  statics := none }

/-- the primitive byte -/
def k20 : Class := { plain "byte" none with kind := .primitive 'B', accessFlags := 0x411 }
/-- [B -/
def k21 : Class := { plain "[B" (some 0) with kind := .array 20 .byte, interfaces := #[10, 11], accessFlags := 1041 }

/-- the primitive int -/
def k22 : Class := { plain "int" none with kind := .primitive 'I', accessFlags := 0x411 }
/-- [I -/
def k23 : Class := { plain "[I" (some 0) with kind := .array 22 .int, interfaces := #[10, 11], accessFlags := 1041 }

/-- [Ljava/lang/Long; -/
def k24 : Class := { plain "[Ljava/lang/Long;" (some 0) with kind := .array 17 (.object "java/lang/Long"), interfaces := #[10, 11], accessFlags := 1041 }

/-- [Ljava/lang/Object; -/
def k25 : Class := { plain "[Ljava/lang/Object;" (some 0) with kind := .array 0 (.object "java/lang/Object"), interfaces := #[10, 11], accessFlags := 1041 }

def heap : Heap := #[{ cls := 12, slots := #[.long 0, .int 0, .ref 259, .ref 260], vm := .statics 12 },
  { cls := 18, slots := #[.ref 2, .null, .int 0], vm := .statics 18 },
  { cls := 24, slots := #[.ref 3, .ref 4, .ref 5, .ref 6, .ref 7, .ref 8, .ref 9, .ref 10, .ref 11, .ref 12, .ref 13, .ref 14, .ref 15, .ref 16, .ref 17, .ref 18, .ref 19, .ref 20, .ref 21, .ref 22, .ref 23, .ref 24, .ref 25, .ref 26, .ref 27, .ref 28, .ref 29, .ref 30, .ref 31, .ref 32, .ref 33, .ref 34, .ref 35, .ref 36, .ref 37, .ref 38, .ref 39, .ref 40, .ref 41, .ref 42, .ref 43, .ref 44, .ref 45, .ref 46, .ref 47, .ref 48, .ref 49, .ref 50, .ref 51, .ref 52, .ref 53, .ref 54, .ref 55, .ref 56, .ref 57, .ref 58, .ref 59, .ref 60, .ref 61, .ref 62, .ref 63, .ref 64, .ref 65, .ref 66, .ref 67, .ref 68, .ref 69, .ref 70, .ref 71, .ref 72, .ref 73, .ref 74, .ref 75, .ref 76, .ref 77, .ref 78, .ref 79, .ref 80, .ref 81, .ref 82, .ref 83, .ref 84, .ref 85, .ref 86, .ref 87, .ref 88, .ref 89, .ref 90, .ref 91, .ref 92, .ref 93, .ref 94, .ref 95, .ref 96, .ref 97, .ref 98, .ref 99, .ref 100, .ref 101, .ref 102, .ref 103, .ref 104, .ref 105, .ref 106, .ref 107, .ref 108, .ref 109, .ref 110, .ref 111, .ref 112, .ref 113, .ref 114, .ref 115, .ref 116, .ref 117, .ref 118, .ref 119, .ref 120, .ref 121, .ref 122, .ref 123, .ref 124, .ref 125, .ref 126, .ref 127, .ref 128, .ref 129, .ref 130, .ref 131, .ref 132, .ref 133, .ref 134, .ref 135, .ref 136, .ref 137, .ref 138, .ref 139, .ref 140, .ref 141, .ref 142, .ref 143, .ref 144, .ref 145, .ref 146, .ref 147, .ref 148, .ref 149, .ref 150, .ref 151, .ref 152, .ref 153, .ref 154, .ref 155, .ref 156, .ref 157, .ref 158, .ref 159, .ref 160, .ref 161, .ref 162, .ref 163, .ref 164, .ref 165, .ref 166, .ref 167, .ref 168, .ref 169, .ref 170, .ref 171, .ref 172, .ref 173, .ref 174, .ref 175, .ref 176, .ref 177, .ref 178, .ref 179, .ref 180, .ref 181, .ref 182, .ref 183, .ref 184, .ref 185, .ref 186, .ref 187, .ref 188, .ref 189, .ref 190, .ref 191, .ref 192, .ref 193, .ref 194, .ref 195, .ref 196, .ref 197, .ref 198, .ref 199, .ref 200, .ref 201, .ref 202, .ref 203, .ref 204, .ref 205, .ref 206, .ref 207, .ref 208, .ref 209, .ref 210, .ref 211, .ref 212, .ref 213, .ref 214, .ref 215, .ref 216, .ref 217, .ref 218, .ref 219, .ref 220, .ref 221, .ref 222, .ref 223, .ref 224, .ref 225, .ref 226, .ref 227, .ref 228, .ref 229, .ref 230, .ref 231, .ref 232, .ref 233, .ref 234, .ref 235, .ref 236, .ref 237, .ref 238, .ref 239, .ref 240, .ref 241, .ref 242, .ref 243, .ref 244, .ref 245, .ref 246, .ref 247, .ref 248, .ref 249, .ref 250, .ref 251, .ref 252, .ref 253, .ref 254, .ref 255, .ref 256, .ref 257, .ref 258], vm := .none },
  { cls := 17, slots := #[.long (-128)], vm := .none },
  { cls := 17, slots := #[.long (-127)], vm := .none },
  { cls := 17, slots := #[.long (-126)], vm := .none },
  { cls := 17, slots := #[.long (-125)], vm := .none },
  { cls := 17, slots := #[.long (-124)], vm := .none },
  { cls := 17, slots := #[.long (-123)], vm := .none },
  { cls := 17, slots := #[.long (-122)], vm := .none },
  { cls := 17, slots := #[.long (-121)], vm := .none },
  { cls := 17, slots := #[.long (-120)], vm := .none },
  { cls := 17, slots := #[.long (-119)], vm := .none },
  { cls := 17, slots := #[.long (-118)], vm := .none },
  { cls := 17, slots := #[.long (-117)], vm := .none },
  { cls := 17, slots := #[.long (-116)], vm := .none },
  { cls := 17, slots := #[.long (-115)], vm := .none },
  { cls := 17, slots := #[.long (-114)], vm := .none },
  { cls := 17, slots := #[.long (-113)], vm := .none },
  { cls := 17, slots := #[.long (-112)], vm := .none },
  { cls := 17, slots := #[.long (-111)], vm := .none },
  { cls := 17, slots := #[.long (-110)], vm := .none },
  { cls := 17, slots := #[.long (-109)], vm := .none },
  { cls := 17, slots := #[.long (-108)], vm := .none },
  { cls := 17, slots := #[.long (-107)], vm := .none },
  { cls := 17, slots := #[.long (-106)], vm := .none },
  { cls := 17, slots := #[.long (-105)], vm := .none },
  { cls := 17, slots := #[.long (-104)], vm := .none },
  { cls := 17, slots := #[.long (-103)], vm := .none },
  { cls := 17, slots := #[.long (-102)], vm := .none },
  { cls := 17, slots := #[.long (-101)], vm := .none },
  { cls := 17, slots := #[.long (-100)], vm := .none },
  { cls := 17, slots := #[.long (-99)], vm := .none },
  { cls := 17, slots := #[.long (-98)], vm := .none },
  { cls := 17, slots := #[.long (-97)], vm := .none },
  { cls := 17, slots := #[.long (-96)], vm := .none },
  { cls := 17, slots := #[.long (-95)], vm := .none },
  { cls := 17, slots := #[.long (-94)], vm := .none },
  { cls := 17, slots := #[.long (-93)], vm := .none },
  { cls := 17, slots := #[.long (-92)], vm := .none },
  { cls := 17, slots := #[.long (-91)], vm := .none },
  { cls := 17, slots := #[.long (-90)], vm := .none },
  { cls := 17, slots := #[.long (-89)], vm := .none },
  { cls := 17, slots := #[.long (-88)], vm := .none },
  { cls := 17, slots := #[.long (-87)], vm := .none },
  { cls := 17, slots := #[.long (-86)], vm := .none },
  { cls := 17, slots := #[.long (-85)], vm := .none },
  { cls := 17, slots := #[.long (-84)], vm := .none },
  { cls := 17, slots := #[.long (-83)], vm := .none },
  { cls := 17, slots := #[.long (-82)], vm := .none },
  { cls := 17, slots := #[.long (-81)], vm := .none },
  { cls := 17, slots := #[.long (-80)], vm := .none },
  { cls := 17, slots := #[.long (-79)], vm := .none },
  { cls := 17, slots := #[.long (-78)], vm := .none },
  { cls := 17, slots := #[.long (-77)], vm := .none },
  { cls := 17, slots := #[.long (-76)], vm := .none },
  { cls := 17, slots := #[.long (-75)], vm := .none },
  { cls := 17, slots := #[.long (-74)], vm := .none },
  { cls := 17, slots := #[.long (-73)], vm := .none },
  { cls := 17, slots := #[.long (-72)], vm := .none },
  { cls := 17, slots := #[.long (-71)], vm := .none },
  { cls := 17, slots := #[.long (-70)], vm := .none },
  { cls := 17, slots := #[.long (-69)], vm := .none },
  { cls := 17, slots := #[.long (-68)], vm := .none },
  { cls := 17, slots := #[.long (-67)], vm := .none },
  { cls := 17, slots := #[.long (-66)], vm := .none },
  { cls := 17, slots := #[.long (-65)], vm := .none },
  { cls := 17, slots := #[.long (-64)], vm := .none },
  { cls := 17, slots := #[.long (-63)], vm := .none },
  { cls := 17, slots := #[.long (-62)], vm := .none },
  { cls := 17, slots := #[.long (-61)], vm := .none },
  { cls := 17, slots := #[.long (-60)], vm := .none },
  { cls := 17, slots := #[.long (-59)], vm := .none },
  { cls := 17, slots := #[.long (-58)], vm := .none },
  { cls := 17, slots := #[.long (-57)], vm := .none },
  { cls := 17, slots := #[.long (-56)], vm := .none },
  { cls := 17, slots := #[.long (-55)], vm := .none },
  { cls := 17, slots := #[.long (-54)], vm := .none },
  { cls := 17, slots := #[.long (-53)], vm := .none },
  { cls := 17, slots := #[.long (-52)], vm := .none },
  { cls := 17, slots := #[.long (-51)], vm := .none },
  { cls := 17, slots := #[.long (-50)], vm := .none },
  { cls := 17, slots := #[.long (-49)], vm := .none },
  { cls := 17, slots := #[.long (-48)], vm := .none },
  { cls := 17, slots := #[.long (-47)], vm := .none },
  { cls := 17, slots := #[.long (-46)], vm := .none },
  { cls := 17, slots := #[.long (-45)], vm := .none },
  { cls := 17, slots := #[.long (-44)], vm := .none },
  { cls := 17, slots := #[.long (-43)], vm := .none },
  { cls := 17, slots := #[.long (-42)], vm := .none },
  { cls := 17, slots := #[.long (-41)], vm := .none },
  { cls := 17, slots := #[.long (-40)], vm := .none },
  { cls := 17, slots := #[.long (-39)], vm := .none },
  { cls := 17, slots := #[.long (-38)], vm := .none },
  { cls := 17, slots := #[.long (-37)], vm := .none },
  { cls := 17, slots := #[.long (-36)], vm := .none },
  { cls := 17, slots := #[.long (-35)], vm := .none },
  { cls := 17, slots := #[.long (-34)], vm := .none },
  { cls := 17, slots := #[.long (-33)], vm := .none },
  { cls := 17, slots := #[.long (-32)], vm := .none },
  { cls := 17, slots := #[.long (-31)], vm := .none },
  { cls := 17, slots := #[.long (-30)], vm := .none },
  { cls := 17, slots := #[.long (-29)], vm := .none },
  { cls := 17, slots := #[.long (-28)], vm := .none },
  { cls := 17, slots := #[.long (-27)], vm := .none },
  { cls := 17, slots := #[.long (-26)], vm := .none },
  { cls := 17, slots := #[.long (-25)], vm := .none },
  { cls := 17, slots := #[.long (-24)], vm := .none },
  { cls := 17, slots := #[.long (-23)], vm := .none },
  { cls := 17, slots := #[.long (-22)], vm := .none },
  { cls := 17, slots := #[.long (-21)], vm := .none },
  { cls := 17, slots := #[.long (-20)], vm := .none },
  { cls := 17, slots := #[.long (-19)], vm := .none },
  { cls := 17, slots := #[.long (-18)], vm := .none },
  { cls := 17, slots := #[.long (-17)], vm := .none },
  { cls := 17, slots := #[.long (-16)], vm := .none },
  { cls := 17, slots := #[.long (-15)], vm := .none },
  { cls := 17, slots := #[.long (-14)], vm := .none },
  { cls := 17, slots := #[.long (-13)], vm := .none },
  { cls := 17, slots := #[.long (-12)], vm := .none },
  { cls := 17, slots := #[.long (-11)], vm := .none },
  { cls := 17, slots := #[.long (-10)], vm := .none },
  { cls := 17, slots := #[.long (-9)], vm := .none },
  { cls := 17, slots := #[.long (-8)], vm := .none },
  { cls := 17, slots := #[.long (-7)], vm := .none },
  { cls := 17, slots := #[.long (-6)], vm := .none },
  { cls := 17, slots := #[.long (-5)], vm := .none },
  { cls := 17, slots := #[.long (-4)], vm := .none },
  { cls := 17, slots := #[.long (-3)], vm := .none },
  { cls := 17, slots := #[.long (-2)], vm := .none },
  { cls := 17, slots := #[.long (-1)], vm := .none },
  { cls := 17, slots := #[.long 0], vm := .none },
  { cls := 17, slots := #[.long 1], vm := .none },
  { cls := 17, slots := #[.long 2], vm := .none },
  { cls := 17, slots := #[.long 3], vm := .none },
  { cls := 17, slots := #[.long 4], vm := .none },
  { cls := 17, slots := #[.long 5], vm := .none },
  { cls := 17, slots := #[.long 6], vm := .none },
  { cls := 17, slots := #[.long 7], vm := .none },
  { cls := 17, slots := #[.long 8], vm := .none },
  { cls := 17, slots := #[.long 9], vm := .none },
  { cls := 17, slots := #[.long 10], vm := .none },
  { cls := 17, slots := #[.long 11], vm := .none },
  { cls := 17, slots := #[.long 12], vm := .none },
  { cls := 17, slots := #[.long 13], vm := .none },
  { cls := 17, slots := #[.long 14], vm := .none },
  { cls := 17, slots := #[.long 15], vm := .none },
  { cls := 17, slots := #[.long 16], vm := .none },
  { cls := 17, slots := #[.long 17], vm := .none },
  { cls := 17, slots := #[.long 18], vm := .none },
  { cls := 17, slots := #[.long 19], vm := .none },
  { cls := 17, slots := #[.long 20], vm := .none },
  { cls := 17, slots := #[.long 21], vm := .none },
  { cls := 17, slots := #[.long 22], vm := .none },
  { cls := 17, slots := #[.long 23], vm := .none },
  { cls := 17, slots := #[.long 24], vm := .none },
  { cls := 17, slots := #[.long 25], vm := .none },
  { cls := 17, slots := #[.long 26], vm := .none },
  { cls := 17, slots := #[.long 27], vm := .none },
  { cls := 17, slots := #[.long 28], vm := .none },
  { cls := 17, slots := #[.long 29], vm := .none },
  { cls := 17, slots := #[.long 30], vm := .none },
  { cls := 17, slots := #[.long 31], vm := .none },
  { cls := 17, slots := #[.long 32], vm := .none },
  { cls := 17, slots := #[.long 33], vm := .none },
  { cls := 17, slots := #[.long 34], vm := .none },
  { cls := 17, slots := #[.long 35], vm := .none },
  { cls := 17, slots := #[.long 36], vm := .none },
  { cls := 17, slots := #[.long 37], vm := .none },
  { cls := 17, slots := #[.long 38], vm := .none },
  { cls := 17, slots := #[.long 39], vm := .none },
  { cls := 17, slots := #[.long 40], vm := .none },
  { cls := 17, slots := #[.long 41], vm := .none },
  { cls := 17, slots := #[.long 42], vm := .none },
  { cls := 17, slots := #[.long 43], vm := .none },
  { cls := 17, slots := #[.long 44], vm := .none },
  { cls := 17, slots := #[.long 45], vm := .none },
  { cls := 17, slots := #[.long 46], vm := .none },
  { cls := 17, slots := #[.long 47], vm := .none },
  { cls := 17, slots := #[.long 48], vm := .none },
  { cls := 17, slots := #[.long 49], vm := .none },
  { cls := 17, slots := #[.long 50], vm := .none },
  { cls := 17, slots := #[.long 51], vm := .none },
  { cls := 17, slots := #[.long 52], vm := .none },
  { cls := 17, slots := #[.long 53], vm := .none },
  { cls := 17, slots := #[.long 54], vm := .none },
  { cls := 17, slots := #[.long 55], vm := .none },
  { cls := 17, slots := #[.long 56], vm := .none },
  { cls := 17, slots := #[.long 57], vm := .none },
  { cls := 17, slots := #[.long 58], vm := .none },
  { cls := 17, slots := #[.long 59], vm := .none },
  { cls := 17, slots := #[.long 60], vm := .none },
  { cls := 17, slots := #[.long 61], vm := .none },
  { cls := 17, slots := #[.long 62], vm := .none },
  { cls := 17, slots := #[.long 63], vm := .none },
  { cls := 17, slots := #[.long 64], vm := .none },
  { cls := 17, slots := #[.long 65], vm := .none },
  { cls := 17, slots := #[.long 66], vm := .none },
  { cls := 17, slots := #[.long 67], vm := .none },
  { cls := 17, slots := #[.long 68], vm := .none },
  { cls := 17, slots := #[.long 69], vm := .none },
  { cls := 17, slots := #[.long 70], vm := .none },
  { cls := 17, slots := #[.long 71], vm := .none },
  { cls := 17, slots := #[.long 72], vm := .none },
  { cls := 17, slots := #[.long 73], vm := .none },
  { cls := 17, slots := #[.long 74], vm := .none },
  { cls := 17, slots := #[.long 75], vm := .none },
  { cls := 17, slots := #[.long 76], vm := .none },
  { cls := 17, slots := #[.long 77], vm := .none },
  { cls := 17, slots := #[.long 78], vm := .none },
  { cls := 17, slots := #[.long 79], vm := .none },
  { cls := 17, slots := #[.long 80], vm := .none },
  { cls := 17, slots := #[.long 81], vm := .none },
  { cls := 17, slots := #[.long 82], vm := .none },
  { cls := 17, slots := #[.long 83], vm := .none },
  { cls := 17, slots := #[.long 84], vm := .none },
  { cls := 17, slots := #[.long 85], vm := .none },
  { cls := 17, slots := #[.long 86], vm := .none },
  { cls := 17, slots := #[.long 87], vm := .none },
  { cls := 17, slots := #[.long 88], vm := .none },
  { cls := 17, slots := #[.long 89], vm := .none },
  { cls := 17, slots := #[.long 90], vm := .none },
  { cls := 17, slots := #[.long 91], vm := .none },
  { cls := 17, slots := #[.long 92], vm := .none },
  { cls := 17, slots := #[.long 93], vm := .none },
  { cls := 17, slots := #[.long 94], vm := .none },
  { cls := 17, slots := #[.long 95], vm := .none },
  { cls := 17, slots := #[.long 96], vm := .none },
  { cls := 17, slots := #[.long 97], vm := .none },
  { cls := 17, slots := #[.long 98], vm := .none },
  { cls := 17, slots := #[.long 99], vm := .none },
  { cls := 17, slots := #[.long 100], vm := .none },
  { cls := 17, slots := #[.long 101], vm := .none },
  { cls := 17, slots := #[.long 102], vm := .none },
  { cls := 17, slots := #[.long 103], vm := .none },
  { cls := 17, slots := #[.long 104], vm := .none },
  { cls := 17, slots := #[.long 105], vm := .none },
  { cls := 17, slots := #[.long 106], vm := .none },
  { cls := 17, slots := #[.long 107], vm := .none },
  { cls := 17, slots := #[.long 108], vm := .none },
  { cls := 17, slots := #[.long 109], vm := .none },
  { cls := 17, slots := #[.long 110], vm := .none },
  { cls := 17, slots := #[.long 111], vm := .none },
  { cls := 17, slots := #[.long 112], vm := .none },
  { cls := 17, slots := #[.long 113], vm := .none },
  { cls := 17, slots := #[.long 114], vm := .none },
  { cls := 17, slots := #[.long 115], vm := .none },
  { cls := 17, slots := #[.long 116], vm := .none },
  { cls := 17, slots := #[.long 117], vm := .none },
  { cls := 17, slots := #[.long 118], vm := .none },
  { cls := 17, slots := #[.long 119], vm := .none },
  { cls := 17, slots := #[.long 120], vm := .none },
  { cls := 17, slots := #[.long 121], vm := .none },
  { cls := 17, slots := #[.long 122], vm := .none },
  { cls := 17, slots := #[.long 123], vm := .none },
  { cls := 17, slots := #[.long 124], vm := .none },
  { cls := 17, slots := #[.long 125], vm := .none },
  { cls := 17, slots := #[.long 126], vm := .none },
  { cls := 17, slots := #[.long 127], vm := .none },
  { cls := 25, slots := #[], vm := .none },
  { cls := 25, slots := #[], vm := .none }]
def classes : Array Class := #[k0, k1, k2, k3, k4, k5, k6, k7, k8, k9, k10, k11, k12, k13, k14, k15, k16, k17, k18, k19, k20, k21, k22, k23, k24, k25]
def interned : List (Array UInt16 × Addr) := []
def slotsUsed : Nat := 519
def theMethod : MethodId := ⟨1, 1⟩
def args0 : Array Value := #[.long 5, .long 6, .int 9]
def aboutOver (below : List Frame) : State where
  vm := { classes := classes, interned := interned.toArray }
  heap := heap
  slotsUsed := slotsUsed
  threads := #[{ frames := .invoking theMethod args0 :: below }]
def below0 : List Frame := [.native { method := ⟨0, 0⟩, args := #[] }]
def about1 : State := aboutOver below0
def p0 : Program := .bare "" "" ""
def e0 : Env := launch0.env 0 0 0
theorem w_frames : about1.frames = Frame.invoking theMethod args0 :: below0 := rfl
set_option maxRecDepth 65536 in
theorem w_args : argsFit about1.vm theMethod args0 = true := by decide +kernel
set_option maxRecDepth 65536 in
theorem w_heap : heapFits about1 = true := by decide +kernel
set_option maxRecDepth 65536 in
theorem w_runnable : about1.curStatus? = some .runnable := by decide +kernel
set_option maxRecDepth 65536 in
theorem w_alone : about1.alone = true := by decide +kernel
set_option maxRecDepth 65536 in
theorem w_named : about1.methodNamed? x = some theMethod := by decide +kernel
set_option maxRecDepth 65536 in
theorem w_hears : about1.hears theMethod below0 = true := by decide +kernel
set_option maxRecDepth 65536 in
theorem w_ripe : about1.ripe theMethod args0 below0 = true := by decide +kernel
theorem w_running : about1.status = .running := rfl
set_option maxRecDepth 65536 in
theorem w_room : about1.hasRoom e0.platform room_1 = true :=
  launch0.hasRoom_least _ room_1 (by decide +kernel) (by decide +kernel) (by decide +kernel) (by decide +kernel) (by decide +kernel) (by decide +kernel)
theorem allAtoms_all (ts : List Jvm.Cond) (a : Array Jvm.Value) (st : Jvm.State) : (allAtoms ts).before a st = ts.all (fun c => c.before a st) := by
  induction ts with
  | nil => rfl
  | cons c t ih =>
    show (Jvm.Cond.and c (allAtoms t)).before a st = _
    rw [Jvm.Cond.before_and, ih, List.all_cons]
def words1 : List Jvm.Cond := Jvm.Cond.code x code maxLocals ret :: tables_1
/-- a 'code' word, met by the world's own term for the bytes: nothing is compared byte by byte -/
theorem code_word {y : MethodName} {bytes : ByteArray} {mx : Nat} {rt : Option FieldType} {a : Array Value} {s : State} {m : MethodId} {meth : Method} {c : Code} (h1 : s.methodNamed? y = some m) (h2 : s.vm.method? m = some meth) (h3 : meth.code = some c) (h4 : c.code = bytes)
    (h5 : (c.maxLocals == mx && c.exceptionTable.isEmpty && decide (c.maxStack ≤ mostOperands) && decide (meth.sig.returnType = rt) && !meth.locks && decide (parseMethodDescriptor y.desc = some meth.sig)) = true) : (Jvm.Cond.code y bytes mx rt).before a s = true := by
  simp only [Bool.and_eq_true, beq_iff_eq, Bool.not_eq_true', decide_eq_true_eq] at h5
  obtain ⟨⟨⟨⟨⟨g1, g2⟩, g3⟩, g4⟩, g5⟩, g6⟩ := h5
  simp [Cond.before, Cond.holds, Cond.value, h1, h2, h3, h4, g1, g2, g3, g4, g5, g6]
def isCode : Jvm.Cond → Bool
  | .code _ _ _ _ => true
  | _ => false
theorem all_split {L : List Jvm.Cond} {P : Jvm.Cond → Bool} (h1 : L.all (fun c => isCode c || P c) = true) (h2 : ∀ c ∈ L.filter isCode, P c = true) : L.all P = true := by
  refine List.all_eq_true.mpr fun c hc => ?_
  have h := List.all_eq_true.mp h1 c hc
  rcases Bool.eq_false_or_eq_true (isCode c) with hi | hi
  · exact h2 c (List.mem_filter.mpr ⟨hc, hi⟩)
  · simpa [hi] using h
set_option maxRecDepth 65536 in
theorem w_c0 : (Jvm.Cond.code x code maxLocals ret).before args0 about1 = true := code_word (m := ⟨1, 1⟩) (meth := k1m1) (c := k1c1) (by decide +kernel) rfl rfl rfl (by decide +kernel)
set_option maxRecDepth 65536 in
theorem w_c1 : (Jvm.Cond.code ({ cls := "com/example/holdfast/holdfast/HoldfastLock$Exclusive$Answer", name := "<init>", desc := "(JLjava/util/List;)V" } : Jvm.MethodName) prog_11_method_1_code (4 : Nat) (Option.none : Option Jvm.ClassFile.FieldType)).before args0 about1 = true := code_word (m := ⟨2, 0⟩) (meth := k2m0) (c := k2c0) (by decide +kernel) rfl rfl rfl (by decide +kernel)
set_option maxRecDepth 65536 in
theorem w_c2 : (Jvm.Cond.code ({ cls := "java/lang/Object", name := "<init>", desc := "()V" } : Jvm.MethodName) object_method_1_code (1 : Nat) (Option.none : Option Jvm.ClassFile.FieldType)).before args0 about1 = true := code_word (m := ⟨0, 0⟩) (meth := k0m0) (c := k0c0) (by decide +kernel) rfl rfl rfl (by decide +kernel)
set_option maxRecDepth 65536 in
theorem w_c3 : (Jvm.Cond.code ({ cls := "com/example/holdfast/holdfast/HoldfastLock$Exclusive$Answer", name := "granted", desc := "()Z" } : Jvm.MethodName) prog_11_method_2_code (1 : Nat) (Option.some Jvm.ClassFile.FieldType.boolean)).before args0 about1 = true := code_word (m := ⟨2, 1⟩) (meth := k2m1) (c := k2c1) (by decide +kernel) rfl rfl rfl (by decide +kernel)
set_option maxRecDepth 65536 in
theorem w_c4 : (Jvm.Cond.code ({ cls := "java/util/ArrayList", name := "<init>", desc := "()V" } : Jvm.MethodName) jdk_38_method_2_code (1 : Nat) (Option.none : Option Jvm.ClassFile.FieldType)).before args0 about1 = true := code_word (m := ⟨12, 0⟩) (meth := k12m0) (c := k12c0) (by decide +kernel) rfl rfl rfl (by decide +kernel)
set_option maxRecDepth 65536 in
theorem w_c5 : (Jvm.Cond.code ({ cls := "java/util/AbstractList", name := "<init>", desc := "()V" } : Jvm.MethodName) jdk_39_method_1_code (1 : Nat) (Option.none : Option Jvm.ClassFile.FieldType)).before args0 about1 = true := code_word (m := ⟨8, 0⟩) (meth := k8m0) (c := k8c0) (by decide +kernel) rfl rfl rfl (by decide +kernel)
set_option maxRecDepth 65536 in
theorem w_c6 : (Jvm.Cond.code ({ cls := "java/util/AbstractCollection", name := "<init>", desc := "()V" } : Jvm.MethodName) jdk_22_method_1_code (1 : Nat) (Option.none : Option Jvm.ClassFile.FieldType)).before args0 about1 = true := code_word (m := ⟨5, 0⟩) (meth := k5m0) (c := k5c0) (by decide +kernel) rfl rfl rfl (by decide +kernel)
set_option maxRecDepth 65536 in
theorem w_c7 : (Jvm.Cond.code ({ cls := "java/lang/Long", name := "valueOf", desc := "(J)Ljava/lang/Long;" } : Jvm.MethodName) jdk_35_method_24_code (3 : Nat) (Option.some (Jvm.ClassFile.FieldType.object "java/lang/Long"))).before args0 about1 = true := code_word (m := ⟨17, 0⟩) (meth := k17m0) (c := k17c0) (by decide +kernel) rfl rfl rfl (by decide +kernel)
set_option maxRecDepth 65536 in
theorem w_c8 : (Jvm.Cond.code ({ cls := "java/util/ArrayList", name := "add", desc := "(Ljava/lang/Object;)Z" } : Jvm.MethodName) jdk_38_method_25_code (2 : Nat) (Option.some Jvm.ClassFile.FieldType.boolean)).before args0 about1 = true := code_word (m := ⟨12, 4⟩) (meth := k12m4) (c := k12c4) (by decide +kernel) rfl rfl rfl (by decide +kernel)
set_option maxRecDepth 65536 in
theorem w_c9 : (Jvm.Cond.code ({ cls := "java/util/ArrayList", name := "add", desc := "(Ljava/lang/Object;[Ljava/lang/Object;I)V" } : Jvm.MethodName) jdk_38_method_24_code (4 : Nat) (Option.none : Option Jvm.ClassFile.FieldType)).before args0 about1 = true := code_word (m := ⟨12, 3⟩) (meth := k12m3) (c := k12c3) (by decide +kernel) rfl rfl rfl (by decide +kernel)
set_option maxRecDepth 65536 in
theorem w_c10 : (Jvm.Cond.code ({ cls := "java/util/ArrayList", name := "grow", desc := "()[Ljava/lang/Object;" } : Jvm.MethodName) jdk_38_method_7_code (1 : Nat) (Option.some (Jvm.ClassFile.FieldType.array (Jvm.ClassFile.FieldType.object "java/lang/Object")))).before args0 about1 = true := code_word (m := ⟨12, 2⟩) (meth := k12m2) (c := k12c2) (by decide +kernel) rfl rfl rfl (by decide +kernel)
set_option maxRecDepth 65536 in
theorem w_c11 : (Jvm.Cond.code ({ cls := "java/util/ArrayList", name := "grow", desc := "(I)[Ljava/lang/Object;" } : Jvm.MethodName) jdk_38_method_6_code (4 : Nat) (Option.some (Jvm.ClassFile.FieldType.array (Jvm.ClassFile.FieldType.object "java/lang/Object")))).before args0 about1 = true := code_word (m := ⟨12, 1⟩) (meth := k12m1) (c := k12c1) (by decide +kernel) rfl rfl rfl (by decide +kernel)
set_option maxRecDepth 65536 in
theorem w_c12 : (Jvm.Cond.code ({ cls := "java/lang/Math", name := "max", desc := "(II)I" } : Jvm.MethodName) jdk_29_method_65_code (2 : Nat) (Option.some Jvm.ClassFile.FieldType.int)).before args0 about1 = true := code_word (m := ⟨19, 1⟩) (meth := k19m1) (c := k19c1) (by decide +kernel) rfl rfl rfl (by decide +kernel)
set_option maxRecDepth 65536 in
theorem w_c13 : (Jvm.Cond.code ({ cls := "java/lang/Long", name := "<init>", desc := "(J)V" } : Jvm.MethodName) jdk_35_method_26_code (3 : Nat) (Option.none : Option Jvm.ClassFile.FieldType)).before args0 about1 = true := code_word (m := ⟨17, 1⟩) (meth := k17m1) (c := k17c1) (by decide +kernel) rfl rfl rfl (by decide +kernel)
set_option maxRecDepth 65536 in
theorem w_c14 : (Jvm.Cond.code ({ cls := "java/lang/Number", name := "<init>", desc := "()V" } : Jvm.MethodName) jdk_18_method_1_code (1 : Nat) (Option.none : Option Jvm.ClassFile.FieldType)).before args0 about1 = true := code_word (m := ⟨13, 0⟩) (meth := k13m0) (c := k13c0) (by decide +kernel) rfl rfl rfl (by decide +kernel)
def codes1 : List Jvm.Cond := [Jvm.Cond.code x code maxLocals ret, Jvm.Cond.code ({ cls := "com/example/holdfast/holdfast/HoldfastLock$Exclusive$Answer", name := "<init>", desc := "(JLjava/util/List;)V" } : Jvm.MethodName) prog_11_method_1_code (4 : Nat) (Option.none : Option Jvm.ClassFile.FieldType), Jvm.Cond.code ({ cls := "java/lang/Object", name := "<init>", desc := "()V" } : Jvm.MethodName) object_method_1_code (1 : Nat) (Option.none : Option Jvm.ClassFile.FieldType), Jvm.Cond.code ({ cls := "com/example/holdfast/holdfast/HoldfastLock$Exclusive$Answer", name := "granted", desc := "()Z" } : Jvm.MethodName) prog_11_method_2_code (1 : Nat) (Option.some Jvm.ClassFile.FieldType.boolean), Jvm.Cond.code ({ cls := "java/util/ArrayList", name := "<init>", desc := "()V" } : Jvm.MethodName) jdk_38_method_2_code (1 : Nat) (Option.none : Option Jvm.ClassFile.FieldType), Jvm.Cond.code ({ cls := "java/util/AbstractList", name := "<init>", desc := "()V" } : Jvm.MethodName) jdk_39_method_1_code (1 : Nat) (Option.none : Option Jvm.ClassFile.FieldType), Jvm.Cond.code ({ cls := "java/util/AbstractCollection", name := "<init>", desc := "()V" } : Jvm.MethodName) jdk_22_method_1_code (1 : Nat) (Option.none : Option Jvm.ClassFile.FieldType), Jvm.Cond.code ({ cls := "java/lang/Long", name := "valueOf", desc := "(J)Ljava/lang/Long;" } : Jvm.MethodName) jdk_35_method_24_code (3 : Nat) (Option.some (Jvm.ClassFile.FieldType.object "java/lang/Long")), Jvm.Cond.code ({ cls := "java/util/ArrayList", name := "add", desc := "(Ljava/lang/Object;)Z" } : Jvm.MethodName) jdk_38_method_25_code (2 : Nat) (Option.some Jvm.ClassFile.FieldType.boolean), Jvm.Cond.code ({ cls := "java/util/ArrayList", name := "add", desc := "(Ljava/lang/Object;[Ljava/lang/Object;I)V" } : Jvm.MethodName) jdk_38_method_24_code (4 : Nat) (Option.none : Option Jvm.ClassFile.FieldType), Jvm.Cond.code ({ cls := "java/util/ArrayList", name := "grow", desc := "()[Ljava/lang/Object;" } : Jvm.MethodName) jdk_38_method_7_code (1 : Nat) (Option.some (Jvm.ClassFile.FieldType.array (Jvm.ClassFile.FieldType.object "java/lang/Object"))), Jvm.Cond.code ({ cls := "java/util/ArrayList", name := "grow", desc := "(I)[Ljava/lang/Object;" } : Jvm.MethodName) jdk_38_method_6_code (4 : Nat) (Option.some (Jvm.ClassFile.FieldType.array (Jvm.ClassFile.FieldType.object "java/lang/Object"))), Jvm.Cond.code ({ cls := "java/lang/Math", name := "max", desc := "(II)I" } : Jvm.MethodName) jdk_29_method_65_code (2 : Nat) (Option.some Jvm.ClassFile.FieldType.int), Jvm.Cond.code ({ cls := "java/lang/Long", name := "<init>", desc := "(J)V" } : Jvm.MethodName) jdk_35_method_26_code (3 : Nat) (Option.none : Option Jvm.ClassFile.FieldType), Jvm.Cond.code ({ cls := "java/lang/Number", name := "<init>", desc := "()V" } : Jvm.MethodName) jdk_18_method_1_code (1 : Nat) (Option.none : Option Jvm.ClassFile.FieldType)]
set_option maxRecDepth 65536 in
theorem codes_eq : words1.filter isCode = codes1 := rfl
theorem w_codes : ∀ c ∈ words1.filter isCode, c.before args0 about1 = true := by
  rw [codes_eq]
  intro c hc
  simp only [codes1, List.mem_cons, List.not_mem_nil, or_false] at hc
  rcases hc with rfl | rfl | rfl | rfl | rfl | rfl | rfl | rfl | rfl | rfl | rfl | rfl | rfl | rfl | rfl
  · exact w_c0
  · exact w_c1
  · exact w_c2
  · exact w_c3
  · exact w_c4
  · exact w_c5
  · exact w_c6
  · exact w_c7
  · exact w_c8
  · exact w_c9
  · exact w_c10
  · exact w_c11
  · exact w_c12
  · exact w_c13
  · exact w_c14
set_option maxRecDepth 65536 in
theorem w_t1 : (words1.take 24).all (fun c => isCode c || c.before args0 about1) = true := by decide +kernel
set_option maxRecDepth 65536 in
theorem w_t2 : ((words1.drop 24).take 24).all (fun c => isCode c || c.before args0 about1) = true := by decide +kernel
set_option maxRecDepth 65536 in
theorem w_t3 : (((words1.drop 24).drop 24).take 24).all (fun c => isCode c || c.before args0 about1) = true := by decide +kernel
set_option maxRecDepth 65536 in
theorem w_t4 : ((((words1.drop 24).drop 24).drop 24).take 24).all (fun c => isCode c || c.before args0 about1) = true := by decide +kernel
set_option maxRecDepth 65536 in
theorem w_t5 : ((((words1.drop 24).drop 24).drop 24).drop 24).all (fun c => isCode c || c.before args0 about1) = true := by decide +kernel
theorem w_tables : (allAtoms (Jvm.Cond.code x code maxLocals ret :: tables_1)).before args0 about1 = true := by
  rw [allAtoms_all]
  show words1.all (fun c => c.before args0 about1) = true
  refine all_split ?_ w_codes
  rw [← List.take_append_drop 24 words1, List.all_append, w_t1, ← List.take_append_drop 24 (words1.drop 24), List.all_append, w_t2, ← List.take_append_drop 24 ((words1.drop 24).drop 24), List.all_append, w_t3, ← List.take_append_drop 24 (((words1.drop 24).drop 24).drop 24), List.all_append, w_t4, w_t5]
  rfl
set_option maxRecDepth 65536 in
theorem w_rest : rest_1_c.before args0 about1 = true := by decide +kernel
set_option maxRecDepth 65536 in
theorem w_case : (Jvm.Cond.and given_1 narrow_1).before args0 about1 = true := by decide +kernel
theorem w_applies : (headSpec (Jvm.Cond.code x code maxLocals ret :: tables_1) room_1).applies x e0.platform about1 = true :=
  (Spec.applies_iff w_frames).mpr ⟨w_running, w_runnable, w_alone, w_named, w_hears, w_ripe, w_room, w_tables⟩
theorem atStart : AtStart classFile x code maxLocals ret World_1 tables_1 room_1 Calls_1 rest_1 Pre_1 launch0 p0 e0 about1 theMethod args0 below0 :=
  ⟨lists_1, trivial, launch0.admits_env _ _ _, launch0.least_env, fairChoices_fair.cas, fairChoices_fair.clock, w_frames, w_args, w_heap, w_applies, trivial, w_rest, w_case⟩
end start1
theorem witness_1 : WitnessClaimed_1 := ⟨start1.p0, start1.e0, start1.about1, start1.theMethod, start1.args0, start1.below0, start1.atStart⟩
end Jvm.Pilot.@@N@@
