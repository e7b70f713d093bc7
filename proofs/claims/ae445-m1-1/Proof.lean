import JvmDerived
import JvmDerived.Pilot.@@N@@Statement
import JvmDerived.Pilot.@@N@@Code
set_option linter.unusedVariables false
set_option linter.unusedSimpArgs false
namespace Jvm.Pilot.@@N@@
open Jvm Jvm.ClassFile Sem Op Lib Jvm.Free Jvm.Stand Jvm.LawKit Jvm.RoadKit Bundle Jvm.Pilot.@@N@@.Jvm.D
/-! own: the walk by continuation -/
def Go (p : Program) (e : Env) (below : List Frame) (A : State) (G : Outcome → State → Prop) : Prop :=
  ∃ s₂ o, Steps p.tables e below A s₂ ∧ s₂.status = .running ∧ Ended s₂ below o ∧ G o s₂
section Own
variable {p : Program} {l : Launch} {e : Env} {R : Room} {s : State} {m : MethodId} {args : Array Value} {below : List Frame} {meth : Method} {c : Code} {T : State} {locs : List Loc} {cells slots : Nat} {G : Outcome → State → Prop} {A B : State}
theorem go_of (h : ∀ t, Steps p.tables e below B t → Steps p.tables e below A t) (k : Go p e below B G) : Go p e below A G := by
  obtain ⟨s₂, o, h1, h2⟩ := k; exact ⟨s₂, o, h _ h1, h2⟩
theorem go_tr (h : Steps p.tables e below A B) (k : Go p e below B G) : Go p e below A G := go_of (fun _ q => h.trans q) k
theorem go_end (X : Stand p l e R s m args below meth c T locs cells slots) {v : Option Value} (hv : meth.sig.returnType = none → v = none) (hlocks : meth.locks = false) {C S : Nat} (hc : cells ≤ C) (hs : slots ≤ S)
    {Q : Option Value → Heap → List Loc → Prop} (hQ : Q v T.heap locs) {f : JFrame}
    (st : ∀ fs, (∀ (f : JFrame) (acts : List Action), f.method = m → f.locked = none → f.entered = [] → (doReturn e (T.setTop f) acts v).1 = T.setFrames fs) → Steps p.tables e below (T.setTop f) (T.setFrames fs)) :
    Go p e below (T.setTop f) (fun o U' => ∃ v L, o = .returned v ∧ Q v U'.heap L ∧ FrameEnd s o U' L C S) := by
  obtain ⟨fs, hr, hrun, hended, hW, hsame⟩ := X.leave (v := v) hv hlocks
  exact ⟨_, _, st fs hr, hrun, hended, _, _, rfl, hQ, ⟨_, rfl⟩, hW, hsame.mono hc hs⟩
theorem go_endW {vm : Vm} (X : Stand p l e R (s.setVm vm) m args below meth c T locs cells slots) {k : Nat} (hS : s.Since vm k) (hk : k ≤ T.heap.size) {v : Option Value} (hv : meth.sig.returnType = none → v = none) (hlocks : meth.locks = false) {C S : Nat} (hc : cells ≤ C) (hs : slots ≤ S)
    {Q : Option Value → Heap → List Loc → Prop} (hQ : Q v T.heap locs) {f : JFrame}
    (st : ∀ fs, (∀ (f : JFrame) (acts : List Action), f.method = m → f.locked = none → f.entered = [] → (doReturn e (T.setTop f) acts v).1 = T.setFrames fs) → Steps p.tables e below (T.setTop f) (T.setFrames fs)) :
    Go p e below (T.setTop f) (fun o U' => ∃ v L, o = .returned v ∧ Q v U'.heap L ∧ ReturnedEndW s o U' L C S) := by
  obtain ⟨fs, hr, hrun, hended, e1, e2, e3, e4⟩ := X.leaveW hS hk (v := v) hv hlocks
  exact ⟨_, _, st fs hr, hrun, hended, _, _, rfl, hQ, e1, e2, e3, e4.mono hc hs⟩
theorem own_retI (X : Stand p l e R s m args below meth c T locs cells slots) (hx : p.tables.exec = Jvm.exec) {pc : Nat} {Ls : Array Slot} {z : Int32} {rest : List Value} (hret : meth.sig.returnType = some .int) (hd : decode c.code pc = .ok (.ireturn, 1)) {fs : List Frame}
    (hl : ∀ (f : JFrame) (acts : List Action), f.method = m → f.locked = none → f.entered = [] → (doReturn e (T.setTop f) acts (some (.int z))).1 = T.setFrames fs) : Steps p.tables e below (T.setTop (mkF m pc Ls (.int z :: rest))) (T.setFrames fs) :=
  retOut X hx hret rfl (Or.inl ⟨rfl, Or.inl rfl, _, rfl⟩) hd hl
theorem own_retL (X : Stand p l e R s m args below meth c T locs cells slots) (hx : p.tables.exec = Jvm.exec) {pc : Nat} {Ls : Array Slot} {z : Int64} {rest : List Value} (hret : meth.sig.returnType = some .long) (hd : decode c.code pc = .ok (.lreturn, 1)) {fs : List Frame}
    (hl : ∀ (f : JFrame) (acts : List Action), f.method = m → f.locked = none → f.entered = [] → (doReturn e (T.setTop f) acts (some (.long z))).1 = T.setFrames fs) : Steps p.tables e below (T.setTop (mkF m pc Ls (.long z :: rest))) (T.setFrames fs) :=
  retOut X hx hret rfl (Or.inr (Or.inl ⟨rfl, rfl, _, rfl⟩)) hd hl
theorem own_retA (X : Stand p l e R s m args below meth c T locs cells slots) (hx : p.tables.exec = Jvm.exec) {pc : Nat} {Ls : Array Slot} {w : Value} {t : FieldType} {rest : List Value} (hret : meth.sig.returnType = some t) (ht : t.isReference = true) (hw : w.isRef = true) (hd : decode c.code pc = .ok (.areturn, 1)) {fs : List Frame}
    (hl : ∀ (f : JFrame) (acts : List Action), f.method = m → f.locked = none → f.entered = [] → (doReturn e (T.setTop f) acts (some w)).1 = T.setFrames fs) : Steps p.tables e below (T.setTop (mkF m pc Ls (w :: rest))) (T.setFrames fs) :=
  retOut X hx hret (by cases t <;> first | rfl | (cases ht; done)) (Or.inr (Or.inr (Or.inr (Or.inr ⟨rfl, ht, hw⟩)))) hd hl
theorem own_fldI {t : Term} {C n d : String} {k : Int32} {a : Addr} (ev : t.eval args s none [] s = some (.ref a)) (h : (Jvm.Cond.eq (.field t C n d) (.int k)).value args s none s [] = some true) : Fld s s.heap a C n d (.int k) := by
  obtain ⟨x, y, h1, h2, -, kyx⟩ := cmp_v (Or.inl h)
  have e2 : y = .int k := (Option.some.inj (h2.symm.trans (Term.int_eval k)))
  subst e2
  obtain ⟨z, rfl⟩ := kyx
  have hz : z = k := by simpa [Cond.value, h1, Term.int_eval] using h
  subst hz
  rw [fld_at ev] at h1
  exact Fld.start h1
theorem own_ne {a b : Addr} (h : @Ne Nat a b) : a ≠ b := h
theorem own_le {a b : Nat} (h : @LE.le Nat instLENat a b) : @LE.le Nat instLENat a b := h
theorem own_nlt {a : Addr} {n : Nat} (h : a < n) : @LT.lt Nat instLTNat a n := h
theorem own_nle {a : Nat} {b : Addr} (h : a ≤ b) : @LE.le Nat instLENat a b := h
theorem own_inskeep {Z : State} {h h' : Heap} {a : Addr} {C : String} {ws : List Addr} (F : Ins Z h a C true) (K : Keep h h' ws) : Ins Z h' a C true := by
  obtain ⟨cell, cT, h1, h2, h3⟩ := F; obtain ⟨c', q, r1, r2, -⟩ := K.2.2 a cell h1; exact ⟨c', cT, q, h2, by rw [r1, r2]; exact h3⟩
theorem own_inslt {Z : State} {h : Heap} {a : Addr} {C : String} {b : Bool} (F : Ins Z h a C b) : a < h.size := by obtain ⟨_, _, h1, -⟩ := F; exact (Array.getElem?_eq_some_iff.mp h1).1
theorem own_kx {h h' : Heap} (K : Keep h h' []) : Ext h h' := ⟨K.1, fun a c q => K.2.1 a c q nin0⟩
theorem own_cache {t : Term} {C : String} {q : Jvm.Cond} {cl : Cell} {a : Addr} {ty : FieldType} (ev : ∀ idx, t.eval args s none idx s = some (.ref a)) (Ar : Arr s s.heap a cl ty)
    (h : (Jvm.Cond.all t (.and (.exactly (.elem t (.index 0)) C) q)).value args s none s [] = some true) (hz : cl.slots.size = 256) : ∀ i, i < 256 → ∃ w, cl.slots[i]? = some (.ref w) ∧ Exa s s.heap w C := fun i hi => by
  have hat : s.arrayAt? a = some cl := Arr.fin (Vm.Alike.refl _) Ar
  have hv := Cond.all_elim (ev []) hat h i (by rw [hz]; exact hi)
  obtain ⟨h1, -⟩ := and_e hv
  obtain ⟨w, ew⟩ := exa_v h1
  have ex := exa_at ew h1
  obtain ⟨p1, p2⟩ := IntBox.place_nonneg i hi
  rw [elem_f (ev [i]) (j := i.toInt32) rfl hat p1, p2] at ew
  exact ⟨w, ew, ex⟩
theorem own_stev {C n d : String} {v : Value} (h : (Term.static C n d).eval args s none [] s = some v) (idx : List Nat) : (Term.static C n d).eval args s none idx s = some v := h
theorem own_len {t : Term} {a : Addr} {cl : Cell} {ty : FieldType} {k : Int32} (ev : t.eval args s none [] s = some (.ref a)) (Ar : Arr s s.heap a cl ty) (h : (Jvm.Cond.eq (.length t) (.int k)).value args s none s [] = some true) (hk : ¬ k < 0) : cl.slots.size = k.toNatClampNeg := by
  have hat : s.arrayAt? a = some cl := Arr.fin (Vm.Alike.refl _) Ar
  obtain ⟨x, y, h1, h2, -, kyx⟩ := cmp_v (Or.inl h)
  have e2 : y = .int k := (Option.some.inj (h2.symm.trans (Term.int_eval k)))
  subst e2
  obtain ⟨z, rfl⟩ := kyx
  have hz : z = k := by simpa [Cond.value, h1, Term.int_eval] using h
  subst hz
  have hl : cl.slots.size < 2 ^ 31 := by
    by_cases q : cl.slots.size < 2 ^ 31
    · exact q
    · simp [Term.eval, ev, hat, q] at h1
  rw [len_f ev hat hl] at h1
  have h3 : cl.slots.size.toInt32 = z := by simpa using h1
  rw [← h3]
  have h4 := len_toInt hl
  simp only [Int32.toNatClampNeg, h4]; rfl
end Own
def own_cl (a p s : Addr) : Int32 := if a = p then 1 else if a = s then 1 else 0
theorem d1_0 : decode prog_15_method_6_code 0 = .ok (.aload_n 0, 1) := by decide +kernel
theorem d1_1 : decode prog_15_method_6_code 1 = .ok (.getstatic 3, 3) := by decide +kernel
theorem d1_4 : decode prog_15_method_6_code 4 = .ok (.if_acmp .eq 10, 3) := by decide +kernel
theorem d1_14 : decode prog_15_method_6_code 14 = .ok (.iconst 1, 1) := by decide +kernel
theorem d1_15 : decode prog_15_method_6_code 15 = .ok (.goto 4, 3) := by decide +kernel
theorem d1_19 : decode prog_15_method_6_code 19 = .ok (.ireturn, 1) := by decide +kernel
def Q_rm1 (Z : State) (a : Addr) (wP : Addr) (wS : Addr) (h0 : Heap) (n0 : Nat) (v : Option Value) (h : Heap) (L : List Loc) : Prop := v = some (.int (own_cl a wP wS)) ∧ Fr n0 L ∧ h = h0
theorem d1_7 : decode prog_15_method_6_code 7 = .ok (.aload_n 0, 1) := by decide +kernel
theorem d1_8 : decode prog_15_method_6_code 8 = .ok (.getstatic 7, 3) := by decide +kernel
theorem d1_11 : decode prog_15_method_6_code 11 = .ok (.if_acmp .ne 7, 3) := by decide +kernel
theorem d1_18 : decode prog_15_method_6_code 18 = .ok (.iconst 0, 1) := by decide +kernel
theorem pn_com_example_grantline_grantline_Level : plainName "com/example/grantline/grantline/Level" = true := by first | (simp [plainName, overriddenIn]; done) | decide +kernel
theorem ef_rm1 (m : MethodId) (a : Addr)  : entryFrame m #[(.ref a)] 1 = mkF m 0 #[.val (.ref a)] [] := by first | (simp [entryFrame, mkF, argsToLocals, Value.category]; done) | rfl
set_option maxRecDepth 65536 in
set_option maxHeartbeats 40000000 in
theorem rm1 (l : Launch) (Z : State) (a0 : Array Value) (hw : ∀ d ∈ tables_1, d.before a0 Z = true) (ws : List Jvm.Cond) (a : Addr) (wP : Addr) (wS : Addr) (h0 : Heap) (n0 : Nat) (Z0 : n0 ≤ h0.size) (S_P : Sta Z h0 "com/example/grantline/grantline/Level" "PRIVATE" "Lcom/example/grantline/grantline/Level;" (.ref wP)) (S_S : Sta Z h0 "com/example/grantline/grantline/Level" "PROTECTED" "Lcom/example/grantline/grantline/Level;" (.ref wS)) :
    MetFree l (⟨"com/example/grantline/grantline/Level", "closed", "()Z"⟩ : MethodName) (head1 (Jvm.Cond.code (⟨"com/example/grantline/grantline/Level", "closed", "()Z"⟩ : MethodName) prog_15_method_6_code 1 (some .boolean) :: ws) ({ frames := 0, cells := 0, slots := 0, locals := 0 } : Room)) (fun aa' U1' => aa' = #[(.ref a)] ∧ Z.Warmed39 U1'.vm ∧ U1'.heap = h0) (fun _ _ _ _ _ => True) (fun _ U1' oo' U2' => ∃ vv' LL', oo' = .returned vv' ∧ (Q_rm1 Z a wP wS h0 n0) vv' U2'.heap LL' ∧ FrameEnd U1' oo' U2' LL' ({ frames := 0, cells := 0, slots := 0, locals := 0 } : Room).cells ({ frames := 0, cells := 0, slots := 0, locals := 0 } : Room).slots) := by
  refine MetFree.of_bodySF (plainFor_of_name pn_com_example_grantline_grantline_Level) hisR ?_
  intro p e s m args below meth c s₁ Bd hml0 hP hK
  obtain ⟨rfl, hZ, hh⟩ := hP
  have hx := Bd.exec
  have hby := Bd.bytes
  have hml : c.maxLocals = 1 := hml0
  have hown : s.vm.findClass "com/example/grantline/grantline/Level" = some m.cls := findClass_of_methodNamed Bd.named
  have hnm := (name_of_methodNamed Bd.named Bd.method).1
  have X0 : Stand p l e ({ frames := 0, cells := 0, slots := 0, locals := 0 } : Room) s m #[(.ref a)] below meth c s₁ [] 0 0 := Stand.of_body Bd
  have e0 : s₁.heap = h0 := by rw [← hh, Bd.state]; rfl
  have N0 := Fr.nil n0
  refine go_of (A := s₁.setTop (entryFrame m #[(.ref a)] 1)) (B := s₁.setTop (mkF m 0 #[.val (.ref a)] [])) (fun _ kk' => castTop (ef_rm1 m a) kk') ?_
  refine go_of (B := (s₁.setTop (mkF m 1 #[.val (.ref a)] [(.ref a)]))) (fun _ kk => XS.aloadN X0.here hx rfl (hb hby d1_0) rfl rfl kk) ?_
  obtain ⟨T1, X1, e1, st1⟩ := getS2 X0 hx hZ hown (host := "") (Or.inl (hw _ (List.mem_of_getElem? (i := 9) rfl))) Via.refl e0 S_P (g := (mkF m 1 #[.val (.ref a)] [(.ref a)])) rfl (hb hby d1_1)
  refine go_of (B := (T1.setTop (mkF m 4 #[.val (.ref a)] [(.ref wP), (.ref a)]))) (st1) ?_
  by_cases ha2 : a = wP
  · refine go_of (B := (T1.setTop (mkF m 14 #[.val (.ref a)] []))) (fun _ kk => Jvm.RoadKit.acmp (g := (mkF m 4 #[.val (.ref a)] [(.ref wP), (.ref a)])) X1 hx rfl rfl rfl (pc0 := 4) (pc' := 14) (same := true) rfl (hb hby d1_4) rfl (decide_eq_true (congrArg Value.ref ha2)) (by decide) (by decide) kk) ?_
    refine go_of (B := (T1.setTop (mkF m 15 #[.val (.ref a)] [(.int (1 : Int32))]))) (fun _ kk => XS.iconst X1.here hx rfl (hb hby d1_14) kk) ?_
    refine go_of (B := (T1.setTop (mkF m 19 #[.val (.ref a)] [(.int (1 : Int32))]))) (fun _ kk => XS.goto X1.here hx rfl (pc0 := 15) (pc' := 19) rfl (hb hby d1_15) (by decide) (by decide) kk) ?_
    refine go_end X1 (v := some (.int (nar .boolean (1 : Int32)))) (fun h => by rw [Bd.returns] at h; cases h) Bd.notSynchronized (by decide) (by decide) (Q := (Q_rm1 Z a wP wS h0 n0)) ?_ (fun fs hr => retN X1 hx (t := .boolean) Bd.returns (by simp) (hb hby d1_19) hr)
    show (fun (v : Option Value) (h : Heap) (L : List Loc) => v = some (.int (own_cl a wP wS)) ∧ Fr n0 L ∧ h = h0) (some (.int (nar .boolean (1 : Int32)))) T1.heap _
    rw [e1]
    refine ⟨?_, N0, rfl⟩
    simp [own_cl, nar, ha2]
  · refine go_of (B := (T1.setTop (mkF m 7 #[.val (.ref a)] []))) (fun _ kk => Jvm.RoadKit.acmp (g := (mkF m 4 #[.val (.ref a)] [(.ref wP), (.ref a)])) X1 hx rfl rfl rfl (pc0 := 4) (pc' := 7) (same := false) rfl (hb hby d1_4) rfl (decide_eq_false fun q => ha2 (Value.ref.inj q)) (by decide) (by decide) kk) ?_
    refine go_of (B := (T1.setTop (mkF m 8 #[.val (.ref a)] [(.ref a)]))) (fun _ kk => XS.aloadN X1.here hx rfl (hb hby d1_7) rfl rfl kk) ?_
    obtain ⟨T3, X3, e3, st3⟩ := getS2 X1 hx hZ hown (host := "") (Or.inl (hw _ (List.mem_of_getElem? (i := 12) rfl))) Via.refl e1 S_S (g := (mkF m 8 #[.val (.ref a)] [(.ref a)])) rfl (hb hby d1_8)
    refine go_of (B := (T3.setTop (mkF m 11 #[.val (.ref a)] [(.ref wS), (.ref a)]))) (st3) ?_
    by_cases ha4 : a = wS
    · refine go_of (B := (T3.setTop (mkF m 14 #[.val (.ref a)] []))) (fun _ kk => Jvm.RoadKit.acmp (g := (mkF m 11 #[.val (.ref a)] [(.ref wS), (.ref a)])) X3 hx rfl rfl rfl (pc0 := 11) (pc' := 14) (same := true) rfl (hb hby d1_11) rfl (decide_eq_true (congrArg Value.ref ha4)) (by decide) (by decide) kk) ?_
      refine go_of (B := (T3.setTop (mkF m 15 #[.val (.ref a)] [(.int (1 : Int32))]))) (fun _ kk => XS.iconst X3.here hx rfl (hb hby d1_14) kk) ?_
      refine go_of (B := (T3.setTop (mkF m 19 #[.val (.ref a)] [(.int (1 : Int32))]))) (fun _ kk => XS.goto X3.here hx rfl (pc0 := 15) (pc' := 19) rfl (hb hby d1_15) (by decide) (by decide) kk) ?_
      refine go_end X3 (v := some (.int (nar .boolean (1 : Int32)))) (fun h => by rw [Bd.returns] at h; cases h) Bd.notSynchronized (by decide) (by decide) (Q := (Q_rm1 Z a wP wS h0 n0)) ?_ (fun fs hr => retN X3 hx (t := .boolean) Bd.returns (by simp) (hb hby d1_19) hr)
      show (fun (v : Option Value) (h : Heap) (L : List Loc) => v = some (.int (own_cl a wP wS)) ∧ Fr n0 L ∧ h = h0) (some (.int (nar .boolean (1 : Int32)))) T3.heap _
      rw [e3]
      refine ⟨?_, N0, rfl⟩
      simp [own_cl, nar, ha2, ha4]
    · refine go_of (B := (T3.setTop (mkF m 18 #[.val (.ref a)] []))) (fun _ kk => Jvm.RoadKit.acmp (g := (mkF m 11 #[.val (.ref a)] [(.ref wS), (.ref a)])) X3 hx rfl rfl rfl (pc0 := 11) (pc' := 18) (same := false) rfl (hb hby d1_11) rfl (decide_eq_false fun q => ha4 (Value.ref.inj q)) (by decide) (by decide) kk) ?_
      refine go_of (B := (T3.setTop (mkF m 19 #[.val (.ref a)] [(.int (0 : Int32))]))) (fun _ kk => XS.iconst X3.here hx rfl (hb hby d1_18) kk) ?_
      refine go_end X3 (v := some (.int (nar .boolean (0 : Int32)))) (fun h => by rw [Bd.returns] at h; cases h) Bd.notSynchronized (by decide) (by decide) (Q := (Q_rm1 Z a wP wS h0 n0)) ?_ (fun fs hr => retN X3 hx (t := .boolean) Bd.returns (by simp) (hb hby d1_19) hr)
      show (fun (v : Option Value) (h : Heap) (L : List Loc) => v = some (.int (own_cl a wP wS)) ∧ Fr n0 L ∧ h = h0) (some (.int (nar .boolean (0 : Int32)))) T3.heap _
      rw [e3]
      refine ⟨?_, N0, rfl⟩
      simp [own_cl, nar, ha2, ha4]
theorem pd___Z : parseMethodDescriptor "()Z" = some ⟨[], some .boolean⟩ := by decide +kernel
def Q_rm0 (Z : State) (k : Int32) (w_PRIVATE : Addr) (w_PROTECTED : Addr) (w_PASSWORD : Addr) (w_PUBLIC : Addr) (w_OPEN : Addr) (h0 : Heap) (n0 : Nat) (v : Option Value) (h : Heap) (L : List Loc) : Prop := v = some (.int 1) ∧ Fr n0 L
theorem pn_com_example_grantline_grantline_LevelClosedPinLaw : plainName "com/example/grantline/grantline/LevelClosedPinLaw" = true := by first | (simp [plainName, overriddenIn]; done) | decide +kernel
theorem ef_rm0 (m : MethodId) (k : Int32)  : entryFrame m #[(.int k)] maxLocals = mkF m 0 #[.val (.int k), .unset, .unset, .unset] [] := by first | (simp [entryFrame, mkF, argsToLocals, Value.category, maxLocals]; done) | rfl
set_option maxRecDepth 65536 in
set_option maxHeartbeats 40000000 in
theorem rm0 (l : Launch) (Z : State) (a0 : Array Value) (hw : ∀ d ∈ tables_1, d.before a0 Z = true) (ws : List Jvm.Cond) (k : Int32) (w_PRIVATE : Addr) (w_PROTECTED : Addr) (w_PASSWORD : Addr) (w_PUBLIC : Addr) (w_OPEN : Addr) (h0 : Heap) (n0 : Nat) (Z0 : n0 ≤ h0.size) (S_PRIVATE : Sta Z h0 "com/example/grantline/grantline/Level" "PRIVATE" "Lcom/example/grantline/grantline/Level;" (.ref w_PRIVATE)) (S_PROTECTED : Sta Z h0 "com/example/grantline/grantline/Level" "PROTECTED" "Lcom/example/grantline/grantline/Level;" (.ref w_PROTECTED)) (S_PASSWORD : Sta Z h0 "com/example/grantline/grantline/Level" "PASSWORD" "Lcom/example/grantline/grantline/Level;" (.ref w_PASSWORD)) (S_PUBLIC : Sta Z h0 "com/example/grantline/grantline/Level" "PUBLIC" "Lcom/example/grantline/grantline/Level;" (.ref w_PUBLIC)) (S_OPEN : Sta Z h0 "com/example/grantline/grantline/Level" "OPEN" "Lcom/example/grantline/grantline/Level;" (.ref w_OPEN)) (E_PRIVATE : Exa Z h0 w_PRIVATE "com/example/grantline/grantline/Level") (E_PROTECTED : Exa Z h0 w_PROTECTED "com/example/grantline/grantline/Level") (E_PASSWORD : Exa Z h0 w_PASSWORD "com/example/grantline/grantline/Level") (E_PUBLIC : Exa Z h0 w_PUBLIC "com/example/grantline/grantline/Level") (E_OPEN : Exa Z h0 w_OPEN "com/example/grantline/grantline/Level") (n_PASSWORD_PRIVATE : w_PASSWORD ≠ w_PRIVATE) (n_PASSWORD_PROTECTED : w_PASSWORD ≠ w_PROTECTED) (n_PUBLIC_PRIVATE : w_PUBLIC ≠ w_PRIVATE) (n_PUBLIC_PROTECTED : w_PUBLIC ≠ w_PROTECTED) (n_OPEN_PRIVATE : w_OPEN ≠ w_PRIVATE) (n_OPEN_PROTECTED : w_OPEN ≠ w_PROTECTED) :
    MetFree l x (head1 (Jvm.Cond.code x code maxLocals ret :: ws) room_1) (fun aa' U1' => aa' = #[(.int k)] ∧ Z.Warmed39 U1'.vm ∧ U1'.heap = h0) (fun _ _ _ _ _ => True) (fun _ U1' oo' U2' => ∃ vv' LL', oo' = .returned vv' ∧ (Q_rm0 Z k w_PRIVATE w_PROTECTED w_PASSWORD w_PUBLIC w_OPEN h0 n0) vv' U2'.heap LL' ∧ FrameEnd U1' oo' U2' LL' room_1.cells room_1.slots) := by
  refine MetFree.of_bodySF (plainFor_of_name pn_com_example_grantline_grantline_LevelClosedPinLaw) hisR ?_
  intro p e s m args below meth c s₁ Bd hml0 hP hK
  obtain ⟨rfl, hZ, hh⟩ := hP
  have hx := Bd.exec
  have hby := Bd.bytes
  have hml : c.maxLocals = 4 := hml0
  have hown : s.vm.findClass "com/example/grantline/grantline/LevelClosedPinLaw" = some m.cls := findClass_of_methodNamed Bd.named
  have hnm := (name_of_methodNamed Bd.named Bd.method).1
  have X0 : Stand p l e room_1 s m #[(.int k)] below meth c s₁ [] 0 0 := Stand.of_body Bd
  have e0 : s₁.heap = h0 := by rw [← hh, Bd.state]; rfl
  have N0 := Fr.nil n0
  refine go_of (A := s₁.setTop (entryFrame m #[(.int k)] maxLocals)) (B := s₁.setTop (mkF m 0 #[.val (.int k), .unset, .unset, .unset] [])) (fun _ kk' => castTop (ef_rm0 m k) kk') ?_
  refine go_of (B := (s₁.setTop (mkF m 1 #[.val (.int k), .unset, .unset, .unset] [(.int k)]))) (fun _ kk => XS.iloadN X0.here hx rfl (hb hby at_0) rfl kk) ?_
  refine go_of (B := (s₁.setTop (mkF m 3 #[.val (.int k), .unset, .unset, .unset] [(.int (2147483647 : Int32)), (.int k)]))) (fun _ kk => X0.ldcInt hx hown (mvT hZ (hw _ (List.mem_of_getElem? (i := 0) rfl))) (g := (mkF m 1 #[.val (.int k), .unset, .unset, .unset] [(.int k)])) rfl (hb hby at_1) _ kk) ?_
  refine go_of (B := (s₁.setTop (mkF m 4 #[.val (.int k), .unset, .unset, .unset] [(.int (k &&& (2147483647 : Int32)))]))) (fun _ kk => XS.iand X0.here hx rfl (hb hby at_3) rfl kk) ?_
  refine go_of (B := (s₁.setTop (mkF m 5 #[.val (.int k), .unset, .unset, .unset] [(.int (5 : Int32)), (.int (k &&& (2147483647 : Int32)))]))) (fun _ kk => XS.iconst X0.here hx rfl (hb hby at_4) kk) ?_
  refine go_of (B := (s₁.setTop (mkF m 6 #[.val (.int k), .unset, .unset, .unset] [(.int ((k &&& (2147483647 : Int32)) % (5 : Int32)))]))) (fun _ kk => iremM X0 hx rfl (hb hby at_5) rfl (by decide) kk) ?_
  refine go_of (B := (s₁.setTop (mkF m 7 #[.val (.int k), .val (.int ((k &&& (2147483647 : Int32)) % (5 : Int32))), .unset, .unset] []))) (fun _ kk => XS.istoreN X0.here hx rfl (hb hby at_6) rfl rfl kk) ?_
  refine go_of (B := (s₁.setTop (mkF m 8 #[.val (.int k), .val (.int ((k &&& (2147483647 : Int32)) % (5 : Int32))), .unset, .unset] [(.int ((k &&& (2147483647 : Int32)) % (5 : Int32)))]))) (fun _ kk => XS.iloadN X0.here hx rfl (hb hby at_7) rfl kk) ?_
  by_cases hc1 : ((k &&& (2147483647 : Int32)) % (5 : Int32)) = (0 : Int32)
  · refine go_of (B := (s₁.setTop (mkF m 11 #[.val (.int k), .val (.int ((k &&& (2147483647 : Int32)) % (5 : Int32))), .unset, .unset] []))) (fun _ kk => XS.ifNo X0.here hx rfl (hb hby at_8) rfl ((if0 _ _).trans (teq hc1).2) kk) ?_
    obtain ⟨T2, X2, e2, st2⟩ := getS2 X0 hx hZ hown (host := "") (Or.inl (hw _ (List.mem_of_getElem? (i := 1) rfl))) Via.refl e0 S_PRIVATE (g := (mkF m 11 #[.val (.int k), .val (.int ((k &&& (2147483647 : Int32)) % (5 : Int32))), .unset, .unset] [])) rfl (hb hby at_11)
    refine go_of (B := (T2.setTop (mkF m 14 #[.val (.int k), .val (.int ((k &&& (2147483647 : Int32)) % (5 : Int32))), .unset, .unset] [(.ref w_PRIVATE)]))) (st2) ?_
    refine go_of (B := (T2.setTop (mkF m 15 #[.val (.int k), .val (.int ((k &&& (2147483647 : Int32)) % (5 : Int32))), .val (.ref w_PRIVATE), .unset] []))) (fun _ kk => XS.astoreN X2.here hx rfl (hb hby at_14) rfl rfl rfl kk) ?_
    refine go_of (B := (T2.setTop (mkF m 16 #[.val (.int k), .val (.int ((k &&& (2147483647 : Int32)) % (5 : Int32))), .val (.ref w_PRIVATE), .unset] [(.int (1 : Int32))]))) (fun _ kk => XS.iconst X2.here hx rfl (hb hby at_15) kk) ?_
    refine go_of (B := (T2.setTop (mkF m 17 #[.val (.int k), .val (.int ((k &&& (2147483647 : Int32)) % (5 : Int32))), .val (.ref w_PRIVATE), .val (.int (1 : Int32))] []))) (fun _ kk => XS.istoreN X2.here hx rfl (hb hby at_16) rfl rfl kk) ?_
    refine go_of (B := (T2.setTop (mkF m 68 #[.val (.int k), .val (.int ((k &&& (2147483647 : Int32)) % (5 : Int32))), .val (.ref w_PRIVATE), .val (.int (1 : Int32))] []))) (fun _ kk => XS.goto X2.here hx rfl (pc0 := 17) (pc' := 68) rfl (hb hby at_17) (by decide) (by decide) kk) ?_
    refine go_of (B := (T2.setTop (mkF m 69 #[.val (.int k), .val (.int ((k &&& (2147483647 : Int32)) % (5 : Int32))), .val (.ref w_PRIVATE), .val (.int (1 : Int32))] [(.ref w_PRIVATE)]))) (fun _ kk => XS.aloadN X2.here hx rfl (hb hby at_68) rfl rfl kk) ?_
    obtain ⟨cq3, kq3, q3a, q3b, q3c⟩ := isOf hZ e2 E_PRIVATE
    obtain ⟨_, _, ⟨T3, L3, k3, n3⟩, -, X3, ⟨Lc3, hQ3, l3, y3, z3⟩, st3⟩ := X2.virtualBack hx (y := (⟨"com/example/grantline/grantline/Level", "closed", "()Z"⟩ : MethodName)) (z := (⟨"com/example/grantline/grantline/Level", "closed", "()Z"⟩ : MethodName)) hown (mvT hZ (hw _ (List.mem_of_getElem? (i := 4) rfl))) (mvT hZ (hw _ (List.mem_of_getElem? (i := 5) rfl))) (notFace_of_selects (args := #[]) (mvT hZ (hw _ (List.mem_of_getElem? (i := 7) rfl)))) (mvT hZ (hw _ (List.mem_of_getElem? (i := 7) rfl))) (mvT hZ (hw _ (List.mem_of_getElem? (i := 6) rfl))) (by decide) (backOf (W := 0) (rm1 l Z a0 hw [] w_PRIVATE w_PRIVATE w_PROTECTED h0 n0 Z0 S_PRIVATE S_PROTECTED) hZ (hw _ (List.mem_of_getElem? (i := 8) rfl)) (hw _ (List.mem_of_getElem? (i := 2) rfl)) (by decide) (by decide)) q3a q3c (g := (mkF m 69 #[.val (.int k), .val (.int ((k &&& (2147483647 : Int32)) % (5 : Int32))), .val (.ref w_PRIVATE), .val (.int (1 : Int32))] [(.ref w_PRIVATE)])) rfl (by rw [hml]; rfl) (Steps.refl _) (argsL := []) (rest := []) (lenOf pd___Z rfl) rfl (by show 2 * 0 + _ ≤ _; exact Nat.le_of_eq rfl) (hb hby at_69) (fun _ _ => ⟨rfl, e2, (by decide : 0 + 0 ≤ _), (by decide : 0 + 0 ≤ _)⟩)
    dsimp only [Pt.U, Pt.locs, Pt.cells, Pt.slots] at X3 l3 y3 z3 st3 hQ3
    subst l3 y3 z3
    obtain ⟨rfl, N3q, e3⟩ := hQ3
    have N3 := Fr.app N0 N3q
    refine go_tr (B := (T3.setTop (mkF m 72 #[.val (.int k), .val (.int ((k &&& (2147483647 : Int32)) % (5 : Int32))), .val (.ref w_PRIVATE), .val (.int (1 : Int32))] [(.int (own_cl w_PRIVATE w_PRIVATE w_PROTECTED))]))) (st3) ?_
    refine go_of (B := (T3.setTop (mkF m 73 #[.val (.int k), .val (.int ((k &&& (2147483647 : Int32)) % (5 : Int32))), .val (.ref w_PRIVATE), .val (.int (1 : Int32))] [(.int (1 : Int32)), (.int (own_cl w_PRIVATE w_PRIVATE w_PROTECTED))]))) (fun _ kk => XS.iloadN X3.here hx rfl (hb hby at_72) rfl kk) ?_
    refine go_of (B := (T3.setTop (mkF m 76 #[.val (.int k), .val (.int ((k &&& (2147483647 : Int32)) % (5 : Int32))), .val (.ref w_PRIVATE), .val (.int (1 : Int32))] []))) (fun _ kk => XS.icmpNo X3.here hx rfl (hb hby at_73) rfl (teq (by simp [own_cl] : (own_cl w_PRIVATE w_PRIVATE w_PROTECTED) = (1 : Int32))).2 kk) ?_
    refine go_of (B := (T3.setTop (mkF m 77 #[.val (.int k), .val (.int ((k &&& (2147483647 : Int32)) % (5 : Int32))), .val (.ref w_PRIVATE), .val (.int (1 : Int32))] [(.int (1 : Int32))]))) (fun _ kk => XS.iconst X3.here hx rfl (hb hby at_76) kk) ?_
    refine go_of (B := (T3.setTop (mkF m 81 #[.val (.int k), .val (.int ((k &&& (2147483647 : Int32)) % (5 : Int32))), .val (.ref w_PRIVATE), .val (.int (1 : Int32))] [(.int (1 : Int32))]))) (fun _ kk => XS.goto X3.here hx rfl (pc0 := 77) (pc' := 81) rfl (hb hby at_77) (by decide) (by decide) kk) ?_
    refine go_end X3 (v := some (.int (nar .boolean (1 : Int32)))) (fun h => by rw [Bd.returns] at h; cases h) Bd.notSynchronized (by decide) (by decide) (Q := (Q_rm0 Z k w_PRIVATE w_PROTECTED w_PASSWORD w_PUBLIC w_OPEN h0 n0)) ?_ (fun fs hr => retN X3 hx (t := .boolean) Bd.returns (by simp) (hb hby at_81) hr)
    show (fun (v : Option Value) (h : Heap) (L : List Loc) => v = some (.int 1) ∧ Fr n0 L) (some (.int (nar .boolean (1 : Int32)))) T3.heap _
    rw [e3]
    exact ⟨rfl, N3⟩
  · refine go_of (B := (s₁.setTop (mkF m 20 #[.val (.int k), .val (.int ((k &&& (2147483647 : Int32)) % (5 : Int32))), .unset, .unset] []))) (fun _ kk => XS.ifYes X0.here hx rfl (pc0 := 8) (pc' := 20) rfl (hb hby at_8) rfl ((if0 _ _).trans (feq hc1).2) (by decide) (by decide) kk) ?_
    refine go_of (B := (s₁.setTop (mkF m 21 #[.val (.int k), .val (.int ((k &&& (2147483647 : Int32)) % (5 : Int32))), .unset, .unset] [(.int ((k &&& (2147483647 : Int32)) % (5 : Int32)))]))) (fun _ kk => XS.iloadN X0.here hx rfl (hb hby at_20) rfl kk) ?_
    refine go_of (B := (s₁.setTop (mkF m 22 #[.val (.int k), .val (.int ((k &&& (2147483647 : Int32)) % (5 : Int32))), .unset, .unset] [(.int (1 : Int32)), (.int ((k &&& (2147483647 : Int32)) % (5 : Int32)))]))) (fun _ kk => XS.iconst X0.here hx rfl (hb hby at_21) kk) ?_
    by_cases hc4 : ((k &&& (2147483647 : Int32)) % (5 : Int32)) = (1 : Int32)
    · refine go_of (B := (s₁.setTop (mkF m 25 #[.val (.int k), .val (.int ((k &&& (2147483647 : Int32)) % (5 : Int32))), .unset, .unset] []))) (fun _ kk => XS.icmpNo X0.here hx rfl (hb hby at_22) rfl (teq hc4).2 kk) ?_
      obtain ⟨T5, X5, e5, st5⟩ := getS2 X0 hx hZ hown (host := "") (Or.inl (hw _ (List.mem_of_getElem? (i := 14) rfl))) Via.refl e0 S_PROTECTED (g := (mkF m 25 #[.val (.int k), .val (.int ((k &&& (2147483647 : Int32)) % (5 : Int32))), .unset, .unset] [])) rfl (hb hby at_25)
      refine go_of (B := (T5.setTop (mkF m 28 #[.val (.int k), .val (.int ((k &&& (2147483647 : Int32)) % (5 : Int32))), .unset, .unset] [(.ref w_PROTECTED)]))) (st5) ?_
      refine go_of (B := (T5.setTop (mkF m 29 #[.val (.int k), .val (.int ((k &&& (2147483647 : Int32)) % (5 : Int32))), .val (.ref w_PROTECTED), .unset] []))) (fun _ kk => XS.astoreN X5.here hx rfl (hb hby at_28) rfl rfl rfl kk) ?_
      refine go_of (B := (T5.setTop (mkF m 30 #[.val (.int k), .val (.int ((k &&& (2147483647 : Int32)) % (5 : Int32))), .val (.ref w_PROTECTED), .unset] [(.int (1 : Int32))]))) (fun _ kk => XS.iconst X5.here hx rfl (hb hby at_29) kk) ?_
      refine go_of (B := (T5.setTop (mkF m 31 #[.val (.int k), .val (.int ((k &&& (2147483647 : Int32)) % (5 : Int32))), .val (.ref w_PROTECTED), .val (.int (1 : Int32))] []))) (fun _ kk => XS.istoreN X5.here hx rfl (hb hby at_30) rfl rfl kk) ?_
      refine go_of (B := (T5.setTop (mkF m 68 #[.val (.int k), .val (.int ((k &&& (2147483647 : Int32)) % (5 : Int32))), .val (.ref w_PROTECTED), .val (.int (1 : Int32))] []))) (fun _ kk => XS.goto X5.here hx rfl (pc0 := 31) (pc' := 68) rfl (hb hby at_31) (by decide) (by decide) kk) ?_
      refine go_of (B := (T5.setTop (mkF m 69 #[.val (.int k), .val (.int ((k &&& (2147483647 : Int32)) % (5 : Int32))), .val (.ref w_PROTECTED), .val (.int (1 : Int32))] [(.ref w_PROTECTED)]))) (fun _ kk => XS.aloadN X5.here hx rfl (hb hby at_68) rfl rfl kk) ?_
      obtain ⟨cq6, kq6, q6a, q6b, q6c⟩ := isOf hZ e5 E_PROTECTED
      obtain ⟨_, _, ⟨T6, L6, k6, n6⟩, -, X6, ⟨Lc6, hQ6, l6, y6, z6⟩, st6⟩ := X5.virtualBack hx (y := (⟨"com/example/grantline/grantline/Level", "closed", "()Z"⟩ : MethodName)) (z := (⟨"com/example/grantline/grantline/Level", "closed", "()Z"⟩ : MethodName)) hown (mvT hZ (hw _ (List.mem_of_getElem? (i := 4) rfl))) (mvT hZ (hw _ (List.mem_of_getElem? (i := 5) rfl))) (notFace_of_selects (args := #[]) (mvT hZ (hw _ (List.mem_of_getElem? (i := 7) rfl)))) (mvT hZ (hw _ (List.mem_of_getElem? (i := 7) rfl))) (mvT hZ (hw _ (List.mem_of_getElem? (i := 6) rfl))) (by decide) (backOf (W := 0) (rm1 l Z a0 hw [] w_PROTECTED w_PRIVATE w_PROTECTED h0 n0 Z0 S_PRIVATE S_PROTECTED) hZ (hw _ (List.mem_of_getElem? (i := 8) rfl)) (hw _ (List.mem_of_getElem? (i := 2) rfl)) (by decide) (by decide)) q6a q6c (g := (mkF m 69 #[.val (.int k), .val (.int ((k &&& (2147483647 : Int32)) % (5 : Int32))), .val (.ref w_PROTECTED), .val (.int (1 : Int32))] [(.ref w_PROTECTED)])) rfl (by rw [hml]; rfl) (Steps.refl _) (argsL := []) (rest := []) (lenOf pd___Z rfl) rfl (by show 2 * 0 + _ ≤ _; exact Nat.le_of_eq rfl) (hb hby at_69) (fun _ _ => ⟨rfl, e5, (by decide : 0 + 0 ≤ _), (by decide : 0 + 0 ≤ _)⟩)
      dsimp only [Pt.U, Pt.locs, Pt.cells, Pt.slots] at X6 l6 y6 z6 st6 hQ6
      subst l6 y6 z6
      obtain ⟨rfl, N6q, e6⟩ := hQ6
      have N6 := Fr.app N0 N6q
      refine go_tr (B := (T6.setTop (mkF m 72 #[.val (.int k), .val (.int ((k &&& (2147483647 : Int32)) % (5 : Int32))), .val (.ref w_PROTECTED), .val (.int (1 : Int32))] [(.int (own_cl w_PROTECTED w_PRIVATE w_PROTECTED))]))) (st6) ?_
      refine go_of (B := (T6.setTop (mkF m 73 #[.val (.int k), .val (.int ((k &&& (2147483647 : Int32)) % (5 : Int32))), .val (.ref w_PROTECTED), .val (.int (1 : Int32))] [(.int (1 : Int32)), (.int (own_cl w_PROTECTED w_PRIVATE w_PROTECTED))]))) (fun _ kk => XS.iloadN X6.here hx rfl (hb hby at_72) rfl kk) ?_
      refine go_of (B := (T6.setTop (mkF m 76 #[.val (.int k), .val (.int ((k &&& (2147483647 : Int32)) % (5 : Int32))), .val (.ref w_PROTECTED), .val (.int (1 : Int32))] []))) (fun _ kk => XS.icmpNo X6.here hx rfl (hb hby at_73) rfl (teq (by simp [own_cl] : (own_cl w_PROTECTED w_PRIVATE w_PROTECTED) = (1 : Int32))).2 kk) ?_
      refine go_of (B := (T6.setTop (mkF m 77 #[.val (.int k), .val (.int ((k &&& (2147483647 : Int32)) % (5 : Int32))), .val (.ref w_PROTECTED), .val (.int (1 : Int32))] [(.int (1 : Int32))]))) (fun _ kk => XS.iconst X6.here hx rfl (hb hby at_76) kk) ?_
      refine go_of (B := (T6.setTop (mkF m 81 #[.val (.int k), .val (.int ((k &&& (2147483647 : Int32)) % (5 : Int32))), .val (.ref w_PROTECTED), .val (.int (1 : Int32))] [(.int (1 : Int32))]))) (fun _ kk => XS.goto X6.here hx rfl (pc0 := 77) (pc' := 81) rfl (hb hby at_77) (by decide) (by decide) kk) ?_
      refine go_end X6 (v := some (.int (nar .boolean (1 : Int32)))) (fun h => by rw [Bd.returns] at h; cases h) Bd.notSynchronized (by decide) (by decide) (Q := (Q_rm0 Z k w_PRIVATE w_PROTECTED w_PASSWORD w_PUBLIC w_OPEN h0 n0)) ?_ (fun fs hr => retN X6 hx (t := .boolean) Bd.returns (by simp) (hb hby at_81) hr)
      show (fun (v : Option Value) (h : Heap) (L : List Loc) => v = some (.int 1) ∧ Fr n0 L) (some (.int (nar .boolean (1 : Int32)))) T6.heap _
      rw [e6]
      exact ⟨rfl, N6⟩
    · refine go_of (B := (s₁.setTop (mkF m 34 #[.val (.int k), .val (.int ((k &&& (2147483647 : Int32)) % (5 : Int32))), .unset, .unset] []))) (fun _ kk => XS.icmpYes X0.here hx rfl (pc0 := 22) (pc' := 34) rfl (hb hby at_22) rfl (feq hc4).2 (by decide) (by decide) kk) ?_
      refine go_of (B := (s₁.setTop (mkF m 35 #[.val (.int k), .val (.int ((k &&& (2147483647 : Int32)) % (5 : Int32))), .unset, .unset] [(.int ((k &&& (2147483647 : Int32)) % (5 : Int32)))]))) (fun _ kk => XS.iloadN X0.here hx rfl (hb hby at_34) rfl kk) ?_
      refine go_of (B := (s₁.setTop (mkF m 36 #[.val (.int k), .val (.int ((k &&& (2147483647 : Int32)) % (5 : Int32))), .unset, .unset] [(.int (2 : Int32)), (.int ((k &&& (2147483647 : Int32)) % (5 : Int32)))]))) (fun _ kk => XS.iconst X0.here hx rfl (hb hby at_35) kk) ?_
      by_cases hc7 : ((k &&& (2147483647 : Int32)) % (5 : Int32)) = (2 : Int32)
      · refine go_of (B := (s₁.setTop (mkF m 39 #[.val (.int k), .val (.int ((k &&& (2147483647 : Int32)) % (5 : Int32))), .unset, .unset] []))) (fun _ kk => XS.icmpNo X0.here hx rfl (hb hby at_36) rfl (teq hc7).2 kk) ?_
        obtain ⟨T8, X8, e8, st8⟩ := getS2 X0 hx hZ hown (host := "") (Or.inl (hw _ (List.mem_of_getElem? (i := 17) rfl))) Via.refl e0 S_PASSWORD (g := (mkF m 39 #[.val (.int k), .val (.int ((k &&& (2147483647 : Int32)) % (5 : Int32))), .unset, .unset] [])) rfl (hb hby at_39)
        refine go_of (B := (T8.setTop (mkF m 42 #[.val (.int k), .val (.int ((k &&& (2147483647 : Int32)) % (5 : Int32))), .unset, .unset] [(.ref w_PASSWORD)]))) (st8) ?_
        refine go_of (B := (T8.setTop (mkF m 43 #[.val (.int k), .val (.int ((k &&& (2147483647 : Int32)) % (5 : Int32))), .val (.ref w_PASSWORD), .unset] []))) (fun _ kk => XS.astoreN X8.here hx rfl (hb hby at_42) rfl rfl rfl kk) ?_
        refine go_of (B := (T8.setTop (mkF m 44 #[.val (.int k), .val (.int ((k &&& (2147483647 : Int32)) % (5 : Int32))), .val (.ref w_PASSWORD), .unset] [(.int (0 : Int32))]))) (fun _ kk => XS.iconst X8.here hx rfl (hb hby at_43) kk) ?_
        refine go_of (B := (T8.setTop (mkF m 45 #[.val (.int k), .val (.int ((k &&& (2147483647 : Int32)) % (5 : Int32))), .val (.ref w_PASSWORD), .val (.int (0 : Int32))] []))) (fun _ kk => XS.istoreN X8.here hx rfl (hb hby at_44) rfl rfl kk) ?_
        refine go_of (B := (T8.setTop (mkF m 68 #[.val (.int k), .val (.int ((k &&& (2147483647 : Int32)) % (5 : Int32))), .val (.ref w_PASSWORD), .val (.int (0 : Int32))] []))) (fun _ kk => XS.goto X8.here hx rfl (pc0 := 45) (pc' := 68) rfl (hb hby at_45) (by decide) (by decide) kk) ?_
        refine go_of (B := (T8.setTop (mkF m 69 #[.val (.int k), .val (.int ((k &&& (2147483647 : Int32)) % (5 : Int32))), .val (.ref w_PASSWORD), .val (.int (0 : Int32))] [(.ref w_PASSWORD)]))) (fun _ kk => XS.aloadN X8.here hx rfl (hb hby at_68) rfl rfl kk) ?_
        obtain ⟨cq9, kq9, q9a, q9b, q9c⟩ := isOf hZ e8 E_PASSWORD
        obtain ⟨_, _, ⟨T9, L9, k9, n9⟩, -, X9, ⟨Lc9, hQ9, l9, y9, z9⟩, st9⟩ := X8.virtualBack hx (y := (⟨"com/example/grantline/grantline/Level", "closed", "()Z"⟩ : MethodName)) (z := (⟨"com/example/grantline/grantline/Level", "closed", "()Z"⟩ : MethodName)) hown (mvT hZ (hw _ (List.mem_of_getElem? (i := 4) rfl))) (mvT hZ (hw _ (List.mem_of_getElem? (i := 5) rfl))) (notFace_of_selects (args := #[]) (mvT hZ (hw _ (List.mem_of_getElem? (i := 7) rfl)))) (mvT hZ (hw _ (List.mem_of_getElem? (i := 7) rfl))) (mvT hZ (hw _ (List.mem_of_getElem? (i := 6) rfl))) (by decide) (backOf (W := 0) (rm1 l Z a0 hw [] w_PASSWORD w_PRIVATE w_PROTECTED h0 n0 Z0 S_PRIVATE S_PROTECTED) hZ (hw _ (List.mem_of_getElem? (i := 8) rfl)) (hw _ (List.mem_of_getElem? (i := 2) rfl)) (by decide) (by decide)) q9a q9c (g := (mkF m 69 #[.val (.int k), .val (.int ((k &&& (2147483647 : Int32)) % (5 : Int32))), .val (.ref w_PASSWORD), .val (.int (0 : Int32))] [(.ref w_PASSWORD)])) rfl (by rw [hml]; rfl) (Steps.refl _) (argsL := []) (rest := []) (lenOf pd___Z rfl) rfl (by show 2 * 0 + _ ≤ _; exact Nat.le_of_eq rfl) (hb hby at_69) (fun _ _ => ⟨rfl, e8, (by decide : 0 + 0 ≤ _), (by decide : 0 + 0 ≤ _)⟩)
        dsimp only [Pt.U, Pt.locs, Pt.cells, Pt.slots] at X9 l9 y9 z9 st9 hQ9
        subst l9 y9 z9
        obtain ⟨rfl, N9q, e9⟩ := hQ9
        have N9 := Fr.app N0 N9q
        refine go_tr (B := (T9.setTop (mkF m 72 #[.val (.int k), .val (.int ((k &&& (2147483647 : Int32)) % (5 : Int32))), .val (.ref w_PASSWORD), .val (.int (0 : Int32))] [(.int (own_cl w_PASSWORD w_PRIVATE w_PROTECTED))]))) (st9) ?_
        refine go_of (B := (T9.setTop (mkF m 73 #[.val (.int k), .val (.int ((k &&& (2147483647 : Int32)) % (5 : Int32))), .val (.ref w_PASSWORD), .val (.int (0 : Int32))] [(.int (0 : Int32)), (.int (own_cl w_PASSWORD w_PRIVATE w_PROTECTED))]))) (fun _ kk => XS.iloadN X9.here hx rfl (hb hby at_72) rfl kk) ?_
        refine go_of (B := (T9.setTop (mkF m 76 #[.val (.int k), .val (.int ((k &&& (2147483647 : Int32)) % (5 : Int32))), .val (.ref w_PASSWORD), .val (.int (0 : Int32))] []))) (fun _ kk => XS.icmpNo X9.here hx rfl (hb hby at_73) rfl (teq (by simp [own_cl, n_PASSWORD_PRIVATE, n_PASSWORD_PROTECTED] : (own_cl w_PASSWORD w_PRIVATE w_PROTECTED) = (0 : Int32))).2 kk) ?_
        refine go_of (B := (T9.setTop (mkF m 77 #[.val (.int k), .val (.int ((k &&& (2147483647 : Int32)) % (5 : Int32))), .val (.ref w_PASSWORD), .val (.int (0 : Int32))] [(.int (1 : Int32))]))) (fun _ kk => XS.iconst X9.here hx rfl (hb hby at_76) kk) ?_
        refine go_of (B := (T9.setTop (mkF m 81 #[.val (.int k), .val (.int ((k &&& (2147483647 : Int32)) % (5 : Int32))), .val (.ref w_PASSWORD), .val (.int (0 : Int32))] [(.int (1 : Int32))]))) (fun _ kk => XS.goto X9.here hx rfl (pc0 := 77) (pc' := 81) rfl (hb hby at_77) (by decide) (by decide) kk) ?_
        refine go_end X9 (v := some (.int (nar .boolean (1 : Int32)))) (fun h => by rw [Bd.returns] at h; cases h) Bd.notSynchronized (by decide) (by decide) (Q := (Q_rm0 Z k w_PRIVATE w_PROTECTED w_PASSWORD w_PUBLIC w_OPEN h0 n0)) ?_ (fun fs hr => retN X9 hx (t := .boolean) Bd.returns (by simp) (hb hby at_81) hr)
        show (fun (v : Option Value) (h : Heap) (L : List Loc) => v = some (.int 1) ∧ Fr n0 L) (some (.int (nar .boolean (1 : Int32)))) T9.heap _
        rw [e9]
        exact ⟨rfl, N9⟩
      · refine go_of (B := (s₁.setTop (mkF m 48 #[.val (.int k), .val (.int ((k &&& (2147483647 : Int32)) % (5 : Int32))), .unset, .unset] []))) (fun _ kk => XS.icmpYes X0.here hx rfl (pc0 := 36) (pc' := 48) rfl (hb hby at_36) rfl (feq hc7).2 (by decide) (by decide) kk) ?_
        refine go_of (B := (s₁.setTop (mkF m 49 #[.val (.int k), .val (.int ((k &&& (2147483647 : Int32)) % (5 : Int32))), .unset, .unset] [(.int ((k &&& (2147483647 : Int32)) % (5 : Int32)))]))) (fun _ kk => XS.iloadN X0.here hx rfl (hb hby at_48) rfl kk) ?_
        refine go_of (B := (s₁.setTop (mkF m 50 #[.val (.int k), .val (.int ((k &&& (2147483647 : Int32)) % (5 : Int32))), .unset, .unset] [(.int (3 : Int32)), (.int ((k &&& (2147483647 : Int32)) % (5 : Int32)))]))) (fun _ kk => XS.iconst X0.here hx rfl (hb hby at_49) kk) ?_
        by_cases hc10 : ((k &&& (2147483647 : Int32)) % (5 : Int32)) = (3 : Int32)
        · refine go_of (B := (s₁.setTop (mkF m 53 #[.val (.int k), .val (.int ((k &&& (2147483647 : Int32)) % (5 : Int32))), .unset, .unset] []))) (fun _ kk => XS.icmpNo X0.here hx rfl (hb hby at_50) rfl (teq hc10).2 kk) ?_
          obtain ⟨T11, X11, e11, st11⟩ := getS2 X0 hx hZ hown (host := "") (Or.inl (hw _ (List.mem_of_getElem? (i := 10) rfl))) Via.refl e0 S_PUBLIC (g := (mkF m 53 #[.val (.int k), .val (.int ((k &&& (2147483647 : Int32)) % (5 : Int32))), .unset, .unset] [])) rfl (hb hby at_53)
          refine go_of (B := (T11.setTop (mkF m 56 #[.val (.int k), .val (.int ((k &&& (2147483647 : Int32)) % (5 : Int32))), .unset, .unset] [(.ref w_PUBLIC)]))) (st11) ?_
          refine go_of (B := (T11.setTop (mkF m 57 #[.val (.int k), .val (.int ((k &&& (2147483647 : Int32)) % (5 : Int32))), .val (.ref w_PUBLIC), .unset] []))) (fun _ kk => XS.astoreN X11.here hx rfl (hb hby at_56) rfl rfl rfl kk) ?_
          refine go_of (B := (T11.setTop (mkF m 58 #[.val (.int k), .val (.int ((k &&& (2147483647 : Int32)) % (5 : Int32))), .val (.ref w_PUBLIC), .unset] [(.int (0 : Int32))]))) (fun _ kk => XS.iconst X11.here hx rfl (hb hby at_57) kk) ?_
          refine go_of (B := (T11.setTop (mkF m 59 #[.val (.int k), .val (.int ((k &&& (2147483647 : Int32)) % (5 : Int32))), .val (.ref w_PUBLIC), .val (.int (0 : Int32))] []))) (fun _ kk => XS.istoreN X11.here hx rfl (hb hby at_58) rfl rfl kk) ?_
          refine go_of (B := (T11.setTop (mkF m 68 #[.val (.int k), .val (.int ((k &&& (2147483647 : Int32)) % (5 : Int32))), .val (.ref w_PUBLIC), .val (.int (0 : Int32))] []))) (fun _ kk => XS.goto X11.here hx rfl (pc0 := 59) (pc' := 68) rfl (hb hby at_59) (by decide) (by decide) kk) ?_
          refine go_of (B := (T11.setTop (mkF m 69 #[.val (.int k), .val (.int ((k &&& (2147483647 : Int32)) % (5 : Int32))), .val (.ref w_PUBLIC), .val (.int (0 : Int32))] [(.ref w_PUBLIC)]))) (fun _ kk => XS.aloadN X11.here hx rfl (hb hby at_68) rfl rfl kk) ?_
          obtain ⟨cq12, kq12, q12a, q12b, q12c⟩ := isOf hZ e11 E_PUBLIC
          obtain ⟨_, _, ⟨T12, L12, k12, n12⟩, -, X12, ⟨Lc12, hQ12, l12, y12, z12⟩, st12⟩ := X11.virtualBack hx (y := (⟨"com/example/grantline/grantline/Level", "closed", "()Z"⟩ : MethodName)) (z := (⟨"com/example/grantline/grantline/Level", "closed", "()Z"⟩ : MethodName)) hown (mvT hZ (hw _ (List.mem_of_getElem? (i := 4) rfl))) (mvT hZ (hw _ (List.mem_of_getElem? (i := 5) rfl))) (notFace_of_selects (args := #[]) (mvT hZ (hw _ (List.mem_of_getElem? (i := 7) rfl)))) (mvT hZ (hw _ (List.mem_of_getElem? (i := 7) rfl))) (mvT hZ (hw _ (List.mem_of_getElem? (i := 6) rfl))) (by decide) (backOf (W := 0) (rm1 l Z a0 hw [] w_PUBLIC w_PRIVATE w_PROTECTED h0 n0 Z0 S_PRIVATE S_PROTECTED) hZ (hw _ (List.mem_of_getElem? (i := 8) rfl)) (hw _ (List.mem_of_getElem? (i := 2) rfl)) (by decide) (by decide)) q12a q12c (g := (mkF m 69 #[.val (.int k), .val (.int ((k &&& (2147483647 : Int32)) % (5 : Int32))), .val (.ref w_PUBLIC), .val (.int (0 : Int32))] [(.ref w_PUBLIC)])) rfl (by rw [hml]; rfl) (Steps.refl _) (argsL := []) (rest := []) (lenOf pd___Z rfl) rfl (by show 2 * 0 + _ ≤ _; exact Nat.le_of_eq rfl) (hb hby at_69) (fun _ _ => ⟨rfl, e11, (by decide : 0 + 0 ≤ _), (by decide : 0 + 0 ≤ _)⟩)
          dsimp only [Pt.U, Pt.locs, Pt.cells, Pt.slots] at X12 l12 y12 z12 st12 hQ12
          subst l12 y12 z12
          obtain ⟨rfl, N12q, e12⟩ := hQ12
          have N12 := Fr.app N0 N12q
          refine go_tr (B := (T12.setTop (mkF m 72 #[.val (.int k), .val (.int ((k &&& (2147483647 : Int32)) % (5 : Int32))), .val (.ref w_PUBLIC), .val (.int (0 : Int32))] [(.int (own_cl w_PUBLIC w_PRIVATE w_PROTECTED))]))) (st12) ?_
          refine go_of (B := (T12.setTop (mkF m 73 #[.val (.int k), .val (.int ((k &&& (2147483647 : Int32)) % (5 : Int32))), .val (.ref w_PUBLIC), .val (.int (0 : Int32))] [(.int (0 : Int32)), (.int (own_cl w_PUBLIC w_PRIVATE w_PROTECTED))]))) (fun _ kk => XS.iloadN X12.here hx rfl (hb hby at_72) rfl kk) ?_
          refine go_of (B := (T12.setTop (mkF m 76 #[.val (.int k), .val (.int ((k &&& (2147483647 : Int32)) % (5 : Int32))), .val (.ref w_PUBLIC), .val (.int (0 : Int32))] []))) (fun _ kk => XS.icmpNo X12.here hx rfl (hb hby at_73) rfl (teq (by simp [own_cl, n_PUBLIC_PRIVATE, n_PUBLIC_PROTECTED] : (own_cl w_PUBLIC w_PRIVATE w_PROTECTED) = (0 : Int32))).2 kk) ?_
          refine go_of (B := (T12.setTop (mkF m 77 #[.val (.int k), .val (.int ((k &&& (2147483647 : Int32)) % (5 : Int32))), .val (.ref w_PUBLIC), .val (.int (0 : Int32))] [(.int (1 : Int32))]))) (fun _ kk => XS.iconst X12.here hx rfl (hb hby at_76) kk) ?_
          refine go_of (B := (T12.setTop (mkF m 81 #[.val (.int k), .val (.int ((k &&& (2147483647 : Int32)) % (5 : Int32))), .val (.ref w_PUBLIC), .val (.int (0 : Int32))] [(.int (1 : Int32))]))) (fun _ kk => XS.goto X12.here hx rfl (pc0 := 77) (pc' := 81) rfl (hb hby at_77) (by decide) (by decide) kk) ?_
          refine go_end X12 (v := some (.int (nar .boolean (1 : Int32)))) (fun h => by rw [Bd.returns] at h; cases h) Bd.notSynchronized (by decide) (by decide) (Q := (Q_rm0 Z k w_PRIVATE w_PROTECTED w_PASSWORD w_PUBLIC w_OPEN h0 n0)) ?_ (fun fs hr => retN X12 hx (t := .boolean) Bd.returns (by simp) (hb hby at_81) hr)
          show (fun (v : Option Value) (h : Heap) (L : List Loc) => v = some (.int 1) ∧ Fr n0 L) (some (.int (nar .boolean (1 : Int32)))) T12.heap _
          rw [e12]
          exact ⟨rfl, N12⟩
        · refine go_of (B := (s₁.setTop (mkF m 62 #[.val (.int k), .val (.int ((k &&& (2147483647 : Int32)) % (5 : Int32))), .unset, .unset] []))) (fun _ kk => XS.icmpYes X0.here hx rfl (pc0 := 50) (pc' := 62) rfl (hb hby at_50) rfl (feq hc10).2 (by decide) (by decide) kk) ?_
          obtain ⟨T13, X13, e13, st13⟩ := getS2 X0 hx hZ hown (host := "") (Or.inl (hw _ (List.mem_of_getElem? (i := 15) rfl))) Via.refl e0 S_OPEN (g := (mkF m 62 #[.val (.int k), .val (.int ((k &&& (2147483647 : Int32)) % (5 : Int32))), .unset, .unset] [])) rfl (hb hby at_62)
          refine go_of (B := (T13.setTop (mkF m 65 #[.val (.int k), .val (.int ((k &&& (2147483647 : Int32)) % (5 : Int32))), .unset, .unset] [(.ref w_OPEN)]))) (st13) ?_
          refine go_of (B := (T13.setTop (mkF m 66 #[.val (.int k), .val (.int ((k &&& (2147483647 : Int32)) % (5 : Int32))), .val (.ref w_OPEN), .unset] []))) (fun _ kk => XS.astoreN X13.here hx rfl (hb hby at_65) rfl rfl rfl kk) ?_
          refine go_of (B := (T13.setTop (mkF m 67 #[.val (.int k), .val (.int ((k &&& (2147483647 : Int32)) % (5 : Int32))), .val (.ref w_OPEN), .unset] [(.int (0 : Int32))]))) (fun _ kk => XS.iconst X13.here hx rfl (hb hby at_66) kk) ?_
          refine go_of (B := (T13.setTop (mkF m 68 #[.val (.int k), .val (.int ((k &&& (2147483647 : Int32)) % (5 : Int32))), .val (.ref w_OPEN), .val (.int (0 : Int32))] []))) (fun _ kk => XS.istoreN X13.here hx rfl (hb hby at_67) rfl rfl kk) ?_
          refine go_of (B := (T13.setTop (mkF m 69 #[.val (.int k), .val (.int ((k &&& (2147483647 : Int32)) % (5 : Int32))), .val (.ref w_OPEN), .val (.int (0 : Int32))] [(.ref w_OPEN)]))) (fun _ kk => XS.aloadN X13.here hx rfl (hb hby at_68) rfl rfl kk) ?_
          obtain ⟨cq14, kq14, q14a, q14b, q14c⟩ := isOf hZ e13 E_OPEN
          obtain ⟨_, _, ⟨T14, L14, k14, n14⟩, -, X14, ⟨Lc14, hQ14, l14, y14, z14⟩, st14⟩ := X13.virtualBack hx (y := (⟨"com/example/grantline/grantline/Level", "closed", "()Z"⟩ : MethodName)) (z := (⟨"com/example/grantline/grantline/Level", "closed", "()Z"⟩ : MethodName)) hown (mvT hZ (hw _ (List.mem_of_getElem? (i := 4) rfl))) (mvT hZ (hw _ (List.mem_of_getElem? (i := 5) rfl))) (notFace_of_selects (args := #[]) (mvT hZ (hw _ (List.mem_of_getElem? (i := 7) rfl)))) (mvT hZ (hw _ (List.mem_of_getElem? (i := 7) rfl))) (mvT hZ (hw _ (List.mem_of_getElem? (i := 6) rfl))) (by decide) (backOf (W := 0) (rm1 l Z a0 hw [] w_OPEN w_PRIVATE w_PROTECTED h0 n0 Z0 S_PRIVATE S_PROTECTED) hZ (hw _ (List.mem_of_getElem? (i := 8) rfl)) (hw _ (List.mem_of_getElem? (i := 2) rfl)) (by decide) (by decide)) q14a q14c (g := (mkF m 69 #[.val (.int k), .val (.int ((k &&& (2147483647 : Int32)) % (5 : Int32))), .val (.ref w_OPEN), .val (.int (0 : Int32))] [(.ref w_OPEN)])) rfl (by rw [hml]; rfl) (Steps.refl _) (argsL := []) (rest := []) (lenOf pd___Z rfl) rfl (by show 2 * 0 + _ ≤ _; exact Nat.le_of_eq rfl) (hb hby at_69) (fun _ _ => ⟨rfl, e13, (by decide : 0 + 0 ≤ _), (by decide : 0 + 0 ≤ _)⟩)
          dsimp only [Pt.U, Pt.locs, Pt.cells, Pt.slots] at X14 l14 y14 z14 st14 hQ14
          subst l14 y14 z14
          obtain ⟨rfl, N14q, e14⟩ := hQ14
          have N14 := Fr.app N0 N14q
          refine go_tr (B := (T14.setTop (mkF m 72 #[.val (.int k), .val (.int ((k &&& (2147483647 : Int32)) % (5 : Int32))), .val (.ref w_OPEN), .val (.int (0 : Int32))] [(.int (own_cl w_OPEN w_PRIVATE w_PROTECTED))]))) (st14) ?_
          refine go_of (B := (T14.setTop (mkF m 73 #[.val (.int k), .val (.int ((k &&& (2147483647 : Int32)) % (5 : Int32))), .val (.ref w_OPEN), .val (.int (0 : Int32))] [(.int (0 : Int32)), (.int (own_cl w_OPEN w_PRIVATE w_PROTECTED))]))) (fun _ kk => XS.iloadN X14.here hx rfl (hb hby at_72) rfl kk) ?_
          refine go_of (B := (T14.setTop (mkF m 76 #[.val (.int k), .val (.int ((k &&& (2147483647 : Int32)) % (5 : Int32))), .val (.ref w_OPEN), .val (.int (0 : Int32))] []))) (fun _ kk => XS.icmpNo X14.here hx rfl (hb hby at_73) rfl (teq (by simp [own_cl, n_OPEN_PRIVATE, n_OPEN_PROTECTED] : (own_cl w_OPEN w_PRIVATE w_PROTECTED) = (0 : Int32))).2 kk) ?_
          refine go_of (B := (T14.setTop (mkF m 77 #[.val (.int k), .val (.int ((k &&& (2147483647 : Int32)) % (5 : Int32))), .val (.ref w_OPEN), .val (.int (0 : Int32))] [(.int (1 : Int32))]))) (fun _ kk => XS.iconst X14.here hx rfl (hb hby at_76) kk) ?_
          refine go_of (B := (T14.setTop (mkF m 81 #[.val (.int k), .val (.int ((k &&& (2147483647 : Int32)) % (5 : Int32))), .val (.ref w_OPEN), .val (.int (0 : Int32))] [(.int (1 : Int32))]))) (fun _ kk => XS.goto X14.here hx rfl (pc0 := 77) (pc' := 81) rfl (hb hby at_77) (by decide) (by decide) kk) ?_
          refine go_end X14 (v := some (.int (nar .boolean (1 : Int32)))) (fun h => by rw [Bd.returns] at h; cases h) Bd.notSynchronized (by decide) (by decide) (Q := (Q_rm0 Z k w_PRIVATE w_PROTECTED w_PASSWORD w_PUBLIC w_OPEN h0 n0)) ?_ (fun fs hr => retN X14 hx (t := .boolean) Bd.returns (by simp) (hb hby at_81) hr)
          show (fun (v : Option Value) (h : Heap) (L : List Loc) => v = some (.int 1) ∧ Fr n0 L) (some (.int (nar .boolean (1 : Int32)))) T14.heap _
          rw [e14]
          exact ⟨rfl, N14⟩
set_option maxRecDepth 65536 in
set_option maxHeartbeats 40000000 in
theorem comes_1 {Post : Tables → Env → Array Value → State → Outcome → State → Prop} (hpost : ∀ tb e args s v u, (limb_1_1.after args s (.returned v) u = true ∧ limb_1_2.after args s (.returned v) u = true ∧ True) → FrameEnd s (.returned v) u (Jvm.fieldLocs frame_1_writes args s ++ Jvm.arrayLocs frame_1_arrays args s ++ Jvm.staticLocs frame_1_statics s) 0 0 → Post tb e args s (.returned v) u) :
    ArmFor flags0 classFile x code maxLocals ret World_1 tables_1 room_1 Calls_1 rest_1 Pre_1 Post := by
  intro l hfl _ _ p e ha hc hk s m args below hf hA hF happ hP
  obtain ⟨hcalls, hrest, hpre⟩ := hP
  obtain ⟨-, -, -, hnamed, -, -, -, hat⟩ := (Spec.applies_iff hf).mp happ
  obtain ⟨hg, hn⟩ := and_e (Cond.before_iff.mp (show (Jvm.Cond.and given_1 narrow_1).before args s = true from hpre))
  obtain ⟨g1, g2⟩ := and_e hg
  obtain ⟨w0, rfl⟩ : ∃ w0 : Value, args = #[w0] := by
    have hs : args.size = 1 := by simpa [Cond.value, given_1] using g1
    obtain ⟨L⟩ := args
    match L, hs with
    | [w0], _ => exact ⟨w0, rfl⟩
  have hw := fun d (hd : d ∈ tables_1) => atoms_spec (ws := Jvm.Cond.code x code maxLocals ret :: tables_1) hat d (List.mem_cons_of_mem _ hd)
  have hfit : Fit s := fun {y c} hc i hi => by
    obtain ⟨ha, rfl⟩ := Array.getElem?_eq_some_iff.mp hc
    have q := List.all_eq_true.mp ((Array.all_eq_true_iff_forall_mem.mp hF) _ (Array.getElem_mem ha)) i (List.mem_range.mpr hi)
    simpa [Array.getElem?_eq_getElem hi] using q
  obtain ⟨i0, ei0⟩ := is_v g2
  obtain rfl : w0 = (.int i0) := Option.some.inj ei0
  obtain ⟨na1, na2⟩ := and_e hn
  obtain ⟨na3, na4⟩ := and_e na2
  obtain ⟨na5, na6⟩ := and_e na4
  obtain ⟨na7, na8⟩ := and_e na6
  obtain ⟨na9, na10⟩ := and_e na8
  obtain ⟨na11, na12⟩ := and_e na10
  obtain ⟨na13, na14⟩ := and_e na12
  obtain ⟨na15, na16⟩ := and_e na14
  obtain ⟨na17, na18⟩ := and_e na16
  obtain ⟨w_PRIVATE, ev_PRIVATE⟩ := exa_v na1
  have E_PRIVATE := Exa.start ev_PRIVATE na1
  have S_PRIVATE := Sta.start ev_PRIVATE (Or.inr ⟨(hw _ (List.mem_of_getElem? (i := 2) rfl)), (hw _ (List.mem_of_getElem? (i := 3) rfl))⟩)
  obtain ⟨w_PUBLIC, ev_PUBLIC⟩ := exa_v na3
  have E_PUBLIC := Exa.start ev_PUBLIC na3
  have S_PUBLIC := Sta.start ev_PUBLIC (Or.inr ⟨(hw _ (List.mem_of_getElem? (i := 2) rfl)), (hw _ (List.mem_of_getElem? (i := 11) rfl))⟩)
  obtain ⟨w_PROTECTED, ev_PROTECTED⟩ := exa_v na9
  have E_PROTECTED := Exa.start ev_PROTECTED na9
  have S_PROTECTED := Sta.start ev_PROTECTED (Or.inr ⟨(hw _ (List.mem_of_getElem? (i := 2) rfl)), (hw _ (List.mem_of_getElem? (i := 13) rfl))⟩)
  obtain ⟨w_OPEN, ev_OPEN⟩ := exa_v na13
  have E_OPEN := Exa.start ev_OPEN na13
  have S_OPEN := Sta.start ev_OPEN (Or.inr ⟨(hw _ (List.mem_of_getElem? (i := 2) rfl)), (hw _ (List.mem_of_getElem? (i := 16) rfl))⟩)
  obtain ⟨w_PASSWORD, ev_PASSWORD⟩ := exa_v na17
  have E_PASSWORD := Exa.start ev_PASSWORD na17
  have S_PASSWORD := Sta.start ev_PASSWORD (Or.inr ⟨(hw _ (List.mem_of_getElem? (i := 2) rfl)), (hw _ (List.mem_of_getElem? (i := 18) rfl))⟩)
  have F_PUBLIC := own_fldI ev_PUBLIC na5
  have F_PRIVATE := own_fldI ev_PRIVATE na7
  have F_PROTECTED := own_fldI ev_PROTECTED na11
  have F_OPEN := own_fldI ev_OPEN na15
  have F_PASSWORD := own_fldI ev_PASSWORD na18
  obtain ⟨n, o, h1, h2, h3, _, L, rfl, ⟨rfl, N⟩, hq⟩ := rm0 l s _ hw tables_1 i0 w_PRIVATE w_PROTECTED w_PASSWORD w_PUBLIC w_OPEN s.heap s.heap.size (Nat.le_refl _) S_PRIVATE S_PROTECTED S_PASSWORD S_PUBLIC S_OPEN E_PRIVATE E_PROTECTED E_PASSWORD E_PUBLIC E_OPEN (F_PASSWORD.ne F_PRIVATE (by decide)) (F_PASSWORD.ne F_PROTECTED (by decide)) (F_PUBLIC.ne F_PRIVATE (by decide)) (F_PUBLIC.ne F_PROTECTED (by decide)) (F_OPEN.ne F_PRIVATE (by decide)) (F_OPEN.ne F_PROTECTED (by decide)) p e ha hc hk s m _ below hf ((Spec.applies_iff_loose hf).mp happ).1 ⟨rfl, State.Warmed39.refl s, rfl⟩ trivial
  exact ⟨n, _, h1, h2, h3, hpost _ _ _ _ _ _ ⟨Cond.after_iff.mpr rfl, Cond.after_iff.mpr (eq_i res_at (Term.int_eval (1)) rfl), trivial⟩ ⟨hq.1, hq.2.1, (hq.2.2.sift fun y hy => Or.inr (N y hy)).mono (by decide) (by decide)⟩⟩
theorem main_1_1 : Claimed_1_1 := comes_1 fun _ _ _ _ _ _ h hF => ⟨h.1, hF⟩
theorem main_1_2 : Claimed_1_2 := comes_1 fun _ _ _ _ _ _ h hF => ⟨h.2.1, hF⟩
end Jvm.Pilot.@@N@@
namespace Jvm.Pilot.@@N@@
open Jvm Jvm.ClassFile Sem Op Lib Jvm.Free Jvm.Stand Jvm.Pilot.@@N@@.Jvm.D
/-! MADE BY PROGRAM (witnessworld.py) out of the Statement's table words and the real class files: 12 classes; the members and pool entries that the words name. The judged class is class 1, her method 1. -/
namespace start1
open Jvm.ClassFile
def u (s : String) : CpInfo := .utf8 (stringToUtf16 s)
/-- a pool by its gaps: so many unusable entries, then the entry; so many at the end -/
def gap : Nat → List CpInfo → List CpInfo
  | 0, r => r
  | n + 1, r => .unusable :: gap n r
def poolList (es : List (Nat × CpInfo)) (last : Nat) : List CpInfo := es.foldr (fun e r => gap e.1 (e.2 :: r)) (gap last [])
def pool (es : List (Nat × CpInfo)) (last : Nat) : Array CpInfo := ⟨poolList es last⟩
def fileOf (pool : Array CpInfo) (this : Nat) (attrs : Array Attribute := #[]) (ms : Array MethodInfo := #[]) (fl : Nat := 33) (sup : Nat := 0) (ifs : Array Nat := #[]) (fds : Array FieldInfo := #[]) : ClassFile where
  minorVersion := 0
  majorVersion := 65
  constantPool := pool
  accessFlags := fl
  thisClass := this
  superClass := sup
  interfaces := ifs
  fields := fds
  methods := ms
  attributes := attrs
def plain (name : String) (sup : Option ClassId) : Class where
  name := name
  kind := .ordinary
  loader := none
  accessFlags := 33
  super := sup
  interfaces := #[]
  cf := none
  fields := #[]
  methods := #[]
  instanceTypes := #[]
  staticTypes := #[]
  resolved := #[]
  callSites := []
  init := .initialized
  statics := none
  mirror := none

def pool0 : Array CpInfo := pool [(5, u "<init>"), (0, u "()V"), (1, .class_ 10), (1, u "java/lang/Object")] 113

def k0m0 : Method := { name := "<init>", desc := "()V", sig := { parameters := [], returnType := none }, accessFlags := 1, code := none }
/-- java/lang/Object -/
def k0 : Class := { plain "java/lang/Object" none with
  accessFlags := 33
  interfaces := #[]
  cf := some (fileOf pool0 8 #[] #[{ accessFlags := 1, nameIndex := 5, descriptorIndex := 6, attributes := #[] }] 33 0 #[] #[])
  fields := #[]
  methods := #[k0m0]
  instanceTypes := #[]
  staticTypes := #[]
  resolved := Array.replicate 124 none
  statics := none }

def pool1 : Array CpInfo := pool [(2, .class_ 4), (1, u "java/lang/Object"), (0, u "<init>"), (0, u "()V"), (0, .integer 2147483647), (0, .fieldref 9 10), (0, .class_ 11), (0, .nameAndType 12 13), (0, u "com/example/grantline/grantline/Level"), (0, u "PRIVATE"), (0, u "Lcom/example/grantline/grantline/Level;"), (0, .fieldref 9 15), (0, .nameAndType 16 13), (0, u "PROTECTED"), (0, .fieldref 9 18), (0, .nameAndType 19 13), (0, u "PASSWORD"), (0, .fieldref 9 21), (0, .nameAndType 22 13), (0, u "PUBLIC"), (0, .fieldref 9 24), (0, .nameAndType 25 13), (0, u "OPEN"), (0, .methodref 9 27), (0, .nameAndType 28 29), (0, u "closed"), (0, u "()Z"), (0, .class_ 31), (0, u "com/example/grantline/grantline/LevelClosedPinLaw"), (2, u "law"), (0, u "(I)Z")] 3

def k1m0 : Method := { name := "<init>", desc := "()V", sig := { parameters := [], returnType := none }, accessFlags := 1, code := none }
def k1c1 : Code := { maxStack := 2, maxLocals := 4, code := code, exceptionTable := #[], attributes := #[] }
def k1m1 : Method := { name := "law", desc := "(I)Z", sig := { parameters := [.int], returnType := some .boolean }, accessFlags := 9, code := some k1c1 }
/-- com/example/grantline/grantline/LevelClosedPinLaw -/
def k1 : Class := { plain "com/example/grantline/grantline/LevelClosedPinLaw" (some 0) with
  accessFlags := 49
  interfaces := #[]
  cf := some (fileOf pool1 30 #[] #[{ accessFlags := 1, nameIndex := 5, descriptorIndex := 6, attributes := #[] }, { accessFlags := 9, nameIndex := 34, descriptorIndex := 35, attributes := #[] }] 49 2 #[] #[])
  fields := #[]
  methods := #[k1m0, k1m1]
  instanceTypes := #[]
  staticTypes := #[]
  resolved := Array.replicate 39 none
  statics := none }

def pool2 : Array CpInfo := pool [(1, .class_ 2), (0, u "java/lang/constant/Constable"), (0, .class_ 4), (0, u "java/lang/Object")] 6

/-- java/lang/constant/Constable -/
def k2 : Class := { plain "java/lang/constant/Constable" (some 0) with
  accessFlags := 1537
  interfaces := #[]
  cf := some (fileOf pool2 1 #[] #[] 1537 3 #[] #[])
  fields := #[]
  methods := #[]
  instanceTypes := #[]
  staticTypes := #[]
  resolved := Array.replicate 11 none
  statics := none }

def pool3 : Array CpInfo := pool [(1, .class_ 2), (0, u "java/lang/Comparable"), (0, .class_ 4), (0, u "java/lang/Object")] 7

/-- java/lang/Comparable -/
def k3 : Class := { plain "java/lang/Comparable" (some 0) with
  accessFlags := 1537
  interfaces := #[]
  cf := some (fileOf pool3 1 #[] #[] 1537 3 #[] #[])
  fields := #[]
  methods := #[]
  instanceTypes := #[]
  staticTypes := #[]
  resolved := Array.replicate 12 none
  statics := none }

def pool4 : Array CpInfo := pool [(1, .class_ 2), (0, u "java/io/Serializable"), (0, .class_ 4), (0, u "java/lang/Object")] 2

/-- java/io/Serializable -/
def k4 : Class := { plain "java/io/Serializable" (some 0) with
  accessFlags := 1537
  interfaces := #[]
  cf := some (fileOf pool4 1 #[] #[] 1537 3 #[] #[])
  fields := #[]
  methods := #[]
  instanceTypes := #[]
  staticTypes := #[]
  resolved := Array.replicate 7 none
  statics := none }

def pool5 : Array CpInfo := pool [(2, .class_ 4), (1, u "java/lang/Enum"), (0, u "name"), (0, u "Ljava/lang/String;"), (2, u "ordinal"), (0, u "I"), (1, .class_ 14), (1, u "java/lang/Object"), (4, u "hash"), (86, .class_ 108), (1, u "java/lang/Enum$EnumDesc"), (2, .class_ 112), (0, u "java/lang/constant/Constable"), (0, .class_ 114), (0, u "java/lang/Comparable"), (0, .class_ 116), (0, u "java/io/Serializable")] 87

/-- java/lang/Enum -/
def k5 : Class := { plain "java/lang/Enum" (some 0) with
  accessFlags := 1057
  interfaces := #[2, 3, 4]
  cf := some (fileOf pool5 2 #[.nestMembers #[106]] #[] 1057 12 #[111, 113, 115] #[{ accessFlags := 18, nameIndex := 5, descriptorIndex := 6, attributes := #[] }, { accessFlags := 18, nameIndex := 9, descriptorIndex := 10, attributes := #[] }, { accessFlags := 2, nameIndex := 19, descriptorIndex := 10, attributes := #[] }])
  fields := #[{ name := "name", type := (.object "java/lang/String"), accessFlags := 18, slot := 0, constantValue := 0 }, { name := "ordinal", type := .int, accessFlags := 18, slot := 1, constantValue := 0 }, { name := "hash", type := .int, accessFlags := 2, slot := 2, constantValue := 0 }]
  methods := #[]
  instanceTypes := #[(.object "java/lang/String"), .int, .int]
  staticTypes := #[]
  resolved := Array.replicate 204 none
  statics := none }

def pool6 : Array CpInfo := pool [(1, .class_ 2), (0, u "com/example/grantline/grantline/Level"), (0, .fieldref 1 4), (0, .nameAndType 5 6), (0, u "PRIVATE"), (0, u "Lcom/example/grantline/grantline/Level;"), (0, .fieldref 1 8), (0, .nameAndType 9 6), (0, u "PROTECTED"), (2, u "PASSWORD"), (2, u "PUBLIC"), (2, u "OPEN"), (2, u "$VALUES"), (0, u "[Lcom/example/grantline/grantline/Level;"), (6, .class_ 31), (1, u "java/lang/Enum"), (8, u "word"), (0, u "Ljava/lang/String;"), (21, u "()Z"), (2, u "closed")] 57

def k6c0 : Code := { maxStack := 2, maxLocals := 1, code := prog_15_method_6_code, exceptionTable := #[], attributes := #[] }
def k6m0 : Method := { name := "closed", desc := "()Z", sig := { parameters := [], returnType := some .boolean }, accessFlags := 0, code := some k6c0 }
/-- com/example/grantline/grantline/Level -/
def k6 : Class := { plain "com/example/grantline/grantline/Level" (some 5) with
  accessFlags := 16432
  interfaces := #[]
  cf := some (fileOf pool6 1 #[] #[{ accessFlags := 0, nameIndex := 66, descriptorIndex := 63, attributes := #[] }] 16432 29 #[] #[{ accessFlags := 16409, nameIndex := 5, descriptorIndex := 6, attributes := #[] }, { accessFlags := 16409, nameIndex := 9, descriptorIndex := 6, attributes := #[] }, { accessFlags := 16409, nameIndex := 12, descriptorIndex := 6, attributes := #[] }, { accessFlags := 16409, nameIndex := 15, descriptorIndex := 6, attributes := #[] }, { accessFlags := 16409, nameIndex := 18, descriptorIndex := 6, attributes := #[] }, { accessFlags := 18, nameIndex := 40, descriptorIndex := 41, attributes := #[] }, { accessFlags := 4122, nameIndex := 21, descriptorIndex := 22, attributes := #[] }])
  fields := #[{ name := "PRIVATE", type := (.object "com/example/grantline/grantline/Level"), accessFlags := 16409, slot := 0, constantValue := 0 }, { name := "PROTECTED", type := (.object "com/example/grantline/grantline/Level"), accessFlags := 16409, slot := 1, constantValue := 0 }, { name := "PASSWORD", type := (.object "com/example/grantline/grantline/Level"), accessFlags := 16409, slot := 2, constantValue := 0 }, { name := "PUBLIC", type := (.object "com/example/grantline/grantline/Level"), accessFlags := 16409, slot := 3, constantValue := 0 }, { name := "OPEN", type := (.object "com/example/grantline/grantline/Level"), accessFlags := 16409, slot := 4, constantValue := 0 }, { name := "word", type := (.object "java/lang/String"), accessFlags := 18, slot := 3, constantValue := 0 }, { name := "$VALUES", type := (.array (.object "com/example/grantline/grantline/Level")), accessFlags := 4122, slot := 5, constantValue := 0 }]
  methods := #[k6m0]
  instanceTypes := #[(.object "java/lang/String"), .int, .int, (.object "java/lang/String")]
  staticTypes := #[(.object "com/example/grantline/grantline/Level"), (.object "com/example/grantline/grantline/Level"), (.object "com/example/grantline/grantline/Level"), (.object "com/example/grantline/grantline/Level"), (.object "com/example/grantline/grantline/Level"), (.array (.object "com/example/grantline/grantline/Level"))]
  resolved := Array.replicate 124 none
  statics := some 0 }

def pool7 : Array CpInfo := pool [(1, u "java/lang/Cloneable"), (0, .class_ 1), (0, u "java/lang/Object"), (0, .class_ 3)] 3

/-- java/lang/Cloneable -/
def k7 : Class := { plain "java/lang/Cloneable" (some 0) with
  accessFlags := 1537
  interfaces := #[]
  cf := some (fileOf pool7 2 #[] #[] 1537 4 #[] #[])
  fields := #[]
  methods := #[]
  instanceTypes := #[]
  staticTypes := #[]
  resolved := Array.replicate 8 none
  statics := none }

/-- the primitive byte -/
def k8 : Class := { plain "byte" none with kind := .primitive 'B', accessFlags := 0x411 }
/-- [B -/
def k9 : Class := { plain "[B" (some 0) with kind := .array 8 .byte, interfaces := #[7, 4], accessFlags := 1041 }

/-- the primitive int -/
def k10 : Class := { plain "int" none with kind := .primitive 'I', accessFlags := 0x411 }
/-- [I -/
def k11 : Class := { plain "[I" (some 0) with kind := .array 10 .int, interfaces := #[7, 4], accessFlags := 1041 }

def heap : Heap := #[{ cls := 6, slots := #[.ref 1, .ref 2, .ref 3, .ref 4, .ref 5, .null], vm := .statics 6 },
  { cls := 6, slots := #[.null, .int 0, .int 0, .null], vm := .none },
  { cls := 6, slots := #[.null, .int 1, .int 0, .null], vm := .none },
  { cls := 6, slots := #[.null, .int 2, .int 0, .null], vm := .none },
  { cls := 6, slots := #[.null, .int 3, .int 0, .null], vm := .none },
  { cls := 6, slots := #[.null, .int 4, .int 0, .null], vm := .none }]
def classes : Array Class := #[k0, k1, k2, k3, k4, k5, k6, k7, k8, k9, k10, k11]
def interned : List (Array UInt16 × Addr) := []
def slotsUsed : Nat := 26
def theMethod : MethodId := ⟨1, 1⟩
def args0 : Array Value := #[.int 5]
def aboutOver (below : List Frame) : State where
  vm := { classes := classes, interned := interned.toArray }
  heap := heap
  slotsUsed := slotsUsed
  threads := #[{ frames := .invoking theMethod args0 :: below }]
def below0 : List Frame := [.native { method := ⟨0, 0⟩, args := #[] }]
def about1 : State := aboutOver below0
def p0 : Program := .bare "" "" ""
def e0 : Env := launch0.env 0 0 0
theorem w_frames : about1.frames = Frame.invoking theMethod args0 :: below0 := rfl
set_option maxRecDepth 65536 in
theorem w_args : argsFit about1.vm theMethod args0 = true := by decide +kernel
set_option maxRecDepth 65536 in
theorem w_heap : heapFits about1 = true := by decide +kernel
set_option maxRecDepth 65536 in
theorem w_runnable : about1.curStatus? = some .runnable := by decide +kernel
set_option maxRecDepth 65536 in
theorem w_alone : about1.alone = true := by decide +kernel
set_option maxRecDepth 65536 in
theorem w_named : about1.methodNamed? x = some theMethod := by decide +kernel
set_option maxRecDepth 65536 in
theorem w_hears : about1.hears theMethod below0 = true := by decide +kernel
set_option maxRecDepth 65536 in
theorem w_ripe : about1.ripe theMethod args0 below0 = true := by decide +kernel
theorem w_running : about1.status = .running := rfl
set_option maxRecDepth 65536 in
theorem w_room : about1.hasRoom e0.platform room_1 = true :=
  launch0.hasRoom_least _ room_1 (by decide +kernel) (by decide +kernel) (by decide +kernel) (by decide +kernel) (by decide +kernel) (by decide +kernel)
theorem allAtoms_all (ts : List Jvm.Cond) (a : Array Jvm.Value) (st : Jvm.State) : (allAtoms ts).before a st = ts.all (fun c => c.before a st) := by
  induction ts with
  | nil => rfl
  | cons c t ih =>
    show (Jvm.Cond.and c (allAtoms t)).before a st = _
    rw [Jvm.Cond.before_and, ih, List.all_cons]
def words1 : List Jvm.Cond := Jvm.Cond.code x code maxLocals ret :: tables_1
/-- a 'code' word, met by the world's own term for the bytes: nothing is compared byte by byte -/
theorem code_word {y : MethodName} {bytes : ByteArray} {mx : Nat} {rt : Option FieldType} {a : Array Value} {s : State} {m : MethodId} {meth : Method} {c : Code} (h1 : s.methodNamed? y = some m) (h2 : s.vm.method? m = some meth) (h3 : meth.code = some c) (h4 : c.code = bytes)
    (h5 : (c.maxLocals == mx && c.exceptionTable.isEmpty && decide (c.maxStack ≤ mostOperands) && decide (meth.sig.returnType = rt) && !meth.locks && decide (parseMethodDescriptor y.desc = some meth.sig)) = true) : (Jvm.Cond.code y bytes mx rt).before a s = true := by
  simp only [Bool.and_eq_true, beq_iff_eq, Bool.not_eq_true', decide_eq_true_eq] at h5
  obtain ⟨⟨⟨⟨⟨g1, g2⟩, g3⟩, g4⟩, g5⟩, g6⟩ := h5
  simp [Cond.before, Cond.holds, Cond.value, h1, h2, h3, h4, g1, g2, g3, g4, g5, g6]
def isCode : Jvm.Cond → Bool
  | .code _ _ _ _ => true
  | _ => false
theorem all_split {L : List Jvm.Cond} {P : Jvm.Cond → Bool} (h1 : L.all (fun c => isCode c || P c) = true) (h2 : ∀ c ∈ L.filter isCode, P c = true) : L.all P = true := by
  refine List.all_eq_true.mpr fun c hc => ?_
  have h := List.all_eq_true.mp h1 c hc
  rcases Bool.eq_false_or_eq_true (isCode c) with hi | hi
  · exact h2 c (List.mem_filter.mpr ⟨hc, hi⟩)
  · simpa [hi] using h
set_option maxRecDepth 65536 in
theorem w_c0 : (Jvm.Cond.code x code maxLocals ret).before args0 about1 = true := code_word (m := ⟨1, 1⟩) (meth := k1m1) (c := k1c1) (by decide +kernel) rfl rfl rfl (by decide +kernel)
set_option maxRecDepth 65536 in
theorem w_c1 : (Jvm.Cond.code ({ cls := "com/example/grantline/grantline/Level", name := "closed", desc := "()Z" } : Jvm.MethodName) prog_15_method_6_code (1 : Nat) (Option.some Jvm.ClassFile.FieldType.boolean)).before args0 about1 = true := code_word (m := ⟨6, 0⟩) (meth := k6m0) (c := k6c0) (by decide +kernel) rfl rfl rfl (by decide +kernel)
def codes1 : List Jvm.Cond := [Jvm.Cond.code x code maxLocals ret, Jvm.Cond.code ({ cls := "com/example/grantline/grantline/Level", name := "closed", desc := "()Z" } : Jvm.MethodName) prog_15_method_6_code (1 : Nat) (Option.some Jvm.ClassFile.FieldType.boolean)]
set_option maxRecDepth 65536 in
theorem codes_eq : words1.filter isCode = codes1 := rfl
theorem w_codes : ∀ c ∈ words1.filter isCode, c.before args0 about1 = true := by
  rw [codes_eq]
  intro c hc
  simp only [codes1, List.mem_cons, List.not_mem_nil, or_false] at hc
  rcases hc with rfl | rfl
  · exact w_c0
  · exact w_c1
set_option maxRecDepth 65536 in
theorem w_t1 : words1.all (fun c => isCode c || c.before args0 about1) = true := by decide +kernel
theorem w_tables : (allAtoms (Jvm.Cond.code x code maxLocals ret :: tables_1)).before args0 about1 = true := by
  rw [allAtoms_all]
  show words1.all (fun c => c.before args0 about1) = true
  refine all_split ?_ w_codes
  rw [w_t1]
set_option maxRecDepth 65536 in
theorem w_case : (Jvm.Cond.and given_1 narrow_1).before args0 about1 = true := by decide +kernel
theorem w_applies : (headSpec (Jvm.Cond.code x code maxLocals ret :: tables_1) room_1).applies x e0.platform about1 = true :=
  (Spec.applies_iff w_frames).mpr ⟨w_running, w_runnable, w_alone, w_named, w_hears, w_ripe, w_room, w_tables⟩
theorem atStart : AtStart classFile x code maxLocals ret World_1 tables_1 room_1 Calls_1 rest_1 Pre_1 launch0 p0 e0 about1 theMethod args0 below0 :=
  ⟨lists_1, trivial, launch0.admits_env _ _ _, launch0.least_env, fairChoices_fair.cas, fairChoices_fair.clock, w_frames, w_args, w_heap, w_applies, trivial, trivial, w_case⟩
end start1
theorem witness_1 : WitnessClaimed_1 := ⟨start1.p0, start1.e0, start1.about1, start1.theMethod, start1.args0, start1.below0, start1.atStart⟩
end Jvm.Pilot.@@N@@
