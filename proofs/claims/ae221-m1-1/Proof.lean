import JvmDerived
import JvmDerived.Pilot.@@N@@Statement
import JvmDerived.Pilot.@@N@@Code
set_option linter.unusedVariables false
set_option linter.unusedSimpArgs false
namespace Jvm.Pilot.@@N@@
open Jvm Jvm.ClassFile Sem Op Lib Jvm.Free Jvm.Stand Jvm.LawKit Jvm.RoadKit Bundle Jvm.Pilot.@@N@@.Jvm.D
/-! own: the walk by continuation -/
def Go (p : Program) (e : Env) (below : List Frame) (A : State) (G : Outcome → State → Prop) : Prop :=
  ∃ s₂ o, Steps p.tables e below A s₂ ∧ s₂.status = .running ∧ Ended s₂ below o ∧ G o s₂
section Own
variable {p : Program} {l : Launch} {e : Env} {R : Room} {s : State} {m : MethodId} {args : Array Value} {below : List Frame} {meth : Method} {c : Code} {T : State} {locs : List Loc} {cells slots : Nat} {G : Outcome → State → Prop} {A B : State}
theorem go_of (h : ∀ t, Steps p.tables e below B t → Steps p.tables e below A t) (k : Go p e below B G) : Go p e below A G := by
  obtain ⟨s₂, o, h1, h2⟩ := k; exact ⟨s₂, o, h _ h1, h2⟩
theorem go_tr (h : Steps p.tables e below A B) (k : Go p e below B G) : Go p e below A G := go_of (fun _ q => h.trans q) k
theorem go_end (X : Stand p l e R s m args below meth c T locs cells slots) {v : Option Value} (hv : meth.sig.returnType = none → v = none) (hlocks : meth.locks = false) {C S : Nat} (hc : cells ≤ C) (hs : slots ≤ S)
    {Q : Option Value → Heap → List Loc → Prop} (hQ : Q v T.heap locs) {f : JFrame}
    (st : ∀ fs, (∀ (f : JFrame) (acts : List Action), f.method = m → f.locked = none → f.entered = [] → (doReturn e (T.setTop f) acts v).1 = T.setFrames fs) → Steps p.tables e below (T.setTop f) (T.setFrames fs)) :
    Go p e below (T.setTop f) (fun o U' => ∃ v L, o = .returned v ∧ Q v U'.heap L ∧ FrameEnd s o U' L C S) := by
  obtain ⟨fs, hr, hrun, hended, hW, hsame⟩ := X.leave (v := v) hv hlocks
  exact ⟨_, _, st fs hr, hrun, hended, _, _, rfl, hQ, ⟨_, rfl⟩, hW, hsame.mono hc hs⟩
theorem go_endW {vm : Vm} (X : Stand p l e R (s.setVm vm) m args below meth c T locs cells slots) {k : Nat} (hS : s.Since vm k) (hk : k ≤ T.heap.size) {v : Option Value} (hv : meth.sig.returnType = none → v = none) (hlocks : meth.locks = false) {C S : Nat} (hc : cells ≤ C) (hs : slots ≤ S)
    {Q : Option Value → Heap → List Loc → Prop} (hQ : Q v T.heap locs) {f : JFrame}
    (st : ∀ fs, (∀ (f : JFrame) (acts : List Action), f.method = m → f.locked = none → f.entered = [] → (doReturn e (T.setTop f) acts v).1 = T.setFrames fs) → Steps p.tables e below (T.setTop f) (T.setFrames fs)) :
    Go p e below (T.setTop f) (fun o U' => ∃ v L, o = .returned v ∧ Q v U'.heap L ∧ ReturnedEndW s o U' L C S) := by
  obtain ⟨fs, hr, hrun, hended, e1, e2, e3, e4⟩ := X.leaveW hS hk (v := v) hv hlocks
  exact ⟨_, _, st fs hr, hrun, hended, _, _, rfl, hQ, e1, e2, e3, e4.mono hc hs⟩
theorem own_retI (X : Stand p l e R s m args below meth c T locs cells slots) (hx : p.tables.exec = Jvm.exec) {pc : Nat} {Ls : Array Slot} {z : Int32} {rest : List Value} (hret : meth.sig.returnType = some .int) (hd : decode c.code pc = .ok (.ireturn, 1)) {fs : List Frame}
    (hl : ∀ (f : JFrame) (acts : List Action), f.method = m → f.locked = none → f.entered = [] → (doReturn e (T.setTop f) acts (some (.int z))).1 = T.setFrames fs) : Steps p.tables e below (T.setTop (mkF m pc Ls (.int z :: rest))) (T.setFrames fs) :=
  retOut X hx hret rfl (Or.inl ⟨rfl, Or.inl rfl, _, rfl⟩) hd hl
theorem own_retL (X : Stand p l e R s m args below meth c T locs cells slots) (hx : p.tables.exec = Jvm.exec) {pc : Nat} {Ls : Array Slot} {z : Int64} {rest : List Value} (hret : meth.sig.returnType = some .long) (hd : decode c.code pc = .ok (.lreturn, 1)) {fs : List Frame}
    (hl : ∀ (f : JFrame) (acts : List Action), f.method = m → f.locked = none → f.entered = [] → (doReturn e (T.setTop f) acts (some (.long z))).1 = T.setFrames fs) : Steps p.tables e below (T.setTop (mkF m pc Ls (.long z :: rest))) (T.setFrames fs) :=
  retOut X hx hret rfl (Or.inr (Or.inl ⟨rfl, rfl, _, rfl⟩)) hd hl
theorem own_retA (X : Stand p l e R s m args below meth c T locs cells slots) (hx : p.tables.exec = Jvm.exec) {pc : Nat} {Ls : Array Slot} {w : Value} {t : FieldType} {rest : List Value} (hret : meth.sig.returnType = some t) (ht : t.isReference = true) (hw : w.isRef = true) (hd : decode c.code pc = .ok (.areturn, 1)) {fs : List Frame}
    (hl : ∀ (f : JFrame) (acts : List Action), f.method = m → f.locked = none → f.entered = [] → (doReturn e (T.setTop f) acts (some w)).1 = T.setFrames fs) : Steps p.tables e below (T.setTop (mkF m pc Ls (w :: rest))) (T.setFrames fs) :=
  retOut X hx hret (by cases t <;> first | rfl | (cases ht; done)) (Or.inr (Or.inr (Or.inr (Or.inr ⟨rfl, ht, hw⟩)))) hd hl
theorem own_fldI {t : Term} {C n d : String} {k : Int32} {a : Addr} (ev : t.eval args s none [] s = some (.ref a)) (h : (Jvm.Cond.eq (.field t C n d) (.int k)).value args s none s [] = some true) : Fld s s.heap a C n d (.int k) := by
  obtain ⟨x, y, h1, h2, -, kyx⟩ := cmp_v (Or.inl h)
  have e2 : y = .int k := (Option.some.inj (h2.symm.trans (Term.int_eval k)))
  subst e2
  obtain ⟨z, rfl⟩ := kyx
  have hz : z = k := by simpa [Cond.value, h1, Term.int_eval] using h
  subst hz
  rw [fld_at ev] at h1
  exact Fld.start h1
theorem own_tsw (X : Stand p l e R s m args below meth c T locs cells slots) (hexec : p.tables.exec = Jvm.exec) {g : JFrame} (hg : g.method = m) {k : Int32} {rest : List Value} (hstack : g.stack = .int k :: rest) {default low high : Int} {offsets : Array Int} {len pc0 pc' : Nat} (hpc : g.pc = pc0)
    (hdg : decode c.code g.pc = .ok (.tableswitch default low high offsets, len)) (ki : Int) (hk : k.toInt = ki) (hin : ¬ (ki < low ∨ ki > high)) (off : Int) (hoffs : offsets[(ki - low).toNat]? = some off) (hoff : 0 ≤ (pc0 : Int) + off) (hp : ((pc0 : Int) + off).toNat = pc') {target : State}
    (hr : Steps p.tables e below (T.setTop { g with pc := pc', stack := rest }) target) : Steps p.tables e below (T.setTop g) target := by
  subst hpc hk hp; exact X.tableswitchIn hexec hg hstack hdg hin hoffs hoff target hr
theorem own_ne {a b : Addr} (h : @Ne Nat a b) : a ≠ b := h
theorem own_le {a b : Nat} (h : @LE.le Nat instLENat a b) : @LE.le Nat instLENat a b := h
theorem own_nlt {a : Addr} {n : Nat} (h : a < n) : @LT.lt Nat instLTNat a n := h
theorem own_nle {a : Nat} {b : Addr} (h : a ≤ b) : @LE.le Nat instLENat a b := h
theorem own_inskeep {Z : State} {h h' : Heap} {a : Addr} {C : String} {ws : List Addr} (F : Ins Z h a C true) (K : Keep h h' ws) : Ins Z h' a C true := by
  obtain ⟨cell, cT, h1, h2, h3⟩ := F; obtain ⟨c', q, r1, r2, -⟩ := K.2.2 a cell h1; exact ⟨c', cT, q, h2, by rw [r1, r2]; exact h3⟩
theorem own_inslt {Z : State} {h : Heap} {a : Addr} {C : String} {b : Bool} (F : Ins Z h a C b) : a < h.size := by obtain ⟨_, _, h1, -⟩ := F; exact (Array.getElem?_eq_some_iff.mp h1).1
theorem own_kx {h h' : Heap} (K : Keep h h' []) : Ext h h' := ⟨K.1, fun a c q => K.2.1 a c q nin0⟩
theorem own_cache {t : Term} {C : String} {q : Jvm.Cond} {cl : Cell} {a : Addr} {ty : FieldType} (ev : ∀ idx, t.eval args s none idx s = some (.ref a)) (Ar : Arr s s.heap a cl ty)
    (h : (Jvm.Cond.all t (.and (.exactly (.elem t (.index 0)) C) q)).value args s none s [] = some true) (hz : cl.slots.size = 256) : ∀ i, i < 256 → ∃ w, cl.slots[i]? = some (.ref w) ∧ Exa s s.heap w C := fun i hi => by
  have hat : s.arrayAt? a = some cl := Arr.fin (Vm.Alike.refl _) Ar
  have hv := Cond.all_elim (ev []) hat h i (by rw [hz]; exact hi)
  obtain ⟨h1, -⟩ := and_e hv
  obtain ⟨w, ew⟩ := exa_v h1
  have ex := exa_at ew h1
  obtain ⟨p1, p2⟩ := IntBox.place_nonneg i hi
  rw [elem_f (ev [i]) (j := i.toInt32) rfl hat p1, p2] at ew
  exact ⟨w, ew, ex⟩
theorem own_stev {C n d : String} {v : Value} (h : (Term.static C n d).eval args s none [] s = some v) (idx : List Nat) : (Term.static C n d).eval args s none idx s = some v := h
theorem own_len {t : Term} {a : Addr} {cl : Cell} {ty : FieldType} {k : Int32} (ev : t.eval args s none [] s = some (.ref a)) (Ar : Arr s s.heap a cl ty) (h : (Jvm.Cond.eq (.length t) (.int k)).value args s none s [] = some true) (hk : ¬ k < 0) : cl.slots.size = k.toNatClampNeg := by
  have hat : s.arrayAt? a = some cl := Arr.fin (Vm.Alike.refl _) Ar
  obtain ⟨x, y, h1, h2, -, kyx⟩ := cmp_v (Or.inl h)
  have e2 : y = .int k := (Option.some.inj (h2.symm.trans (Term.int_eval k)))
  subst e2
  obtain ⟨z, rfl⟩ := kyx
  have hz : z = k := by simpa [Cond.value, h1, Term.int_eval] using h
  subst hz
  have hl : cl.slots.size < 2 ^ 31 := by
    by_cases q : cl.slots.size < 2 ^ 31
    · exact q
    · simp [Term.eval, ev, hat, q] at h1
  rw [len_f ev hat hl] at h1
  have h3 : cl.slots.size.toInt32 = z := by simpa using h1
  rw [← h3]
  have h4 := len_toInt hl
  simp only [Int32.toNatClampNeg, h4]; rfl
end Own
theorem d2_0 : decode jdk_37_method_2_code 0 = .ok (.aload_n 0, 1) := by decide +kernel
theorem d2_1 : decode jdk_37_method_2_code 1 = .ok (.getfield 7, 3) := by decide +kernel
theorem d2_4 : decode jdk_37_method_2_code 4 = .ok (.ireturn, 1) := by decide +kernel
def Q_rm2 (Z : State) (a : Addr) (o : Int32) (h0 : Heap) (n0 : Nat) (v : Option Value) (h : Heap) (L : List Loc) : Prop := v = some (.int o) ∧ Fr n0 L ∧ h = h0
theorem pn_java_lang_Enum : plainName "java/lang/Enum" = true := by first | (simp [plainName, overriddenIn]; done) | decide +kernel
theorem ef_rm2 (m : MethodId) (a : Addr)  : entryFrame m #[(.ref a)] 1 = mkF m 0 #[.val (.ref a)] [] := by first | (simp [entryFrame, mkF, argsToLocals, Value.category]; done) | rfl
set_option maxRecDepth 65536 in
set_option maxHeartbeats 40000000 in
theorem rm2 (l : Launch) (Z : State) (a0 : Array Value) (hw : ∀ d ∈ tables_1, d.before a0 Z = true) (ws : List Jvm.Cond) (a : Addr) (o : Int32) (h0 : Heap) (n0 : Nat) (Z0 : n0 ≤ h0.size) (F : Fld Z h0 a "java/lang/Enum" "ordinal" "I" (.int o)) :
    MetFree l (⟨"java/lang/Enum", "ordinal", "()I"⟩ : MethodName) (head1 (Jvm.Cond.code (⟨"java/lang/Enum", "ordinal", "()I"⟩ : MethodName) jdk_37_method_2_code 1 (some .int) :: ws) ({ frames := 0, cells := 0, slots := 0, locals := 0 } : Room)) (fun aa' U1' => aa' = #[(.ref a)] ∧ Z.Warmed39 U1'.vm ∧ U1'.heap = h0) (fun _ _ _ _ _ => True) (fun _ U1' oo' U2' => ∃ vv' LL', oo' = .returned vv' ∧ (Q_rm2 Z a o h0 n0) vv' U2'.heap LL' ∧ FrameEnd U1' oo' U2' LL' ({ frames := 0, cells := 0, slots := 0, locals := 0 } : Room).cells ({ frames := 0, cells := 0, slots := 0, locals := 0 } : Room).slots) := by
  refine MetFree.of_bodySF (plainFor_of_name pn_java_lang_Enum) hisR ?_
  intro p e s m args below meth c s₁ Bd hml0 hP hK
  obtain ⟨rfl, hZ, hh⟩ := hP
  have hx := Bd.exec
  have hby := Bd.bytes
  have hml : c.maxLocals = 1 := hml0
  have hown : s.vm.findClass "java/lang/Enum" = some m.cls := findClass_of_methodNamed Bd.named
  have hnm := (name_of_methodNamed Bd.named Bd.method).1
  have X0 : Stand p l e ({ frames := 0, cells := 0, slots := 0, locals := 0 } : Room) s m #[(.ref a)] below meth c s₁ [] 0 0 := Stand.of_body Bd
  have e0 : s₁.heap = h0 := by rw [← hh, Bd.state]; rfl
  have N0 := Fr.nil n0
  refine go_of (A := s₁.setTop (entryFrame m #[(.ref a)] 1)) (B := s₁.setTop (mkF m 0 #[.val (.ref a)] [])) (fun _ kk' => castTop (ef_rm2 m a) kk') ?_
  refine go_of (B := (s₁.setTop (mkF m 1 #[.val (.ref a)] [(.ref a)]))) (fun _ kk => XS.aloadN X0.here hx rfl (hb hby d2_0) rfl rfl kk) ?_
  obtain ⟨T1, X1, e1, st1⟩ := getF X0 hx hZ hown (host := "") (Or.inl (hw _ (List.mem_of_getElem? (i := 16) rfl))) Via.refl e0 F (g := (mkF m 1 #[.val (.ref a)] [(.ref a)])) rfl rfl (hb hby d2_1)
  refine go_of (B := (T1.setTop (mkF m 4 #[.val (.ref a)] [(.int o)]))) (st1) ?_
  refine go_end X1 (v := some (.int o)) (fun h => by rw [Bd.returns] at h; cases h) Bd.notSynchronized (by decide) (by decide) (Q := (Q_rm2 Z a o h0 n0)) ?_ (fun fs hr => own_retI X1 hx Bd.returns (hb hby d2_4) hr)
  show (fun (v : Option Value) (h : Heap) (L : List Loc) => v = some (.int o) ∧ Fr n0 L ∧ h = h0) (some (.int o)) T1.heap _
  rw [e1]
  exact ⟨rfl, N0, rfl⟩
def own_h0 (p : Int32) : Int32 := if p = 0 then 1 else 0
theorem d1_0 : decode prog_59_method_5_code 0 = .ok (.aload_n 0, 1) := by decide +kernel
theorem d1_1 : decode prog_59_method_5_code 1 = .ok (.invokevirtual 45, 3) := by decide +kernel
theorem pd___I : parseMethodDescriptor "()I" = some ⟨[], some .int⟩ := by decide +kernel
theorem d1_4 : decode prog_59_method_5_code 4 = .ok (.tableswitch 40 0 5 #[50, 62, 74, 86, 98, 110], 40) := by decide +kernel
theorem d1_54 : decode prog_59_method_5_code 54 = .ok (.iload_n 1, 1) := by decide +kernel
theorem d1_55 : decode prog_59_method_5_code 55 = .ok (.ifCond .ne 7, 3) := by decide +kernel
theorem d1_58 : decode prog_59_method_5_code 58 = .ok (.iconst 1, 1) := by decide +kernel
theorem d1_59 : decode prog_59_method_5_code 59 = .ok (.goto 64, 3) := by decide +kernel
theorem d1_123 : decode prog_59_method_5_code 123 = .ok (.ireturn, 1) := by decide +kernel
def Q_rmh0 (Z : State) (a : Addr) (od : Int32) (h0 : Heap) (n0 : Nat) (v : Option Value) (h : Heap) (L : List Loc) : Prop := v = some (.int (own_h0 od)) ∧ Fr n0 L ∧ h = h0
theorem d1_62 : decode prog_59_method_5_code 62 = .ok (.iconst 0, 1) := by decide +kernel
theorem d1_63 : decode prog_59_method_5_code 63 = .ok (.goto 60, 3) := by decide +kernel
theorem pn_com_example_sure_paths_surepaths_model_PropertyCondition_Operator : plainName "com/example/sure_paths/surepaths/model/PropertyCondition$Operator" = true := by first | (simp [plainName, overriddenIn]; done) | decide +kernel
theorem ef_rmh0 (m : MethodId) (a : Addr) (od : Int32)  : entryFrame m #[(.ref a), (.int od)] 2 = mkF m 0 #[.val (.ref a), .val (.int od)] [] := by first | (simp [entryFrame, mkF, argsToLocals, Value.category]; done) | rfl
set_option maxRecDepth 65536 in
set_option maxHeartbeats 40000000 in
theorem rmh0 (l : Launch) (Z : State) (a0 : Array Value) (hw : ∀ d ∈ tables_1, d.before a0 Z = true) (ws : List Jvm.Cond) (a : Addr) (od : Int32) (h0 : Heap) (n0 : Nat) (Z0 : n0 ≤ h0.size) (E : Exa Z h0 a "com/example/sure_paths/surepaths/model/PropertyCondition$Operator") (F : Fld Z h0 a "java/lang/Enum" "ordinal" "I" (.int 0)) :
    MetFree l (⟨"com/example/sure_paths/surepaths/model/PropertyCondition$Operator", "holds", "(I)Z"⟩ : MethodName) (head1 (Jvm.Cond.code (⟨"com/example/sure_paths/surepaths/model/PropertyCondition$Operator", "holds", "(I)Z"⟩ : MethodName) prog_59_method_5_code 2 (some .boolean) :: ws) ({ frames := 1, cells := 0, slots := 0, locals := 12 } : Room)) (fun aa' U1' => aa' = #[(.ref a), (.int od)] ∧ Z.Warmed39 U1'.vm ∧ U1'.heap = h0) (fun _ _ _ _ _ => True) (fun _ U1' oo' U2' => ∃ vv' LL', oo' = .returned vv' ∧ (Q_rmh0 Z a od h0 n0) vv' U2'.heap LL' ∧ FrameEnd U1' oo' U2' LL' ({ frames := 1, cells := 0, slots := 0, locals := 12 } : Room).cells ({ frames := 1, cells := 0, slots := 0, locals := 12 } : Room).slots) := by
  refine MetFree.of_bodySF (plainFor_of_name pn_com_example_sure_paths_surepaths_model_PropertyCondition_Operator) hisR ?_
  intro p e s m args below meth c s₁ Bd hml0 hP hK
  obtain ⟨rfl, hZ, hh⟩ := hP
  have hx := Bd.exec
  have hby := Bd.bytes
  have hml : c.maxLocals = 2 := hml0
  have hown : s.vm.findClass "com/example/sure_paths/surepaths/model/PropertyCondition$Operator" = some m.cls := findClass_of_methodNamed Bd.named
  have hnm := (name_of_methodNamed Bd.named Bd.method).1
  have X0 : Stand p l e ({ frames := 1, cells := 0, slots := 0, locals := 12 } : Room) s m #[(.ref a), (.int od)] below meth c s₁ [] 0 0 := Stand.of_body Bd
  have e0 : s₁.heap = h0 := by rw [← hh, Bd.state]; rfl
  have N0 := Fr.nil n0
  refine go_of (A := s₁.setTop (entryFrame m #[(.ref a), (.int od)] 2)) (B := s₁.setTop (mkF m 0 #[.val (.ref a), .val (.int od)] [])) (fun _ kk' => castTop (ef_rmh0 m a od) kk') ?_
  refine go_of (B := (s₁.setTop (mkF m 1 #[.val (.ref a), .val (.int od)] [(.ref a)]))) (fun _ kk => XS.aloadN X0.here hx rfl (hb hby d1_0) rfl rfl kk) ?_
  obtain ⟨cq1, kq1, q1a, q1b, q1c⟩ := isOf hZ e0 E
  obtain ⟨_, _, ⟨T1, L1, k1, n1⟩, -, X1, ⟨Lc1, hQ1, l1, y1, z1⟩, st1⟩ := X0.virtualBackUp hx (owner := "java/lang/Enum") (x := (⟨"com/example/sure_paths/surepaths/model/PropertyCondition$Operator", "ordinal", "()I"⟩ : MethodName)) (y := (⟨"java/lang/Enum", "ordinal", "()I"⟩ : MethodName)) hown (mvT hZ (hw _ (List.mem_of_getElem? (i := 9) rfl))) (mvT hZ (hw _ (List.mem_of_getElem? (i := 10) rfl))) (mvT hZ (hw _ (List.mem_of_getElem? (i := 11) rfl))) (by decide) (mvT hZ (hw _ (List.mem_of_getElem? (i := 13) rfl))) (mvT hZ (hw _ (List.mem_of_getElem? (i := 12) rfl))) (backOf (W := 0) (rm2 l Z a0 hw [] a 0 h0 n0 Z0 F) hZ (hw _ (List.mem_of_getElem? (i := 15) rfl)) (hw _ (List.mem_of_getElem? (i := 14) rfl)) (by decide) (by decide)) q1a q1c (g := (mkF m 1 #[.val (.ref a), .val (.int od)] [(.ref a)])) rfl (by rw [hml]; rfl) (Steps.refl _) (argsL := []) (rest := []) (lenOf pd___I rfl) rfl (by show 2 * 0 + _ ≤ _; exact Nat.le_of_eq rfl) (hb hby d1_1) (fun _ _ => ⟨rfl, e0, (by decide : 0 + 0 ≤ _), (by decide : 0 + 0 ≤ _)⟩)
  dsimp only [Pt.U, Pt.locs, Pt.cells, Pt.slots] at X1 l1 y1 z1 st1 hQ1
  subst l1 y1 z1
  obtain ⟨rfl, N1q, e1⟩ := hQ1
  have N1 := Fr.app N0 N1q
  refine go_tr (B := (T1.setTop (mkF m 4 #[.val (.ref a), .val (.int od)] [(.int (0 : Int32))]))) (st1) ?_
  refine go_of (B := (T1.setTop (mkF m 54 #[.val (.ref a), .val (.int od)] []))) (fun _ kk => own_tsw (g := (mkF m 4 #[.val (.ref a), .val (.int od)] [(.int (0 : Int32))])) X1 hx rfl rfl (pc0 := 4) (pc' := 54) rfl (hb hby d1_4) 0 (by decide) (by decide) 50 (by decide) (by decide) (by decide) kk) ?_
  refine go_of (B := (T1.setTop (mkF m 55 #[.val (.ref a), .val (.int od)] [(.int od)]))) (fun _ kk => XS.iloadN X1.here hx rfl (hb hby d1_54) rfl kk) ?_
  by_cases hc2 : od = (0 : Int32)
  · refine go_of (B := (T1.setTop (mkF m 58 #[.val (.ref a), .val (.int od)] []))) (fun _ kk => XS.ifNo X1.here hx rfl (hb hby d1_55) rfl ((if0 _ _).trans (teq hc2).2) kk) ?_
    refine go_of (B := (T1.setTop (mkF m 59 #[.val (.ref a), .val (.int od)] [(.int (1 : Int32))]))) (fun _ kk => XS.iconst X1.here hx rfl (hb hby d1_58) kk) ?_
    refine go_of (B := (T1.setTop (mkF m 123 #[.val (.ref a), .val (.int od)] [(.int (1 : Int32))]))) (fun _ kk => XS.goto X1.here hx rfl (pc0 := 59) (pc' := 123) rfl (hb hby d1_59) (by decide) (by decide) kk) ?_
    refine go_end X1 (v := some (.int (nar .boolean (1 : Int32)))) (fun h => by rw [Bd.returns] at h; cases h) Bd.notSynchronized (by decide) (by decide) (Q := (Q_rmh0 Z a od h0 n0)) ?_ (fun fs hr => retN X1 hx (t := .boolean) Bd.returns (by simp) (hb hby d1_123) hr)
    show (fun (v : Option Value) (h : Heap) (L : List Loc) => v = some (.int (own_h0 od)) ∧ Fr n0 L ∧ h = h0) (some (.int (nar .boolean (1 : Int32)))) T1.heap _
    rw [e1]
    refine ⟨?_, N1, rfl⟩
    simp [own_h0, nar, hc2]
  · refine go_of (B := (T1.setTop (mkF m 62 #[.val (.ref a), .val (.int od)] []))) (fun _ kk => XS.ifYes X1.here hx rfl (pc0 := 55) (pc' := 62) rfl (hb hby d1_55) rfl ((if0 _ _).trans (feq hc2).2) (by decide) (by decide) kk) ?_
    refine go_of (B := (T1.setTop (mkF m 63 #[.val (.ref a), .val (.int od)] [(.int (0 : Int32))]))) (fun _ kk => XS.iconst X1.here hx rfl (hb hby d1_62) kk) ?_
    refine go_of (B := (T1.setTop (mkF m 123 #[.val (.ref a), .val (.int od)] [(.int (0 : Int32))]))) (fun _ kk => XS.goto X1.here hx rfl (pc0 := 63) (pc' := 123) rfl (hb hby d1_63) (by decide) (by decide) kk) ?_
    refine go_end X1 (v := some (.int (nar .boolean (0 : Int32)))) (fun h => by rw [Bd.returns] at h; cases h) Bd.notSynchronized (by decide) (by decide) (Q := (Q_rmh0 Z a od h0 n0)) ?_ (fun fs hr => retN X1 hx (t := .boolean) Bd.returns (by simp) (hb hby d1_123) hr)
    show (fun (v : Option Value) (h : Heap) (L : List Loc) => v = some (.int (own_h0 od)) ∧ Fr n0 L ∧ h = h0) (some (.int (nar .boolean (0 : Int32)))) T1.heap _
    rw [e1]
    refine ⟨?_, N1, rfl⟩
    simp [own_h0, nar, hc2]
def own_h1 (p : Int32) : Int32 := if p = 0 then 0 else 1
theorem d1_66 : decode prog_59_method_5_code 66 = .ok (.iload_n 1, 1) := by decide +kernel
theorem d1_67 : decode prog_59_method_5_code 67 = .ok (.ifCond .eq 7, 3) := by decide +kernel
theorem d1_74 : decode prog_59_method_5_code 74 = .ok (.iconst 0, 1) := by decide +kernel
theorem d1_75 : decode prog_59_method_5_code 75 = .ok (.goto 48, 3) := by decide +kernel
def Q_rmh1 (Z : State) (a : Addr) (od : Int32) (h0 : Heap) (n0 : Nat) (v : Option Value) (h : Heap) (L : List Loc) : Prop := v = some (.int (own_h1 od)) ∧ Fr n0 L ∧ h = h0
theorem d1_70 : decode prog_59_method_5_code 70 = .ok (.iconst 1, 1) := by decide +kernel
theorem d1_71 : decode prog_59_method_5_code 71 = .ok (.goto 52, 3) := by decide +kernel
theorem ef_rmh1 (m : MethodId) (a : Addr) (od : Int32)  : entryFrame m #[(.ref a), (.int od)] 2 = mkF m 0 #[.val (.ref a), .val (.int od)] [] := by first | (simp [entryFrame, mkF, argsToLocals, Value.category]; done) | rfl
set_option maxRecDepth 65536 in
set_option maxHeartbeats 40000000 in
theorem rmh1 (l : Launch) (Z : State) (a0 : Array Value) (hw : ∀ d ∈ tables_1, d.before a0 Z = true) (ws : List Jvm.Cond) (a : Addr) (od : Int32) (h0 : Heap) (n0 : Nat) (Z0 : n0 ≤ h0.size) (E : Exa Z h0 a "com/example/sure_paths/surepaths/model/PropertyCondition$Operator") (F : Fld Z h0 a "java/lang/Enum" "ordinal" "I" (.int 1)) :
    MetFree l (⟨"com/example/sure_paths/surepaths/model/PropertyCondition$Operator", "holds", "(I)Z"⟩ : MethodName) (head1 (Jvm.Cond.code (⟨"com/example/sure_paths/surepaths/model/PropertyCondition$Operator", "holds", "(I)Z"⟩ : MethodName) prog_59_method_5_code 2 (some .boolean) :: ws) ({ frames := 1, cells := 0, slots := 0, locals := 12 } : Room)) (fun aa' U1' => aa' = #[(.ref a), (.int od)] ∧ Z.Warmed39 U1'.vm ∧ U1'.heap = h0) (fun _ _ _ _ _ => True) (fun _ U1' oo' U2' => ∃ vv' LL', oo' = .returned vv' ∧ (Q_rmh1 Z a od h0 n0) vv' U2'.heap LL' ∧ FrameEnd U1' oo' U2' LL' ({ frames := 1, cells := 0, slots := 0, locals := 12 } : Room).cells ({ frames := 1, cells := 0, slots := 0, locals := 12 } : Room).slots) := by
  refine MetFree.of_bodySF (plainFor_of_name pn_com_example_sure_paths_surepaths_model_PropertyCondition_Operator) hisR ?_
  intro p e s m args below meth c s₁ Bd hml0 hP hK
  obtain ⟨rfl, hZ, hh⟩ := hP
  have hx := Bd.exec
  have hby := Bd.bytes
  have hml : c.maxLocals = 2 := hml0
  have hown : s.vm.findClass "com/example/sure_paths/surepaths/model/PropertyCondition$Operator" = some m.cls := findClass_of_methodNamed Bd.named
  have hnm := (name_of_methodNamed Bd.named Bd.method).1
  have X0 : Stand p l e ({ frames := 1, cells := 0, slots := 0, locals := 12 } : Room) s m #[(.ref a), (.int od)] below meth c s₁ [] 0 0 := Stand.of_body Bd
  have e0 : s₁.heap = h0 := by rw [← hh, Bd.state]; rfl
  have N0 := Fr.nil n0
  refine go_of (A := s₁.setTop (entryFrame m #[(.ref a), (.int od)] 2)) (B := s₁.setTop (mkF m 0 #[.val (.ref a), .val (.int od)] [])) (fun _ kk' => castTop (ef_rmh1 m a od) kk') ?_
  refine go_of (B := (s₁.setTop (mkF m 1 #[.val (.ref a), .val (.int od)] [(.ref a)]))) (fun _ kk => XS.aloadN X0.here hx rfl (hb hby d1_0) rfl rfl kk) ?_
  obtain ⟨cq1, kq1, q1a, q1b, q1c⟩ := isOf hZ e0 E
  obtain ⟨_, _, ⟨T1, L1, k1, n1⟩, -, X1, ⟨Lc1, hQ1, l1, y1, z1⟩, st1⟩ := X0.virtualBackUp hx (owner := "java/lang/Enum") (x := (⟨"com/example/sure_paths/surepaths/model/PropertyCondition$Operator", "ordinal", "()I"⟩ : MethodName)) (y := (⟨"java/lang/Enum", "ordinal", "()I"⟩ : MethodName)) hown (mvT hZ (hw _ (List.mem_of_getElem? (i := 9) rfl))) (mvT hZ (hw _ (List.mem_of_getElem? (i := 10) rfl))) (mvT hZ (hw _ (List.mem_of_getElem? (i := 11) rfl))) (by decide) (mvT hZ (hw _ (List.mem_of_getElem? (i := 13) rfl))) (mvT hZ (hw _ (List.mem_of_getElem? (i := 12) rfl))) (backOf (W := 0) (rm2 l Z a0 hw [] a 1 h0 n0 Z0 F) hZ (hw _ (List.mem_of_getElem? (i := 15) rfl)) (hw _ (List.mem_of_getElem? (i := 14) rfl)) (by decide) (by decide)) q1a q1c (g := (mkF m 1 #[.val (.ref a), .val (.int od)] [(.ref a)])) rfl (by rw [hml]; rfl) (Steps.refl _) (argsL := []) (rest := []) (lenOf pd___I rfl) rfl (by show 2 * 0 + _ ≤ _; exact Nat.le_of_eq rfl) (hb hby d1_1) (fun _ _ => ⟨rfl, e0, (by decide : 0 + 0 ≤ _), (by decide : 0 + 0 ≤ _)⟩)
  dsimp only [Pt.U, Pt.locs, Pt.cells, Pt.slots] at X1 l1 y1 z1 st1 hQ1
  subst l1 y1 z1
  obtain ⟨rfl, N1q, e1⟩ := hQ1
  have N1 := Fr.app N0 N1q
  refine go_tr (B := (T1.setTop (mkF m 4 #[.val (.ref a), .val (.int od)] [(.int (1 : Int32))]))) (st1) ?_
  refine go_of (B := (T1.setTop (mkF m 66 #[.val (.ref a), .val (.int od)] []))) (fun _ kk => own_tsw (g := (mkF m 4 #[.val (.ref a), .val (.int od)] [(.int (1 : Int32))])) X1 hx rfl rfl (pc0 := 4) (pc' := 66) rfl (hb hby d1_4) 1 (by decide) (by decide) 62 (by decide) (by decide) (by decide) kk) ?_
  refine go_of (B := (T1.setTop (mkF m 67 #[.val (.ref a), .val (.int od)] [(.int od)]))) (fun _ kk => XS.iloadN X1.here hx rfl (hb hby d1_66) rfl kk) ?_
  by_cases hc2 : od = (0 : Int32)
  · refine go_of (B := (T1.setTop (mkF m 74 #[.val (.ref a), .val (.int od)] []))) (fun _ kk => XS.ifYes X1.here hx rfl (pc0 := 67) (pc' := 74) rfl (hb hby d1_67) rfl ((if0 _ _).trans (teq hc2).1) (by decide) (by decide) kk) ?_
    refine go_of (B := (T1.setTop (mkF m 75 #[.val (.ref a), .val (.int od)] [(.int (0 : Int32))]))) (fun _ kk => XS.iconst X1.here hx rfl (hb hby d1_74) kk) ?_
    refine go_of (B := (T1.setTop (mkF m 123 #[.val (.ref a), .val (.int od)] [(.int (0 : Int32))]))) (fun _ kk => XS.goto X1.here hx rfl (pc0 := 75) (pc' := 123) rfl (hb hby d1_75) (by decide) (by decide) kk) ?_
    refine go_end X1 (v := some (.int (nar .boolean (0 : Int32)))) (fun h => by rw [Bd.returns] at h; cases h) Bd.notSynchronized (by decide) (by decide) (Q := (Q_rmh1 Z a od h0 n0)) ?_ (fun fs hr => retN X1 hx (t := .boolean) Bd.returns (by simp) (hb hby d1_123) hr)
    show (fun (v : Option Value) (h : Heap) (L : List Loc) => v = some (.int (own_h1 od)) ∧ Fr n0 L ∧ h = h0) (some (.int (nar .boolean (0 : Int32)))) T1.heap _
    rw [e1]
    refine ⟨?_, N1, rfl⟩
    simp [own_h1, nar, hc2]
  · refine go_of (B := (T1.setTop (mkF m 70 #[.val (.ref a), .val (.int od)] []))) (fun _ kk => XS.ifNo X1.here hx rfl (hb hby d1_67) rfl ((if0 _ _).trans (feq hc2).1) kk) ?_
    refine go_of (B := (T1.setTop (mkF m 71 #[.val (.ref a), .val (.int od)] [(.int (1 : Int32))]))) (fun _ kk => XS.iconst X1.here hx rfl (hb hby d1_70) kk) ?_
    refine go_of (B := (T1.setTop (mkF m 123 #[.val (.ref a), .val (.int od)] [(.int (1 : Int32))]))) (fun _ kk => XS.goto X1.here hx rfl (pc0 := 71) (pc' := 123) rfl (hb hby d1_71) (by decide) (by decide) kk) ?_
    refine go_end X1 (v := some (.int (nar .boolean (1 : Int32)))) (fun h => by rw [Bd.returns] at h; cases h) Bd.notSynchronized (by decide) (by decide) (Q := (Q_rmh1 Z a od h0 n0)) ?_ (fun fs hr => retN X1 hx (t := .boolean) Bd.returns (by simp) (hb hby d1_123) hr)
    show (fun (v : Option Value) (h : Heap) (L : List Loc) => v = some (.int (own_h1 od)) ∧ Fr n0 L ∧ h = h0) (some (.int (nar .boolean (1 : Int32)))) T1.heap _
    rw [e1]
    refine ⟨?_, N1, rfl⟩
    simp [own_h1, nar, hc2]
def own_h2 (p : Int32) : Int32 := if p < 0 then 1 else 0
theorem d1_78 : decode prog_59_method_5_code 78 = .ok (.iload_n 1, 1) := by decide +kernel
theorem d1_79 : decode prog_59_method_5_code 79 = .ok (.ifCond .ge 7, 3) := by decide +kernel
theorem d1_82 : decode prog_59_method_5_code 82 = .ok (.iconst 1, 1) := by decide +kernel
theorem d1_83 : decode prog_59_method_5_code 83 = .ok (.goto 40, 3) := by decide +kernel
def Q_rmh2 (Z : State) (a : Addr) (od : Int32) (h0 : Heap) (n0 : Nat) (v : Option Value) (h : Heap) (L : List Loc) : Prop := v = some (.int (own_h2 od)) ∧ Fr n0 L ∧ h = h0
theorem d1_86 : decode prog_59_method_5_code 86 = .ok (.iconst 0, 1) := by decide +kernel
theorem d1_87 : decode prog_59_method_5_code 87 = .ok (.goto 36, 3) := by decide +kernel
theorem ef_rmh2 (m : MethodId) (a : Addr) (od : Int32)  : entryFrame m #[(.ref a), (.int od)] 2 = mkF m 0 #[.val (.ref a), .val (.int od)] [] := by first | (simp [entryFrame, mkF, argsToLocals, Value.category]; done) | rfl
set_option maxRecDepth 65536 in
set_option maxHeartbeats 40000000 in
theorem rmh2 (l : Launch) (Z : State) (a0 : Array Value) (hw : ∀ d ∈ tables_1, d.before a0 Z = true) (ws : List Jvm.Cond) (a : Addr) (od : Int32) (h0 : Heap) (n0 : Nat) (Z0 : n0 ≤ h0.size) (E : Exa Z h0 a "com/example/sure_paths/surepaths/model/PropertyCondition$Operator") (F : Fld Z h0 a "java/lang/Enum" "ordinal" "I" (.int 2)) :
    MetFree l (⟨"com/example/sure_paths/surepaths/model/PropertyCondition$Operator", "holds", "(I)Z"⟩ : MethodName) (head1 (Jvm.Cond.code (⟨"com/example/sure_paths/surepaths/model/PropertyCondition$Operator", "holds", "(I)Z"⟩ : MethodName) prog_59_method_5_code 2 (some .boolean) :: ws) ({ frames := 1, cells := 0, slots := 0, locals := 12 } : Room)) (fun aa' U1' => aa' = #[(.ref a), (.int od)] ∧ Z.Warmed39 U1'.vm ∧ U1'.heap = h0) (fun _ _ _ _ _ => True) (fun _ U1' oo' U2' => ∃ vv' LL', oo' = .returned vv' ∧ (Q_rmh2 Z a od h0 n0) vv' U2'.heap LL' ∧ FrameEnd U1' oo' U2' LL' ({ frames := 1, cells := 0, slots := 0, locals := 12 } : Room).cells ({ frames := 1, cells := 0, slots := 0, locals := 12 } : Room).slots) := by
  refine MetFree.of_bodySF (plainFor_of_name pn_com_example_sure_paths_surepaths_model_PropertyCondition_Operator) hisR ?_
  intro p e s m args below meth c s₁ Bd hml0 hP hK
  obtain ⟨rfl, hZ, hh⟩ := hP
  have hx := Bd.exec
  have hby := Bd.bytes
  have hml : c.maxLocals = 2 := hml0
  have hown : s.vm.findClass "com/example/sure_paths/surepaths/model/PropertyCondition$Operator" = some m.cls := findClass_of_methodNamed Bd.named
  have hnm := (name_of_methodNamed Bd.named Bd.method).1
  have X0 : Stand p l e ({ frames := 1, cells := 0, slots := 0, locals := 12 } : Room) s m #[(.ref a), (.int od)] below meth c s₁ [] 0 0 := Stand.of_body Bd
  have e0 : s₁.heap = h0 := by rw [← hh, Bd.state]; rfl
  have N0 := Fr.nil n0
  refine go_of (A := s₁.setTop (entryFrame m #[(.ref a), (.int od)] 2)) (B := s₁.setTop (mkF m 0 #[.val (.ref a), .val (.int od)] [])) (fun _ kk' => castTop (ef_rmh2 m a od) kk') ?_
  refine go_of (B := (s₁.setTop (mkF m 1 #[.val (.ref a), .val (.int od)] [(.ref a)]))) (fun _ kk => XS.aloadN X0.here hx rfl (hb hby d1_0) rfl rfl kk) ?_
  obtain ⟨cq1, kq1, q1a, q1b, q1c⟩ := isOf hZ e0 E
  obtain ⟨_, _, ⟨T1, L1, k1, n1⟩, -, X1, ⟨Lc1, hQ1, l1, y1, z1⟩, st1⟩ := X0.virtualBackUp hx (owner := "java/lang/Enum") (x := (⟨"com/example/sure_paths/surepaths/model/PropertyCondition$Operator", "ordinal", "()I"⟩ : MethodName)) (y := (⟨"java/lang/Enum", "ordinal", "()I"⟩ : MethodName)) hown (mvT hZ (hw _ (List.mem_of_getElem? (i := 9) rfl))) (mvT hZ (hw _ (List.mem_of_getElem? (i := 10) rfl))) (mvT hZ (hw _ (List.mem_of_getElem? (i := 11) rfl))) (by decide) (mvT hZ (hw _ (List.mem_of_getElem? (i := 13) rfl))) (mvT hZ (hw _ (List.mem_of_getElem? (i := 12) rfl))) (backOf (W := 0) (rm2 l Z a0 hw [] a 2 h0 n0 Z0 F) hZ (hw _ (List.mem_of_getElem? (i := 15) rfl)) (hw _ (List.mem_of_getElem? (i := 14) rfl)) (by decide) (by decide)) q1a q1c (g := (mkF m 1 #[.val (.ref a), .val (.int od)] [(.ref a)])) rfl (by rw [hml]; rfl) (Steps.refl _) (argsL := []) (rest := []) (lenOf pd___I rfl) rfl (by show 2 * 0 + _ ≤ _; exact Nat.le_of_eq rfl) (hb hby d1_1) (fun _ _ => ⟨rfl, e0, (by decide : 0 + 0 ≤ _), (by decide : 0 + 0 ≤ _)⟩)
  dsimp only [Pt.U, Pt.locs, Pt.cells, Pt.slots] at X1 l1 y1 z1 st1 hQ1
  subst l1 y1 z1
  obtain ⟨rfl, N1q, e1⟩ := hQ1
  have N1 := Fr.app N0 N1q
  refine go_tr (B := (T1.setTop (mkF m 4 #[.val (.ref a), .val (.int od)] [(.int (2 : Int32))]))) (st1) ?_
  refine go_of (B := (T1.setTop (mkF m 78 #[.val (.ref a), .val (.int od)] []))) (fun _ kk => own_tsw (g := (mkF m 4 #[.val (.ref a), .val (.int od)] [(.int (2 : Int32))])) X1 hx rfl rfl (pc0 := 4) (pc' := 78) rfl (hb hby d1_4) 2 (by decide) (by decide) 74 (by decide) (by decide) (by decide) kk) ?_
  refine go_of (B := (T1.setTop (mkF m 79 #[.val (.ref a), .val (.int od)] [(.int od)]))) (fun _ kk => XS.iloadN X1.here hx rfl (hb hby d1_78) rfl kk) ?_
  by_cases hc2 : od < (0 : Int32)
  · refine go_of (B := (T1.setTop (mkF m 82 #[.val (.ref a), .val (.int od)] []))) (fun _ kk => XS.ifNo X1.here hx rfl (hb hby d1_79) rfl ((if0 _ _).trans (tlt hc2).2.1) kk) ?_
    refine go_of (B := (T1.setTop (mkF m 83 #[.val (.ref a), .val (.int od)] [(.int (1 : Int32))]))) (fun _ kk => XS.iconst X1.here hx rfl (hb hby d1_82) kk) ?_
    refine go_of (B := (T1.setTop (mkF m 123 #[.val (.ref a), .val (.int od)] [(.int (1 : Int32))]))) (fun _ kk => XS.goto X1.here hx rfl (pc0 := 83) (pc' := 123) rfl (hb hby d1_83) (by decide) (by decide) kk) ?_
    refine go_end X1 (v := some (.int (nar .boolean (1 : Int32)))) (fun h => by rw [Bd.returns] at h; cases h) Bd.notSynchronized (by decide) (by decide) (Q := (Q_rmh2 Z a od h0 n0)) ?_ (fun fs hr => retN X1 hx (t := .boolean) Bd.returns (by simp) (hb hby d1_123) hr)
    show (fun (v : Option Value) (h : Heap) (L : List Loc) => v = some (.int (own_h2 od)) ∧ Fr n0 L ∧ h = h0) (some (.int (nar .boolean (1 : Int32)))) T1.heap _
    rw [e1]
    refine ⟨?_, N1, rfl⟩
    simp [own_h2, nar, hc2]
  · refine go_of (B := (T1.setTop (mkF m 86 #[.val (.ref a), .val (.int od)] []))) (fun _ kk => XS.ifYes X1.here hx rfl (pc0 := 79) (pc' := 86) rfl (hb hby d1_79) rfl ((if0 _ _).trans (flt hc2).2.1) (by decide) (by decide) kk) ?_
    refine go_of (B := (T1.setTop (mkF m 87 #[.val (.ref a), .val (.int od)] [(.int (0 : Int32))]))) (fun _ kk => XS.iconst X1.here hx rfl (hb hby d1_86) kk) ?_
    refine go_of (B := (T1.setTop (mkF m 123 #[.val (.ref a), .val (.int od)] [(.int (0 : Int32))]))) (fun _ kk => XS.goto X1.here hx rfl (pc0 := 87) (pc' := 123) rfl (hb hby d1_87) (by decide) (by decide) kk) ?_
    refine go_end X1 (v := some (.int (nar .boolean (0 : Int32)))) (fun h => by rw [Bd.returns] at h; cases h) Bd.notSynchronized (by decide) (by decide) (Q := (Q_rmh2 Z a od h0 n0)) ?_ (fun fs hr => retN X1 hx (t := .boolean) Bd.returns (by simp) (hb hby d1_123) hr)
    show (fun (v : Option Value) (h : Heap) (L : List Loc) => v = some (.int (own_h2 od)) ∧ Fr n0 L ∧ h = h0) (some (.int (nar .boolean (0 : Int32)))) T1.heap _
    rw [e1]
    refine ⟨?_, N1, rfl⟩
    simp [own_h2, nar, hc2]
def own_h3 (p : Int32) : Int32 := if 0 < p then 0 else 1
theorem d1_90 : decode prog_59_method_5_code 90 = .ok (.iload_n 1, 1) := by decide +kernel
theorem d1_91 : decode prog_59_method_5_code 91 = .ok (.ifCond .gt 7, 3) := by decide +kernel
theorem d1_98 : decode prog_59_method_5_code 98 = .ok (.iconst 0, 1) := by decide +kernel
theorem d1_99 : decode prog_59_method_5_code 99 = .ok (.goto 24, 3) := by decide +kernel
def Q_rmh3 (Z : State) (a : Addr) (od : Int32) (h0 : Heap) (n0 : Nat) (v : Option Value) (h : Heap) (L : List Loc) : Prop := v = some (.int (own_h3 od)) ∧ Fr n0 L ∧ h = h0
theorem d1_94 : decode prog_59_method_5_code 94 = .ok (.iconst 1, 1) := by decide +kernel
theorem d1_95 : decode prog_59_method_5_code 95 = .ok (.goto 28, 3) := by decide +kernel
theorem ef_rmh3 (m : MethodId) (a : Addr) (od : Int32)  : entryFrame m #[(.ref a), (.int od)] 2 = mkF m 0 #[.val (.ref a), .val (.int od)] [] := by first | (simp [entryFrame, mkF, argsToLocals, Value.category]; done) | rfl
set_option maxRecDepth 65536 in
set_option maxHeartbeats 40000000 in
theorem rmh3 (l : Launch) (Z : State) (a0 : Array Value) (hw : ∀ d ∈ tables_1, d.before a0 Z = true) (ws : List Jvm.Cond) (a : Addr) (od : Int32) (h0 : Heap) (n0 : Nat) (Z0 : n0 ≤ h0.size) (E : Exa Z h0 a "com/example/sure_paths/surepaths/model/PropertyCondition$Operator") (F : Fld Z h0 a "java/lang/Enum" "ordinal" "I" (.int 3)) :
    MetFree l (⟨"com/example/sure_paths/surepaths/model/PropertyCondition$Operator", "holds", "(I)Z"⟩ : MethodName) (head1 (Jvm.Cond.code (⟨"com/example/sure_paths/surepaths/model/PropertyCondition$Operator", "holds", "(I)Z"⟩ : MethodName) prog_59_method_5_code 2 (some .boolean) :: ws) ({ frames := 1, cells := 0, slots := 0, locals := 12 } : Room)) (fun aa' U1' => aa' = #[(.ref a), (.int od)] ∧ Z.Warmed39 U1'.vm ∧ U1'.heap = h0) (fun _ _ _ _ _ => True) (fun _ U1' oo' U2' => ∃ vv' LL', oo' = .returned vv' ∧ (Q_rmh3 Z a od h0 n0) vv' U2'.heap LL' ∧ FrameEnd U1' oo' U2' LL' ({ frames := 1, cells := 0, slots := 0, locals := 12 } : Room).cells ({ frames := 1, cells := 0, slots := 0, locals := 12 } : Room).slots) := by
  refine MetFree.of_bodySF (plainFor_of_name pn_com_example_sure_paths_surepaths_model_PropertyCondition_Operator) hisR ?_
  intro p e s m args below meth c s₁ Bd hml0 hP hK
  obtain ⟨rfl, hZ, hh⟩ := hP
  have hx := Bd.exec
  have hby := Bd.bytes
  have hml : c.maxLocals = 2 := hml0
  have hown : s.vm.findClass "com/example/sure_paths/surepaths/model/PropertyCondition$Operator" = some m.cls := findClass_of_methodNamed Bd.named
  have hnm := (name_of_methodNamed Bd.named Bd.method).1
  have X0 : Stand p l e ({ frames := 1, cells := 0, slots := 0, locals := 12 } : Room) s m #[(.ref a), (.int od)] below meth c s₁ [] 0 0 := Stand.of_body Bd
  have e0 : s₁.heap = h0 := by rw [← hh, Bd.state]; rfl
  have N0 := Fr.nil n0
  refine go_of (A := s₁.setTop (entryFrame m #[(.ref a), (.int od)] 2)) (B := s₁.setTop (mkF m 0 #[.val (.ref a), .val (.int od)] [])) (fun _ kk' => castTop (ef_rmh3 m a od) kk') ?_
  refine go_of (B := (s₁.setTop (mkF m 1 #[.val (.ref a), .val (.int od)] [(.ref a)]))) (fun _ kk => XS.aloadN X0.here hx rfl (hb hby d1_0) rfl rfl kk) ?_
  obtain ⟨cq1, kq1, q1a, q1b, q1c⟩ := isOf hZ e0 E
  obtain ⟨_, _, ⟨T1, L1, k1, n1⟩, -, X1, ⟨Lc1, hQ1, l1, y1, z1⟩, st1⟩ := X0.virtualBackUp hx (owner := "java/lang/Enum") (x := (⟨"com/example/sure_paths/surepaths/model/PropertyCondition$Operator", "ordinal", "()I"⟩ : MethodName)) (y := (⟨"java/lang/Enum", "ordinal", "()I"⟩ : MethodName)) hown (mvT hZ (hw _ (List.mem_of_getElem? (i := 9) rfl))) (mvT hZ (hw _ (List.mem_of_getElem? (i := 10) rfl))) (mvT hZ (hw _ (List.mem_of_getElem? (i := 11) rfl))) (by decide) (mvT hZ (hw _ (List.mem_of_getElem? (i := 13) rfl))) (mvT hZ (hw _ (List.mem_of_getElem? (i := 12) rfl))) (backOf (W := 0) (rm2 l Z a0 hw [] a 3 h0 n0 Z0 F) hZ (hw _ (List.mem_of_getElem? (i := 15) rfl)) (hw _ (List.mem_of_getElem? (i := 14) rfl)) (by decide) (by decide)) q1a q1c (g := (mkF m 1 #[.val (.ref a), .val (.int od)] [(.ref a)])) rfl (by rw [hml]; rfl) (Steps.refl _) (argsL := []) (rest := []) (lenOf pd___I rfl) rfl (by show 2 * 0 + _ ≤ _; exact Nat.le_of_eq rfl) (hb hby d1_1) (fun _ _ => ⟨rfl, e0, (by decide : 0 + 0 ≤ _), (by decide : 0 + 0 ≤ _)⟩)
  dsimp only [Pt.U, Pt.locs, Pt.cells, Pt.slots] at X1 l1 y1 z1 st1 hQ1
  subst l1 y1 z1
  obtain ⟨rfl, N1q, e1⟩ := hQ1
  have N1 := Fr.app N0 N1q
  refine go_tr (B := (T1.setTop (mkF m 4 #[.val (.ref a), .val (.int od)] [(.int (3 : Int32))]))) (st1) ?_
  refine go_of (B := (T1.setTop (mkF m 90 #[.val (.ref a), .val (.int od)] []))) (fun _ kk => own_tsw (g := (mkF m 4 #[.val (.ref a), .val (.int od)] [(.int (3 : Int32))])) X1 hx rfl rfl (pc0 := 4) (pc' := 90) rfl (hb hby d1_4) 3 (by decide) (by decide) 86 (by decide) (by decide) (by decide) kk) ?_
  refine go_of (B := (T1.setTop (mkF m 91 #[.val (.ref a), .val (.int od)] [(.int od)]))) (fun _ kk => XS.iloadN X1.here hx rfl (hb hby d1_90) rfl kk) ?_
  by_cases hc2 : (0 : Int32) < od
  · refine go_of (B := (T1.setTop (mkF m 98 #[.val (.ref a), .val (.int od)] []))) (fun _ kk => XS.ifYes X1.here hx rfl (pc0 := 91) (pc' := 98) rfl (hb hby d1_91) rfl ((if0 _ _).trans (tlt hc2).2.2.1) (by decide) (by decide) kk) ?_
    refine go_of (B := (T1.setTop (mkF m 99 #[.val (.ref a), .val (.int od)] [(.int (0 : Int32))]))) (fun _ kk => XS.iconst X1.here hx rfl (hb hby d1_98) kk) ?_
    refine go_of (B := (T1.setTop (mkF m 123 #[.val (.ref a), .val (.int od)] [(.int (0 : Int32))]))) (fun _ kk => XS.goto X1.here hx rfl (pc0 := 99) (pc' := 123) rfl (hb hby d1_99) (by decide) (by decide) kk) ?_
    refine go_end X1 (v := some (.int (nar .boolean (0 : Int32)))) (fun h => by rw [Bd.returns] at h; cases h) Bd.notSynchronized (by decide) (by decide) (Q := (Q_rmh3 Z a od h0 n0)) ?_ (fun fs hr => retN X1 hx (t := .boolean) Bd.returns (by simp) (hb hby d1_123) hr)
    show (fun (v : Option Value) (h : Heap) (L : List Loc) => v = some (.int (own_h3 od)) ∧ Fr n0 L ∧ h = h0) (some (.int (nar .boolean (0 : Int32)))) T1.heap _
    rw [e1]
    refine ⟨?_, N1, rfl⟩
    simp [own_h3, nar, hc2]
  · refine go_of (B := (T1.setTop (mkF m 94 #[.val (.ref a), .val (.int od)] []))) (fun _ kk => XS.ifNo X1.here hx rfl (hb hby d1_91) rfl ((if0 _ _).trans (flt hc2).2.2.1) kk) ?_
    refine go_of (B := (T1.setTop (mkF m 95 #[.val (.ref a), .val (.int od)] [(.int (1 : Int32))]))) (fun _ kk => XS.iconst X1.here hx rfl (hb hby d1_94) kk) ?_
    refine go_of (B := (T1.setTop (mkF m 123 #[.val (.ref a), .val (.int od)] [(.int (1 : Int32))]))) (fun _ kk => XS.goto X1.here hx rfl (pc0 := 95) (pc' := 123) rfl (hb hby d1_95) (by decide) (by decide) kk) ?_
    refine go_end X1 (v := some (.int (nar .boolean (1 : Int32)))) (fun h => by rw [Bd.returns] at h; cases h) Bd.notSynchronized (by decide) (by decide) (Q := (Q_rmh3 Z a od h0 n0)) ?_ (fun fs hr => retN X1 hx (t := .boolean) Bd.returns (by simp) (hb hby d1_123) hr)
    show (fun (v : Option Value) (h : Heap) (L : List Loc) => v = some (.int (own_h3 od)) ∧ Fr n0 L ∧ h = h0) (some (.int (nar .boolean (1 : Int32)))) T1.heap _
    rw [e1]
    refine ⟨?_, N1, rfl⟩
    simp [own_h3, nar, hc2]
def own_h4 (p : Int32) : Int32 := if 0 < p then 1 else 0
theorem d1_102 : decode prog_59_method_5_code 102 = .ok (.iload_n 1, 1) := by decide +kernel
theorem d1_103 : decode prog_59_method_5_code 103 = .ok (.ifCond .le 7, 3) := by decide +kernel
theorem d1_106 : decode prog_59_method_5_code 106 = .ok (.iconst 1, 1) := by decide +kernel
theorem d1_107 : decode prog_59_method_5_code 107 = .ok (.goto 16, 3) := by decide +kernel
def Q_rmh4 (Z : State) (a : Addr) (od : Int32) (h0 : Heap) (n0 : Nat) (v : Option Value) (h : Heap) (L : List Loc) : Prop := v = some (.int (own_h4 od)) ∧ Fr n0 L ∧ h = h0
theorem d1_110 : decode prog_59_method_5_code 110 = .ok (.iconst 0, 1) := by decide +kernel
theorem d1_111 : decode prog_59_method_5_code 111 = .ok (.goto 12, 3) := by decide +kernel
theorem ef_rmh4 (m : MethodId) (a : Addr) (od : Int32)  : entryFrame m #[(.ref a), (.int od)] 2 = mkF m 0 #[.val (.ref a), .val (.int od)] [] := by first | (simp [entryFrame, mkF, argsToLocals, Value.category]; done) | rfl
set_option maxRecDepth 65536 in
set_option maxHeartbeats 40000000 in
theorem rmh4 (l : Launch) (Z : State) (a0 : Array Value) (hw : ∀ d ∈ tables_1, d.before a0 Z = true) (ws : List Jvm.Cond) (a : Addr) (od : Int32) (h0 : Heap) (n0 : Nat) (Z0 : n0 ≤ h0.size) (E : Exa Z h0 a "com/example/sure_paths/surepaths/model/PropertyCondition$Operator") (F : Fld Z h0 a "java/lang/Enum" "ordinal" "I" (.int 4)) :
    MetFree l (⟨"com/example/sure_paths/surepaths/model/PropertyCondition$Operator", "holds", "(I)Z"⟩ : MethodName) (head1 (Jvm.Cond.code (⟨"com/example/sure_paths/surepaths/model/PropertyCondition$Operator", "holds", "(I)Z"⟩ : MethodName) prog_59_method_5_code 2 (some .boolean) :: ws) ({ frames := 1, cells := 0, slots := 0, locals := 12 } : Room)) (fun aa' U1' => aa' = #[(.ref a), (.int od)] ∧ Z.Warmed39 U1'.vm ∧ U1'.heap = h0) (fun _ _ _ _ _ => True) (fun _ U1' oo' U2' => ∃ vv' LL', oo' = .returned vv' ∧ (Q_rmh4 Z a od h0 n0) vv' U2'.heap LL' ∧ FrameEnd U1' oo' U2' LL' ({ frames := 1, cells := 0, slots := 0, locals := 12 } : Room).cells ({ frames := 1, cells := 0, slots := 0, locals := 12 } : Room).slots) := by
  refine MetFree.of_bodySF (plainFor_of_name pn_com_example_sure_paths_surepaths_model_PropertyCondition_Operator) hisR ?_
  intro p e s m args below meth c s₁ Bd hml0 hP hK
  obtain ⟨rfl, hZ, hh⟩ := hP
  have hx := Bd.exec
  have hby := Bd.bytes
  have hml : c.maxLocals = 2 := hml0
  have hown : s.vm.findClass "com/example/sure_paths/surepaths/model/PropertyCondition$Operator" = some m.cls := findClass_of_methodNamed Bd.named
  have hnm := (name_of_methodNamed Bd.named Bd.method).1
  have X0 : Stand p l e ({ frames := 1, cells := 0, slots := 0, locals := 12 } : Room) s m #[(.ref a), (.int od)] below meth c s₁ [] 0 0 := Stand.of_body Bd
  have e0 : s₁.heap = h0 := by rw [← hh, Bd.state]; rfl
  have N0 := Fr.nil n0
  refine go_of (A := s₁.setTop (entryFrame m #[(.ref a), (.int od)] 2)) (B := s₁.setTop (mkF m 0 #[.val (.ref a), .val (.int od)] [])) (fun _ kk' => castTop (ef_rmh4 m a od) kk') ?_
  refine go_of (B := (s₁.setTop (mkF m 1 #[.val (.ref a), .val (.int od)] [(.ref a)]))) (fun _ kk => XS.aloadN X0.here hx rfl (hb hby d1_0) rfl rfl kk) ?_
  obtain ⟨cq1, kq1, q1a, q1b, q1c⟩ := isOf hZ e0 E
  obtain ⟨_, _, ⟨T1, L1, k1, n1⟩, -, X1, ⟨Lc1, hQ1, l1, y1, z1⟩, st1⟩ := X0.virtualBackUp hx (owner := "java/lang/Enum") (x := (⟨"com/example/sure_paths/surepaths/model/PropertyCondition$Operator", "ordinal", "()I"⟩ : MethodName)) (y := (⟨"java/lang/Enum", "ordinal", "()I"⟩ : MethodName)) hown (mvT hZ (hw _ (List.mem_of_getElem? (i := 9) rfl))) (mvT hZ (hw _ (List.mem_of_getElem? (i := 10) rfl))) (mvT hZ (hw _ (List.mem_of_getElem? (i := 11) rfl))) (by decide) (mvT hZ (hw _ (List.mem_of_getElem? (i := 13) rfl))) (mvT hZ (hw _ (List.mem_of_getElem? (i := 12) rfl))) (backOf (W := 0) (rm2 l Z a0 hw [] a 4 h0 n0 Z0 F) hZ (hw _ (List.mem_of_getElem? (i := 15) rfl)) (hw _ (List.mem_of_getElem? (i := 14) rfl)) (by decide) (by decide)) q1a q1c (g := (mkF m 1 #[.val (.ref a), .val (.int od)] [(.ref a)])) rfl (by rw [hml]; rfl) (Steps.refl _) (argsL := []) (rest := []) (lenOf pd___I rfl) rfl (by show 2 * 0 + _ ≤ _; exact Nat.le_of_eq rfl) (hb hby d1_1) (fun _ _ => ⟨rfl, e0, (by decide : 0 + 0 ≤ _), (by decide : 0 + 0 ≤ _)⟩)
  dsimp only [Pt.U, Pt.locs, Pt.cells, Pt.slots] at X1 l1 y1 z1 st1 hQ1
  subst l1 y1 z1
  obtain ⟨rfl, N1q, e1⟩ := hQ1
  have N1 := Fr.app N0 N1q
  refine go_tr (B := (T1.setTop (mkF m 4 #[.val (.ref a), .val (.int od)] [(.int (4 : Int32))]))) (st1) ?_
  refine go_of (B := (T1.setTop (mkF m 102 #[.val (.ref a), .val (.int od)] []))) (fun _ kk => own_tsw (g := (mkF m 4 #[.val (.ref a), .val (.int od)] [(.int (4 : Int32))])) X1 hx rfl rfl (pc0 := 4) (pc' := 102) rfl (hb hby d1_4) 4 (by decide) (by decide) 98 (by decide) (by decide) (by decide) kk) ?_
  refine go_of (B := (T1.setTop (mkF m 103 #[.val (.ref a), .val (.int od)] [(.int od)]))) (fun _ kk => XS.iloadN X1.here hx rfl (hb hby d1_102) rfl kk) ?_
  by_cases hc2 : (0 : Int32) < od
  · refine go_of (B := (T1.setTop (mkF m 106 #[.val (.ref a), .val (.int od)] []))) (fun _ kk => XS.ifNo X1.here hx rfl (hb hby d1_103) rfl ((if0 _ _).trans (tlt hc2).2.2.2) kk) ?_
    refine go_of (B := (T1.setTop (mkF m 107 #[.val (.ref a), .val (.int od)] [(.int (1 : Int32))]))) (fun _ kk => XS.iconst X1.here hx rfl (hb hby d1_106) kk) ?_
    refine go_of (B := (T1.setTop (mkF m 123 #[.val (.ref a), .val (.int od)] [(.int (1 : Int32))]))) (fun _ kk => XS.goto X1.here hx rfl (pc0 := 107) (pc' := 123) rfl (hb hby d1_107) (by decide) (by decide) kk) ?_
    refine go_end X1 (v := some (.int (nar .boolean (1 : Int32)))) (fun h => by rw [Bd.returns] at h; cases h) Bd.notSynchronized (by decide) (by decide) (Q := (Q_rmh4 Z a od h0 n0)) ?_ (fun fs hr => retN X1 hx (t := .boolean) Bd.returns (by simp) (hb hby d1_123) hr)
    show (fun (v : Option Value) (h : Heap) (L : List Loc) => v = some (.int (own_h4 od)) ∧ Fr n0 L ∧ h = h0) (some (.int (nar .boolean (1 : Int32)))) T1.heap _
    rw [e1]
    refine ⟨?_, N1, rfl⟩
    simp [own_h4, nar, hc2]
  · refine go_of (B := (T1.setTop (mkF m 110 #[.val (.ref a), .val (.int od)] []))) (fun _ kk => XS.ifYes X1.here hx rfl (pc0 := 103) (pc' := 110) rfl (hb hby d1_103) rfl ((if0 _ _).trans (flt hc2).2.2.2) (by decide) (by decide) kk) ?_
    refine go_of (B := (T1.setTop (mkF m 111 #[.val (.ref a), .val (.int od)] [(.int (0 : Int32))]))) (fun _ kk => XS.iconst X1.here hx rfl (hb hby d1_110) kk) ?_
    refine go_of (B := (T1.setTop (mkF m 123 #[.val (.ref a), .val (.int od)] [(.int (0 : Int32))]))) (fun _ kk => XS.goto X1.here hx rfl (pc0 := 111) (pc' := 123) rfl (hb hby d1_111) (by decide) (by decide) kk) ?_
    refine go_end X1 (v := some (.int (nar .boolean (0 : Int32)))) (fun h => by rw [Bd.returns] at h; cases h) Bd.notSynchronized (by decide) (by decide) (Q := (Q_rmh4 Z a od h0 n0)) ?_ (fun fs hr => retN X1 hx (t := .boolean) Bd.returns (by simp) (hb hby d1_123) hr)
    show (fun (v : Option Value) (h : Heap) (L : List Loc) => v = some (.int (own_h4 od)) ∧ Fr n0 L ∧ h = h0) (some (.int (nar .boolean (0 : Int32)))) T1.heap _
    rw [e1]
    refine ⟨?_, N1, rfl⟩
    simp [own_h4, nar, hc2]
def own_h5 (p : Int32) : Int32 := if p < 0 then 0 else 1
theorem d1_114 : decode prog_59_method_5_code 114 = .ok (.iload_n 1, 1) := by decide +kernel
theorem d1_115 : decode prog_59_method_5_code 115 = .ok (.ifCond .lt 7, 3) := by decide +kernel
theorem d1_122 : decode prog_59_method_5_code 122 = .ok (.iconst 0, 1) := by decide +kernel
def Q_rmh5 (Z : State) (a : Addr) (od : Int32) (h0 : Heap) (n0 : Nat) (v : Option Value) (h : Heap) (L : List Loc) : Prop := v = some (.int (own_h5 od)) ∧ Fr n0 L ∧ h = h0
theorem d1_118 : decode prog_59_method_5_code 118 = .ok (.iconst 1, 1) := by decide +kernel
theorem d1_119 : decode prog_59_method_5_code 119 = .ok (.goto 4, 3) := by decide +kernel
theorem ef_rmh5 (m : MethodId) (a : Addr) (od : Int32)  : entryFrame m #[(.ref a), (.int od)] 2 = mkF m 0 #[.val (.ref a), .val (.int od)] [] := by first | (simp [entryFrame, mkF, argsToLocals, Value.category]; done) | rfl
set_option maxRecDepth 65536 in
set_option maxHeartbeats 40000000 in
theorem rmh5 (l : Launch) (Z : State) (a0 : Array Value) (hw : ∀ d ∈ tables_1, d.before a0 Z = true) (ws : List Jvm.Cond) (a : Addr) (od : Int32) (h0 : Heap) (n0 : Nat) (Z0 : n0 ≤ h0.size) (E : Exa Z h0 a "com/example/sure_paths/surepaths/model/PropertyCondition$Operator") (F : Fld Z h0 a "java/lang/Enum" "ordinal" "I" (.int 5)) :
    MetFree l (⟨"com/example/sure_paths/surepaths/model/PropertyCondition$Operator", "holds", "(I)Z"⟩ : MethodName) (head1 (Jvm.Cond.code (⟨"com/example/sure_paths/surepaths/model/PropertyCondition$Operator", "holds", "(I)Z"⟩ : MethodName) prog_59_method_5_code 2 (some .boolean) :: ws) ({ frames := 1, cells := 0, slots := 0, locals := 12 } : Room)) (fun aa' U1' => aa' = #[(.ref a), (.int od)] ∧ Z.Warmed39 U1'.vm ∧ U1'.heap = h0) (fun _ _ _ _ _ => True) (fun _ U1' oo' U2' => ∃ vv' LL', oo' = .returned vv' ∧ (Q_rmh5 Z a od h0 n0) vv' U2'.heap LL' ∧ FrameEnd U1' oo' U2' LL' ({ frames := 1, cells := 0, slots := 0, locals := 12 } : Room).cells ({ frames := 1, cells := 0, slots := 0, locals := 12 } : Room).slots) := by
  refine MetFree.of_bodySF (plainFor_of_name pn_com_example_sure_paths_surepaths_model_PropertyCondition_Operator) hisR ?_
  intro p e s m args below meth c s₁ Bd hml0 hP hK
  obtain ⟨rfl, hZ, hh⟩ := hP
  have hx := Bd.exec
  have hby := Bd.bytes
  have hml : c.maxLocals = 2 := hml0
  have hown : s.vm.findClass "com/example/sure_paths/surepaths/model/PropertyCondition$Operator" = some m.cls := findClass_of_methodNamed Bd.named
  have hnm := (name_of_methodNamed Bd.named Bd.method).1
  have X0 : Stand p l e ({ frames := 1, cells := 0, slots := 0, locals := 12 } : Room) s m #[(.ref a), (.int od)] below meth c s₁ [] 0 0 := Stand.of_body Bd
  have e0 : s₁.heap = h0 := by rw [← hh, Bd.state]; rfl
  have N0 := Fr.nil n0
  refine go_of (A := s₁.setTop (entryFrame m #[(.ref a), (.int od)] 2)) (B := s₁.setTop (mkF m 0 #[.val (.ref a), .val (.int od)] [])) (fun _ kk' => castTop (ef_rmh5 m a od) kk') ?_
  refine go_of (B := (s₁.setTop (mkF m 1 #[.val (.ref a), .val (.int od)] [(.ref a)]))) (fun _ kk => XS.aloadN X0.here hx rfl (hb hby d1_0) rfl rfl kk) ?_
  obtain ⟨cq1, kq1, q1a, q1b, q1c⟩ := isOf hZ e0 E
  obtain ⟨_, _, ⟨T1, L1, k1, n1⟩, -, X1, ⟨Lc1, hQ1, l1, y1, z1⟩, st1⟩ := X0.virtualBackUp hx (owner := "java/lang/Enum") (x := (⟨"com/example/sure_paths/surepaths/model/PropertyCondition$Operator", "ordinal", "()I"⟩ : MethodName)) (y := (⟨"java/lang/Enum", "ordinal", "()I"⟩ : MethodName)) hown (mvT hZ (hw _ (List.mem_of_getElem? (i := 9) rfl))) (mvT hZ (hw _ (List.mem_of_getElem? (i := 10) rfl))) (mvT hZ (hw _ (List.mem_of_getElem? (i := 11) rfl))) (by decide) (mvT hZ (hw _ (List.mem_of_getElem? (i := 13) rfl))) (mvT hZ (hw _ (List.mem_of_getElem? (i := 12) rfl))) (backOf (W := 0) (rm2 l Z a0 hw [] a 5 h0 n0 Z0 F) hZ (hw _ (List.mem_of_getElem? (i := 15) rfl)) (hw _ (List.mem_of_getElem? (i := 14) rfl)) (by decide) (by decide)) q1a q1c (g := (mkF m 1 #[.val (.ref a), .val (.int od)] [(.ref a)])) rfl (by rw [hml]; rfl) (Steps.refl _) (argsL := []) (rest := []) (lenOf pd___I rfl) rfl (by show 2 * 0 + _ ≤ _; exact Nat.le_of_eq rfl) (hb hby d1_1) (fun _ _ => ⟨rfl, e0, (by decide : 0 + 0 ≤ _), (by decide : 0 + 0 ≤ _)⟩)
  dsimp only [Pt.U, Pt.locs, Pt.cells, Pt.slots] at X1 l1 y1 z1 st1 hQ1
  subst l1 y1 z1
  obtain ⟨rfl, N1q, e1⟩ := hQ1
  have N1 := Fr.app N0 N1q
  refine go_tr (B := (T1.setTop (mkF m 4 #[.val (.ref a), .val (.int od)] [(.int (5 : Int32))]))) (st1) ?_
  refine go_of (B := (T1.setTop (mkF m 114 #[.val (.ref a), .val (.int od)] []))) (fun _ kk => own_tsw (g := (mkF m 4 #[.val (.ref a), .val (.int od)] [(.int (5 : Int32))])) X1 hx rfl rfl (pc0 := 4) (pc' := 114) rfl (hb hby d1_4) 5 (by decide) (by decide) 110 (by decide) (by decide) (by decide) kk) ?_
  refine go_of (B := (T1.setTop (mkF m 115 #[.val (.ref a), .val (.int od)] [(.int od)]))) (fun _ kk => XS.iloadN X1.here hx rfl (hb hby d1_114) rfl kk) ?_
  by_cases hc2 : od < (0 : Int32)
  · refine go_of (B := (T1.setTop (mkF m 122 #[.val (.ref a), .val (.int od)] []))) (fun _ kk => XS.ifYes X1.here hx rfl (pc0 := 115) (pc' := 122) rfl (hb hby d1_115) rfl ((if0 _ _).trans (tlt hc2).1) (by decide) (by decide) kk) ?_
    refine go_of (B := (T1.setTop (mkF m 123 #[.val (.ref a), .val (.int od)] [(.int (0 : Int32))]))) (fun _ kk => XS.iconst X1.here hx rfl (hb hby d1_122) kk) ?_
    refine go_end X1 (v := some (.int (nar .boolean (0 : Int32)))) (fun h => by rw [Bd.returns] at h; cases h) Bd.notSynchronized (by decide) (by decide) (Q := (Q_rmh5 Z a od h0 n0)) ?_ (fun fs hr => retN X1 hx (t := .boolean) Bd.returns (by simp) (hb hby d1_123) hr)
    show (fun (v : Option Value) (h : Heap) (L : List Loc) => v = some (.int (own_h5 od)) ∧ Fr n0 L ∧ h = h0) (some (.int (nar .boolean (0 : Int32)))) T1.heap _
    rw [e1]
    refine ⟨?_, N1, rfl⟩
    simp [own_h5, nar, hc2]
  · refine go_of (B := (T1.setTop (mkF m 118 #[.val (.ref a), .val (.int od)] []))) (fun _ kk => XS.ifNo X1.here hx rfl (hb hby d1_115) rfl ((if0 _ _).trans (flt hc2).1) kk) ?_
    refine go_of (B := (T1.setTop (mkF m 119 #[.val (.ref a), .val (.int od)] [(.int (1 : Int32))]))) (fun _ kk => XS.iconst X1.here hx rfl (hb hby d1_118) kk) ?_
    refine go_of (B := (T1.setTop (mkF m 123 #[.val (.ref a), .val (.int od)] [(.int (1 : Int32))]))) (fun _ kk => XS.goto X1.here hx rfl (pc0 := 119) (pc' := 123) rfl (hb hby d1_119) (by decide) (by decide) kk) ?_
    refine go_end X1 (v := some (.int (nar .boolean (1 : Int32)))) (fun h => by rw [Bd.returns] at h; cases h) Bd.notSynchronized (by decide) (by decide) (Q := (Q_rmh5 Z a od h0 n0)) ?_ (fun fs hr => retN X1 hx (t := .boolean) Bd.returns (by simp) (hb hby d1_123) hr)
    show (fun (v : Option Value) (h : Heap) (L : List Loc) => v = some (.int (own_h5 od)) ∧ Fr n0 L ∧ h = h0) (some (.int (nar .boolean (1 : Int32)))) T1.heap _
    rw [e1]
    refine ⟨?_, N1, rfl⟩
    simp [own_h5, nar, hc2]
theorem own_h0_n (p : Int32) (h : p < (0 : Int32)) : own_h0 p = (0 : Int32) := by
  have h1 : ¬ p = 0 := fun q => by subst q; exact absurd h (by decide)
  have h2 : ¬ (0 : Int32) < p := fun q => by rw [Int32.lt_iff_toInt_lt] at h q; omega
  simp [own_h0, h, h1, h2]
theorem own_h0_z (p : Int32) (h : ¬ p < (0 : Int32)) (h1 : p = (0 : Int32)) : own_h0 p = (1 : Int32) := by
  subst h1; simp [own_h0]
theorem own_h0_p (p : Int32) (h : ¬ p < (0 : Int32)) (h1 : ¬ p = (0 : Int32)) : own_h0 p = (0 : Int32) := by
  have h2 : (0 : Int32) < p := by rw [Int32.lt_iff_toInt_lt] at h ⊢; rw [← Int32.toInt_inj] at h1; have e : (0 : Int32).toInt = 0 := rfl; omega
  simp [own_h0, h, h1, h2]
theorem own_h1_n (p : Int32) (h : p < (0 : Int32)) : own_h1 p = (1 : Int32) := by
  have h1 : ¬ p = 0 := fun q => by subst q; exact absurd h (by decide)
  have h2 : ¬ (0 : Int32) < p := fun q => by rw [Int32.lt_iff_toInt_lt] at h q; omega
  simp [own_h1, h, h1, h2]
theorem own_h1_z (p : Int32) (h : ¬ p < (0 : Int32)) (h1 : p = (0 : Int32)) : own_h1 p = (0 : Int32) := by
  subst h1; simp [own_h1]
theorem own_h1_p (p : Int32) (h : ¬ p < (0 : Int32)) (h1 : ¬ p = (0 : Int32)) : own_h1 p = (1 : Int32) := by
  have h2 : (0 : Int32) < p := by rw [Int32.lt_iff_toInt_lt] at h ⊢; rw [← Int32.toInt_inj] at h1; have e : (0 : Int32).toInt = 0 := rfl; omega
  simp [own_h1, h, h1, h2]
theorem own_h2_n (p : Int32) (h : p < (0 : Int32)) : own_h2 p = (1 : Int32) := by
  have h1 : ¬ p = 0 := fun q => by subst q; exact absurd h (by decide)
  have h2 : ¬ (0 : Int32) < p := fun q => by rw [Int32.lt_iff_toInt_lt] at h q; omega
  simp [own_h2, h, h1, h2]
theorem own_h2_z (p : Int32) (h : ¬ p < (0 : Int32)) (h1 : p = (0 : Int32)) : own_h2 p = (0 : Int32) := by
  subst h1; simp [own_h2]
theorem own_h2_p (p : Int32) (h : ¬ p < (0 : Int32)) (h1 : ¬ p = (0 : Int32)) : own_h2 p = (0 : Int32) := by
  have h2 : (0 : Int32) < p := by rw [Int32.lt_iff_toInt_lt] at h ⊢; rw [← Int32.toInt_inj] at h1; have e : (0 : Int32).toInt = 0 := rfl; omega
  simp [own_h2, h, h1, h2]
theorem own_h3_n (p : Int32) (h : p < (0 : Int32)) : own_h3 p = (1 : Int32) := by
  have h1 : ¬ p = 0 := fun q => by subst q; exact absurd h (by decide)
  have h2 : ¬ (0 : Int32) < p := fun q => by rw [Int32.lt_iff_toInt_lt] at h q; omega
  simp [own_h3, h, h1, h2]
theorem own_h3_z (p : Int32) (h : ¬ p < (0 : Int32)) (h1 : p = (0 : Int32)) : own_h3 p = (1 : Int32) := by
  subst h1; simp [own_h3]
theorem own_h3_p (p : Int32) (h : ¬ p < (0 : Int32)) (h1 : ¬ p = (0 : Int32)) : own_h3 p = (0 : Int32) := by
  have h2 : (0 : Int32) < p := by rw [Int32.lt_iff_toInt_lt] at h ⊢; rw [← Int32.toInt_inj] at h1; have e : (0 : Int32).toInt = 0 := rfl; omega
  simp [own_h3, h, h1, h2]
theorem own_h4_n (p : Int32) (h : p < (0 : Int32)) : own_h4 p = (0 : Int32) := by
  have h1 : ¬ p = 0 := fun q => by subst q; exact absurd h (by decide)
  have h2 : ¬ (0 : Int32) < p := fun q => by rw [Int32.lt_iff_toInt_lt] at h q; omega
  simp [own_h4, h, h1, h2]
theorem own_h4_z (p : Int32) (h : ¬ p < (0 : Int32)) (h1 : p = (0 : Int32)) : own_h4 p = (0 : Int32) := by
  subst h1; simp [own_h4]
theorem own_h4_p (p : Int32) (h : ¬ p < (0 : Int32)) (h1 : ¬ p = (0 : Int32)) : own_h4 p = (1 : Int32) := by
  have h2 : (0 : Int32) < p := by rw [Int32.lt_iff_toInt_lt] at h ⊢; rw [← Int32.toInt_inj] at h1; have e : (0 : Int32).toInt = 0 := rfl; omega
  simp [own_h4, h, h1, h2]
theorem own_h5_n (p : Int32) (h : p < (0 : Int32)) : own_h5 p = (0 : Int32) := by
  have h1 : ¬ p = 0 := fun q => by subst q; exact absurd h (by decide)
  have h2 : ¬ (0 : Int32) < p := fun q => by rw [Int32.lt_iff_toInt_lt] at h q; omega
  simp [own_h5, h, h1, h2]
theorem own_h5_z (p : Int32) (h : ¬ p < (0 : Int32)) (h1 : p = (0 : Int32)) : own_h5 p = (1 : Int32) := by
  subst h1; simp [own_h5]
theorem own_h5_p (p : Int32) (h : ¬ p < (0 : Int32)) (h1 : ¬ p = (0 : Int32)) : own_h5 p = (1 : Int32) := by
  have h2 : (0 : Int32) < p := by rw [Int32.lt_iff_toInt_lt] at h ⊢; rw [← Int32.toInt_inj] at h1; have e : (0 : Int32).toInt = 0 := rfl; omega
  simp [own_h5, h, h1, h2]
theorem pd__I_Z : parseMethodDescriptor "(I)Z" = some ⟨[.int], some .boolean⟩ := by decide +kernel
def Q_rm0 (Z : State) (k : Int32) (od : Int32) (w_EQUAL : Addr) (w_NOT_EQUAL : Addr) (w_LESS : Addr) (w_LESS_OR_EQUAL : Addr) (w_GREATER : Addr) (w_GREATER_OR_EQUAL : Addr) (h0 : Heap) (n0 : Nat) (v : Option Value) (h : Heap) (L : List Loc) : Prop := v = some (.int 1) ∧ Fr n0 L
theorem pn_com_example_sure_paths_surepaths_model_OperatorHoldsPinLaw : plainName "com/example/sure_paths/surepaths/model/OperatorHoldsPinLaw" = true := by first | (simp [plainName, overriddenIn]; done) | decide +kernel
theorem ef_rm0 (m : MethodId) (k : Int32) (od : Int32)  : entryFrame m #[(.int k), (.int od)] maxLocals = mkF m 0 #[.val (.int k), .val (.int od), .unset, .unset, .unset, .unset, .unset] [] := by first | (simp [entryFrame, mkF, argsToLocals, Value.category, maxLocals]; done) | rfl
set_option maxRecDepth 65536 in
set_option maxHeartbeats 40000000 in
theorem rm0 (l : Launch) (Z : State) (a0 : Array Value) (hw : ∀ d ∈ tables_1, d.before a0 Z = true) (ws : List Jvm.Cond) (k : Int32) (od : Int32) (w_EQUAL : Addr) (w_NOT_EQUAL : Addr) (w_LESS : Addr) (w_LESS_OR_EQUAL : Addr) (w_GREATER : Addr) (w_GREATER_OR_EQUAL : Addr) (h0 : Heap) (n0 : Nat) (Z0 : n0 ≤ h0.size) (S_EQUAL : Sta Z h0 "com/example/sure_paths/surepaths/model/PropertyCondition$Operator" "EQUAL" "Lcom/example/sure_paths/surepaths/model/PropertyCondition$Operator;" (.ref w_EQUAL)) (S_NOT_EQUAL : Sta Z h0 "com/example/sure_paths/surepaths/model/PropertyCondition$Operator" "NOT_EQUAL" "Lcom/example/sure_paths/surepaths/model/PropertyCondition$Operator;" (.ref w_NOT_EQUAL)) (S_LESS : Sta Z h0 "com/example/sure_paths/surepaths/model/PropertyCondition$Operator" "LESS" "Lcom/example/sure_paths/surepaths/model/PropertyCondition$Operator;" (.ref w_LESS)) (S_LESS_OR_EQUAL : Sta Z h0 "com/example/sure_paths/surepaths/model/PropertyCondition$Operator" "LESS_OR_EQUAL" "Lcom/example/sure_paths/surepaths/model/PropertyCondition$Operator;" (.ref w_LESS_OR_EQUAL)) (S_GREATER : Sta Z h0 "com/example/sure_paths/surepaths/model/PropertyCondition$Operator" "GREATER" "Lcom/example/sure_paths/surepaths/model/PropertyCondition$Operator;" (.ref w_GREATER)) (S_GREATER_OR_EQUAL : Sta Z h0 "com/example/sure_paths/surepaths/model/PropertyCondition$Operator" "GREATER_OR_EQUAL" "Lcom/example/sure_paths/surepaths/model/PropertyCondition$Operator;" (.ref w_GREATER_OR_EQUAL)) (E_EQUAL : Exa Z h0 w_EQUAL "com/example/sure_paths/surepaths/model/PropertyCondition$Operator") (E_NOT_EQUAL : Exa Z h0 w_NOT_EQUAL "com/example/sure_paths/surepaths/model/PropertyCondition$Operator") (E_LESS : Exa Z h0 w_LESS "com/example/sure_paths/surepaths/model/PropertyCondition$Operator") (E_LESS_OR_EQUAL : Exa Z h0 w_LESS_OR_EQUAL "com/example/sure_paths/surepaths/model/PropertyCondition$Operator") (E_GREATER : Exa Z h0 w_GREATER "com/example/sure_paths/surepaths/model/PropertyCondition$Operator") (E_GREATER_OR_EQUAL : Exa Z h0 w_GREATER_OR_EQUAL "com/example/sure_paths/surepaths/model/PropertyCondition$Operator") (F_EQUAL : Fld Z h0 w_EQUAL "java/lang/Enum" "ordinal" "I" (.int 0)) (F_NOT_EQUAL : Fld Z h0 w_NOT_EQUAL "java/lang/Enum" "ordinal" "I" (.int 1)) (F_LESS : Fld Z h0 w_LESS "java/lang/Enum" "ordinal" "I" (.int 2)) (F_LESS_OR_EQUAL : Fld Z h0 w_LESS_OR_EQUAL "java/lang/Enum" "ordinal" "I" (.int 3)) (F_GREATER : Fld Z h0 w_GREATER "java/lang/Enum" "ordinal" "I" (.int 4)) (F_GREATER_OR_EQUAL : Fld Z h0 w_GREATER_OR_EQUAL "java/lang/Enum" "ordinal" "I" (.int 5)) :
    MetFree l x (head1 (Jvm.Cond.code x code maxLocals ret :: ws) room_1) (fun aa' U1' => aa' = #[(.int k), (.int od)] ∧ Z.Warmed39 U1'.vm ∧ U1'.heap = h0) (fun _ _ _ _ _ => True) (fun _ U1' oo' U2' => ∃ vv' LL', oo' = .returned vv' ∧ (Q_rm0 Z k od w_EQUAL w_NOT_EQUAL w_LESS w_LESS_OR_EQUAL w_GREATER w_GREATER_OR_EQUAL h0 n0) vv' U2'.heap LL' ∧ FrameEnd U1' oo' U2' LL' room_1.cells room_1.slots) := by
  refine MetFree.of_bodySF (plainFor_of_name pn_com_example_sure_paths_surepaths_model_OperatorHoldsPinLaw) hisR ?_
  intro p e s m args below meth c s₁ Bd hml0 hP hK
  obtain ⟨rfl, hZ, hh⟩ := hP
  have hx := Bd.exec
  have hby := Bd.bytes
  have hml : c.maxLocals = 7 := hml0
  have hown : s.vm.findClass "com/example/sure_paths/surepaths/model/OperatorHoldsPinLaw" = some m.cls := findClass_of_methodNamed Bd.named
  have hnm := (name_of_methodNamed Bd.named Bd.method).1
  have X0 : Stand p l e room_1 s m #[(.int k), (.int od)] below meth c s₁ [] 0 0 := Stand.of_body Bd
  have e0 : s₁.heap = h0 := by rw [← hh, Bd.state]; rfl
  have N0 := Fr.nil n0
  refine go_of (A := s₁.setTop (entryFrame m #[(.int k), (.int od)] maxLocals)) (B := s₁.setTop (mkF m 0 #[.val (.int k), .val (.int od), .unset, .unset, .unset, .unset, .unset] [])) (fun _ kk' => castTop (ef_rm0 m k od) kk') ?_
  refine go_of (B := (s₁.setTop (mkF m 1 #[.val (.int k), .val (.int od), .unset, .unset, .unset, .unset, .unset] [(.int k)]))) (fun _ kk => XS.iloadN X0.here hx rfl (hb hby at_0) rfl kk) ?_
  refine go_of (B := (s₁.setTop (mkF m 3 #[.val (.int k), .val (.int od), .unset, .unset, .unset, .unset, .unset] [(.int (2147483647 : Int32)), (.int k)]))) (fun _ kk => X0.ldcInt hx hown (mvT hZ (hw _ (List.mem_of_getElem? (i := 0) rfl))) (g := (mkF m 1 #[.val (.int k), .val (.int od), .unset, .unset, .unset, .unset, .unset] [(.int k)])) rfl (hb hby at_1) _ kk) ?_
  refine go_of (B := (s₁.setTop (mkF m 4 #[.val (.int k), .val (.int od), .unset, .unset, .unset, .unset, .unset] [(.int (k &&& (2147483647 : Int32)))]))) (fun _ kk => XS.iand X0.here hx rfl (hb hby at_3) rfl kk) ?_
  refine go_of (B := (s₁.setTop (mkF m 6 #[.val (.int k), .val (.int od), .unset, .unset, .unset, .unset, .unset] [(.int (6 : Int32)), (.int (k &&& (2147483647 : Int32)))]))) (fun _ kk => XS.bipush X0.here hx rfl (hb hby at_4) kk) ?_
  refine go_of (B := (s₁.setTop (mkF m 7 #[.val (.int k), .val (.int od), .unset, .unset, .unset, .unset, .unset] [(.int ((k &&& (2147483647 : Int32)) % (6 : Int32)))]))) (fun _ kk => iremM X0 hx rfl (hb hby at_6) rfl (by decide) kk) ?_
  refine go_of (B := (s₁.setTop (mkF m 8 #[.val (.int k), .val (.int od), .val (.int ((k &&& (2147483647 : Int32)) % (6 : Int32))), .unset, .unset, .unset, .unset] []))) (fun _ kk => XS.istoreN X0.here hx rfl (hb hby at_7) rfl rfl kk) ?_
  refine go_of (B := (s₁.setTop (mkF m 9 #[.val (.int k), .val (.int od), .val (.int ((k &&& (2147483647 : Int32)) % (6 : Int32))), .unset, .unset, .unset, .unset] [(.int ((k &&& (2147483647 : Int32)) % (6 : Int32)))]))) (fun _ kk => XS.iloadN X0.here hx rfl (hb hby at_8) rfl kk) ?_
  by_cases hc1 : ((k &&& (2147483647 : Int32)) % (6 : Int32)) = (0 : Int32)
  · refine go_of (B := (s₁.setTop (mkF m 12 #[.val (.int k), .val (.int od), .val (.int ((k &&& (2147483647 : Int32)) % (6 : Int32))), .unset, .unset, .unset, .unset] []))) (fun _ kk => XS.ifNo X0.here hx rfl (hb hby at_9) rfl ((if0 _ _).trans (teq hc1).2) kk) ?_
    obtain ⟨T2, X2, e2, st2⟩ := getS2 X0 hx hZ hown (host := "") (Or.inl (hw _ (List.mem_of_getElem? (i := 1) rfl))) Via.refl e0 S_EQUAL (g := (mkF m 12 #[.val (.int k), .val (.int od), .val (.int ((k &&& (2147483647 : Int32)) % (6 : Int32))), .unset, .unset, .unset, .unset] [])) rfl (hb hby at_12)
    refine go_of (B := (T2.setTop (mkF m 15 #[.val (.int k), .val (.int od), .val (.int ((k &&& (2147483647 : Int32)) % (6 : Int32))), .unset, .unset, .unset, .unset] [(.ref w_EQUAL)]))) (st2) ?_
    refine go_of (B := (T2.setTop (mkF m 16 #[.val (.int k), .val (.int od), .val (.int ((k &&& (2147483647 : Int32)) % (6 : Int32))), .val (.ref w_EQUAL), .unset, .unset, .unset] []))) (fun _ kk => XS.astoreN X2.here hx rfl (hb hby at_15) rfl rfl rfl kk) ?_
    refine go_of (B := (T2.setTop (mkF m 17 #[.val (.int k), .val (.int od), .val (.int ((k &&& (2147483647 : Int32)) % (6 : Int32))), .val (.ref w_EQUAL), .unset, .unset, .unset] [(.int (2 : Int32))]))) (fun _ kk => XS.iconst X2.here hx rfl (hb hby at_16) kk) ?_
    refine go_of (B := (T2.setTop (mkF m 19 #[.val (.int k), .val (.int od), .val (.int ((k &&& (2147483647 : Int32)) % (6 : Int32))), .val (.ref w_EQUAL), .val (.int (2 : Int32)), .unset, .unset] []))) (fun _ kk => XS.istore X2.here hx rfl (hb hby at_17) rfl rfl kk) ?_
    refine go_of (B := (T2.setTop (mkF m 90 #[.val (.int k), .val (.int od), .val (.int ((k &&& (2147483647 : Int32)) % (6 : Int32))), .val (.ref w_EQUAL), .val (.int (2 : Int32)), .unset, .unset] []))) (fun _ kk => XS.goto X2.here hx rfl (pc0 := 19) (pc' := 90) rfl (hb hby at_19) (by decide) (by decide) kk) ?_
    refine go_of (B := (T2.setTop (mkF m 91 #[.val (.int k), .val (.int od), .val (.int ((k &&& (2147483647 : Int32)) % (6 : Int32))), .val (.ref w_EQUAL), .val (.int (2 : Int32)), .unset, .unset] [(.int od)]))) (fun _ kk => XS.iloadN X2.here hx rfl (hb hby at_90) rfl kk) ?_
    by_cases hc3 : od < (0 : Int32)
    · refine go_of (B := (T2.setTop (mkF m 94 #[.val (.int k), .val (.int od), .val (.int ((k &&& (2147483647 : Int32)) % (6 : Int32))), .val (.ref w_EQUAL), .val (.int (2 : Int32)), .unset, .unset] []))) (fun _ kk => XS.ifNo X2.here hx rfl (hb hby at_91) rfl ((if0 _ _).trans (tlt hc3).2.1) kk) ?_
      refine go_of (B := (T2.setTop (mkF m 95 #[.val (.int k), .val (.int od), .val (.int ((k &&& (2147483647 : Int32)) % (6 : Int32))), .val (.ref w_EQUAL), .val (.int (2 : Int32)), .unset, .unset] [(.int (0 : Int32))]))) (fun _ kk => XS.iconst X2.here hx rfl (hb hby at_94) kk) ?_
      refine go_of (B := (T2.setTop (mkF m 97 #[.val (.int k), .val (.int od), .val (.int ((k &&& (2147483647 : Int32)) % (6 : Int32))), .val (.ref w_EQUAL), .val (.int (2 : Int32)), .val (.int (0 : Int32)), .unset] []))) (fun _ kk => XS.istore X2.here hx rfl (hb hby at_95) rfl rfl kk) ?_
      refine go_of (B := (T2.setTop (mkF m 113 #[.val (.int k), .val (.int od), .val (.int ((k &&& (2147483647 : Int32)) % (6 : Int32))), .val (.ref w_EQUAL), .val (.int (2 : Int32)), .val (.int (0 : Int32)), .unset] []))) (fun _ kk => XS.goto X2.here hx rfl (pc0 := 97) (pc' := 113) rfl (hb hby at_97) (by decide) (by decide) kk) ?_
      refine go_of (B := (T2.setTop (mkF m 115 #[.val (.int k), .val (.int od), .val (.int ((k &&& (2147483647 : Int32)) % (6 : Int32))), .val (.ref w_EQUAL), .val (.int (2 : Int32)), .val (.int (0 : Int32)), .unset] [(.int (2 : Int32))]))) (fun _ kk => XS.iload X2.here hx rfl (hb hby at_113) rfl kk) ?_
      refine go_of (B := (T2.setTop (mkF m 117 #[.val (.int k), .val (.int od), .val (.int ((k &&& (2147483647 : Int32)) % (6 : Int32))), .val (.ref w_EQUAL), .val (.int (2 : Int32)), .val (.int (0 : Int32)), .unset] [(.int (0 : Int32)), (.int (2 : Int32))]))) (fun _ kk => XS.iload X2.here hx rfl (hb hby at_115) rfl kk) ?_
      refine go_of (B := (T2.setTop (mkF m 118 #[.val (.int k), .val (.int od), .val (.int ((k &&& (2147483647 : Int32)) % (6 : Int32))), .val (.ref w_EQUAL), .val (.int (2 : Int32)), .val (.int (0 : Int32)), .unset] [(.int (2 : Int32))]))) (fun _ kk => XS.ishr X2.here hx rfl (hb hby at_117) rfl kk) ?_
      refine go_of (B := (T2.setTop (mkF m 119 #[.val (.int k), .val (.int od), .val (.int ((k &&& (2147483647 : Int32)) % (6 : Int32))), .val (.ref w_EQUAL), .val (.int (2 : Int32)), .val (.int (0 : Int32)), .unset] [(.int (1 : Int32)), (.int (2 : Int32))]))) (fun _ kk => XS.iconst X2.here hx rfl (hb hby at_118) kk) ?_
      refine go_of (B := (T2.setTop (mkF m 120 #[.val (.int k), .val (.int od), .val (.int ((k &&& (2147483647 : Int32)) % (6 : Int32))), .val (.ref w_EQUAL), .val (.int (2 : Int32)), .val (.int (0 : Int32)), .unset] [(.int (0 : Int32))]))) (fun _ kk => XS.iand X2.here hx rfl (hb hby at_119) rfl kk) ?_
      refine go_of (B := (T2.setTop (mkF m 127 #[.val (.int k), .val (.int od), .val (.int ((k &&& (2147483647 : Int32)) % (6 : Int32))), .val (.ref w_EQUAL), .val (.int (2 : Int32)), .val (.int (0 : Int32)), .unset] []))) (fun _ kk => XS.ifYes X2.here hx rfl (pc0 := 120) (pc' := 127) rfl (hb hby at_120) rfl ((if0 _ _).trans (teq (by decide : (0 : Int32) = (0 : Int32))).1) (by decide) (by decide) kk) ?_
      refine go_of (B := (T2.setTop (mkF m 128 #[.val (.int k), .val (.int od), .val (.int ((k &&& (2147483647 : Int32)) % (6 : Int32))), .val (.ref w_EQUAL), .val (.int (2 : Int32)), .val (.int (0 : Int32)), .unset] [(.int (0 : Int32))]))) (fun _ kk => XS.iconst X2.here hx rfl (hb hby at_127) kk) ?_
      refine go_of (B := (T2.setTop (mkF m 130 #[.val (.int k), .val (.int od), .val (.int ((k &&& (2147483647 : Int32)) % (6 : Int32))), .val (.ref w_EQUAL), .val (.int (2 : Int32)), .val (.int (0 : Int32)), .val (.int (0 : Int32))] []))) (fun _ kk => XS.istore X2.here hx rfl (hb hby at_128) rfl rfl kk) ?_
      refine go_of (B := (T2.setTop (mkF m 131 #[.val (.int k), .val (.int od), .val (.int ((k &&& (2147483647 : Int32)) % (6 : Int32))), .val (.ref w_EQUAL), .val (.int (2 : Int32)), .val (.int (0 : Int32)), .val (.int (0 : Int32))] [(.ref w_EQUAL)]))) (fun _ kk => XS.aloadN X2.here hx rfl (hb hby at_130) rfl rfl kk) ?_
      refine go_of (B := (T2.setTop (mkF m 132 #[.val (.int k), .val (.int od), .val (.int ((k &&& (2147483647 : Int32)) % (6 : Int32))), .val (.ref w_EQUAL), .val (.int (2 : Int32)), .val (.int (0 : Int32)), .val (.int (0 : Int32))] [(.int od), (.ref w_EQUAL)]))) (fun _ kk => XS.iloadN X2.here hx rfl (hb hby at_131) rfl kk) ?_
      obtain ⟨cq4, kq4, q4a, q4b, q4c⟩ := isOf hZ e2 E_EQUAL
      obtain ⟨_, _, ⟨T4, L4, k4, n4⟩, -, X4, ⟨Lc4, hQ4, l4, y4, z4⟩, st4⟩ := X2.virtualBack hx (y := (⟨"com/example/sure_paths/surepaths/model/PropertyCondition$Operator", "holds", "(I)Z"⟩ : MethodName)) (z := (⟨"com/example/sure_paths/surepaths/model/PropertyCondition$Operator", "holds", "(I)Z"⟩ : MethodName)) hown (mvT hZ (hw _ (List.mem_of_getElem? (i := 4) rfl))) (mvT hZ (hw _ (List.mem_of_getElem? (i := 5) rfl))) (notFace_of_selects (args := #[]) (mvT hZ (hw _ (List.mem_of_getElem? (i := 7) rfl)))) (mvT hZ (hw _ (List.mem_of_getElem? (i := 7) rfl))) (mvT hZ (hw _ (List.mem_of_getElem? (i := 6) rfl))) (by decide) (backOf (W := 0) (rmh0 l Z a0 hw [] w_EQUAL od h0 n0 Z0 E_EQUAL F_EQUAL) hZ (hw _ (List.mem_of_getElem? (i := 8) rfl)) (hw _ (List.mem_of_getElem? (i := 2) rfl)) (by decide) (by decide)) q4a q4c (g := (mkF m 132 #[.val (.int k), .val (.int od), .val (.int ((k &&& (2147483647 : Int32)) % (6 : Int32))), .val (.ref w_EQUAL), .val (.int (2 : Int32)), .val (.int (0 : Int32)), .val (.int (0 : Int32))] [(.int od), (.ref w_EQUAL)])) rfl (by rw [hml]; rfl) (Steps.refl _) (argsL := [(.int od)]) (rest := []) (lenOf pd__I_Z rfl) rfl (by show 2 * 0 + _ ≤ _; exact Nat.le_of_eq rfl) (hb hby at_132) (fun _ _ => ⟨rfl, e2, (by decide : 0 + 0 ≤ _), (by decide : 0 + 0 ≤ _)⟩)
      dsimp only [Pt.U, Pt.locs, Pt.cells, Pt.slots] at X4 l4 y4 z4 st4 hQ4
      subst l4 y4 z4
      obtain ⟨rfl, N4q, e4⟩ := hQ4
      have N4 := Fr.app N0 N4q
      refine go_tr (B := (T4.setTop (mkF m 135 #[.val (.int k), .val (.int od), .val (.int ((k &&& (2147483647 : Int32)) % (6 : Int32))), .val (.ref w_EQUAL), .val (.int (2 : Int32)), .val (.int (0 : Int32)), .val (.int (0 : Int32))] [(.int (own_h0 od))]))) (st4) ?_
      refine go_of (B := (T4.setTop (mkF m 137 #[.val (.int k), .val (.int od), .val (.int ((k &&& (2147483647 : Int32)) % (6 : Int32))), .val (.ref w_EQUAL), .val (.int (2 : Int32)), .val (.int (0 : Int32)), .val (.int (0 : Int32))] [(.int (0 : Int32)), (.int (own_h0 od))]))) (fun _ kk => XS.iload X4.here hx rfl (hb hby at_135) rfl kk) ?_
      refine go_of (B := (T4.setTop (mkF m 140 #[.val (.int k), .val (.int od), .val (.int ((k &&& (2147483647 : Int32)) % (6 : Int32))), .val (.ref w_EQUAL), .val (.int (2 : Int32)), .val (.int (0 : Int32)), .val (.int (0 : Int32))] []))) (fun _ kk => XS.icmpNo X4.here hx rfl (hb hby at_137) rfl (teq (own_h0_n od hc3 : (own_h0 od) = (0 : Int32))).2 kk) ?_
      refine go_of (B := (T4.setTop (mkF m 141 #[.val (.int k), .val (.int od), .val (.int ((k &&& (2147483647 : Int32)) % (6 : Int32))), .val (.ref w_EQUAL), .val (.int (2 : Int32)), .val (.int (0 : Int32)), .val (.int (0 : Int32))] [(.int (1 : Int32))]))) (fun _ kk => XS.iconst X4.here hx rfl (hb hby at_140) kk) ?_
      refine go_of (B := (T4.setTop (mkF m 145 #[.val (.int k), .val (.int od), .val (.int ((k &&& (2147483647 : Int32)) % (6 : Int32))), .val (.ref w_EQUAL), .val (.int (2 : Int32)), .val (.int (0 : Int32)), .val (.int (0 : Int32))] [(.int (1 : Int32))]))) (fun _ kk => XS.goto X4.here hx rfl (pc0 := 141) (pc' := 145) rfl (hb hby at_141) (by decide) (by decide) kk) ?_
      refine go_end X4 (v := some (.int (nar .boolean (1 : Int32)))) (fun h => by rw [Bd.returns] at h; cases h) Bd.notSynchronized (by decide) (by decide) (Q := (Q_rm0 Z k od w_EQUAL w_NOT_EQUAL w_LESS w_LESS_OR_EQUAL w_GREATER w_GREATER_OR_EQUAL h0 n0)) ?_ (fun fs hr => retN X4 hx (t := .boolean) Bd.returns (by simp) (hb hby at_145) hr)
      show (fun (v : Option Value) (h : Heap) (L : List Loc) => v = some (.int 1) ∧ Fr n0 L) (some (.int (nar .boolean (1 : Int32)))) T4.heap _
      rw [e4]
      exact ⟨rfl, N4⟩
    · refine go_of (B := (T2.setTop (mkF m 100 #[.val (.int k), .val (.int od), .val (.int ((k &&& (2147483647 : Int32)) % (6 : Int32))), .val (.ref w_EQUAL), .val (.int (2 : Int32)), .unset, .unset] []))) (fun _ kk => XS.ifYes X2.here hx rfl (pc0 := 91) (pc' := 100) rfl (hb hby at_91) rfl ((if0 _ _).trans (flt hc3).2.1) (by decide) (by decide) kk) ?_
      refine go_of (B := (T2.setTop (mkF m 101 #[.val (.int k), .val (.int od), .val (.int ((k &&& (2147483647 : Int32)) % (6 : Int32))), .val (.ref w_EQUAL), .val (.int (2 : Int32)), .unset, .unset] [(.int od)]))) (fun _ kk => XS.iloadN X2.here hx rfl (hb hby at_100) rfl kk) ?_
      by_cases hc5 : od = (0 : Int32)
      · refine go_of (B := (T2.setTop (mkF m 104 #[.val (.int k), .val (.int od), .val (.int ((k &&& (2147483647 : Int32)) % (6 : Int32))), .val (.ref w_EQUAL), .val (.int (2 : Int32)), .unset, .unset] []))) (fun _ kk => XS.ifNo X2.here hx rfl (hb hby at_101) rfl ((if0 _ _).trans (teq hc5).2) kk) ?_
        refine go_of (B := (T2.setTop (mkF m 105 #[.val (.int k), .val (.int od), .val (.int ((k &&& (2147483647 : Int32)) % (6 : Int32))), .val (.ref w_EQUAL), .val (.int (2 : Int32)), .unset, .unset] [(.int (1 : Int32))]))) (fun _ kk => XS.iconst X2.here hx rfl (hb hby at_104) kk) ?_
        refine go_of (B := (T2.setTop (mkF m 107 #[.val (.int k), .val (.int od), .val (.int ((k &&& (2147483647 : Int32)) % (6 : Int32))), .val (.ref w_EQUAL), .val (.int (2 : Int32)), .val (.int (1 : Int32)), .unset] []))) (fun _ kk => XS.istore X2.here hx rfl (hb hby at_105) rfl rfl kk) ?_
        refine go_of (B := (T2.setTop (mkF m 113 #[.val (.int k), .val (.int od), .val (.int ((k &&& (2147483647 : Int32)) % (6 : Int32))), .val (.ref w_EQUAL), .val (.int (2 : Int32)), .val (.int (1 : Int32)), .unset] []))) (fun _ kk => XS.goto X2.here hx rfl (pc0 := 107) (pc' := 113) rfl (hb hby at_107) (by decide) (by decide) kk) ?_
        refine go_of (B := (T2.setTop (mkF m 115 #[.val (.int k), .val (.int od), .val (.int ((k &&& (2147483647 : Int32)) % (6 : Int32))), .val (.ref w_EQUAL), .val (.int (2 : Int32)), .val (.int (1 : Int32)), .unset] [(.int (2 : Int32))]))) (fun _ kk => XS.iload X2.here hx rfl (hb hby at_113) rfl kk) ?_
        refine go_of (B := (T2.setTop (mkF m 117 #[.val (.int k), .val (.int od), .val (.int ((k &&& (2147483647 : Int32)) % (6 : Int32))), .val (.ref w_EQUAL), .val (.int (2 : Int32)), .val (.int (1 : Int32)), .unset] [(.int (1 : Int32)), (.int (2 : Int32))]))) (fun _ kk => XS.iload X2.here hx rfl (hb hby at_115) rfl kk) ?_
        refine go_of (B := (T2.setTop (mkF m 118 #[.val (.int k), .val (.int od), .val (.int ((k &&& (2147483647 : Int32)) % (6 : Int32))), .val (.ref w_EQUAL), .val (.int (2 : Int32)), .val (.int (1 : Int32)), .unset] [(.int (1 : Int32))]))) (fun _ kk => XS.ishr X2.here hx rfl (hb hby at_117) rfl kk) ?_
        refine go_of (B := (T2.setTop (mkF m 119 #[.val (.int k), .val (.int od), .val (.int ((k &&& (2147483647 : Int32)) % (6 : Int32))), .val (.ref w_EQUAL), .val (.int (2 : Int32)), .val (.int (1 : Int32)), .unset] [(.int (1 : Int32)), (.int (1 : Int32))]))) (fun _ kk => XS.iconst X2.here hx rfl (hb hby at_118) kk) ?_
        refine go_of (B := (T2.setTop (mkF m 120 #[.val (.int k), .val (.int od), .val (.int ((k &&& (2147483647 : Int32)) % (6 : Int32))), .val (.ref w_EQUAL), .val (.int (2 : Int32)), .val (.int (1 : Int32)), .unset] [(.int (1 : Int32))]))) (fun _ kk => XS.iand X2.here hx rfl (hb hby at_119) rfl kk) ?_
        refine go_of (B := (T2.setTop (mkF m 123 #[.val (.int k), .val (.int od), .val (.int ((k &&& (2147483647 : Int32)) % (6 : Int32))), .val (.ref w_EQUAL), .val (.int (2 : Int32)), .val (.int (1 : Int32)), .unset] []))) (fun _ kk => XS.ifNo X2.here hx rfl (hb hby at_120) rfl ((if0 _ _).trans (feq (by decide : ¬ ((1 : Int32) = (0 : Int32)))).1) kk) ?_
        refine go_of (B := (T2.setTop (mkF m 124 #[.val (.int k), .val (.int od), .val (.int ((k &&& (2147483647 : Int32)) % (6 : Int32))), .val (.ref w_EQUAL), .val (.int (2 : Int32)), .val (.int (1 : Int32)), .unset] [(.int (1 : Int32))]))) (fun _ kk => XS.iconst X2.here hx rfl (hb hby at_123) kk) ?_
        refine go_of (B := (T2.setTop (mkF m 128 #[.val (.int k), .val (.int od), .val (.int ((k &&& (2147483647 : Int32)) % (6 : Int32))), .val (.ref w_EQUAL), .val (.int (2 : Int32)), .val (.int (1 : Int32)), .unset] [(.int (1 : Int32))]))) (fun _ kk => XS.goto X2.here hx rfl (pc0 := 124) (pc' := 128) rfl (hb hby at_124) (by decide) (by decide) kk) ?_
        refine go_of (B := (T2.setTop (mkF m 130 #[.val (.int k), .val (.int od), .val (.int ((k &&& (2147483647 : Int32)) % (6 : Int32))), .val (.ref w_EQUAL), .val (.int (2 : Int32)), .val (.int (1 : Int32)), .val (.int (1 : Int32))] []))) (fun _ kk => XS.istore X2.here hx rfl (hb hby at_128) rfl rfl kk) ?_
        refine go_of (B := (T2.setTop (mkF m 131 #[.val (.int k), .val (.int od), .val (.int ((k &&& (2147483647 : Int32)) % (6 : Int32))), .val (.ref w_EQUAL), .val (.int (2 : Int32)), .val (.int (1 : Int32)), .val (.int (1 : Int32))] [(.ref w_EQUAL)]))) (fun _ kk => XS.aloadN X2.here hx rfl (hb hby at_130) rfl rfl kk) ?_
        refine go_of (B := (T2.setTop (mkF m 132 #[.val (.int k), .val (.int od), .val (.int ((k &&& (2147483647 : Int32)) % (6 : Int32))), .val (.ref w_EQUAL), .val (.int (2 : Int32)), .val (.int (1 : Int32)), .val (.int (1 : Int32))] [(.int od), (.ref w_EQUAL)]))) (fun _ kk => XS.iloadN X2.here hx rfl (hb hby at_131) rfl kk) ?_
        obtain ⟨cq6, kq6, q6a, q6b, q6c⟩ := isOf hZ e2 E_EQUAL
        obtain ⟨_, _, ⟨T6, L6, k6, n6⟩, -, X6, ⟨Lc6, hQ6, l6, y6, z6⟩, st6⟩ := X2.virtualBack hx (y := (⟨"com/example/sure_paths/surepaths/model/PropertyCondition$Operator", "holds", "(I)Z"⟩ : MethodName)) (z := (⟨"com/example/sure_paths/surepaths/model/PropertyCondition$Operator", "holds", "(I)Z"⟩ : MethodName)) hown (mvT hZ (hw _ (List.mem_of_getElem? (i := 4) rfl))) (mvT hZ (hw _ (List.mem_of_getElem? (i := 5) rfl))) (notFace_of_selects (args := #[]) (mvT hZ (hw _ (List.mem_of_getElem? (i := 7) rfl)))) (mvT hZ (hw _ (List.mem_of_getElem? (i := 7) rfl))) (mvT hZ (hw _ (List.mem_of_getElem? (i := 6) rfl))) (by decide) (backOf (W := 0) (rmh0 l Z a0 hw [] w_EQUAL od h0 n0 Z0 E_EQUAL F_EQUAL) hZ (hw _ (List.mem_of_getElem? (i := 8) rfl)) (hw _ (List.mem_of_getElem? (i := 2) rfl)) (by decide) (by decide)) q6a q6c (g := (mkF m 132 #[.val (.int k), .val (.int od), .val (.int ((k &&& (2147483647 : Int32)) % (6 : Int32))), .val (.ref w_EQUAL), .val (.int (2 : Int32)), .val (.int (1 : Int32)), .val (.int (1 : Int32))] [(.int od), (.ref w_EQUAL)])) rfl (by rw [hml]; rfl) (Steps.refl _) (argsL := [(.int od)]) (rest := []) (lenOf pd__I_Z rfl) rfl (by show 2 * 0 + _ ≤ _; exact Nat.le_of_eq rfl) (hb hby at_132) (fun _ _ => ⟨rfl, e2, (by decide : 0 + 0 ≤ _), (by decide : 0 + 0 ≤ _)⟩)
        dsimp only [Pt.U, Pt.locs, Pt.cells, Pt.slots] at X6 l6 y6 z6 st6 hQ6
        subst l6 y6 z6
        obtain ⟨rfl, N6q, e6⟩ := hQ6
        have N6 := Fr.app N0 N6q
        refine go_tr (B := (T6.setTop (mkF m 135 #[.val (.int k), .val (.int od), .val (.int ((k &&& (2147483647 : Int32)) % (6 : Int32))), .val (.ref w_EQUAL), .val (.int (2 : Int32)), .val (.int (1 : Int32)), .val (.int (1 : Int32))] [(.int (own_h0 od))]))) (st6) ?_
        refine go_of (B := (T6.setTop (mkF m 137 #[.val (.int k), .val (.int od), .val (.int ((k &&& (2147483647 : Int32)) % (6 : Int32))), .val (.ref w_EQUAL), .val (.int (2 : Int32)), .val (.int (1 : Int32)), .val (.int (1 : Int32))] [(.int (1 : Int32)), (.int (own_h0 od))]))) (fun _ kk => XS.iload X6.here hx rfl (hb hby at_135) rfl kk) ?_
        refine go_of (B := (T6.setTop (mkF m 140 #[.val (.int k), .val (.int od), .val (.int ((k &&& (2147483647 : Int32)) % (6 : Int32))), .val (.ref w_EQUAL), .val (.int (2 : Int32)), .val (.int (1 : Int32)), .val (.int (1 : Int32))] []))) (fun _ kk => XS.icmpNo X6.here hx rfl (hb hby at_137) rfl (teq (own_h0_z od hc3 hc5 : (own_h0 od) = (1 : Int32))).2 kk) ?_
        refine go_of (B := (T6.setTop (mkF m 141 #[.val (.int k), .val (.int od), .val (.int ((k &&& (2147483647 : Int32)) % (6 : Int32))), .val (.ref w_EQUAL), .val (.int (2 : Int32)), .val (.int (1 : Int32)), .val (.int (1 : Int32))] [(.int (1 : Int32))]))) (fun _ kk => XS.iconst X6.here hx rfl (hb hby at_140) kk) ?_
        refine go_of (B := (T6.setTop (mkF m 145 #[.val (.int k), .val (.int od), .val (.int ((k &&& (2147483647 : Int32)) % (6 : Int32))), .val (.ref w_EQUAL), .val (.int (2 : Int32)), .val (.int (1 : Int32)), .val (.int (1 : Int32))] [(.int (1 : Int32))]))) (fun _ kk => XS.goto X6.here hx rfl (pc0 := 141) (pc' := 145) rfl (hb hby at_141) (by decide) (by decide) kk) ?_
        refine go_end X6 (v := some (.int (nar .boolean (1 : Int32)))) (fun h => by rw [Bd.returns] at h; cases h) Bd.notSynchronized (by decide) (by decide) (Q := (Q_rm0 Z k od w_EQUAL w_NOT_EQUAL w_LESS w_LESS_OR_EQUAL w_GREATER w_GREATER_OR_EQUAL h0 n0)) ?_ (fun fs hr => retN X6 hx (t := .boolean) Bd.returns (by simp) (hb hby at_145) hr)
        show (fun (v : Option Value) (h : Heap) (L : List Loc) => v = some (.int 1) ∧ Fr n0 L) (some (.int (nar .boolean (1 : Int32)))) T6.heap _
        rw [e6]
        exact ⟨rfl, N6⟩
      · refine go_of (B := (T2.setTop (mkF m 110 #[.val (.int k), .val (.int od), .val (.int ((k &&& (2147483647 : Int32)) % (6 : Int32))), .val (.ref w_EQUAL), .val (.int (2 : Int32)), .unset, .unset] []))) (fun _ kk => XS.ifYes X2.here hx rfl (pc0 := 101) (pc' := 110) rfl (hb hby at_101) rfl ((if0 _ _).trans (feq hc5).2) (by decide) (by decide) kk) ?_
        refine go_of (B := (T2.setTop (mkF m 111 #[.val (.int k), .val (.int od), .val (.int ((k &&& (2147483647 : Int32)) % (6 : Int32))), .val (.ref w_EQUAL), .val (.int (2 : Int32)), .unset, .unset] [(.int (2 : Int32))]))) (fun _ kk => XS.iconst X2.here hx rfl (hb hby at_110) kk) ?_
        refine go_of (B := (T2.setTop (mkF m 113 #[.val (.int k), .val (.int od), .val (.int ((k &&& (2147483647 : Int32)) % (6 : Int32))), .val (.ref w_EQUAL), .val (.int (2 : Int32)), .val (.int (2 : Int32)), .unset] []))) (fun _ kk => XS.istore X2.here hx rfl (hb hby at_111) rfl rfl kk) ?_
        refine go_of (B := (T2.setTop (mkF m 115 #[.val (.int k), .val (.int od), .val (.int ((k &&& (2147483647 : Int32)) % (6 : Int32))), .val (.ref w_EQUAL), .val (.int (2 : Int32)), .val (.int (2 : Int32)), .unset] [(.int (2 : Int32))]))) (fun _ kk => XS.iload X2.here hx rfl (hb hby at_113) rfl kk) ?_
        refine go_of (B := (T2.setTop (mkF m 117 #[.val (.int k), .val (.int od), .val (.int ((k &&& (2147483647 : Int32)) % (6 : Int32))), .val (.ref w_EQUAL), .val (.int (2 : Int32)), .val (.int (2 : Int32)), .unset] [(.int (2 : Int32)), (.int (2 : Int32))]))) (fun _ kk => XS.iload X2.here hx rfl (hb hby at_115) rfl kk) ?_
        refine go_of (B := (T2.setTop (mkF m 118 #[.val (.int k), .val (.int od), .val (.int ((k &&& (2147483647 : Int32)) % (6 : Int32))), .val (.ref w_EQUAL), .val (.int (2 : Int32)), .val (.int (2 : Int32)), .unset] [(.int (0 : Int32))]))) (fun _ kk => XS.ishr X2.here hx rfl (hb hby at_117) rfl kk) ?_
        refine go_of (B := (T2.setTop (mkF m 119 #[.val (.int k), .val (.int od), .val (.int ((k &&& (2147483647 : Int32)) % (6 : Int32))), .val (.ref w_EQUAL), .val (.int (2 : Int32)), .val (.int (2 : Int32)), .unset] [(.int (1 : Int32)), (.int (0 : Int32))]))) (fun _ kk => XS.iconst X2.here hx rfl (hb hby at_118) kk) ?_
        refine go_of (B := (T2.setTop (mkF m 120 #[.val (.int k), .val (.int od), .val (.int ((k &&& (2147483647 : Int32)) % (6 : Int32))), .val (.ref w_EQUAL), .val (.int (2 : Int32)), .val (.int (2 : Int32)), .unset] [(.int (0 : Int32))]))) (fun _ kk => XS.iand X2.here hx rfl (hb hby at_119) rfl kk) ?_
        refine go_of (B := (T2.setTop (mkF m 127 #[.val (.int k), .val (.int od), .val (.int ((k &&& (2147483647 : Int32)) % (6 : Int32))), .val (.ref w_EQUAL), .val (.int (2 : Int32)), .val (.int (2 : Int32)), .unset] []))) (fun _ kk => XS.ifYes X2.here hx rfl (pc0 := 120) (pc' := 127) rfl (hb hby at_120) rfl ((if0 _ _).trans (teq (by decide : (0 : Int32) = (0 : Int32))).1) (by decide) (by decide) kk) ?_
        refine go_of (B := (T2.setTop (mkF m 128 #[.val (.int k), .val (.int od), .val (.int ((k &&& (2147483647 : Int32)) % (6 : Int32))), .val (.ref w_EQUAL), .val (.int (2 : Int32)), .val (.int (2 : Int32)), .unset] [(.int (0 : Int32))]))) (fun _ kk => XS.iconst X2.here hx rfl (hb hby at_127) kk) ?_
        refine go_of (B := (T2.setTop (mkF m 130 #[.val (.int k), .val (.int od), .val (.int ((k &&& (2147483647 : Int32)) % (6 : Int32))), .val (.ref w_EQUAL), .val (.int (2 : Int32)), .val (.int (2 : Int32)), .val (.int (0 : Int32))] []))) (fun _ kk => XS.istore X2.here hx rfl (hb hby at_128) rfl rfl kk) ?_
        refine go_of (B := (T2.setTop (mkF m 131 #[.val (.int k), .val (.int od), .val (.int ((k &&& (2147483647 : Int32)) % (6 : Int32))), .val (.ref w_EQUAL), .val (.int (2 : Int32)), .val (.int (2 : Int32)), .val (.int (0 : Int32))] [(.ref w_EQUAL)]))) (fun _ kk => XS.aloadN X2.here hx rfl (hb hby at_130) rfl rfl kk) ?_
        refine go_of (B := (T2.setTop (mkF m 132 #[.val (.int k), .val (.int od), .val (.int ((k &&& (2147483647 : Int32)) % (6 : Int32))), .val (.ref w_EQUAL), .val (.int (2 : Int32)), .val (.int (2 : Int32)), .val (.int (0 : Int32))] [(.int od), (.ref w_EQUAL)]))) (fun _ kk => XS.iloadN X2.here hx rfl (hb hby at_131) rfl kk) ?_
        obtain ⟨cq7, kq7, q7a, q7b, q7c⟩ := isOf hZ e2 E_EQUAL
        obtain ⟨_, _, ⟨T7, L7, k7, n7⟩, -, X7, ⟨Lc7, hQ7, l7, y7, z7⟩, st7⟩ := X2.virtualBack hx (y := (⟨"com/example/sure_paths/surepaths/model/PropertyCondition$Operator", "holds", "(I)Z"⟩ : MethodName)) (z := (⟨"com/example/sure_paths/surepaths/model/PropertyCondition$Operator", "holds", "(I)Z"⟩ : MethodName)) hown (mvT hZ (hw _ (List.mem_of_getElem? (i := 4) rfl))) (mvT hZ (hw _ (List.mem_of_getElem? (i := 5) rfl))) (notFace_of_selects (args := #[]) (mvT hZ (hw _ (List.mem_of_getElem? (i := 7) rfl)))) (mvT hZ (hw _ (List.mem_of_getElem? (i := 7) rfl))) (mvT hZ (hw _ (List.mem_of_getElem? (i := 6) rfl))) (by decide) (backOf (W := 0) (rmh0 l Z a0 hw [] w_EQUAL od h0 n0 Z0 E_EQUAL F_EQUAL) hZ (hw _ (List.mem_of_getElem? (i := 8) rfl)) (hw _ (List.mem_of_getElem? (i := 2) rfl)) (by decide) (by decide)) q7a q7c (g := (mkF m 132 #[.val (.int k), .val (.int od), .val (.int ((k &&& (2147483647 : Int32)) % (6 : Int32))), .val (.ref w_EQUAL), .val (.int (2 : Int32)), .val (.int (2 : Int32)), .val (.int (0 : Int32))] [(.int od), (.ref w_EQUAL)])) rfl (by rw [hml]; rfl) (Steps.refl _) (argsL := [(.int od)]) (rest := []) (lenOf pd__I_Z rfl) rfl (by show 2 * 0 + _ ≤ _; exact Nat.le_of_eq rfl) (hb hby at_132) (fun _ _ => ⟨rfl, e2, (by decide : 0 + 0 ≤ _), (by decide : 0 + 0 ≤ _)⟩)
        dsimp only [Pt.U, Pt.locs, Pt.cells, Pt.slots] at X7 l7 y7 z7 st7 hQ7
        subst l7 y7 z7
        obtain ⟨rfl, N7q, e7⟩ := hQ7
        have N7 := Fr.app N0 N7q
        refine go_tr (B := (T7.setTop (mkF m 135 #[.val (.int k), .val (.int od), .val (.int ((k &&& (2147483647 : Int32)) % (6 : Int32))), .val (.ref w_EQUAL), .val (.int (2 : Int32)), .val (.int (2 : Int32)), .val (.int (0 : Int32))] [(.int (own_h0 od))]))) (st7) ?_
        refine go_of (B := (T7.setTop (mkF m 137 #[.val (.int k), .val (.int od), .val (.int ((k &&& (2147483647 : Int32)) % (6 : Int32))), .val (.ref w_EQUAL), .val (.int (2 : Int32)), .val (.int (2 : Int32)), .val (.int (0 : Int32))] [(.int (0 : Int32)), (.int (own_h0 od))]))) (fun _ kk => XS.iload X7.here hx rfl (hb hby at_135) rfl kk) ?_
        refine go_of (B := (T7.setTop (mkF m 140 #[.val (.int k), .val (.int od), .val (.int ((k &&& (2147483647 : Int32)) % (6 : Int32))), .val (.ref w_EQUAL), .val (.int (2 : Int32)), .val (.int (2 : Int32)), .val (.int (0 : Int32))] []))) (fun _ kk => XS.icmpNo X7.here hx rfl (hb hby at_137) rfl (teq (own_h0_p od hc3 hc5 : (own_h0 od) = (0 : Int32))).2 kk) ?_
        refine go_of (B := (T7.setTop (mkF m 141 #[.val (.int k), .val (.int od), .val (.int ((k &&& (2147483647 : Int32)) % (6 : Int32))), .val (.ref w_EQUAL), .val (.int (2 : Int32)), .val (.int (2 : Int32)), .val (.int (0 : Int32))] [(.int (1 : Int32))]))) (fun _ kk => XS.iconst X7.here hx rfl (hb hby at_140) kk) ?_
        refine go_of (B := (T7.setTop (mkF m 145 #[.val (.int k), .val (.int od), .val (.int ((k &&& (2147483647 : Int32)) % (6 : Int32))), .val (.ref w_EQUAL), .val (.int (2 : Int32)), .val (.int (2 : Int32)), .val (.int (0 : Int32))] [(.int (1 : Int32))]))) (fun _ kk => XS.goto X7.here hx rfl (pc0 := 141) (pc' := 145) rfl (hb hby at_141) (by decide) (by decide) kk) ?_
        refine go_end X7 (v := some (.int (nar .boolean (1 : Int32)))) (fun h => by rw [Bd.returns] at h; cases h) Bd.notSynchronized (by decide) (by decide) (Q := (Q_rm0 Z k od w_EQUAL w_NOT_EQUAL w_LESS w_LESS_OR_EQUAL w_GREATER w_GREATER_OR_EQUAL h0 n0)) ?_ (fun fs hr => retN X7 hx (t := .boolean) Bd.returns (by simp) (hb hby at_145) hr)
        show (fun (v : Option Value) (h : Heap) (L : List Loc) => v = some (.int 1) ∧ Fr n0 L) (some (.int (nar .boolean (1 : Int32)))) T7.heap _
        rw [e7]
        exact ⟨rfl, N7⟩
  · refine go_of (B := (s₁.setTop (mkF m 22 #[.val (.int k), .val (.int od), .val (.int ((k &&& (2147483647 : Int32)) % (6 : Int32))), .unset, .unset, .unset, .unset] []))) (fun _ kk => XS.ifYes X0.here hx rfl (pc0 := 9) (pc' := 22) rfl (hb hby at_9) rfl ((if0 _ _).trans (feq hc1).2) (by decide) (by decide) kk) ?_
    refine go_of (B := (s₁.setTop (mkF m 23 #[.val (.int k), .val (.int od), .val (.int ((k &&& (2147483647 : Int32)) % (6 : Int32))), .unset, .unset, .unset, .unset] [(.int ((k &&& (2147483647 : Int32)) % (6 : Int32)))]))) (fun _ kk => XS.iloadN X0.here hx rfl (hb hby at_22) rfl kk) ?_
    refine go_of (B := (s₁.setTop (mkF m 24 #[.val (.int k), .val (.int od), .val (.int ((k &&& (2147483647 : Int32)) % (6 : Int32))), .unset, .unset, .unset, .unset] [(.int (1 : Int32)), (.int ((k &&& (2147483647 : Int32)) % (6 : Int32)))]))) (fun _ kk => XS.iconst X0.here hx rfl (hb hby at_23) kk) ?_
    by_cases hc8 : ((k &&& (2147483647 : Int32)) % (6 : Int32)) = (1 : Int32)
    · refine go_of (B := (s₁.setTop (mkF m 27 #[.val (.int k), .val (.int od), .val (.int ((k &&& (2147483647 : Int32)) % (6 : Int32))), .unset, .unset, .unset, .unset] []))) (fun _ kk => XS.icmpNo X0.here hx rfl (hb hby at_24) rfl (teq hc8).2 kk) ?_
      obtain ⟨T9, X9, e9, st9⟩ := getS2 X0 hx hZ hown (host := "") (Or.inl (hw _ (List.mem_of_getElem? (i := 22) rfl))) Via.refl e0 S_NOT_EQUAL (g := (mkF m 27 #[.val (.int k), .val (.int od), .val (.int ((k &&& (2147483647 : Int32)) % (6 : Int32))), .unset, .unset, .unset, .unset] [])) rfl (hb hby at_27)
      refine go_of (B := (T9.setTop (mkF m 30 #[.val (.int k), .val (.int od), .val (.int ((k &&& (2147483647 : Int32)) % (6 : Int32))), .unset, .unset, .unset, .unset] [(.ref w_NOT_EQUAL)]))) (st9) ?_
      refine go_of (B := (T9.setTop (mkF m 31 #[.val (.int k), .val (.int od), .val (.int ((k &&& (2147483647 : Int32)) % (6 : Int32))), .val (.ref w_NOT_EQUAL), .unset, .unset, .unset] []))) (fun _ kk => XS.astoreN X9.here hx rfl (hb hby at_30) rfl rfl rfl kk) ?_
      refine go_of (B := (T9.setTop (mkF m 32 #[.val (.int k), .val (.int od), .val (.int ((k &&& (2147483647 : Int32)) % (6 : Int32))), .val (.ref w_NOT_EQUAL), .unset, .unset, .unset] [(.int (5 : Int32))]))) (fun _ kk => XS.iconst X9.here hx rfl (hb hby at_31) kk) ?_
      refine go_of (B := (T9.setTop (mkF m 34 #[.val (.int k), .val (.int od), .val (.int ((k &&& (2147483647 : Int32)) % (6 : Int32))), .val (.ref w_NOT_EQUAL), .val (.int (5 : Int32)), .unset, .unset] []))) (fun _ kk => XS.istore X9.here hx rfl (hb hby at_32) rfl rfl kk) ?_
      refine go_of (B := (T9.setTop (mkF m 90 #[.val (.int k), .val (.int od), .val (.int ((k &&& (2147483647 : Int32)) % (6 : Int32))), .val (.ref w_NOT_EQUAL), .val (.int (5 : Int32)), .unset, .unset] []))) (fun _ kk => XS.goto X9.here hx rfl (pc0 := 34) (pc' := 90) rfl (hb hby at_34) (by decide) (by decide) kk) ?_
      refine go_of (B := (T9.setTop (mkF m 91 #[.val (.int k), .val (.int od), .val (.int ((k &&& (2147483647 : Int32)) % (6 : Int32))), .val (.ref w_NOT_EQUAL), .val (.int (5 : Int32)), .unset, .unset] [(.int od)]))) (fun _ kk => XS.iloadN X9.here hx rfl (hb hby at_90) rfl kk) ?_
      by_cases hc10 : od < (0 : Int32)
      · refine go_of (B := (T9.setTop (mkF m 94 #[.val (.int k), .val (.int od), .val (.int ((k &&& (2147483647 : Int32)) % (6 : Int32))), .val (.ref w_NOT_EQUAL), .val (.int (5 : Int32)), .unset, .unset] []))) (fun _ kk => XS.ifNo X9.here hx rfl (hb hby at_91) rfl ((if0 _ _).trans (tlt hc10).2.1) kk) ?_
        refine go_of (B := (T9.setTop (mkF m 95 #[.val (.int k), .val (.int od), .val (.int ((k &&& (2147483647 : Int32)) % (6 : Int32))), .val (.ref w_NOT_EQUAL), .val (.int (5 : Int32)), .unset, .unset] [(.int (0 : Int32))]))) (fun _ kk => XS.iconst X9.here hx rfl (hb hby at_94) kk) ?_
        refine go_of (B := (T9.setTop (mkF m 97 #[.val (.int k), .val (.int od), .val (.int ((k &&& (2147483647 : Int32)) % (6 : Int32))), .val (.ref w_NOT_EQUAL), .val (.int (5 : Int32)), .val (.int (0 : Int32)), .unset] []))) (fun _ kk => XS.istore X9.here hx rfl (hb hby at_95) rfl rfl kk) ?_
        refine go_of (B := (T9.setTop (mkF m 113 #[.val (.int k), .val (.int od), .val (.int ((k &&& (2147483647 : Int32)) % (6 : Int32))), .val (.ref w_NOT_EQUAL), .val (.int (5 : Int32)), .val (.int (0 : Int32)), .unset] []))) (fun _ kk => XS.goto X9.here hx rfl (pc0 := 97) (pc' := 113) rfl (hb hby at_97) (by decide) (by decide) kk) ?_
        refine go_of (B := (T9.setTop (mkF m 115 #[.val (.int k), .val (.int od), .val (.int ((k &&& (2147483647 : Int32)) % (6 : Int32))), .val (.ref w_NOT_EQUAL), .val (.int (5 : Int32)), .val (.int (0 : Int32)), .unset] [(.int (5 : Int32))]))) (fun _ kk => XS.iload X9.here hx rfl (hb hby at_113) rfl kk) ?_
        refine go_of (B := (T9.setTop (mkF m 117 #[.val (.int k), .val (.int od), .val (.int ((k &&& (2147483647 : Int32)) % (6 : Int32))), .val (.ref w_NOT_EQUAL), .val (.int (5 : Int32)), .val (.int (0 : Int32)), .unset] [(.int (0 : Int32)), (.int (5 : Int32))]))) (fun _ kk => XS.iload X9.here hx rfl (hb hby at_115) rfl kk) ?_
        refine go_of (B := (T9.setTop (mkF m 118 #[.val (.int k), .val (.int od), .val (.int ((k &&& (2147483647 : Int32)) % (6 : Int32))), .val (.ref w_NOT_EQUAL), .val (.int (5 : Int32)), .val (.int (0 : Int32)), .unset] [(.int (5 : Int32))]))) (fun _ kk => XS.ishr X9.here hx rfl (hb hby at_117) rfl kk) ?_
        refine go_of (B := (T9.setTop (mkF m 119 #[.val (.int k), .val (.int od), .val (.int ((k &&& (2147483647 : Int32)) % (6 : Int32))), .val (.ref w_NOT_EQUAL), .val (.int (5 : Int32)), .val (.int (0 : Int32)), .unset] [(.int (1 : Int32)), (.int (5 : Int32))]))) (fun _ kk => XS.iconst X9.here hx rfl (hb hby at_118) kk) ?_
        refine go_of (B := (T9.setTop (mkF m 120 #[.val (.int k), .val (.int od), .val (.int ((k &&& (2147483647 : Int32)) % (6 : Int32))), .val (.ref w_NOT_EQUAL), .val (.int (5 : Int32)), .val (.int (0 : Int32)), .unset] [(.int (1 : Int32))]))) (fun _ kk => XS.iand X9.here hx rfl (hb hby at_119) rfl kk) ?_
        refine go_of (B := (T9.setTop (mkF m 123 #[.val (.int k), .val (.int od), .val (.int ((k &&& (2147483647 : Int32)) % (6 : Int32))), .val (.ref w_NOT_EQUAL), .val (.int (5 : Int32)), .val (.int (0 : Int32)), .unset] []))) (fun _ kk => XS.ifNo X9.here hx rfl (hb hby at_120) rfl ((if0 _ _).trans (feq (by decide : ¬ ((1 : Int32) = (0 : Int32)))).1) kk) ?_
        refine go_of (B := (T9.setTop (mkF m 124 #[.val (.int k), .val (.int od), .val (.int ((k &&& (2147483647 : Int32)) % (6 : Int32))), .val (.ref w_NOT_EQUAL), .val (.int (5 : Int32)), .val (.int (0 : Int32)), .unset] [(.int (1 : Int32))]))) (fun _ kk => XS.iconst X9.here hx rfl (hb hby at_123) kk) ?_
        refine go_of (B := (T9.setTop (mkF m 128 #[.val (.int k), .val (.int od), .val (.int ((k &&& (2147483647 : Int32)) % (6 : Int32))), .val (.ref w_NOT_EQUAL), .val (.int (5 : Int32)), .val (.int (0 : Int32)), .unset] [(.int (1 : Int32))]))) (fun _ kk => XS.goto X9.here hx rfl (pc0 := 124) (pc' := 128) rfl (hb hby at_124) (by decide) (by decide) kk) ?_
        refine go_of (B := (T9.setTop (mkF m 130 #[.val (.int k), .val (.int od), .val (.int ((k &&& (2147483647 : Int32)) % (6 : Int32))), .val (.ref w_NOT_EQUAL), .val (.int (5 : Int32)), .val (.int (0 : Int32)), .val (.int (1 : Int32))] []))) (fun _ kk => XS.istore X9.here hx rfl (hb hby at_128) rfl rfl kk) ?_
        refine go_of (B := (T9.setTop (mkF m 131 #[.val (.int k), .val (.int od), .val (.int ((k &&& (2147483647 : Int32)) % (6 : Int32))), .val (.ref w_NOT_EQUAL), .val (.int (5 : Int32)), .val (.int (0 : Int32)), .val (.int (1 : Int32))] [(.ref w_NOT_EQUAL)]))) (fun _ kk => XS.aloadN X9.here hx rfl (hb hby at_130) rfl rfl kk) ?_
        refine go_of (B := (T9.setTop (mkF m 132 #[.val (.int k), .val (.int od), .val (.int ((k &&& (2147483647 : Int32)) % (6 : Int32))), .val (.ref w_NOT_EQUAL), .val (.int (5 : Int32)), .val (.int (0 : Int32)), .val (.int (1 : Int32))] [(.int od), (.ref w_NOT_EQUAL)]))) (fun _ kk => XS.iloadN X9.here hx rfl (hb hby at_131) rfl kk) ?_
        obtain ⟨cq11, kq11, q11a, q11b, q11c⟩ := isOf hZ e9 E_NOT_EQUAL
        obtain ⟨_, _, ⟨T11, L11, k11, n11⟩, -, X11, ⟨Lc11, hQ11, l11, y11, z11⟩, st11⟩ := X9.virtualBack hx (y := (⟨"com/example/sure_paths/surepaths/model/PropertyCondition$Operator", "holds", "(I)Z"⟩ : MethodName)) (z := (⟨"com/example/sure_paths/surepaths/model/PropertyCondition$Operator", "holds", "(I)Z"⟩ : MethodName)) hown (mvT hZ (hw _ (List.mem_of_getElem? (i := 4) rfl))) (mvT hZ (hw _ (List.mem_of_getElem? (i := 5) rfl))) (notFace_of_selects (args := #[]) (mvT hZ (hw _ (List.mem_of_getElem? (i := 7) rfl)))) (mvT hZ (hw _ (List.mem_of_getElem? (i := 7) rfl))) (mvT hZ (hw _ (List.mem_of_getElem? (i := 6) rfl))) (by decide) (backOf (W := 0) (rmh1 l Z a0 hw [] w_NOT_EQUAL od h0 n0 Z0 E_NOT_EQUAL F_NOT_EQUAL) hZ (hw _ (List.mem_of_getElem? (i := 8) rfl)) (hw _ (List.mem_of_getElem? (i := 2) rfl)) (by decide) (by decide)) q11a q11c (g := (mkF m 132 #[.val (.int k), .val (.int od), .val (.int ((k &&& (2147483647 : Int32)) % (6 : Int32))), .val (.ref w_NOT_EQUAL), .val (.int (5 : Int32)), .val (.int (0 : Int32)), .val (.int (1 : Int32))] [(.int od), (.ref w_NOT_EQUAL)])) rfl (by rw [hml]; rfl) (Steps.refl _) (argsL := [(.int od)]) (rest := []) (lenOf pd__I_Z rfl) rfl (by show 2 * 0 + _ ≤ _; exact Nat.le_of_eq rfl) (hb hby at_132) (fun _ _ => ⟨rfl, e9, (by decide : 0 + 0 ≤ _), (by decide : 0 + 0 ≤ _)⟩)
        dsimp only [Pt.U, Pt.locs, Pt.cells, Pt.slots] at X11 l11 y11 z11 st11 hQ11
        subst l11 y11 z11
        obtain ⟨rfl, N11q, e11⟩ := hQ11
        have N11 := Fr.app N0 N11q
        refine go_tr (B := (T11.setTop (mkF m 135 #[.val (.int k), .val (.int od), .val (.int ((k &&& (2147483647 : Int32)) % (6 : Int32))), .val (.ref w_NOT_EQUAL), .val (.int (5 : Int32)), .val (.int (0 : Int32)), .val (.int (1 : Int32))] [(.int (own_h1 od))]))) (st11) ?_
        refine go_of (B := (T11.setTop (mkF m 137 #[.val (.int k), .val (.int od), .val (.int ((k &&& (2147483647 : Int32)) % (6 : Int32))), .val (.ref w_NOT_EQUAL), .val (.int (5 : Int32)), .val (.int (0 : Int32)), .val (.int (1 : Int32))] [(.int (1 : Int32)), (.int (own_h1 od))]))) (fun _ kk => XS.iload X11.here hx rfl (hb hby at_135) rfl kk) ?_
        refine go_of (B := (T11.setTop (mkF m 140 #[.val (.int k), .val (.int od), .val (.int ((k &&& (2147483647 : Int32)) % (6 : Int32))), .val (.ref w_NOT_EQUAL), .val (.int (5 : Int32)), .val (.int (0 : Int32)), .val (.int (1 : Int32))] []))) (fun _ kk => XS.icmpNo X11.here hx rfl (hb hby at_137) rfl (teq (own_h1_n od hc10 : (own_h1 od) = (1 : Int32))).2 kk) ?_
        refine go_of (B := (T11.setTop (mkF m 141 #[.val (.int k), .val (.int od), .val (.int ((k &&& (2147483647 : Int32)) % (6 : Int32))), .val (.ref w_NOT_EQUAL), .val (.int (5 : Int32)), .val (.int (0 : Int32)), .val (.int (1 : Int32))] [(.int (1 : Int32))]))) (fun _ kk => XS.iconst X11.here hx rfl (hb hby at_140) kk) ?_
        refine go_of (B := (T11.setTop (mkF m 145 #[.val (.int k), .val (.int od), .val (.int ((k &&& (2147483647 : Int32)) % (6 : Int32))), .val (.ref w_NOT_EQUAL), .val (.int (5 : Int32)), .val (.int (0 : Int32)), .val (.int (1 : Int32))] [(.int (1 : Int32))]))) (fun _ kk => XS.goto X11.here hx rfl (pc0 := 141) (pc' := 145) rfl (hb hby at_141) (by decide) (by decide) kk) ?_
        refine go_end X11 (v := some (.int (nar .boolean (1 : Int32)))) (fun h => by rw [Bd.returns] at h; cases h) Bd.notSynchronized (by decide) (by decide) (Q := (Q_rm0 Z k od w_EQUAL w_NOT_EQUAL w_LESS w_LESS_OR_EQUAL w_GREATER w_GREATER_OR_EQUAL h0 n0)) ?_ (fun fs hr => retN X11 hx (t := .boolean) Bd.returns (by simp) (hb hby at_145) hr)
        show (fun (v : Option Value) (h : Heap) (L : List Loc) => v = some (.int 1) ∧ Fr n0 L) (some (.int (nar .boolean (1 : Int32)))) T11.heap _
        rw [e11]
        exact ⟨rfl, N11⟩
      · refine go_of (B := (T9.setTop (mkF m 100 #[.val (.int k), .val (.int od), .val (.int ((k &&& (2147483647 : Int32)) % (6 : Int32))), .val (.ref w_NOT_EQUAL), .val (.int (5 : Int32)), .unset, .unset] []))) (fun _ kk => XS.ifYes X9.here hx rfl (pc0 := 91) (pc' := 100) rfl (hb hby at_91) rfl ((if0 _ _).trans (flt hc10).2.1) (by decide) (by decide) kk) ?_
        refine go_of (B := (T9.setTop (mkF m 101 #[.val (.int k), .val (.int od), .val (.int ((k &&& (2147483647 : Int32)) % (6 : Int32))), .val (.ref w_NOT_EQUAL), .val (.int (5 : Int32)), .unset, .unset] [(.int od)]))) (fun _ kk => XS.iloadN X9.here hx rfl (hb hby at_100) rfl kk) ?_
        by_cases hc12 : od = (0 : Int32)
        · refine go_of (B := (T9.setTop (mkF m 104 #[.val (.int k), .val (.int od), .val (.int ((k &&& (2147483647 : Int32)) % (6 : Int32))), .val (.ref w_NOT_EQUAL), .val (.int (5 : Int32)), .unset, .unset] []))) (fun _ kk => XS.ifNo X9.here hx rfl (hb hby at_101) rfl ((if0 _ _).trans (teq hc12).2) kk) ?_
          refine go_of (B := (T9.setTop (mkF m 105 #[.val (.int k), .val (.int od), .val (.int ((k &&& (2147483647 : Int32)) % (6 : Int32))), .val (.ref w_NOT_EQUAL), .val (.int (5 : Int32)), .unset, .unset] [(.int (1 : Int32))]))) (fun _ kk => XS.iconst X9.here hx rfl (hb hby at_104) kk) ?_
          refine go_of (B := (T9.setTop (mkF m 107 #[.val (.int k), .val (.int od), .val (.int ((k &&& (2147483647 : Int32)) % (6 : Int32))), .val (.ref w_NOT_EQUAL), .val (.int (5 : Int32)), .val (.int (1 : Int32)), .unset] []))) (fun _ kk => XS.istore X9.here hx rfl (hb hby at_105) rfl rfl kk) ?_
          refine go_of (B := (T9.setTop (mkF m 113 #[.val (.int k), .val (.int od), .val (.int ((k &&& (2147483647 : Int32)) % (6 : Int32))), .val (.ref w_NOT_EQUAL), .val (.int (5 : Int32)), .val (.int (1 : Int32)), .unset] []))) (fun _ kk => XS.goto X9.here hx rfl (pc0 := 107) (pc' := 113) rfl (hb hby at_107) (by decide) (by decide) kk) ?_
          refine go_of (B := (T9.setTop (mkF m 115 #[.val (.int k), .val (.int od), .val (.int ((k &&& (2147483647 : Int32)) % (6 : Int32))), .val (.ref w_NOT_EQUAL), .val (.int (5 : Int32)), .val (.int (1 : Int32)), .unset] [(.int (5 : Int32))]))) (fun _ kk => XS.iload X9.here hx rfl (hb hby at_113) rfl kk) ?_
          refine go_of (B := (T9.setTop (mkF m 117 #[.val (.int k), .val (.int od), .val (.int ((k &&& (2147483647 : Int32)) % (6 : Int32))), .val (.ref w_NOT_EQUAL), .val (.int (5 : Int32)), .val (.int (1 : Int32)), .unset] [(.int (1 : Int32)), (.int (5 : Int32))]))) (fun _ kk => XS.iload X9.here hx rfl (hb hby at_115) rfl kk) ?_
          refine go_of (B := (T9.setTop (mkF m 118 #[.val (.int k), .val (.int od), .val (.int ((k &&& (2147483647 : Int32)) % (6 : Int32))), .val (.ref w_NOT_EQUAL), .val (.int (5 : Int32)), .val (.int (1 : Int32)), .unset] [(.int (2 : Int32))]))) (fun _ kk => XS.ishr X9.here hx rfl (hb hby at_117) rfl kk) ?_
          refine go_of (B := (T9.setTop (mkF m 119 #[.val (.int k), .val (.int od), .val (.int ((k &&& (2147483647 : Int32)) % (6 : Int32))), .val (.ref w_NOT_EQUAL), .val (.int (5 : Int32)), .val (.int (1 : Int32)), .unset] [(.int (1 : Int32)), (.int (2 : Int32))]))) (fun _ kk => XS.iconst X9.here hx rfl (hb hby at_118) kk) ?_
          refine go_of (B := (T9.setTop (mkF m 120 #[.val (.int k), .val (.int od), .val (.int ((k &&& (2147483647 : Int32)) % (6 : Int32))), .val (.ref w_NOT_EQUAL), .val (.int (5 : Int32)), .val (.int (1 : Int32)), .unset] [(.int (0 : Int32))]))) (fun _ kk => XS.iand X9.here hx rfl (hb hby at_119) rfl kk) ?_
          refine go_of (B := (T9.setTop (mkF m 127 #[.val (.int k), .val (.int od), .val (.int ((k &&& (2147483647 : Int32)) % (6 : Int32))), .val (.ref w_NOT_EQUAL), .val (.int (5 : Int32)), .val (.int (1 : Int32)), .unset] []))) (fun _ kk => XS.ifYes X9.here hx rfl (pc0 := 120) (pc' := 127) rfl (hb hby at_120) rfl ((if0 _ _).trans (teq (by decide : (0 : Int32) = (0 : Int32))).1) (by decide) (by decide) kk) ?_
          refine go_of (B := (T9.setTop (mkF m 128 #[.val (.int k), .val (.int od), .val (.int ((k &&& (2147483647 : Int32)) % (6 : Int32))), .val (.ref w_NOT_EQUAL), .val (.int (5 : Int32)), .val (.int (1 : Int32)), .unset] [(.int (0 : Int32))]))) (fun _ kk => XS.iconst X9.here hx rfl (hb hby at_127) kk) ?_
          refine go_of (B := (T9.setTop (mkF m 130 #[.val (.int k), .val (.int od), .val (.int ((k &&& (2147483647 : Int32)) % (6 : Int32))), .val (.ref w_NOT_EQUAL), .val (.int (5 : Int32)), .val (.int (1 : Int32)), .val (.int (0 : Int32))] []))) (fun _ kk => XS.istore X9.here hx rfl (hb hby at_128) rfl rfl kk) ?_
          refine go_of (B := (T9.setTop (mkF m 131 #[.val (.int k), .val (.int od), .val (.int ((k &&& (2147483647 : Int32)) % (6 : Int32))), .val (.ref w_NOT_EQUAL), .val (.int (5 : Int32)), .val (.int (1 : Int32)), .val (.int (0 : Int32))] [(.ref w_NOT_EQUAL)]))) (fun _ kk => XS.aloadN X9.here hx rfl (hb hby at_130) rfl rfl kk) ?_
          refine go_of (B := (T9.setTop (mkF m 132 #[.val (.int k), .val (.int od), .val (.int ((k &&& (2147483647 : Int32)) % (6 : Int32))), .val (.ref w_NOT_EQUAL), .val (.int (5 : Int32)), .val (.int (1 : Int32)), .val (.int (0 : Int32))] [(.int od), (.ref w_NOT_EQUAL)]))) (fun _ kk => XS.iloadN X9.here hx rfl (hb hby at_131) rfl kk) ?_
          obtain ⟨cq13, kq13, q13a, q13b, q13c⟩ := isOf hZ e9 E_NOT_EQUAL
          obtain ⟨_, _, ⟨T13, L13, k13, n13⟩, -, X13, ⟨Lc13, hQ13, l13, y13, z13⟩, st13⟩ := X9.virtualBack hx (y := (⟨"com/example/sure_paths/surepaths/model/PropertyCondition$Operator", "holds", "(I)Z"⟩ : MethodName)) (z := (⟨"com/example/sure_paths/surepaths/model/PropertyCondition$Operator", "holds", "(I)Z"⟩ : MethodName)) hown (mvT hZ (hw _ (List.mem_of_getElem? (i := 4) rfl))) (mvT hZ (hw _ (List.mem_of_getElem? (i := 5) rfl))) (notFace_of_selects (args := #[]) (mvT hZ (hw _ (List.mem_of_getElem? (i := 7) rfl)))) (mvT hZ (hw _ (List.mem_of_getElem? (i := 7) rfl))) (mvT hZ (hw _ (List.mem_of_getElem? (i := 6) rfl))) (by decide) (backOf (W := 0) (rmh1 l Z a0 hw [] w_NOT_EQUAL od h0 n0 Z0 E_NOT_EQUAL F_NOT_EQUAL) hZ (hw _ (List.mem_of_getElem? (i := 8) rfl)) (hw _ (List.mem_of_getElem? (i := 2) rfl)) (by decide) (by decide)) q13a q13c (g := (mkF m 132 #[.val (.int k), .val (.int od), .val (.int ((k &&& (2147483647 : Int32)) % (6 : Int32))), .val (.ref w_NOT_EQUAL), .val (.int (5 : Int32)), .val (.int (1 : Int32)), .val (.int (0 : Int32))] [(.int od), (.ref w_NOT_EQUAL)])) rfl (by rw [hml]; rfl) (Steps.refl _) (argsL := [(.int od)]) (rest := []) (lenOf pd__I_Z rfl) rfl (by show 2 * 0 + _ ≤ _; exact Nat.le_of_eq rfl) (hb hby at_132) (fun _ _ => ⟨rfl, e9, (by decide : 0 + 0 ≤ _), (by decide : 0 + 0 ≤ _)⟩)
          dsimp only [Pt.U, Pt.locs, Pt.cells, Pt.slots] at X13 l13 y13 z13 st13 hQ13
          subst l13 y13 z13
          obtain ⟨rfl, N13q, e13⟩ := hQ13
          have N13 := Fr.app N0 N13q
          refine go_tr (B := (T13.setTop (mkF m 135 #[.val (.int k), .val (.int od), .val (.int ((k &&& (2147483647 : Int32)) % (6 : Int32))), .val (.ref w_NOT_EQUAL), .val (.int (5 : Int32)), .val (.int (1 : Int32)), .val (.int (0 : Int32))] [(.int (own_h1 od))]))) (st13) ?_
          refine go_of (B := (T13.setTop (mkF m 137 #[.val (.int k), .val (.int od), .val (.int ((k &&& (2147483647 : Int32)) % (6 : Int32))), .val (.ref w_NOT_EQUAL), .val (.int (5 : Int32)), .val (.int (1 : Int32)), .val (.int (0 : Int32))] [(.int (0 : Int32)), (.int (own_h1 od))]))) (fun _ kk => XS.iload X13.here hx rfl (hb hby at_135) rfl kk) ?_
          refine go_of (B := (T13.setTop (mkF m 140 #[.val (.int k), .val (.int od), .val (.int ((k &&& (2147483647 : Int32)) % (6 : Int32))), .val (.ref w_NOT_EQUAL), .val (.int (5 : Int32)), .val (.int (1 : Int32)), .val (.int (0 : Int32))] []))) (fun _ kk => XS.icmpNo X13.here hx rfl (hb hby at_137) rfl (teq (own_h1_z od hc10 hc12 : (own_h1 od) = (0 : Int32))).2 kk) ?_
          refine go_of (B := (T13.setTop (mkF m 141 #[.val (.int k), .val (.int od), .val (.int ((k &&& (2147483647 : Int32)) % (6 : Int32))), .val (.ref w_NOT_EQUAL), .val (.int (5 : Int32)), .val (.int (1 : Int32)), .val (.int (0 : Int32))] [(.int (1 : Int32))]))) (fun _ kk => XS.iconst X13.here hx rfl (hb hby at_140) kk) ?_
          refine go_of (B := (T13.setTop (mkF m 145 #[.val (.int k), .val (.int od), .val (.int ((k &&& (2147483647 : Int32)) % (6 : Int32))), .val (.ref w_NOT_EQUAL), .val (.int (5 : Int32)), .val (.int (1 : Int32)), .val (.int (0 : Int32))] [(.int (1 : Int32))]))) (fun _ kk => XS.goto X13.here hx rfl (pc0 := 141) (pc' := 145) rfl (hb hby at_141) (by decide) (by decide) kk) ?_
          refine go_end X13 (v := some (.int (nar .boolean (1 : Int32)))) (fun h => by rw [Bd.returns] at h; cases h) Bd.notSynchronized (by decide) (by decide) (Q := (Q_rm0 Z k od w_EQUAL w_NOT_EQUAL w_LESS w_LESS_OR_EQUAL w_GREATER w_GREATER_OR_EQUAL h0 n0)) ?_ (fun fs hr => retN X13 hx (t := .boolean) Bd.returns (by simp) (hb hby at_145) hr)
          show (fun (v : Option Value) (h : Heap) (L : List Loc) => v = some (.int 1) ∧ Fr n0 L) (some (.int (nar .boolean (1 : Int32)))) T13.heap _
          rw [e13]
          exact ⟨rfl, N13⟩
        · refine go_of (B := (T9.setTop (mkF m 110 #[.val (.int k), .val (.int od), .val (.int ((k &&& (2147483647 : Int32)) % (6 : Int32))), .val (.ref w_NOT_EQUAL), .val (.int (5 : Int32)), .unset, .unset] []))) (fun _ kk => XS.ifYes X9.here hx rfl (pc0 := 101) (pc' := 110) rfl (hb hby at_101) rfl ((if0 _ _).trans (feq hc12).2) (by decide) (by decide) kk) ?_
          refine go_of (B := (T9.setTop (mkF m 111 #[.val (.int k), .val (.int od), .val (.int ((k &&& (2147483647 : Int32)) % (6 : Int32))), .val (.ref w_NOT_EQUAL), .val (.int (5 : Int32)), .unset, .unset] [(.int (2 : Int32))]))) (fun _ kk => XS.iconst X9.here hx rfl (hb hby at_110) kk) ?_
          refine go_of (B := (T9.setTop (mkF m 113 #[.val (.int k), .val (.int od), .val (.int ((k &&& (2147483647 : Int32)) % (6 : Int32))), .val (.ref w_NOT_EQUAL), .val (.int (5 : Int32)), .val (.int (2 : Int32)), .unset] []))) (fun _ kk => XS.istore X9.here hx rfl (hb hby at_111) rfl rfl kk) ?_
          refine go_of (B := (T9.setTop (mkF m 115 #[.val (.int k), .val (.int od), .val (.int ((k &&& (2147483647 : Int32)) % (6 : Int32))), .val (.ref w_NOT_EQUAL), .val (.int (5 : Int32)), .val (.int (2 : Int32)), .unset] [(.int (5 : Int32))]))) (fun _ kk => XS.iload X9.here hx rfl (hb hby at_113) rfl kk) ?_
          refine go_of (B := (T9.setTop (mkF m 117 #[.val (.int k), .val (.int od), .val (.int ((k &&& (2147483647 : Int32)) % (6 : Int32))), .val (.ref w_NOT_EQUAL), .val (.int (5 : Int32)), .val (.int (2 : Int32)), .unset] [(.int (2 : Int32)), (.int (5 : Int32))]))) (fun _ kk => XS.iload X9.here hx rfl (hb hby at_115) rfl kk) ?_
          refine go_of (B := (T9.setTop (mkF m 118 #[.val (.int k), .val (.int od), .val (.int ((k &&& (2147483647 : Int32)) % (6 : Int32))), .val (.ref w_NOT_EQUAL), .val (.int (5 : Int32)), .val (.int (2 : Int32)), .unset] [(.int (1 : Int32))]))) (fun _ kk => XS.ishr X9.here hx rfl (hb hby at_117) rfl kk) ?_
          refine go_of (B := (T9.setTop (mkF m 119 #[.val (.int k), .val (.int od), .val (.int ((k &&& (2147483647 : Int32)) % (6 : Int32))), .val (.ref w_NOT_EQUAL), .val (.int (5 : Int32)), .val (.int (2 : Int32)), .unset] [(.int (1 : Int32)), (.int (1 : Int32))]))) (fun _ kk => XS.iconst X9.here hx rfl (hb hby at_118) kk) ?_
          refine go_of (B := (T9.setTop (mkF m 120 #[.val (.int k), .val (.int od), .val (.int ((k &&& (2147483647 : Int32)) % (6 : Int32))), .val (.ref w_NOT_EQUAL), .val (.int (5 : Int32)), .val (.int (2 : Int32)), .unset] [(.int (1 : Int32))]))) (fun _ kk => XS.iand X9.here hx rfl (hb hby at_119) rfl kk) ?_
          refine go_of (B := (T9.setTop (mkF m 123 #[.val (.int k), .val (.int od), .val (.int ((k &&& (2147483647 : Int32)) % (6 : Int32))), .val (.ref w_NOT_EQUAL), .val (.int (5 : Int32)), .val (.int (2 : Int32)), .unset] []))) (fun _ kk => XS.ifNo X9.here hx rfl (hb hby at_120) rfl ((if0 _ _).trans (feq (by decide : ¬ ((1 : Int32) = (0 : Int32)))).1) kk) ?_
          refine go_of (B := (T9.setTop (mkF m 124 #[.val (.int k), .val (.int od), .val (.int ((k &&& (2147483647 : Int32)) % (6 : Int32))), .val (.ref w_NOT_EQUAL), .val (.int (5 : Int32)), .val (.int (2 : Int32)), .unset] [(.int (1 : Int32))]))) (fun _ kk => XS.iconst X9.here hx rfl (hb hby at_123) kk) ?_
          refine go_of (B := (T9.setTop (mkF m 128 #[.val (.int k), .val (.int od), .val (.int ((k &&& (2147483647 : Int32)) % (6 : Int32))), .val (.ref w_NOT_EQUAL), .val (.int (5 : Int32)), .val (.int (2 : Int32)), .unset] [(.int (1 : Int32))]))) (fun _ kk => XS.goto X9.here hx rfl (pc0 := 124) (pc' := 128) rfl (hb hby at_124) (by decide) (by decide) kk) ?_
          refine go_of (B := (T9.setTop (mkF m 130 #[.val (.int k), .val (.int od), .val (.int ((k &&& (2147483647 : Int32)) % (6 : Int32))), .val (.ref w_NOT_EQUAL), .val (.int (5 : Int32)), .val (.int (2 : Int32)), .val (.int (1 : Int32))] []))) (fun _ kk => XS.istore X9.here hx rfl (hb hby at_128) rfl rfl kk) ?_
          refine go_of (B := (T9.setTop (mkF m 131 #[.val (.int k), .val (.int od), .val (.int ((k &&& (2147483647 : Int32)) % (6 : Int32))), .val (.ref w_NOT_EQUAL), .val (.int (5 : Int32)), .val (.int (2 : Int32)), .val (.int (1 : Int32))] [(.ref w_NOT_EQUAL)]))) (fun _ kk => XS.aloadN X9.here hx rfl (hb hby at_130) rfl rfl kk) ?_
          refine go_of (B := (T9.setTop (mkF m 132 #[.val (.int k), .val (.int od), .val (.int ((k &&& (2147483647 : Int32)) % (6 : Int32))), .val (.ref w_NOT_EQUAL), .val (.int (5 : Int32)), .val (.int (2 : Int32)), .val (.int (1 : Int32))] [(.int od), (.ref w_NOT_EQUAL)]))) (fun _ kk => XS.iloadN X9.here hx rfl (hb hby at_131) rfl kk) ?_
          obtain ⟨cq14, kq14, q14a, q14b, q14c⟩ := isOf hZ e9 E_NOT_EQUAL
          obtain ⟨_, _, ⟨T14, L14, k14, n14⟩, -, X14, ⟨Lc14, hQ14, l14, y14, z14⟩, st14⟩ := X9.virtualBack hx (y := (⟨"com/example/sure_paths/surepaths/model/PropertyCondition$Operator", "holds", "(I)Z"⟩ : MethodName)) (z := (⟨"com/example/sure_paths/surepaths/model/PropertyCondition$Operator", "holds", "(I)Z"⟩ : MethodName)) hown (mvT hZ (hw _ (List.mem_of_getElem? (i := 4) rfl))) (mvT hZ (hw _ (List.mem_of_getElem? (i := 5) rfl))) (notFace_of_selects (args := #[]) (mvT hZ (hw _ (List.mem_of_getElem? (i := 7) rfl)))) (mvT hZ (hw _ (List.mem_of_getElem? (i := 7) rfl))) (mvT hZ (hw _ (List.mem_of_getElem? (i := 6) rfl))) (by decide) (backOf (W := 0) (rmh1 l Z a0 hw [] w_NOT_EQUAL od h0 n0 Z0 E_NOT_EQUAL F_NOT_EQUAL) hZ (hw _ (List.mem_of_getElem? (i := 8) rfl)) (hw _ (List.mem_of_getElem? (i := 2) rfl)) (by decide) (by decide)) q14a q14c (g := (mkF m 132 #[.val (.int k), .val (.int od), .val (.int ((k &&& (2147483647 : Int32)) % (6 : Int32))), .val (.ref w_NOT_EQUAL), .val (.int (5 : Int32)), .val (.int (2 : Int32)), .val (.int (1 : Int32))] [(.int od), (.ref w_NOT_EQUAL)])) rfl (by rw [hml]; rfl) (Steps.refl _) (argsL := [(.int od)]) (rest := []) (lenOf pd__I_Z rfl) rfl (by show 2 * 0 + _ ≤ _; exact Nat.le_of_eq rfl) (hb hby at_132) (fun _ _ => ⟨rfl, e9, (by decide : 0 + 0 ≤ _), (by decide : 0 + 0 ≤ _)⟩)
          dsimp only [Pt.U, Pt.locs, Pt.cells, Pt.slots] at X14 l14 y14 z14 st14 hQ14
          subst l14 y14 z14
          obtain ⟨rfl, N14q, e14⟩ := hQ14
          have N14 := Fr.app N0 N14q
          refine go_tr (B := (T14.setTop (mkF m 135 #[.val (.int k), .val (.int od), .val (.int ((k &&& (2147483647 : Int32)) % (6 : Int32))), .val (.ref w_NOT_EQUAL), .val (.int (5 : Int32)), .val (.int (2 : Int32)), .val (.int (1 : Int32))] [(.int (own_h1 od))]))) (st14) ?_
          refine go_of (B := (T14.setTop (mkF m 137 #[.val (.int k), .val (.int od), .val (.int ((k &&& (2147483647 : Int32)) % (6 : Int32))), .val (.ref w_NOT_EQUAL), .val (.int (5 : Int32)), .val (.int (2 : Int32)), .val (.int (1 : Int32))] [(.int (1 : Int32)), (.int (own_h1 od))]))) (fun _ kk => XS.iload X14.here hx rfl (hb hby at_135) rfl kk) ?_
          refine go_of (B := (T14.setTop (mkF m 140 #[.val (.int k), .val (.int od), .val (.int ((k &&& (2147483647 : Int32)) % (6 : Int32))), .val (.ref w_NOT_EQUAL), .val (.int (5 : Int32)), .val (.int (2 : Int32)), .val (.int (1 : Int32))] []))) (fun _ kk => XS.icmpNo X14.here hx rfl (hb hby at_137) rfl (teq (own_h1_p od hc10 hc12 : (own_h1 od) = (1 : Int32))).2 kk) ?_
          refine go_of (B := (T14.setTop (mkF m 141 #[.val (.int k), .val (.int od), .val (.int ((k &&& (2147483647 : Int32)) % (6 : Int32))), .val (.ref w_NOT_EQUAL), .val (.int (5 : Int32)), .val (.int (2 : Int32)), .val (.int (1 : Int32))] [(.int (1 : Int32))]))) (fun _ kk => XS.iconst X14.here hx rfl (hb hby at_140) kk) ?_
          refine go_of (B := (T14.setTop (mkF m 145 #[.val (.int k), .val (.int od), .val (.int ((k &&& (2147483647 : Int32)) % (6 : Int32))), .val (.ref w_NOT_EQUAL), .val (.int (5 : Int32)), .val (.int (2 : Int32)), .val (.int (1 : Int32))] [(.int (1 : Int32))]))) (fun _ kk => XS.goto X14.here hx rfl (pc0 := 141) (pc' := 145) rfl (hb hby at_141) (by decide) (by decide) kk) ?_
          refine go_end X14 (v := some (.int (nar .boolean (1 : Int32)))) (fun h => by rw [Bd.returns] at h; cases h) Bd.notSynchronized (by decide) (by decide) (Q := (Q_rm0 Z k od w_EQUAL w_NOT_EQUAL w_LESS w_LESS_OR_EQUAL w_GREATER w_GREATER_OR_EQUAL h0 n0)) ?_ (fun fs hr => retN X14 hx (t := .boolean) Bd.returns (by simp) (hb hby at_145) hr)
          show (fun (v : Option Value) (h : Heap) (L : List Loc) => v = some (.int 1) ∧ Fr n0 L) (some (.int (nar .boolean (1 : Int32)))) T14.heap _
          rw [e14]
          exact ⟨rfl, N14⟩
    · refine go_of (B := (s₁.setTop (mkF m 37 #[.val (.int k), .val (.int od), .val (.int ((k &&& (2147483647 : Int32)) % (6 : Int32))), .unset, .unset, .unset, .unset] []))) (fun _ kk => XS.icmpYes X0.here hx rfl (pc0 := 24) (pc' := 37) rfl (hb hby at_24) rfl (feq hc8).2 (by decide) (by decide) kk) ?_
      refine go_of (B := (s₁.setTop (mkF m 38 #[.val (.int k), .val (.int od), .val (.int ((k &&& (2147483647 : Int32)) % (6 : Int32))), .unset, .unset, .unset, .unset] [(.int ((k &&& (2147483647 : Int32)) % (6 : Int32)))]))) (fun _ kk => XS.iloadN X0.here hx rfl (hb hby at_37) rfl kk) ?_
      refine go_of (B := (s₁.setTop (mkF m 39 #[.val (.int k), .val (.int od), .val (.int ((k &&& (2147483647 : Int32)) % (6 : Int32))), .unset, .unset, .unset, .unset] [(.int (2 : Int32)), (.int ((k &&& (2147483647 : Int32)) % (6 : Int32)))]))) (fun _ kk => XS.iconst X0.here hx rfl (hb hby at_38) kk) ?_
      by_cases hc15 : ((k &&& (2147483647 : Int32)) % (6 : Int32)) = (2 : Int32)
      · refine go_of (B := (s₁.setTop (mkF m 42 #[.val (.int k), .val (.int od), .val (.int ((k &&& (2147483647 : Int32)) % (6 : Int32))), .unset, .unset, .unset, .unset] []))) (fun _ kk => XS.icmpNo X0.here hx rfl (hb hby at_39) rfl (teq hc15).2 kk) ?_
        obtain ⟨T16, X16, e16, st16⟩ := getS2 X0 hx hZ hown (host := "") (Or.inl (hw _ (List.mem_of_getElem? (i := 18) rfl))) Via.refl e0 S_LESS (g := (mkF m 42 #[.val (.int k), .val (.int od), .val (.int ((k &&& (2147483647 : Int32)) % (6 : Int32))), .unset, .unset, .unset, .unset] [])) rfl (hb hby at_42)
        refine go_of (B := (T16.setTop (mkF m 45 #[.val (.int k), .val (.int od), .val (.int ((k &&& (2147483647 : Int32)) % (6 : Int32))), .unset, .unset, .unset, .unset] [(.ref w_LESS)]))) (st16) ?_
        refine go_of (B := (T16.setTop (mkF m 46 #[.val (.int k), .val (.int od), .val (.int ((k &&& (2147483647 : Int32)) % (6 : Int32))), .val (.ref w_LESS), .unset, .unset, .unset] []))) (fun _ kk => XS.astoreN X16.here hx rfl (hb hby at_45) rfl rfl rfl kk) ?_
        refine go_of (B := (T16.setTop (mkF m 47 #[.val (.int k), .val (.int od), .val (.int ((k &&& (2147483647 : Int32)) % (6 : Int32))), .val (.ref w_LESS), .unset, .unset, .unset] [(.int (1 : Int32))]))) (fun _ kk => XS.iconst X16.here hx rfl (hb hby at_46) kk) ?_
        refine go_of (B := (T16.setTop (mkF m 49 #[.val (.int k), .val (.int od), .val (.int ((k &&& (2147483647 : Int32)) % (6 : Int32))), .val (.ref w_LESS), .val (.int (1 : Int32)), .unset, .unset] []))) (fun _ kk => XS.istore X16.here hx rfl (hb hby at_47) rfl rfl kk) ?_
        refine go_of (B := (T16.setTop (mkF m 90 #[.val (.int k), .val (.int od), .val (.int ((k &&& (2147483647 : Int32)) % (6 : Int32))), .val (.ref w_LESS), .val (.int (1 : Int32)), .unset, .unset] []))) (fun _ kk => XS.goto X16.here hx rfl (pc0 := 49) (pc' := 90) rfl (hb hby at_49) (by decide) (by decide) kk) ?_
        refine go_of (B := (T16.setTop (mkF m 91 #[.val (.int k), .val (.int od), .val (.int ((k &&& (2147483647 : Int32)) % (6 : Int32))), .val (.ref w_LESS), .val (.int (1 : Int32)), .unset, .unset] [(.int od)]))) (fun _ kk => XS.iloadN X16.here hx rfl (hb hby at_90) rfl kk) ?_
        by_cases hc17 : od < (0 : Int32)
        · refine go_of (B := (T16.setTop (mkF m 94 #[.val (.int k), .val (.int od), .val (.int ((k &&& (2147483647 : Int32)) % (6 : Int32))), .val (.ref w_LESS), .val (.int (1 : Int32)), .unset, .unset] []))) (fun _ kk => XS.ifNo X16.here hx rfl (hb hby at_91) rfl ((if0 _ _).trans (tlt hc17).2.1) kk) ?_
          refine go_of (B := (T16.setTop (mkF m 95 #[.val (.int k), .val (.int od), .val (.int ((k &&& (2147483647 : Int32)) % (6 : Int32))), .val (.ref w_LESS), .val (.int (1 : Int32)), .unset, .unset] [(.int (0 : Int32))]))) (fun _ kk => XS.iconst X16.here hx rfl (hb hby at_94) kk) ?_
          refine go_of (B := (T16.setTop (mkF m 97 #[.val (.int k), .val (.int od), .val (.int ((k &&& (2147483647 : Int32)) % (6 : Int32))), .val (.ref w_LESS), .val (.int (1 : Int32)), .val (.int (0 : Int32)), .unset] []))) (fun _ kk => XS.istore X16.here hx rfl (hb hby at_95) rfl rfl kk) ?_
          refine go_of (B := (T16.setTop (mkF m 113 #[.val (.int k), .val (.int od), .val (.int ((k &&& (2147483647 : Int32)) % (6 : Int32))), .val (.ref w_LESS), .val (.int (1 : Int32)), .val (.int (0 : Int32)), .unset] []))) (fun _ kk => XS.goto X16.here hx rfl (pc0 := 97) (pc' := 113) rfl (hb hby at_97) (by decide) (by decide) kk) ?_
          refine go_of (B := (T16.setTop (mkF m 115 #[.val (.int k), .val (.int od), .val (.int ((k &&& (2147483647 : Int32)) % (6 : Int32))), .val (.ref w_LESS), .val (.int (1 : Int32)), .val (.int (0 : Int32)), .unset] [(.int (1 : Int32))]))) (fun _ kk => XS.iload X16.here hx rfl (hb hby at_113) rfl kk) ?_
          refine go_of (B := (T16.setTop (mkF m 117 #[.val (.int k), .val (.int od), .val (.int ((k &&& (2147483647 : Int32)) % (6 : Int32))), .val (.ref w_LESS), .val (.int (1 : Int32)), .val (.int (0 : Int32)), .unset] [(.int (0 : Int32)), (.int (1 : Int32))]))) (fun _ kk => XS.iload X16.here hx rfl (hb hby at_115) rfl kk) ?_
          refine go_of (B := (T16.setTop (mkF m 118 #[.val (.int k), .val (.int od), .val (.int ((k &&& (2147483647 : Int32)) % (6 : Int32))), .val (.ref w_LESS), .val (.int (1 : Int32)), .val (.int (0 : Int32)), .unset] [(.int (1 : Int32))]))) (fun _ kk => XS.ishr X16.here hx rfl (hb hby at_117) rfl kk) ?_
          refine go_of (B := (T16.setTop (mkF m 119 #[.val (.int k), .val (.int od), .val (.int ((k &&& (2147483647 : Int32)) % (6 : Int32))), .val (.ref w_LESS), .val (.int (1 : Int32)), .val (.int (0 : Int32)), .unset] [(.int (1 : Int32)), (.int (1 : Int32))]))) (fun _ kk => XS.iconst X16.here hx rfl (hb hby at_118) kk) ?_
          refine go_of (B := (T16.setTop (mkF m 120 #[.val (.int k), .val (.int od), .val (.int ((k &&& (2147483647 : Int32)) % (6 : Int32))), .val (.ref w_LESS), .val (.int (1 : Int32)), .val (.int (0 : Int32)), .unset] [(.int (1 : Int32))]))) (fun _ kk => XS.iand X16.here hx rfl (hb hby at_119) rfl kk) ?_
          refine go_of (B := (T16.setTop (mkF m 123 #[.val (.int k), .val (.int od), .val (.int ((k &&& (2147483647 : Int32)) % (6 : Int32))), .val (.ref w_LESS), .val (.int (1 : Int32)), .val (.int (0 : Int32)), .unset] []))) (fun _ kk => XS.ifNo X16.here hx rfl (hb hby at_120) rfl ((if0 _ _).trans (feq (by decide : ¬ ((1 : Int32) = (0 : Int32)))).1) kk) ?_
          refine go_of (B := (T16.setTop (mkF m 124 #[.val (.int k), .val (.int od), .val (.int ((k &&& (2147483647 : Int32)) % (6 : Int32))), .val (.ref w_LESS), .val (.int (1 : Int32)), .val (.int (0 : Int32)), .unset] [(.int (1 : Int32))]))) (fun _ kk => XS.iconst X16.here hx rfl (hb hby at_123) kk) ?_
          refine go_of (B := (T16.setTop (mkF m 128 #[.val (.int k), .val (.int od), .val (.int ((k &&& (2147483647 : Int32)) % (6 : Int32))), .val (.ref w_LESS), .val (.int (1 : Int32)), .val (.int (0 : Int32)), .unset] [(.int (1 : Int32))]))) (fun _ kk => XS.goto X16.here hx rfl (pc0 := 124) (pc' := 128) rfl (hb hby at_124) (by decide) (by decide) kk) ?_
          refine go_of (B := (T16.setTop (mkF m 130 #[.val (.int k), .val (.int od), .val (.int ((k &&& (2147483647 : Int32)) % (6 : Int32))), .val (.ref w_LESS), .val (.int (1 : Int32)), .val (.int (0 : Int32)), .val (.int (1 : Int32))] []))) (fun _ kk => XS.istore X16.here hx rfl (hb hby at_128) rfl rfl kk) ?_
          refine go_of (B := (T16.setTop (mkF m 131 #[.val (.int k), .val (.int od), .val (.int ((k &&& (2147483647 : Int32)) % (6 : Int32))), .val (.ref w_LESS), .val (.int (1 : Int32)), .val (.int (0 : Int32)), .val (.int (1 : Int32))] [(.ref w_LESS)]))) (fun _ kk => XS.aloadN X16.here hx rfl (hb hby at_130) rfl rfl kk) ?_
          refine go_of (B := (T16.setTop (mkF m 132 #[.val (.int k), .val (.int od), .val (.int ((k &&& (2147483647 : Int32)) % (6 : Int32))), .val (.ref w_LESS), .val (.int (1 : Int32)), .val (.int (0 : Int32)), .val (.int (1 : Int32))] [(.int od), (.ref w_LESS)]))) (fun _ kk => XS.iloadN X16.here hx rfl (hb hby at_131) rfl kk) ?_
          obtain ⟨cq18, kq18, q18a, q18b, q18c⟩ := isOf hZ e16 E_LESS
          obtain ⟨_, _, ⟨T18, L18, k18, n18⟩, -, X18, ⟨Lc18, hQ18, l18, y18, z18⟩, st18⟩ := X16.virtualBack hx (y := (⟨"com/example/sure_paths/surepaths/model/PropertyCondition$Operator", "holds", "(I)Z"⟩ : MethodName)) (z := (⟨"com/example/sure_paths/surepaths/model/PropertyCondition$Operator", "holds", "(I)Z"⟩ : MethodName)) hown (mvT hZ (hw _ (List.mem_of_getElem? (i := 4) rfl))) (mvT hZ (hw _ (List.mem_of_getElem? (i := 5) rfl))) (notFace_of_selects (args := #[]) (mvT hZ (hw _ (List.mem_of_getElem? (i := 7) rfl)))) (mvT hZ (hw _ (List.mem_of_getElem? (i := 7) rfl))) (mvT hZ (hw _ (List.mem_of_getElem? (i := 6) rfl))) (by decide) (backOf (W := 0) (rmh2 l Z a0 hw [] w_LESS od h0 n0 Z0 E_LESS F_LESS) hZ (hw _ (List.mem_of_getElem? (i := 8) rfl)) (hw _ (List.mem_of_getElem? (i := 2) rfl)) (by decide) (by decide)) q18a q18c (g := (mkF m 132 #[.val (.int k), .val (.int od), .val (.int ((k &&& (2147483647 : Int32)) % (6 : Int32))), .val (.ref w_LESS), .val (.int (1 : Int32)), .val (.int (0 : Int32)), .val (.int (1 : Int32))] [(.int od), (.ref w_LESS)])) rfl (by rw [hml]; rfl) (Steps.refl _) (argsL := [(.int od)]) (rest := []) (lenOf pd__I_Z rfl) rfl (by show 2 * 0 + _ ≤ _; exact Nat.le_of_eq rfl) (hb hby at_132) (fun _ _ => ⟨rfl, e16, (by decide : 0 + 0 ≤ _), (by decide : 0 + 0 ≤ _)⟩)
          dsimp only [Pt.U, Pt.locs, Pt.cells, Pt.slots] at X18 l18 y18 z18 st18 hQ18
          subst l18 y18 z18
          obtain ⟨rfl, N18q, e18⟩ := hQ18
          have N18 := Fr.app N0 N18q
          refine go_tr (B := (T18.setTop (mkF m 135 #[.val (.int k), .val (.int od), .val (.int ((k &&& (2147483647 : Int32)) % (6 : Int32))), .val (.ref w_LESS), .val (.int (1 : Int32)), .val (.int (0 : Int32)), .val (.int (1 : Int32))] [(.int (own_h2 od))]))) (st18) ?_
          refine go_of (B := (T18.setTop (mkF m 137 #[.val (.int k), .val (.int od), .val (.int ((k &&& (2147483647 : Int32)) % (6 : Int32))), .val (.ref w_LESS), .val (.int (1 : Int32)), .val (.int (0 : Int32)), .val (.int (1 : Int32))] [(.int (1 : Int32)), (.int (own_h2 od))]))) (fun _ kk => XS.iload X18.here hx rfl (hb hby at_135) rfl kk) ?_
          refine go_of (B := (T18.setTop (mkF m 140 #[.val (.int k), .val (.int od), .val (.int ((k &&& (2147483647 : Int32)) % (6 : Int32))), .val (.ref w_LESS), .val (.int (1 : Int32)), .val (.int (0 : Int32)), .val (.int (1 : Int32))] []))) (fun _ kk => XS.icmpNo X18.here hx rfl (hb hby at_137) rfl (teq (own_h2_n od hc17 : (own_h2 od) = (1 : Int32))).2 kk) ?_
          refine go_of (B := (T18.setTop (mkF m 141 #[.val (.int k), .val (.int od), .val (.int ((k &&& (2147483647 : Int32)) % (6 : Int32))), .val (.ref w_LESS), .val (.int (1 : Int32)), .val (.int (0 : Int32)), .val (.int (1 : Int32))] [(.int (1 : Int32))]))) (fun _ kk => XS.iconst X18.here hx rfl (hb hby at_140) kk) ?_
          refine go_of (B := (T18.setTop (mkF m 145 #[.val (.int k), .val (.int od), .val (.int ((k &&& (2147483647 : Int32)) % (6 : Int32))), .val (.ref w_LESS), .val (.int (1 : Int32)), .val (.int (0 : Int32)), .val (.int (1 : Int32))] [(.int (1 : Int32))]))) (fun _ kk => XS.goto X18.here hx rfl (pc0 := 141) (pc' := 145) rfl (hb hby at_141) (by decide) (by decide) kk) ?_
          refine go_end X18 (v := some (.int (nar .boolean (1 : Int32)))) (fun h => by rw [Bd.returns] at h; cases h) Bd.notSynchronized (by decide) (by decide) (Q := (Q_rm0 Z k od w_EQUAL w_NOT_EQUAL w_LESS w_LESS_OR_EQUAL w_GREATER w_GREATER_OR_EQUAL h0 n0)) ?_ (fun fs hr => retN X18 hx (t := .boolean) Bd.returns (by simp) (hb hby at_145) hr)
          show (fun (v : Option Value) (h : Heap) (L : List Loc) => v = some (.int 1) ∧ Fr n0 L) (some (.int (nar .boolean (1 : Int32)))) T18.heap _
          rw [e18]
          exact ⟨rfl, N18⟩
        · refine go_of (B := (T16.setTop (mkF m 100 #[.val (.int k), .val (.int od), .val (.int ((k &&& (2147483647 : Int32)) % (6 : Int32))), .val (.ref w_LESS), .val (.int (1 : Int32)), .unset, .unset] []))) (fun _ kk => XS.ifYes X16.here hx rfl (pc0 := 91) (pc' := 100) rfl (hb hby at_91) rfl ((if0 _ _).trans (flt hc17).2.1) (by decide) (by decide) kk) ?_
          refine go_of (B := (T16.setTop (mkF m 101 #[.val (.int k), .val (.int od), .val (.int ((k &&& (2147483647 : Int32)) % (6 : Int32))), .val (.ref w_LESS), .val (.int (1 : Int32)), .unset, .unset] [(.int od)]))) (fun _ kk => XS.iloadN X16.here hx rfl (hb hby at_100) rfl kk) ?_
          by_cases hc19 : od = (0 : Int32)
          · refine go_of (B := (T16.setTop (mkF m 104 #[.val (.int k), .val (.int od), .val (.int ((k &&& (2147483647 : Int32)) % (6 : Int32))), .val (.ref w_LESS), .val (.int (1 : Int32)), .unset, .unset] []))) (fun _ kk => XS.ifNo X16.here hx rfl (hb hby at_101) rfl ((if0 _ _).trans (teq hc19).2) kk) ?_
            refine go_of (B := (T16.setTop (mkF m 105 #[.val (.int k), .val (.int od), .val (.int ((k &&& (2147483647 : Int32)) % (6 : Int32))), .val (.ref w_LESS), .val (.int (1 : Int32)), .unset, .unset] [(.int (1 : Int32))]))) (fun _ kk => XS.iconst X16.here hx rfl (hb hby at_104) kk) ?_
            refine go_of (B := (T16.setTop (mkF m 107 #[.val (.int k), .val (.int od), .val (.int ((k &&& (2147483647 : Int32)) % (6 : Int32))), .val (.ref w_LESS), .val (.int (1 : Int32)), .val (.int (1 : Int32)), .unset] []))) (fun _ kk => XS.istore X16.here hx rfl (hb hby at_105) rfl rfl kk) ?_
            refine go_of (B := (T16.setTop (mkF m 113 #[.val (.int k), .val (.int od), .val (.int ((k &&& (2147483647 : Int32)) % (6 : Int32))), .val (.ref w_LESS), .val (.int (1 : Int32)), .val (.int (1 : Int32)), .unset] []))) (fun _ kk => XS.goto X16.here hx rfl (pc0 := 107) (pc' := 113) rfl (hb hby at_107) (by decide) (by decide) kk) ?_
            refine go_of (B := (T16.setTop (mkF m 115 #[.val (.int k), .val (.int od), .val (.int ((k &&& (2147483647 : Int32)) % (6 : Int32))), .val (.ref w_LESS), .val (.int (1 : Int32)), .val (.int (1 : Int32)), .unset] [(.int (1 : Int32))]))) (fun _ kk => XS.iload X16.here hx rfl (hb hby at_113) rfl kk) ?_
            refine go_of (B := (T16.setTop (mkF m 117 #[.val (.int k), .val (.int od), .val (.int ((k &&& (2147483647 : Int32)) % (6 : Int32))), .val (.ref w_LESS), .val (.int (1 : Int32)), .val (.int (1 : Int32)), .unset] [(.int (1 : Int32)), (.int (1 : Int32))]))) (fun _ kk => XS.iload X16.here hx rfl (hb hby at_115) rfl kk) ?_
            refine go_of (B := (T16.setTop (mkF m 118 #[.val (.int k), .val (.int od), .val (.int ((k &&& (2147483647 : Int32)) % (6 : Int32))), .val (.ref w_LESS), .val (.int (1 : Int32)), .val (.int (1 : Int32)), .unset] [(.int (0 : Int32))]))) (fun _ kk => XS.ishr X16.here hx rfl (hb hby at_117) rfl kk) ?_
            refine go_of (B := (T16.setTop (mkF m 119 #[.val (.int k), .val (.int od), .val (.int ((k &&& (2147483647 : Int32)) % (6 : Int32))), .val (.ref w_LESS), .val (.int (1 : Int32)), .val (.int (1 : Int32)), .unset] [(.int (1 : Int32)), (.int (0 : Int32))]))) (fun _ kk => XS.iconst X16.here hx rfl (hb hby at_118) kk) ?_
            refine go_of (B := (T16.setTop (mkF m 120 #[.val (.int k), .val (.int od), .val (.int ((k &&& (2147483647 : Int32)) % (6 : Int32))), .val (.ref w_LESS), .val (.int (1 : Int32)), .val (.int (1 : Int32)), .unset] [(.int (0 : Int32))]))) (fun _ kk => XS.iand X16.here hx rfl (hb hby at_119) rfl kk) ?_
            refine go_of (B := (T16.setTop (mkF m 127 #[.val (.int k), .val (.int od), .val (.int ((k &&& (2147483647 : Int32)) % (6 : Int32))), .val (.ref w_LESS), .val (.int (1 : Int32)), .val (.int (1 : Int32)), .unset] []))) (fun _ kk => XS.ifYes X16.here hx rfl (pc0 := 120) (pc' := 127) rfl (hb hby at_120) rfl ((if0 _ _).trans (teq (by decide : (0 : Int32) = (0 : Int32))).1) (by decide) (by decide) kk) ?_
            refine go_of (B := (T16.setTop (mkF m 128 #[.val (.int k), .val (.int od), .val (.int ((k &&& (2147483647 : Int32)) % (6 : Int32))), .val (.ref w_LESS), .val (.int (1 : Int32)), .val (.int (1 : Int32)), .unset] [(.int (0 : Int32))]))) (fun _ kk => XS.iconst X16.here hx rfl (hb hby at_127) kk) ?_
            refine go_of (B := (T16.setTop (mkF m 130 #[.val (.int k), .val (.int od), .val (.int ((k &&& (2147483647 : Int32)) % (6 : Int32))), .val (.ref w_LESS), .val (.int (1 : Int32)), .val (.int (1 : Int32)), .val (.int (0 : Int32))] []))) (fun _ kk => XS.istore X16.here hx rfl (hb hby at_128) rfl rfl kk) ?_
            refine go_of (B := (T16.setTop (mkF m 131 #[.val (.int k), .val (.int od), .val (.int ((k &&& (2147483647 : Int32)) % (6 : Int32))), .val (.ref w_LESS), .val (.int (1 : Int32)), .val (.int (1 : Int32)), .val (.int (0 : Int32))] [(.ref w_LESS)]))) (fun _ kk => XS.aloadN X16.here hx rfl (hb hby at_130) rfl rfl kk) ?_
            refine go_of (B := (T16.setTop (mkF m 132 #[.val (.int k), .val (.int od), .val (.int ((k &&& (2147483647 : Int32)) % (6 : Int32))), .val (.ref w_LESS), .val (.int (1 : Int32)), .val (.int (1 : Int32)), .val (.int (0 : Int32))] [(.int od), (.ref w_LESS)]))) (fun _ kk => XS.iloadN X16.here hx rfl (hb hby at_131) rfl kk) ?_
            obtain ⟨cq20, kq20, q20a, q20b, q20c⟩ := isOf hZ e16 E_LESS
            obtain ⟨_, _, ⟨T20, L20, k20, n20⟩, -, X20, ⟨Lc20, hQ20, l20, y20, z20⟩, st20⟩ := X16.virtualBack hx (y := (⟨"com/example/sure_paths/surepaths/model/PropertyCondition$Operator", "holds", "(I)Z"⟩ : MethodName)) (z := (⟨"com/example/sure_paths/surepaths/model/PropertyCondition$Operator", "holds", "(I)Z"⟩ : MethodName)) hown (mvT hZ (hw _ (List.mem_of_getElem? (i := 4) rfl))) (mvT hZ (hw _ (List.mem_of_getElem? (i := 5) rfl))) (notFace_of_selects (args := #[]) (mvT hZ (hw _ (List.mem_of_getElem? (i := 7) rfl)))) (mvT hZ (hw _ (List.mem_of_getElem? (i := 7) rfl))) (mvT hZ (hw _ (List.mem_of_getElem? (i := 6) rfl))) (by decide) (backOf (W := 0) (rmh2 l Z a0 hw [] w_LESS od h0 n0 Z0 E_LESS F_LESS) hZ (hw _ (List.mem_of_getElem? (i := 8) rfl)) (hw _ (List.mem_of_getElem? (i := 2) rfl)) (by decide) (by decide)) q20a q20c (g := (mkF m 132 #[.val (.int k), .val (.int od), .val (.int ((k &&& (2147483647 : Int32)) % (6 : Int32))), .val (.ref w_LESS), .val (.int (1 : Int32)), .val (.int (1 : Int32)), .val (.int (0 : Int32))] [(.int od), (.ref w_LESS)])) rfl (by rw [hml]; rfl) (Steps.refl _) (argsL := [(.int od)]) (rest := []) (lenOf pd__I_Z rfl) rfl (by show 2 * 0 + _ ≤ _; exact Nat.le_of_eq rfl) (hb hby at_132) (fun _ _ => ⟨rfl, e16, (by decide : 0 + 0 ≤ _), (by decide : 0 + 0 ≤ _)⟩)
            dsimp only [Pt.U, Pt.locs, Pt.cells, Pt.slots] at X20 l20 y20 z20 st20 hQ20
            subst l20 y20 z20
            obtain ⟨rfl, N20q, e20⟩ := hQ20
            have N20 := Fr.app N0 N20q
            refine go_tr (B := (T20.setTop (mkF m 135 #[.val (.int k), .val (.int od), .val (.int ((k &&& (2147483647 : Int32)) % (6 : Int32))), .val (.ref w_LESS), .val (.int (1 : Int32)), .val (.int (1 : Int32)), .val (.int (0 : Int32))] [(.int (own_h2 od))]))) (st20) ?_
            refine go_of (B := (T20.setTop (mkF m 137 #[.val (.int k), .val (.int od), .val (.int ((k &&& (2147483647 : Int32)) % (6 : Int32))), .val (.ref w_LESS), .val (.int (1 : Int32)), .val (.int (1 : Int32)), .val (.int (0 : Int32))] [(.int (0 : Int32)), (.int (own_h2 od))]))) (fun _ kk => XS.iload X20.here hx rfl (hb hby at_135) rfl kk) ?_
            refine go_of (B := (T20.setTop (mkF m 140 #[.val (.int k), .val (.int od), .val (.int ((k &&& (2147483647 : Int32)) % (6 : Int32))), .val (.ref w_LESS), .val (.int (1 : Int32)), .val (.int (1 : Int32)), .val (.int (0 : Int32))] []))) (fun _ kk => XS.icmpNo X20.here hx rfl (hb hby at_137) rfl (teq (own_h2_z od hc17 hc19 : (own_h2 od) = (0 : Int32))).2 kk) ?_
            refine go_of (B := (T20.setTop (mkF m 141 #[.val (.int k), .val (.int od), .val (.int ((k &&& (2147483647 : Int32)) % (6 : Int32))), .val (.ref w_LESS), .val (.int (1 : Int32)), .val (.int (1 : Int32)), .val (.int (0 : Int32))] [(.int (1 : Int32))]))) (fun _ kk => XS.iconst X20.here hx rfl (hb hby at_140) kk) ?_
            refine go_of (B := (T20.setTop (mkF m 145 #[.val (.int k), .val (.int od), .val (.int ((k &&& (2147483647 : Int32)) % (6 : Int32))), .val (.ref w_LESS), .val (.int (1 : Int32)), .val (.int (1 : Int32)), .val (.int (0 : Int32))] [(.int (1 : Int32))]))) (fun _ kk => XS.goto X20.here hx rfl (pc0 := 141) (pc' := 145) rfl (hb hby at_141) (by decide) (by decide) kk) ?_
            refine go_end X20 (v := some (.int (nar .boolean (1 : Int32)))) (fun h => by rw [Bd.returns] at h; cases h) Bd.notSynchronized (by decide) (by decide) (Q := (Q_rm0 Z k od w_EQUAL w_NOT_EQUAL w_LESS w_LESS_OR_EQUAL w_GREATER w_GREATER_OR_EQUAL h0 n0)) ?_ (fun fs hr => retN X20 hx (t := .boolean) Bd.returns (by simp) (hb hby at_145) hr)
            show (fun (v : Option Value) (h : Heap) (L : List Loc) => v = some (.int 1) ∧ Fr n0 L) (some (.int (nar .boolean (1 : Int32)))) T20.heap _
            rw [e20]
            exact ⟨rfl, N20⟩
          · refine go_of (B := (T16.setTop (mkF m 110 #[.val (.int k), .val (.int od), .val (.int ((k &&& (2147483647 : Int32)) % (6 : Int32))), .val (.ref w_LESS), .val (.int (1 : Int32)), .unset, .unset] []))) (fun _ kk => XS.ifYes X16.here hx rfl (pc0 := 101) (pc' := 110) rfl (hb hby at_101) rfl ((if0 _ _).trans (feq hc19).2) (by decide) (by decide) kk) ?_
            refine go_of (B := (T16.setTop (mkF m 111 #[.val (.int k), .val (.int od), .val (.int ((k &&& (2147483647 : Int32)) % (6 : Int32))), .val (.ref w_LESS), .val (.int (1 : Int32)), .unset, .unset] [(.int (2 : Int32))]))) (fun _ kk => XS.iconst X16.here hx rfl (hb hby at_110) kk) ?_
            refine go_of (B := (T16.setTop (mkF m 113 #[.val (.int k), .val (.int od), .val (.int ((k &&& (2147483647 : Int32)) % (6 : Int32))), .val (.ref w_LESS), .val (.int (1 : Int32)), .val (.int (2 : Int32)), .unset] []))) (fun _ kk => XS.istore X16.here hx rfl (hb hby at_111) rfl rfl kk) ?_
            refine go_of (B := (T16.setTop (mkF m 115 #[.val (.int k), .val (.int od), .val (.int ((k &&& (2147483647 : Int32)) % (6 : Int32))), .val (.ref w_LESS), .val (.int (1 : Int32)), .val (.int (2 : Int32)), .unset] [(.int (1 : Int32))]))) (fun _ kk => XS.iload X16.here hx rfl (hb hby at_113) rfl kk) ?_
            refine go_of (B := (T16.setTop (mkF m 117 #[.val (.int k), .val (.int od), .val (.int ((k &&& (2147483647 : Int32)) % (6 : Int32))), .val (.ref w_LESS), .val (.int (1 : Int32)), .val (.int (2 : Int32)), .unset] [(.int (2 : Int32)), (.int (1 : Int32))]))) (fun _ kk => XS.iload X16.here hx rfl (hb hby at_115) rfl kk) ?_
            refine go_of (B := (T16.setTop (mkF m 118 #[.val (.int k), .val (.int od), .val (.int ((k &&& (2147483647 : Int32)) % (6 : Int32))), .val (.ref w_LESS), .val (.int (1 : Int32)), .val (.int (2 : Int32)), .unset] [(.int (0 : Int32))]))) (fun _ kk => XS.ishr X16.here hx rfl (hb hby at_117) rfl kk) ?_
            refine go_of (B := (T16.setTop (mkF m 119 #[.val (.int k), .val (.int od), .val (.int ((k &&& (2147483647 : Int32)) % (6 : Int32))), .val (.ref w_LESS), .val (.int (1 : Int32)), .val (.int (2 : Int32)), .unset] [(.int (1 : Int32)), (.int (0 : Int32))]))) (fun _ kk => XS.iconst X16.here hx rfl (hb hby at_118) kk) ?_
            refine go_of (B := (T16.setTop (mkF m 120 #[.val (.int k), .val (.int od), .val (.int ((k &&& (2147483647 : Int32)) % (6 : Int32))), .val (.ref w_LESS), .val (.int (1 : Int32)), .val (.int (2 : Int32)), .unset] [(.int (0 : Int32))]))) (fun _ kk => XS.iand X16.here hx rfl (hb hby at_119) rfl kk) ?_
            refine go_of (B := (T16.setTop (mkF m 127 #[.val (.int k), .val (.int od), .val (.int ((k &&& (2147483647 : Int32)) % (6 : Int32))), .val (.ref w_LESS), .val (.int (1 : Int32)), .val (.int (2 : Int32)), .unset] []))) (fun _ kk => XS.ifYes X16.here hx rfl (pc0 := 120) (pc' := 127) rfl (hb hby at_120) rfl ((if0 _ _).trans (teq (by decide : (0 : Int32) = (0 : Int32))).1) (by decide) (by decide) kk) ?_
            refine go_of (B := (T16.setTop (mkF m 128 #[.val (.int k), .val (.int od), .val (.int ((k &&& (2147483647 : Int32)) % (6 : Int32))), .val (.ref w_LESS), .val (.int (1 : Int32)), .val (.int (2 : Int32)), .unset] [(.int (0 : Int32))]))) (fun _ kk => XS.iconst X16.here hx rfl (hb hby at_127) kk) ?_
            refine go_of (B := (T16.setTop (mkF m 130 #[.val (.int k), .val (.int od), .val (.int ((k &&& (2147483647 : Int32)) % (6 : Int32))), .val (.ref w_LESS), .val (.int (1 : Int32)), .val (.int (2 : Int32)), .val (.int (0 : Int32))] []))) (fun _ kk => XS.istore X16.here hx rfl (hb hby at_128) rfl rfl kk) ?_
            refine go_of (B := (T16.setTop (mkF m 131 #[.val (.int k), .val (.int od), .val (.int ((k &&& (2147483647 : Int32)) % (6 : Int32))), .val (.ref w_LESS), .val (.int (1 : Int32)), .val (.int (2 : Int32)), .val (.int (0 : Int32))] [(.ref w_LESS)]))) (fun _ kk => XS.aloadN X16.here hx rfl (hb hby at_130) rfl rfl kk) ?_
            refine go_of (B := (T16.setTop (mkF m 132 #[.val (.int k), .val (.int od), .val (.int ((k &&& (2147483647 : Int32)) % (6 : Int32))), .val (.ref w_LESS), .val (.int (1 : Int32)), .val (.int (2 : Int32)), .val (.int (0 : Int32))] [(.int od), (.ref w_LESS)]))) (fun _ kk => XS.iloadN X16.here hx rfl (hb hby at_131) rfl kk) ?_
            obtain ⟨cq21, kq21, q21a, q21b, q21c⟩ := isOf hZ e16 E_LESS
            obtain ⟨_, _, ⟨T21, L21, k21, n21⟩, -, X21, ⟨Lc21, hQ21, l21, y21, z21⟩, st21⟩ := X16.virtualBack hx (y := (⟨"com/example/sure_paths/surepaths/model/PropertyCondition$Operator", "holds", "(I)Z"⟩ : MethodName)) (z := (⟨"com/example/sure_paths/surepaths/model/PropertyCondition$Operator", "holds", "(I)Z"⟩ : MethodName)) hown (mvT hZ (hw _ (List.mem_of_getElem? (i := 4) rfl))) (mvT hZ (hw _ (List.mem_of_getElem? (i := 5) rfl))) (notFace_of_selects (args := #[]) (mvT hZ (hw _ (List.mem_of_getElem? (i := 7) rfl)))) (mvT hZ (hw _ (List.mem_of_getElem? (i := 7) rfl))) (mvT hZ (hw _ (List.mem_of_getElem? (i := 6) rfl))) (by decide) (backOf (W := 0) (rmh2 l Z a0 hw [] w_LESS od h0 n0 Z0 E_LESS F_LESS) hZ (hw _ (List.mem_of_getElem? (i := 8) rfl)) (hw _ (List.mem_of_getElem? (i := 2) rfl)) (by decide) (by decide)) q21a q21c (g := (mkF m 132 #[.val (.int k), .val (.int od), .val (.int ((k &&& (2147483647 : Int32)) % (6 : Int32))), .val (.ref w_LESS), .val (.int (1 : Int32)), .val (.int (2 : Int32)), .val (.int (0 : Int32))] [(.int od), (.ref w_LESS)])) rfl (by rw [hml]; rfl) (Steps.refl _) (argsL := [(.int od)]) (rest := []) (lenOf pd__I_Z rfl) rfl (by show 2 * 0 + _ ≤ _; exact Nat.le_of_eq rfl) (hb hby at_132) (fun _ _ => ⟨rfl, e16, (by decide : 0 + 0 ≤ _), (by decide : 0 + 0 ≤ _)⟩)
            dsimp only [Pt.U, Pt.locs, Pt.cells, Pt.slots] at X21 l21 y21 z21 st21 hQ21
            subst l21 y21 z21
            obtain ⟨rfl, N21q, e21⟩ := hQ21
            have N21 := Fr.app N0 N21q
            refine go_tr (B := (T21.setTop (mkF m 135 #[.val (.int k), .val (.int od), .val (.int ((k &&& (2147483647 : Int32)) % (6 : Int32))), .val (.ref w_LESS), .val (.int (1 : Int32)), .val (.int (2 : Int32)), .val (.int (0 : Int32))] [(.int (own_h2 od))]))) (st21) ?_
            refine go_of (B := (T21.setTop (mkF m 137 #[.val (.int k), .val (.int od), .val (.int ((k &&& (2147483647 : Int32)) % (6 : Int32))), .val (.ref w_LESS), .val (.int (1 : Int32)), .val (.int (2 : Int32)), .val (.int (0 : Int32))] [(.int (0 : Int32)), (.int (own_h2 od))]))) (fun _ kk => XS.iload X21.here hx rfl (hb hby at_135) rfl kk) ?_
            refine go_of (B := (T21.setTop (mkF m 140 #[.val (.int k), .val (.int od), .val (.int ((k &&& (2147483647 : Int32)) % (6 : Int32))), .val (.ref w_LESS), .val (.int (1 : Int32)), .val (.int (2 : Int32)), .val (.int (0 : Int32))] []))) (fun _ kk => XS.icmpNo X21.here hx rfl (hb hby at_137) rfl (teq (own_h2_p od hc17 hc19 : (own_h2 od) = (0 : Int32))).2 kk) ?_
            refine go_of (B := (T21.setTop (mkF m 141 #[.val (.int k), .val (.int od), .val (.int ((k &&& (2147483647 : Int32)) % (6 : Int32))), .val (.ref w_LESS), .val (.int (1 : Int32)), .val (.int (2 : Int32)), .val (.int (0 : Int32))] [(.int (1 : Int32))]))) (fun _ kk => XS.iconst X21.here hx rfl (hb hby at_140) kk) ?_
            refine go_of (B := (T21.setTop (mkF m 145 #[.val (.int k), .val (.int od), .val (.int ((k &&& (2147483647 : Int32)) % (6 : Int32))), .val (.ref w_LESS), .val (.int (1 : Int32)), .val (.int (2 : Int32)), .val (.int (0 : Int32))] [(.int (1 : Int32))]))) (fun _ kk => XS.goto X21.here hx rfl (pc0 := 141) (pc' := 145) rfl (hb hby at_141) (by decide) (by decide) kk) ?_
            refine go_end X21 (v := some (.int (nar .boolean (1 : Int32)))) (fun h => by rw [Bd.returns] at h; cases h) Bd.notSynchronized (by decide) (by decide) (Q := (Q_rm0 Z k od w_EQUAL w_NOT_EQUAL w_LESS w_LESS_OR_EQUAL w_GREATER w_GREATER_OR_EQUAL h0 n0)) ?_ (fun fs hr => retN X21 hx (t := .boolean) Bd.returns (by simp) (hb hby at_145) hr)
            show (fun (v : Option Value) (h : Heap) (L : List Loc) => v = some (.int 1) ∧ Fr n0 L) (some (.int (nar .boolean (1 : Int32)))) T21.heap _
            rw [e21]
            exact ⟨rfl, N21⟩
      · refine go_of (B := (s₁.setTop (mkF m 52 #[.val (.int k), .val (.int od), .val (.int ((k &&& (2147483647 : Int32)) % (6 : Int32))), .unset, .unset, .unset, .unset] []))) (fun _ kk => XS.icmpYes X0.here hx rfl (pc0 := 39) (pc' := 52) rfl (hb hby at_39) rfl (feq hc15).2 (by decide) (by decide) kk) ?_
        refine go_of (B := (s₁.setTop (mkF m 53 #[.val (.int k), .val (.int od), .val (.int ((k &&& (2147483647 : Int32)) % (6 : Int32))), .unset, .unset, .unset, .unset] [(.int ((k &&& (2147483647 : Int32)) % (6 : Int32)))]))) (fun _ kk => XS.iloadN X0.here hx rfl (hb hby at_52) rfl kk) ?_
        refine go_of (B := (s₁.setTop (mkF m 54 #[.val (.int k), .val (.int od), .val (.int ((k &&& (2147483647 : Int32)) % (6 : Int32))), .unset, .unset, .unset, .unset] [(.int (3 : Int32)), (.int ((k &&& (2147483647 : Int32)) % (6 : Int32)))]))) (fun _ kk => XS.iconst X0.here hx rfl (hb hby at_53) kk) ?_
        by_cases hc22 : ((k &&& (2147483647 : Int32)) % (6 : Int32)) = (3 : Int32)
        · refine go_of (B := (s₁.setTop (mkF m 57 #[.val (.int k), .val (.int od), .val (.int ((k &&& (2147483647 : Int32)) % (6 : Int32))), .unset, .unset, .unset, .unset] []))) (fun _ kk => XS.icmpNo X0.here hx rfl (hb hby at_54) rfl (teq hc22).2 kk) ?_
          obtain ⟨T23, X23, e23, st23⟩ := getS2 X0 hx hZ hown (host := "") (Or.inl (hw _ (List.mem_of_getElem? (i := 26) rfl))) Via.refl e0 S_LESS_OR_EQUAL (g := (mkF m 57 #[.val (.int k), .val (.int od), .val (.int ((k &&& (2147483647 : Int32)) % (6 : Int32))), .unset, .unset, .unset, .unset] [])) rfl (hb hby at_57)
          refine go_of (B := (T23.setTop (mkF m 60 #[.val (.int k), .val (.int od), .val (.int ((k &&& (2147483647 : Int32)) % (6 : Int32))), .unset, .unset, .unset, .unset] [(.ref w_LESS_OR_EQUAL)]))) (st23) ?_
          refine go_of (B := (T23.setTop (mkF m 61 #[.val (.int k), .val (.int od), .val (.int ((k &&& (2147483647 : Int32)) % (6 : Int32))), .val (.ref w_LESS_OR_EQUAL), .unset, .unset, .unset] []))) (fun _ kk => XS.astoreN X23.here hx rfl (hb hby at_60) rfl rfl rfl kk) ?_
          refine go_of (B := (T23.setTop (mkF m 62 #[.val (.int k), .val (.int od), .val (.int ((k &&& (2147483647 : Int32)) % (6 : Int32))), .val (.ref w_LESS_OR_EQUAL), .unset, .unset, .unset] [(.int (3 : Int32))]))) (fun _ kk => XS.iconst X23.here hx rfl (hb hby at_61) kk) ?_
          refine go_of (B := (T23.setTop (mkF m 64 #[.val (.int k), .val (.int od), .val (.int ((k &&& (2147483647 : Int32)) % (6 : Int32))), .val (.ref w_LESS_OR_EQUAL), .val (.int (3 : Int32)), .unset, .unset] []))) (fun _ kk => XS.istore X23.here hx rfl (hb hby at_62) rfl rfl kk) ?_
          refine go_of (B := (T23.setTop (mkF m 90 #[.val (.int k), .val (.int od), .val (.int ((k &&& (2147483647 : Int32)) % (6 : Int32))), .val (.ref w_LESS_OR_EQUAL), .val (.int (3 : Int32)), .unset, .unset] []))) (fun _ kk => XS.goto X23.here hx rfl (pc0 := 64) (pc' := 90) rfl (hb hby at_64) (by decide) (by decide) kk) ?_
          refine go_of (B := (T23.setTop (mkF m 91 #[.val (.int k), .val (.int od), .val (.int ((k &&& (2147483647 : Int32)) % (6 : Int32))), .val (.ref w_LESS_OR_EQUAL), .val (.int (3 : Int32)), .unset, .unset] [(.int od)]))) (fun _ kk => XS.iloadN X23.here hx rfl (hb hby at_90) rfl kk) ?_
          by_cases hc24 : od < (0 : Int32)
          · refine go_of (B := (T23.setTop (mkF m 94 #[.val (.int k), .val (.int od), .val (.int ((k &&& (2147483647 : Int32)) % (6 : Int32))), .val (.ref w_LESS_OR_EQUAL), .val (.int (3 : Int32)), .unset, .unset] []))) (fun _ kk => XS.ifNo X23.here hx rfl (hb hby at_91) rfl ((if0 _ _).trans (tlt hc24).2.1) kk) ?_
            refine go_of (B := (T23.setTop (mkF m 95 #[.val (.int k), .val (.int od), .val (.int ((k &&& (2147483647 : Int32)) % (6 : Int32))), .val (.ref w_LESS_OR_EQUAL), .val (.int (3 : Int32)), .unset, .unset] [(.int (0 : Int32))]))) (fun _ kk => XS.iconst X23.here hx rfl (hb hby at_94) kk) ?_
            refine go_of (B := (T23.setTop (mkF m 97 #[.val (.int k), .val (.int od), .val (.int ((k &&& (2147483647 : Int32)) % (6 : Int32))), .val (.ref w_LESS_OR_EQUAL), .val (.int (3 : Int32)), .val (.int (0 : Int32)), .unset] []))) (fun _ kk => XS.istore X23.here hx rfl (hb hby at_95) rfl rfl kk) ?_
            refine go_of (B := (T23.setTop (mkF m 113 #[.val (.int k), .val (.int od), .val (.int ((k &&& (2147483647 : Int32)) % (6 : Int32))), .val (.ref w_LESS_OR_EQUAL), .val (.int (3 : Int32)), .val (.int (0 : Int32)), .unset] []))) (fun _ kk => XS.goto X23.here hx rfl (pc0 := 97) (pc' := 113) rfl (hb hby at_97) (by decide) (by decide) kk) ?_
            refine go_of (B := (T23.setTop (mkF m 115 #[.val (.int k), .val (.int od), .val (.int ((k &&& (2147483647 : Int32)) % (6 : Int32))), .val (.ref w_LESS_OR_EQUAL), .val (.int (3 : Int32)), .val (.int (0 : Int32)), .unset] [(.int (3 : Int32))]))) (fun _ kk => XS.iload X23.here hx rfl (hb hby at_113) rfl kk) ?_
            refine go_of (B := (T23.setTop (mkF m 117 #[.val (.int k), .val (.int od), .val (.int ((k &&& (2147483647 : Int32)) % (6 : Int32))), .val (.ref w_LESS_OR_EQUAL), .val (.int (3 : Int32)), .val (.int (0 : Int32)), .unset] [(.int (0 : Int32)), (.int (3 : Int32))]))) (fun _ kk => XS.iload X23.here hx rfl (hb hby at_115) rfl kk) ?_
            refine go_of (B := (T23.setTop (mkF m 118 #[.val (.int k), .val (.int od), .val (.int ((k &&& (2147483647 : Int32)) % (6 : Int32))), .val (.ref w_LESS_OR_EQUAL), .val (.int (3 : Int32)), .val (.int (0 : Int32)), .unset] [(.int (3 : Int32))]))) (fun _ kk => XS.ishr X23.here hx rfl (hb hby at_117) rfl kk) ?_
            refine go_of (B := (T23.setTop (mkF m 119 #[.val (.int k), .val (.int od), .val (.int ((k &&& (2147483647 : Int32)) % (6 : Int32))), .val (.ref w_LESS_OR_EQUAL), .val (.int (3 : Int32)), .val (.int (0 : Int32)), .unset] [(.int (1 : Int32)), (.int (3 : Int32))]))) (fun _ kk => XS.iconst X23.here hx rfl (hb hby at_118) kk) ?_
            refine go_of (B := (T23.setTop (mkF m 120 #[.val (.int k), .val (.int od), .val (.int ((k &&& (2147483647 : Int32)) % (6 : Int32))), .val (.ref w_LESS_OR_EQUAL), .val (.int (3 : Int32)), .val (.int (0 : Int32)), .unset] [(.int (1 : Int32))]))) (fun _ kk => XS.iand X23.here hx rfl (hb hby at_119) rfl kk) ?_
            refine go_of (B := (T23.setTop (mkF m 123 #[.val (.int k), .val (.int od), .val (.int ((k &&& (2147483647 : Int32)) % (6 : Int32))), .val (.ref w_LESS_OR_EQUAL), .val (.int (3 : Int32)), .val (.int (0 : Int32)), .unset] []))) (fun _ kk => XS.ifNo X23.here hx rfl (hb hby at_120) rfl ((if0 _ _).trans (feq (by decide : ¬ ((1 : Int32) = (0 : Int32)))).1) kk) ?_
            refine go_of (B := (T23.setTop (mkF m 124 #[.val (.int k), .val (.int od), .val (.int ((k &&& (2147483647 : Int32)) % (6 : Int32))), .val (.ref w_LESS_OR_EQUAL), .val (.int (3 : Int32)), .val (.int (0 : Int32)), .unset] [(.int (1 : Int32))]))) (fun _ kk => XS.iconst X23.here hx rfl (hb hby at_123) kk) ?_
            refine go_of (B := (T23.setTop (mkF m 128 #[.val (.int k), .val (.int od), .val (.int ((k &&& (2147483647 : Int32)) % (6 : Int32))), .val (.ref w_LESS_OR_EQUAL), .val (.int (3 : Int32)), .val (.int (0 : Int32)), .unset] [(.int (1 : Int32))]))) (fun _ kk => XS.goto X23.here hx rfl (pc0 := 124) (pc' := 128) rfl (hb hby at_124) (by decide) (by decide) kk) ?_
            refine go_of (B := (T23.setTop (mkF m 130 #[.val (.int k), .val (.int od), .val (.int ((k &&& (2147483647 : Int32)) % (6 : Int32))), .val (.ref w_LESS_OR_EQUAL), .val (.int (3 : Int32)), .val (.int (0 : Int32)), .val (.int (1 : Int32))] []))) (fun _ kk => XS.istore X23.here hx rfl (hb hby at_128) rfl rfl kk) ?_
            refine go_of (B := (T23.setTop (mkF m 131 #[.val (.int k), .val (.int od), .val (.int ((k &&& (2147483647 : Int32)) % (6 : Int32))), .val (.ref w_LESS_OR_EQUAL), .val (.int (3 : Int32)), .val (.int (0 : Int32)), .val (.int (1 : Int32))] [(.ref w_LESS_OR_EQUAL)]))) (fun _ kk => XS.aloadN X23.here hx rfl (hb hby at_130) rfl rfl kk) ?_
            refine go_of (B := (T23.setTop (mkF m 132 #[.val (.int k), .val (.int od), .val (.int ((k &&& (2147483647 : Int32)) % (6 : Int32))), .val (.ref w_LESS_OR_EQUAL), .val (.int (3 : Int32)), .val (.int (0 : Int32)), .val (.int (1 : Int32))] [(.int od), (.ref w_LESS_OR_EQUAL)]))) (fun _ kk => XS.iloadN X23.here hx rfl (hb hby at_131) rfl kk) ?_
            obtain ⟨cq25, kq25, q25a, q25b, q25c⟩ := isOf hZ e23 E_LESS_OR_EQUAL
            obtain ⟨_, _, ⟨T25, L25, k25, n25⟩, -, X25, ⟨Lc25, hQ25, l25, y25, z25⟩, st25⟩ := X23.virtualBack hx (y := (⟨"com/example/sure_paths/surepaths/model/PropertyCondition$Operator", "holds", "(I)Z"⟩ : MethodName)) (z := (⟨"com/example/sure_paths/surepaths/model/PropertyCondition$Operator", "holds", "(I)Z"⟩ : MethodName)) hown (mvT hZ (hw _ (List.mem_of_getElem? (i := 4) rfl))) (mvT hZ (hw _ (List.mem_of_getElem? (i := 5) rfl))) (notFace_of_selects (args := #[]) (mvT hZ (hw _ (List.mem_of_getElem? (i := 7) rfl)))) (mvT hZ (hw _ (List.mem_of_getElem? (i := 7) rfl))) (mvT hZ (hw _ (List.mem_of_getElem? (i := 6) rfl))) (by decide) (backOf (W := 0) (rmh3 l Z a0 hw [] w_LESS_OR_EQUAL od h0 n0 Z0 E_LESS_OR_EQUAL F_LESS_OR_EQUAL) hZ (hw _ (List.mem_of_getElem? (i := 8) rfl)) (hw _ (List.mem_of_getElem? (i := 2) rfl)) (by decide) (by decide)) q25a q25c (g := (mkF m 132 #[.val (.int k), .val (.int od), .val (.int ((k &&& (2147483647 : Int32)) % (6 : Int32))), .val (.ref w_LESS_OR_EQUAL), .val (.int (3 : Int32)), .val (.int (0 : Int32)), .val (.int (1 : Int32))] [(.int od), (.ref w_LESS_OR_EQUAL)])) rfl (by rw [hml]; rfl) (Steps.refl _) (argsL := [(.int od)]) (rest := []) (lenOf pd__I_Z rfl) rfl (by show 2 * 0 + _ ≤ _; exact Nat.le_of_eq rfl) (hb hby at_132) (fun _ _ => ⟨rfl, e23, (by decide : 0 + 0 ≤ _), (by decide : 0 + 0 ≤ _)⟩)
            dsimp only [Pt.U, Pt.locs, Pt.cells, Pt.slots] at X25 l25 y25 z25 st25 hQ25
            subst l25 y25 z25
            obtain ⟨rfl, N25q, e25⟩ := hQ25
            have N25 := Fr.app N0 N25q
            refine go_tr (B := (T25.setTop (mkF m 135 #[.val (.int k), .val (.int od), .val (.int ((k &&& (2147483647 : Int32)) % (6 : Int32))), .val (.ref w_LESS_OR_EQUAL), .val (.int (3 : Int32)), .val (.int (0 : Int32)), .val (.int (1 : Int32))] [(.int (own_h3 od))]))) (st25) ?_
            refine go_of (B := (T25.setTop (mkF m 137 #[.val (.int k), .val (.int od), .val (.int ((k &&& (2147483647 : Int32)) % (6 : Int32))), .val (.ref w_LESS_OR_EQUAL), .val (.int (3 : Int32)), .val (.int (0 : Int32)), .val (.int (1 : Int32))] [(.int (1 : Int32)), (.int (own_h3 od))]))) (fun _ kk => XS.iload X25.here hx rfl (hb hby at_135) rfl kk) ?_
            refine go_of (B := (T25.setTop (mkF m 140 #[.val (.int k), .val (.int od), .val (.int ((k &&& (2147483647 : Int32)) % (6 : Int32))), .val (.ref w_LESS_OR_EQUAL), .val (.int (3 : Int32)), .val (.int (0 : Int32)), .val (.int (1 : Int32))] []))) (fun _ kk => XS.icmpNo X25.here hx rfl (hb hby at_137) rfl (teq (own_h3_n od hc24 : (own_h3 od) = (1 : Int32))).2 kk) ?_
            refine go_of (B := (T25.setTop (mkF m 141 #[.val (.int k), .val (.int od), .val (.int ((k &&& (2147483647 : Int32)) % (6 : Int32))), .val (.ref w_LESS_OR_EQUAL), .val (.int (3 : Int32)), .val (.int (0 : Int32)), .val (.int (1 : Int32))] [(.int (1 : Int32))]))) (fun _ kk => XS.iconst X25.here hx rfl (hb hby at_140) kk) ?_
            refine go_of (B := (T25.setTop (mkF m 145 #[.val (.int k), .val (.int od), .val (.int ((k &&& (2147483647 : Int32)) % (6 : Int32))), .val (.ref w_LESS_OR_EQUAL), .val (.int (3 : Int32)), .val (.int (0 : Int32)), .val (.int (1 : Int32))] [(.int (1 : Int32))]))) (fun _ kk => XS.goto X25.here hx rfl (pc0 := 141) (pc' := 145) rfl (hb hby at_141) (by decide) (by decide) kk) ?_
            refine go_end X25 (v := some (.int (nar .boolean (1 : Int32)))) (fun h => by rw [Bd.returns] at h; cases h) Bd.notSynchronized (by decide) (by decide) (Q := (Q_rm0 Z k od w_EQUAL w_NOT_EQUAL w_LESS w_LESS_OR_EQUAL w_GREATER w_GREATER_OR_EQUAL h0 n0)) ?_ (fun fs hr => retN X25 hx (t := .boolean) Bd.returns (by simp) (hb hby at_145) hr)
            show (fun (v : Option Value) (h : Heap) (L : List Loc) => v = some (.int 1) ∧ Fr n0 L) (some (.int (nar .boolean (1 : Int32)))) T25.heap _
            rw [e25]
            exact ⟨rfl, N25⟩
          · refine go_of (B := (T23.setTop (mkF m 100 #[.val (.int k), .val (.int od), .val (.int ((k &&& (2147483647 : Int32)) % (6 : Int32))), .val (.ref w_LESS_OR_EQUAL), .val (.int (3 : Int32)), .unset, .unset] []))) (fun _ kk => XS.ifYes X23.here hx rfl (pc0 := 91) (pc' := 100) rfl (hb hby at_91) rfl ((if0 _ _).trans (flt hc24).2.1) (by decide) (by decide) kk) ?_
            refine go_of (B := (T23.setTop (mkF m 101 #[.val (.int k), .val (.int od), .val (.int ((k &&& (2147483647 : Int32)) % (6 : Int32))), .val (.ref w_LESS_OR_EQUAL), .val (.int (3 : Int32)), .unset, .unset] [(.int od)]))) (fun _ kk => XS.iloadN X23.here hx rfl (hb hby at_100) rfl kk) ?_
            by_cases hc26 : od = (0 : Int32)
            · refine go_of (B := (T23.setTop (mkF m 104 #[.val (.int k), .val (.int od), .val (.int ((k &&& (2147483647 : Int32)) % (6 : Int32))), .val (.ref w_LESS_OR_EQUAL), .val (.int (3 : Int32)), .unset, .unset] []))) (fun _ kk => XS.ifNo X23.here hx rfl (hb hby at_101) rfl ((if0 _ _).trans (teq hc26).2) kk) ?_
              refine go_of (B := (T23.setTop (mkF m 105 #[.val (.int k), .val (.int od), .val (.int ((k &&& (2147483647 : Int32)) % (6 : Int32))), .val (.ref w_LESS_OR_EQUAL), .val (.int (3 : Int32)), .unset, .unset] [(.int (1 : Int32))]))) (fun _ kk => XS.iconst X23.here hx rfl (hb hby at_104) kk) ?_
              refine go_of (B := (T23.setTop (mkF m 107 #[.val (.int k), .val (.int od), .val (.int ((k &&& (2147483647 : Int32)) % (6 : Int32))), .val (.ref w_LESS_OR_EQUAL), .val (.int (3 : Int32)), .val (.int (1 : Int32)), .unset] []))) (fun _ kk => XS.istore X23.here hx rfl (hb hby at_105) rfl rfl kk) ?_
              refine go_of (B := (T23.setTop (mkF m 113 #[.val (.int k), .val (.int od), .val (.int ((k &&& (2147483647 : Int32)) % (6 : Int32))), .val (.ref w_LESS_OR_EQUAL), .val (.int (3 : Int32)), .val (.int (1 : Int32)), .unset] []))) (fun _ kk => XS.goto X23.here hx rfl (pc0 := 107) (pc' := 113) rfl (hb hby at_107) (by decide) (by decide) kk) ?_
              refine go_of (B := (T23.setTop (mkF m 115 #[.val (.int k), .val (.int od), .val (.int ((k &&& (2147483647 : Int32)) % (6 : Int32))), .val (.ref w_LESS_OR_EQUAL), .val (.int (3 : Int32)), .val (.int (1 : Int32)), .unset] [(.int (3 : Int32))]))) (fun _ kk => XS.iload X23.here hx rfl (hb hby at_113) rfl kk) ?_
              refine go_of (B := (T23.setTop (mkF m 117 #[.val (.int k), .val (.int od), .val (.int ((k &&& (2147483647 : Int32)) % (6 : Int32))), .val (.ref w_LESS_OR_EQUAL), .val (.int (3 : Int32)), .val (.int (1 : Int32)), .unset] [(.int (1 : Int32)), (.int (3 : Int32))]))) (fun _ kk => XS.iload X23.here hx rfl (hb hby at_115) rfl kk) ?_
              refine go_of (B := (T23.setTop (mkF m 118 #[.val (.int k), .val (.int od), .val (.int ((k &&& (2147483647 : Int32)) % (6 : Int32))), .val (.ref w_LESS_OR_EQUAL), .val (.int (3 : Int32)), .val (.int (1 : Int32)), .unset] [(.int (1 : Int32))]))) (fun _ kk => XS.ishr X23.here hx rfl (hb hby at_117) rfl kk) ?_
              refine go_of (B := (T23.setTop (mkF m 119 #[.val (.int k), .val (.int od), .val (.int ((k &&& (2147483647 : Int32)) % (6 : Int32))), .val (.ref w_LESS_OR_EQUAL), .val (.int (3 : Int32)), .val (.int (1 : Int32)), .unset] [(.int (1 : Int32)), (.int (1 : Int32))]))) (fun _ kk => XS.iconst X23.here hx rfl (hb hby at_118) kk) ?_
              refine go_of (B := (T23.setTop (mkF m 120 #[.val (.int k), .val (.int od), .val (.int ((k &&& (2147483647 : Int32)) % (6 : Int32))), .val (.ref w_LESS_OR_EQUAL), .val (.int (3 : Int32)), .val (.int (1 : Int32)), .unset] [(.int (1 : Int32))]))) (fun _ kk => XS.iand X23.here hx rfl (hb hby at_119) rfl kk) ?_
              refine go_of (B := (T23.setTop (mkF m 123 #[.val (.int k), .val (.int od), .val (.int ((k &&& (2147483647 : Int32)) % (6 : Int32))), .val (.ref w_LESS_OR_EQUAL), .val (.int (3 : Int32)), .val (.int (1 : Int32)), .unset] []))) (fun _ kk => XS.ifNo X23.here hx rfl (hb hby at_120) rfl ((if0 _ _).trans (feq (by decide : ¬ ((1 : Int32) = (0 : Int32)))).1) kk) ?_
              refine go_of (B := (T23.setTop (mkF m 124 #[.val (.int k), .val (.int od), .val (.int ((k &&& (2147483647 : Int32)) % (6 : Int32))), .val (.ref w_LESS_OR_EQUAL), .val (.int (3 : Int32)), .val (.int (1 : Int32)), .unset] [(.int (1 : Int32))]))) (fun _ kk => XS.iconst X23.here hx rfl (hb hby at_123) kk) ?_
              refine go_of (B := (T23.setTop (mkF m 128 #[.val (.int k), .val (.int od), .val (.int ((k &&& (2147483647 : Int32)) % (6 : Int32))), .val (.ref w_LESS_OR_EQUAL), .val (.int (3 : Int32)), .val (.int (1 : Int32)), .unset] [(.int (1 : Int32))]))) (fun _ kk => XS.goto X23.here hx rfl (pc0 := 124) (pc' := 128) rfl (hb hby at_124) (by decide) (by decide) kk) ?_
              refine go_of (B := (T23.setTop (mkF m 130 #[.val (.int k), .val (.int od), .val (.int ((k &&& (2147483647 : Int32)) % (6 : Int32))), .val (.ref w_LESS_OR_EQUAL), .val (.int (3 : Int32)), .val (.int (1 : Int32)), .val (.int (1 : Int32))] []))) (fun _ kk => XS.istore X23.here hx rfl (hb hby at_128) rfl rfl kk) ?_
              refine go_of (B := (T23.setTop (mkF m 131 #[.val (.int k), .val (.int od), .val (.int ((k &&& (2147483647 : Int32)) % (6 : Int32))), .val (.ref w_LESS_OR_EQUAL), .val (.int (3 : Int32)), .val (.int (1 : Int32)), .val (.int (1 : Int32))] [(.ref w_LESS_OR_EQUAL)]))) (fun _ kk => XS.aloadN X23.here hx rfl (hb hby at_130) rfl rfl kk) ?_
              refine go_of (B := (T23.setTop (mkF m 132 #[.val (.int k), .val (.int od), .val (.int ((k &&& (2147483647 : Int32)) % (6 : Int32))), .val (.ref w_LESS_OR_EQUAL), .val (.int (3 : Int32)), .val (.int (1 : Int32)), .val (.int (1 : Int32))] [(.int od), (.ref w_LESS_OR_EQUAL)]))) (fun _ kk => XS.iloadN X23.here hx rfl (hb hby at_131) rfl kk) ?_
              obtain ⟨cq27, kq27, q27a, q27b, q27c⟩ := isOf hZ e23 E_LESS_OR_EQUAL
              obtain ⟨_, _, ⟨T27, L27, k27, n27⟩, -, X27, ⟨Lc27, hQ27, l27, y27, z27⟩, st27⟩ := X23.virtualBack hx (y := (⟨"com/example/sure_paths/surepaths/model/PropertyCondition$Operator", "holds", "(I)Z"⟩ : MethodName)) (z := (⟨"com/example/sure_paths/surepaths/model/PropertyCondition$Operator", "holds", "(I)Z"⟩ : MethodName)) hown (mvT hZ (hw _ (List.mem_of_getElem? (i := 4) rfl))) (mvT hZ (hw _ (List.mem_of_getElem? (i := 5) rfl))) (notFace_of_selects (args := #[]) (mvT hZ (hw _ (List.mem_of_getElem? (i := 7) rfl)))) (mvT hZ (hw _ (List.mem_of_getElem? (i := 7) rfl))) (mvT hZ (hw _ (List.mem_of_getElem? (i := 6) rfl))) (by decide) (backOf (W := 0) (rmh3 l Z a0 hw [] w_LESS_OR_EQUAL od h0 n0 Z0 E_LESS_OR_EQUAL F_LESS_OR_EQUAL) hZ (hw _ (List.mem_of_getElem? (i := 8) rfl)) (hw _ (List.mem_of_getElem? (i := 2) rfl)) (by decide) (by decide)) q27a q27c (g := (mkF m 132 #[.val (.int k), .val (.int od), .val (.int ((k &&& (2147483647 : Int32)) % (6 : Int32))), .val (.ref w_LESS_OR_EQUAL), .val (.int (3 : Int32)), .val (.int (1 : Int32)), .val (.int (1 : Int32))] [(.int od), (.ref w_LESS_OR_EQUAL)])) rfl (by rw [hml]; rfl) (Steps.refl _) (argsL := [(.int od)]) (rest := []) (lenOf pd__I_Z rfl) rfl (by show 2 * 0 + _ ≤ _; exact Nat.le_of_eq rfl) (hb hby at_132) (fun _ _ => ⟨rfl, e23, (by decide : 0 + 0 ≤ _), (by decide : 0 + 0 ≤ _)⟩)
              dsimp only [Pt.U, Pt.locs, Pt.cells, Pt.slots] at X27 l27 y27 z27 st27 hQ27
              subst l27 y27 z27
              obtain ⟨rfl, N27q, e27⟩ := hQ27
              have N27 := Fr.app N0 N27q
              refine go_tr (B := (T27.setTop (mkF m 135 #[.val (.int k), .val (.int od), .val (.int ((k &&& (2147483647 : Int32)) % (6 : Int32))), .val (.ref w_LESS_OR_EQUAL), .val (.int (3 : Int32)), .val (.int (1 : Int32)), .val (.int (1 : Int32))] [(.int (own_h3 od))]))) (st27) ?_
              refine go_of (B := (T27.setTop (mkF m 137 #[.val (.int k), .val (.int od), .val (.int ((k &&& (2147483647 : Int32)) % (6 : Int32))), .val (.ref w_LESS_OR_EQUAL), .val (.int (3 : Int32)), .val (.int (1 : Int32)), .val (.int (1 : Int32))] [(.int (1 : Int32)), (.int (own_h3 od))]))) (fun _ kk => XS.iload X27.here hx rfl (hb hby at_135) rfl kk) ?_
              refine go_of (B := (T27.setTop (mkF m 140 #[.val (.int k), .val (.int od), .val (.int ((k &&& (2147483647 : Int32)) % (6 : Int32))), .val (.ref w_LESS_OR_EQUAL), .val (.int (3 : Int32)), .val (.int (1 : Int32)), .val (.int (1 : Int32))] []))) (fun _ kk => XS.icmpNo X27.here hx rfl (hb hby at_137) rfl (teq (own_h3_z od hc24 hc26 : (own_h3 od) = (1 : Int32))).2 kk) ?_
              refine go_of (B := (T27.setTop (mkF m 141 #[.val (.int k), .val (.int od), .val (.int ((k &&& (2147483647 : Int32)) % (6 : Int32))), .val (.ref w_LESS_OR_EQUAL), .val (.int (3 : Int32)), .val (.int (1 : Int32)), .val (.int (1 : Int32))] [(.int (1 : Int32))]))) (fun _ kk => XS.iconst X27.here hx rfl (hb hby at_140) kk) ?_
              refine go_of (B := (T27.setTop (mkF m 145 #[.val (.int k), .val (.int od), .val (.int ((k &&& (2147483647 : Int32)) % (6 : Int32))), .val (.ref w_LESS_OR_EQUAL), .val (.int (3 : Int32)), .val (.int (1 : Int32)), .val (.int (1 : Int32))] [(.int (1 : Int32))]))) (fun _ kk => XS.goto X27.here hx rfl (pc0 := 141) (pc' := 145) rfl (hb hby at_141) (by decide) (by decide) kk) ?_
              refine go_end X27 (v := some (.int (nar .boolean (1 : Int32)))) (fun h => by rw [Bd.returns] at h; cases h) Bd.notSynchronized (by decide) (by decide) (Q := (Q_rm0 Z k od w_EQUAL w_NOT_EQUAL w_LESS w_LESS_OR_EQUAL w_GREATER w_GREATER_OR_EQUAL h0 n0)) ?_ (fun fs hr => retN X27 hx (t := .boolean) Bd.returns (by simp) (hb hby at_145) hr)
              show (fun (v : Option Value) (h : Heap) (L : List Loc) => v = some (.int 1) ∧ Fr n0 L) (some (.int (nar .boolean (1 : Int32)))) T27.heap _
              rw [e27]
              exact ⟨rfl, N27⟩
            · refine go_of (B := (T23.setTop (mkF m 110 #[.val (.int k), .val (.int od), .val (.int ((k &&& (2147483647 : Int32)) % (6 : Int32))), .val (.ref w_LESS_OR_EQUAL), .val (.int (3 : Int32)), .unset, .unset] []))) (fun _ kk => XS.ifYes X23.here hx rfl (pc0 := 101) (pc' := 110) rfl (hb hby at_101) rfl ((if0 _ _).trans (feq hc26).2) (by decide) (by decide) kk) ?_
              refine go_of (B := (T23.setTop (mkF m 111 #[.val (.int k), .val (.int od), .val (.int ((k &&& (2147483647 : Int32)) % (6 : Int32))), .val (.ref w_LESS_OR_EQUAL), .val (.int (3 : Int32)), .unset, .unset] [(.int (2 : Int32))]))) (fun _ kk => XS.iconst X23.here hx rfl (hb hby at_110) kk) ?_
              refine go_of (B := (T23.setTop (mkF m 113 #[.val (.int k), .val (.int od), .val (.int ((k &&& (2147483647 : Int32)) % (6 : Int32))), .val (.ref w_LESS_OR_EQUAL), .val (.int (3 : Int32)), .val (.int (2 : Int32)), .unset] []))) (fun _ kk => XS.istore X23.here hx rfl (hb hby at_111) rfl rfl kk) ?_
              refine go_of (B := (T23.setTop (mkF m 115 #[.val (.int k), .val (.int od), .val (.int ((k &&& (2147483647 : Int32)) % (6 : Int32))), .val (.ref w_LESS_OR_EQUAL), .val (.int (3 : Int32)), .val (.int (2 : Int32)), .unset] [(.int (3 : Int32))]))) (fun _ kk => XS.iload X23.here hx rfl (hb hby at_113) rfl kk) ?_
              refine go_of (B := (T23.setTop (mkF m 117 #[.val (.int k), .val (.int od), .val (.int ((k &&& (2147483647 : Int32)) % (6 : Int32))), .val (.ref w_LESS_OR_EQUAL), .val (.int (3 : Int32)), .val (.int (2 : Int32)), .unset] [(.int (2 : Int32)), (.int (3 : Int32))]))) (fun _ kk => XS.iload X23.here hx rfl (hb hby at_115) rfl kk) ?_
              refine go_of (B := (T23.setTop (mkF m 118 #[.val (.int k), .val (.int od), .val (.int ((k &&& (2147483647 : Int32)) % (6 : Int32))), .val (.ref w_LESS_OR_EQUAL), .val (.int (3 : Int32)), .val (.int (2 : Int32)), .unset] [(.int (0 : Int32))]))) (fun _ kk => XS.ishr X23.here hx rfl (hb hby at_117) rfl kk) ?_
              refine go_of (B := (T23.setTop (mkF m 119 #[.val (.int k), .val (.int od), .val (.int ((k &&& (2147483647 : Int32)) % (6 : Int32))), .val (.ref w_LESS_OR_EQUAL), .val (.int (3 : Int32)), .val (.int (2 : Int32)), .unset] [(.int (1 : Int32)), (.int (0 : Int32))]))) (fun _ kk => XS.iconst X23.here hx rfl (hb hby at_118) kk) ?_
              refine go_of (B := (T23.setTop (mkF m 120 #[.val (.int k), .val (.int od), .val (.int ((k &&& (2147483647 : Int32)) % (6 : Int32))), .val (.ref w_LESS_OR_EQUAL), .val (.int (3 : Int32)), .val (.int (2 : Int32)), .unset] [(.int (0 : Int32))]))) (fun _ kk => XS.iand X23.here hx rfl (hb hby at_119) rfl kk) ?_
              refine go_of (B := (T23.setTop (mkF m 127 #[.val (.int k), .val (.int od), .val (.int ((k &&& (2147483647 : Int32)) % (6 : Int32))), .val (.ref w_LESS_OR_EQUAL), .val (.int (3 : Int32)), .val (.int (2 : Int32)), .unset] []))) (fun _ kk => XS.ifYes X23.here hx rfl (pc0 := 120) (pc' := 127) rfl (hb hby at_120) rfl ((if0 _ _).trans (teq (by decide : (0 : Int32) = (0 : Int32))).1) (by decide) (by decide) kk) ?_
              refine go_of (B := (T23.setTop (mkF m 128 #[.val (.int k), .val (.int od), .val (.int ((k &&& (2147483647 : Int32)) % (6 : Int32))), .val (.ref w_LESS_OR_EQUAL), .val (.int (3 : Int32)), .val (.int (2 : Int32)), .unset] [(.int (0 : Int32))]))) (fun _ kk => XS.iconst X23.here hx rfl (hb hby at_127) kk) ?_
              refine go_of (B := (T23.setTop (mkF m 130 #[.val (.int k), .val (.int od), .val (.int ((k &&& (2147483647 : Int32)) % (6 : Int32))), .val (.ref w_LESS_OR_EQUAL), .val (.int (3 : Int32)), .val (.int (2 : Int32)), .val (.int (0 : Int32))] []))) (fun _ kk => XS.istore X23.here hx rfl (hb hby at_128) rfl rfl kk) ?_
              refine go_of (B := (T23.setTop (mkF m 131 #[.val (.int k), .val (.int od), .val (.int ((k &&& (2147483647 : Int32)) % (6 : Int32))), .val (.ref w_LESS_OR_EQUAL), .val (.int (3 : Int32)), .val (.int (2 : Int32)), .val (.int (0 : Int32))] [(.ref w_LESS_OR_EQUAL)]))) (fun _ kk => XS.aloadN X23.here hx rfl (hb hby at_130) rfl rfl kk) ?_
              refine go_of (B := (T23.setTop (mkF m 132 #[.val (.int k), .val (.int od), .val (.int ((k &&& (2147483647 : Int32)) % (6 : Int32))), .val (.ref w_LESS_OR_EQUAL), .val (.int (3 : Int32)), .val (.int (2 : Int32)), .val (.int (0 : Int32))] [(.int od), (.ref w_LESS_OR_EQUAL)]))) (fun _ kk => XS.iloadN X23.here hx rfl (hb hby at_131) rfl kk) ?_
              obtain ⟨cq28, kq28, q28a, q28b, q28c⟩ := isOf hZ e23 E_LESS_OR_EQUAL
              obtain ⟨_, _, ⟨T28, L28, k28, n28⟩, -, X28, ⟨Lc28, hQ28, l28, y28, z28⟩, st28⟩ := X23.virtualBack hx (y := (⟨"com/example/sure_paths/surepaths/model/PropertyCondition$Operator", "holds", "(I)Z"⟩ : MethodName)) (z := (⟨"com/example/sure_paths/surepaths/model/PropertyCondition$Operator", "holds", "(I)Z"⟩ : MethodName)) hown (mvT hZ (hw _ (List.mem_of_getElem? (i := 4) rfl))) (mvT hZ (hw _ (List.mem_of_getElem? (i := 5) rfl))) (notFace_of_selects (args := #[]) (mvT hZ (hw _ (List.mem_of_getElem? (i := 7) rfl)))) (mvT hZ (hw _ (List.mem_of_getElem? (i := 7) rfl))) (mvT hZ (hw _ (List.mem_of_getElem? (i := 6) rfl))) (by decide) (backOf (W := 0) (rmh3 l Z a0 hw [] w_LESS_OR_EQUAL od h0 n0 Z0 E_LESS_OR_EQUAL F_LESS_OR_EQUAL) hZ (hw _ (List.mem_of_getElem? (i := 8) rfl)) (hw _ (List.mem_of_getElem? (i := 2) rfl)) (by decide) (by decide)) q28a q28c (g := (mkF m 132 #[.val (.int k), .val (.int od), .val (.int ((k &&& (2147483647 : Int32)) % (6 : Int32))), .val (.ref w_LESS_OR_EQUAL), .val (.int (3 : Int32)), .val (.int (2 : Int32)), .val (.int (0 : Int32))] [(.int od), (.ref w_LESS_OR_EQUAL)])) rfl (by rw [hml]; rfl) (Steps.refl _) (argsL := [(.int od)]) (rest := []) (lenOf pd__I_Z rfl) rfl (by show 2 * 0 + _ ≤ _; exact Nat.le_of_eq rfl) (hb hby at_132) (fun _ _ => ⟨rfl, e23, (by decide : 0 + 0 ≤ _), (by decide : 0 + 0 ≤ _)⟩)
              dsimp only [Pt.U, Pt.locs, Pt.cells, Pt.slots] at X28 l28 y28 z28 st28 hQ28
              subst l28 y28 z28
              obtain ⟨rfl, N28q, e28⟩ := hQ28
              have N28 := Fr.app N0 N28q
              refine go_tr (B := (T28.setTop (mkF m 135 #[.val (.int k), .val (.int od), .val (.int ((k &&& (2147483647 : Int32)) % (6 : Int32))), .val (.ref w_LESS_OR_EQUAL), .val (.int (3 : Int32)), .val (.int (2 : Int32)), .val (.int (0 : Int32))] [(.int (own_h3 od))]))) (st28) ?_
              refine go_of (B := (T28.setTop (mkF m 137 #[.val (.int k), .val (.int od), .val (.int ((k &&& (2147483647 : Int32)) % (6 : Int32))), .val (.ref w_LESS_OR_EQUAL), .val (.int (3 : Int32)), .val (.int (2 : Int32)), .val (.int (0 : Int32))] [(.int (0 : Int32)), (.int (own_h3 od))]))) (fun _ kk => XS.iload X28.here hx rfl (hb hby at_135) rfl kk) ?_
              refine go_of (B := (T28.setTop (mkF m 140 #[.val (.int k), .val (.int od), .val (.int ((k &&& (2147483647 : Int32)) % (6 : Int32))), .val (.ref w_LESS_OR_EQUAL), .val (.int (3 : Int32)), .val (.int (2 : Int32)), .val (.int (0 : Int32))] []))) (fun _ kk => XS.icmpNo X28.here hx rfl (hb hby at_137) rfl (teq (own_h3_p od hc24 hc26 : (own_h3 od) = (0 : Int32))).2 kk) ?_
              refine go_of (B := (T28.setTop (mkF m 141 #[.val (.int k), .val (.int od), .val (.int ((k &&& (2147483647 : Int32)) % (6 : Int32))), .val (.ref w_LESS_OR_EQUAL), .val (.int (3 : Int32)), .val (.int (2 : Int32)), .val (.int (0 : Int32))] [(.int (1 : Int32))]))) (fun _ kk => XS.iconst X28.here hx rfl (hb hby at_140) kk) ?_
              refine go_of (B := (T28.setTop (mkF m 145 #[.val (.int k), .val (.int od), .val (.int ((k &&& (2147483647 : Int32)) % (6 : Int32))), .val (.ref w_LESS_OR_EQUAL), .val (.int (3 : Int32)), .val (.int (2 : Int32)), .val (.int (0 : Int32))] [(.int (1 : Int32))]))) (fun _ kk => XS.goto X28.here hx rfl (pc0 := 141) (pc' := 145) rfl (hb hby at_141) (by decide) (by decide) kk) ?_
              refine go_end X28 (v := some (.int (nar .boolean (1 : Int32)))) (fun h => by rw [Bd.returns] at h; cases h) Bd.notSynchronized (by decide) (by decide) (Q := (Q_rm0 Z k od w_EQUAL w_NOT_EQUAL w_LESS w_LESS_OR_EQUAL w_GREATER w_GREATER_OR_EQUAL h0 n0)) ?_ (fun fs hr => retN X28 hx (t := .boolean) Bd.returns (by simp) (hb hby at_145) hr)
              show (fun (v : Option Value) (h : Heap) (L : List Loc) => v = some (.int 1) ∧ Fr n0 L) (some (.int (nar .boolean (1 : Int32)))) T28.heap _
              rw [e28]
              exact ⟨rfl, N28⟩
        · refine go_of (B := (s₁.setTop (mkF m 67 #[.val (.int k), .val (.int od), .val (.int ((k &&& (2147483647 : Int32)) % (6 : Int32))), .unset, .unset, .unset, .unset] []))) (fun _ kk => XS.icmpYes X0.here hx rfl (pc0 := 54) (pc' := 67) rfl (hb hby at_54) rfl (feq hc22).2 (by decide) (by decide) kk) ?_
          refine go_of (B := (s₁.setTop (mkF m 68 #[.val (.int k), .val (.int od), .val (.int ((k &&& (2147483647 : Int32)) % (6 : Int32))), .unset, .unset, .unset, .unset] [(.int ((k &&& (2147483647 : Int32)) % (6 : Int32)))]))) (fun _ kk => XS.iloadN X0.here hx rfl (hb hby at_67) rfl kk) ?_
          refine go_of (B := (s₁.setTop (mkF m 69 #[.val (.int k), .val (.int od), .val (.int ((k &&& (2147483647 : Int32)) % (6 : Int32))), .unset, .unset, .unset, .unset] [(.int (4 : Int32)), (.int ((k &&& (2147483647 : Int32)) % (6 : Int32)))]))) (fun _ kk => XS.iconst X0.here hx rfl (hb hby at_68) kk) ?_
          by_cases hc29 : ((k &&& (2147483647 : Int32)) % (6 : Int32)) = (4 : Int32)
          · refine go_of (B := (s₁.setTop (mkF m 72 #[.val (.int k), .val (.int od), .val (.int ((k &&& (2147483647 : Int32)) % (6 : Int32))), .unset, .unset, .unset, .unset] []))) (fun _ kk => XS.icmpNo X0.here hx rfl (hb hby at_69) rfl (teq hc29).2 kk) ?_
            obtain ⟨T30, X30, e30, st30⟩ := getS2 X0 hx hZ hown (host := "") (Or.inl (hw _ (List.mem_of_getElem? (i := 20) rfl))) Via.refl e0 S_GREATER (g := (mkF m 72 #[.val (.int k), .val (.int od), .val (.int ((k &&& (2147483647 : Int32)) % (6 : Int32))), .unset, .unset, .unset, .unset] [])) rfl (hb hby at_72)
            refine go_of (B := (T30.setTop (mkF m 75 #[.val (.int k), .val (.int od), .val (.int ((k &&& (2147483647 : Int32)) % (6 : Int32))), .unset, .unset, .unset, .unset] [(.ref w_GREATER)]))) (st30) ?_
            refine go_of (B := (T30.setTop (mkF m 76 #[.val (.int k), .val (.int od), .val (.int ((k &&& (2147483647 : Int32)) % (6 : Int32))), .val (.ref w_GREATER), .unset, .unset, .unset] []))) (fun _ kk => XS.astoreN X30.here hx rfl (hb hby at_75) rfl rfl rfl kk) ?_
            refine go_of (B := (T30.setTop (mkF m 77 #[.val (.int k), .val (.int od), .val (.int ((k &&& (2147483647 : Int32)) % (6 : Int32))), .val (.ref w_GREATER), .unset, .unset, .unset] [(.int (4 : Int32))]))) (fun _ kk => XS.iconst X30.here hx rfl (hb hby at_76) kk) ?_
            refine go_of (B := (T30.setTop (mkF m 79 #[.val (.int k), .val (.int od), .val (.int ((k &&& (2147483647 : Int32)) % (6 : Int32))), .val (.ref w_GREATER), .val (.int (4 : Int32)), .unset, .unset] []))) (fun _ kk => XS.istore X30.here hx rfl (hb hby at_77) rfl rfl kk) ?_
            refine go_of (B := (T30.setTop (mkF m 90 #[.val (.int k), .val (.int od), .val (.int ((k &&& (2147483647 : Int32)) % (6 : Int32))), .val (.ref w_GREATER), .val (.int (4 : Int32)), .unset, .unset] []))) (fun _ kk => XS.goto X30.here hx rfl (pc0 := 79) (pc' := 90) rfl (hb hby at_79) (by decide) (by decide) kk) ?_
            refine go_of (B := (T30.setTop (mkF m 91 #[.val (.int k), .val (.int od), .val (.int ((k &&& (2147483647 : Int32)) % (6 : Int32))), .val (.ref w_GREATER), .val (.int (4 : Int32)), .unset, .unset] [(.int od)]))) (fun _ kk => XS.iloadN X30.here hx rfl (hb hby at_90) rfl kk) ?_
            by_cases hc31 : od < (0 : Int32)
            · refine go_of (B := (T30.setTop (mkF m 94 #[.val (.int k), .val (.int od), .val (.int ((k &&& (2147483647 : Int32)) % (6 : Int32))), .val (.ref w_GREATER), .val (.int (4 : Int32)), .unset, .unset] []))) (fun _ kk => XS.ifNo X30.here hx rfl (hb hby at_91) rfl ((if0 _ _).trans (tlt hc31).2.1) kk) ?_
              refine go_of (B := (T30.setTop (mkF m 95 #[.val (.int k), .val (.int od), .val (.int ((k &&& (2147483647 : Int32)) % (6 : Int32))), .val (.ref w_GREATER), .val (.int (4 : Int32)), .unset, .unset] [(.int (0 : Int32))]))) (fun _ kk => XS.iconst X30.here hx rfl (hb hby at_94) kk) ?_
              refine go_of (B := (T30.setTop (mkF m 97 #[.val (.int k), .val (.int od), .val (.int ((k &&& (2147483647 : Int32)) % (6 : Int32))), .val (.ref w_GREATER), .val (.int (4 : Int32)), .val (.int (0 : Int32)), .unset] []))) (fun _ kk => XS.istore X30.here hx rfl (hb hby at_95) rfl rfl kk) ?_
              refine go_of (B := (T30.setTop (mkF m 113 #[.val (.int k), .val (.int od), .val (.int ((k &&& (2147483647 : Int32)) % (6 : Int32))), .val (.ref w_GREATER), .val (.int (4 : Int32)), .val (.int (0 : Int32)), .unset] []))) (fun _ kk => XS.goto X30.here hx rfl (pc0 := 97) (pc' := 113) rfl (hb hby at_97) (by decide) (by decide) kk) ?_
              refine go_of (B := (T30.setTop (mkF m 115 #[.val (.int k), .val (.int od), .val (.int ((k &&& (2147483647 : Int32)) % (6 : Int32))), .val (.ref w_GREATER), .val (.int (4 : Int32)), .val (.int (0 : Int32)), .unset] [(.int (4 : Int32))]))) (fun _ kk => XS.iload X30.here hx rfl (hb hby at_113) rfl kk) ?_
              refine go_of (B := (T30.setTop (mkF m 117 #[.val (.int k), .val (.int od), .val (.int ((k &&& (2147483647 : Int32)) % (6 : Int32))), .val (.ref w_GREATER), .val (.int (4 : Int32)), .val (.int (0 : Int32)), .unset] [(.int (0 : Int32)), (.int (4 : Int32))]))) (fun _ kk => XS.iload X30.here hx rfl (hb hby at_115) rfl kk) ?_
              refine go_of (B := (T30.setTop (mkF m 118 #[.val (.int k), .val (.int od), .val (.int ((k &&& (2147483647 : Int32)) % (6 : Int32))), .val (.ref w_GREATER), .val (.int (4 : Int32)), .val (.int (0 : Int32)), .unset] [(.int (4 : Int32))]))) (fun _ kk => XS.ishr X30.here hx rfl (hb hby at_117) rfl kk) ?_
              refine go_of (B := (T30.setTop (mkF m 119 #[.val (.int k), .val (.int od), .val (.int ((k &&& (2147483647 : Int32)) % (6 : Int32))), .val (.ref w_GREATER), .val (.int (4 : Int32)), .val (.int (0 : Int32)), .unset] [(.int (1 : Int32)), (.int (4 : Int32))]))) (fun _ kk => XS.iconst X30.here hx rfl (hb hby at_118) kk) ?_
              refine go_of (B := (T30.setTop (mkF m 120 #[.val (.int k), .val (.int od), .val (.int ((k &&& (2147483647 : Int32)) % (6 : Int32))), .val (.ref w_GREATER), .val (.int (4 : Int32)), .val (.int (0 : Int32)), .unset] [(.int (0 : Int32))]))) (fun _ kk => XS.iand X30.here hx rfl (hb hby at_119) rfl kk) ?_
              refine go_of (B := (T30.setTop (mkF m 127 #[.val (.int k), .val (.int od), .val (.int ((k &&& (2147483647 : Int32)) % (6 : Int32))), .val (.ref w_GREATER), .val (.int (4 : Int32)), .val (.int (0 : Int32)), .unset] []))) (fun _ kk => XS.ifYes X30.here hx rfl (pc0 := 120) (pc' := 127) rfl (hb hby at_120) rfl ((if0 _ _).trans (teq (by decide : (0 : Int32) = (0 : Int32))).1) (by decide) (by decide) kk) ?_
              refine go_of (B := (T30.setTop (mkF m 128 #[.val (.int k), .val (.int od), .val (.int ((k &&& (2147483647 : Int32)) % (6 : Int32))), .val (.ref w_GREATER), .val (.int (4 : Int32)), .val (.int (0 : Int32)), .unset] [(.int (0 : Int32))]))) (fun _ kk => XS.iconst X30.here hx rfl (hb hby at_127) kk) ?_
              refine go_of (B := (T30.setTop (mkF m 130 #[.val (.int k), .val (.int od), .val (.int ((k &&& (2147483647 : Int32)) % (6 : Int32))), .val (.ref w_GREATER), .val (.int (4 : Int32)), .val (.int (0 : Int32)), .val (.int (0 : Int32))] []))) (fun _ kk => XS.istore X30.here hx rfl (hb hby at_128) rfl rfl kk) ?_
              refine go_of (B := (T30.setTop (mkF m 131 #[.val (.int k), .val (.int od), .val (.int ((k &&& (2147483647 : Int32)) % (6 : Int32))), .val (.ref w_GREATER), .val (.int (4 : Int32)), .val (.int (0 : Int32)), .val (.int (0 : Int32))] [(.ref w_GREATER)]))) (fun _ kk => XS.aloadN X30.here hx rfl (hb hby at_130) rfl rfl kk) ?_
              refine go_of (B := (T30.setTop (mkF m 132 #[.val (.int k), .val (.int od), .val (.int ((k &&& (2147483647 : Int32)) % (6 : Int32))), .val (.ref w_GREATER), .val (.int (4 : Int32)), .val (.int (0 : Int32)), .val (.int (0 : Int32))] [(.int od), (.ref w_GREATER)]))) (fun _ kk => XS.iloadN X30.here hx rfl (hb hby at_131) rfl kk) ?_
              obtain ⟨cq32, kq32, q32a, q32b, q32c⟩ := isOf hZ e30 E_GREATER
              obtain ⟨_, _, ⟨T32, L32, k32, n32⟩, -, X32, ⟨Lc32, hQ32, l32, y32, z32⟩, st32⟩ := X30.virtualBack hx (y := (⟨"com/example/sure_paths/surepaths/model/PropertyCondition$Operator", "holds", "(I)Z"⟩ : MethodName)) (z := (⟨"com/example/sure_paths/surepaths/model/PropertyCondition$Operator", "holds", "(I)Z"⟩ : MethodName)) hown (mvT hZ (hw _ (List.mem_of_getElem? (i := 4) rfl))) (mvT hZ (hw _ (List.mem_of_getElem? (i := 5) rfl))) (notFace_of_selects (args := #[]) (mvT hZ (hw _ (List.mem_of_getElem? (i := 7) rfl)))) (mvT hZ (hw _ (List.mem_of_getElem? (i := 7) rfl))) (mvT hZ (hw _ (List.mem_of_getElem? (i := 6) rfl))) (by decide) (backOf (W := 0) (rmh4 l Z a0 hw [] w_GREATER od h0 n0 Z0 E_GREATER F_GREATER) hZ (hw _ (List.mem_of_getElem? (i := 8) rfl)) (hw _ (List.mem_of_getElem? (i := 2) rfl)) (by decide) (by decide)) q32a q32c (g := (mkF m 132 #[.val (.int k), .val (.int od), .val (.int ((k &&& (2147483647 : Int32)) % (6 : Int32))), .val (.ref w_GREATER), .val (.int (4 : Int32)), .val (.int (0 : Int32)), .val (.int (0 : Int32))] [(.int od), (.ref w_GREATER)])) rfl (by rw [hml]; rfl) (Steps.refl _) (argsL := [(.int od)]) (rest := []) (lenOf pd__I_Z rfl) rfl (by show 2 * 0 + _ ≤ _; exact Nat.le_of_eq rfl) (hb hby at_132) (fun _ _ => ⟨rfl, e30, (by decide : 0 + 0 ≤ _), (by decide : 0 + 0 ≤ _)⟩)
              dsimp only [Pt.U, Pt.locs, Pt.cells, Pt.slots] at X32 l32 y32 z32 st32 hQ32
              subst l32 y32 z32
              obtain ⟨rfl, N32q, e32⟩ := hQ32
              have N32 := Fr.app N0 N32q
              refine go_tr (B := (T32.setTop (mkF m 135 #[.val (.int k), .val (.int od), .val (.int ((k &&& (2147483647 : Int32)) % (6 : Int32))), .val (.ref w_GREATER), .val (.int (4 : Int32)), .val (.int (0 : Int32)), .val (.int (0 : Int32))] [(.int (own_h4 od))]))) (st32) ?_
              refine go_of (B := (T32.setTop (mkF m 137 #[.val (.int k), .val (.int od), .val (.int ((k &&& (2147483647 : Int32)) % (6 : Int32))), .val (.ref w_GREATER), .val (.int (4 : Int32)), .val (.int (0 : Int32)), .val (.int (0 : Int32))] [(.int (0 : Int32)), (.int (own_h4 od))]))) (fun _ kk => XS.iload X32.here hx rfl (hb hby at_135) rfl kk) ?_
              refine go_of (B := (T32.setTop (mkF m 140 #[.val (.int k), .val (.int od), .val (.int ((k &&& (2147483647 : Int32)) % (6 : Int32))), .val (.ref w_GREATER), .val (.int (4 : Int32)), .val (.int (0 : Int32)), .val (.int (0 : Int32))] []))) (fun _ kk => XS.icmpNo X32.here hx rfl (hb hby at_137) rfl (teq (own_h4_n od hc31 : (own_h4 od) = (0 : Int32))).2 kk) ?_
              refine go_of (B := (T32.setTop (mkF m 141 #[.val (.int k), .val (.int od), .val (.int ((k &&& (2147483647 : Int32)) % (6 : Int32))), .val (.ref w_GREATER), .val (.int (4 : Int32)), .val (.int (0 : Int32)), .val (.int (0 : Int32))] [(.int (1 : Int32))]))) (fun _ kk => XS.iconst X32.here hx rfl (hb hby at_140) kk) ?_
              refine go_of (B := (T32.setTop (mkF m 145 #[.val (.int k), .val (.int od), .val (.int ((k &&& (2147483647 : Int32)) % (6 : Int32))), .val (.ref w_GREATER), .val (.int (4 : Int32)), .val (.int (0 : Int32)), .val (.int (0 : Int32))] [(.int (1 : Int32))]))) (fun _ kk => XS.goto X32.here hx rfl (pc0 := 141) (pc' := 145) rfl (hb hby at_141) (by decide) (by decide) kk) ?_
              refine go_end X32 (v := some (.int (nar .boolean (1 : Int32)))) (fun h => by rw [Bd.returns] at h; cases h) Bd.notSynchronized (by decide) (by decide) (Q := (Q_rm0 Z k od w_EQUAL w_NOT_EQUAL w_LESS w_LESS_OR_EQUAL w_GREATER w_GREATER_OR_EQUAL h0 n0)) ?_ (fun fs hr => retN X32 hx (t := .boolean) Bd.returns (by simp) (hb hby at_145) hr)
              show (fun (v : Option Value) (h : Heap) (L : List Loc) => v = some (.int 1) ∧ Fr n0 L) (some (.int (nar .boolean (1 : Int32)))) T32.heap _
              rw [e32]
              exact ⟨rfl, N32⟩
            · refine go_of (B := (T30.setTop (mkF m 100 #[.val (.int k), .val (.int od), .val (.int ((k &&& (2147483647 : Int32)) % (6 : Int32))), .val (.ref w_GREATER), .val (.int (4 : Int32)), .unset, .unset] []))) (fun _ kk => XS.ifYes X30.here hx rfl (pc0 := 91) (pc' := 100) rfl (hb hby at_91) rfl ((if0 _ _).trans (flt hc31).2.1) (by decide) (by decide) kk) ?_
              refine go_of (B := (T30.setTop (mkF m 101 #[.val (.int k), .val (.int od), .val (.int ((k &&& (2147483647 : Int32)) % (6 : Int32))), .val (.ref w_GREATER), .val (.int (4 : Int32)), .unset, .unset] [(.int od)]))) (fun _ kk => XS.iloadN X30.here hx rfl (hb hby at_100) rfl kk) ?_
              by_cases hc33 : od = (0 : Int32)
              · refine go_of (B := (T30.setTop (mkF m 104 #[.val (.int k), .val (.int od), .val (.int ((k &&& (2147483647 : Int32)) % (6 : Int32))), .val (.ref w_GREATER), .val (.int (4 : Int32)), .unset, .unset] []))) (fun _ kk => XS.ifNo X30.here hx rfl (hb hby at_101) rfl ((if0 _ _).trans (teq hc33).2) kk) ?_
                refine go_of (B := (T30.setTop (mkF m 105 #[.val (.int k), .val (.int od), .val (.int ((k &&& (2147483647 : Int32)) % (6 : Int32))), .val (.ref w_GREATER), .val (.int (4 : Int32)), .unset, .unset] [(.int (1 : Int32))]))) (fun _ kk => XS.iconst X30.here hx rfl (hb hby at_104) kk) ?_
                refine go_of (B := (T30.setTop (mkF m 107 #[.val (.int k), .val (.int od), .val (.int ((k &&& (2147483647 : Int32)) % (6 : Int32))), .val (.ref w_GREATER), .val (.int (4 : Int32)), .val (.int (1 : Int32)), .unset] []))) (fun _ kk => XS.istore X30.here hx rfl (hb hby at_105) rfl rfl kk) ?_
                refine go_of (B := (T30.setTop (mkF m 113 #[.val (.int k), .val (.int od), .val (.int ((k &&& (2147483647 : Int32)) % (6 : Int32))), .val (.ref w_GREATER), .val (.int (4 : Int32)), .val (.int (1 : Int32)), .unset] []))) (fun _ kk => XS.goto X30.here hx rfl (pc0 := 107) (pc' := 113) rfl (hb hby at_107) (by decide) (by decide) kk) ?_
                refine go_of (B := (T30.setTop (mkF m 115 #[.val (.int k), .val (.int od), .val (.int ((k &&& (2147483647 : Int32)) % (6 : Int32))), .val (.ref w_GREATER), .val (.int (4 : Int32)), .val (.int (1 : Int32)), .unset] [(.int (4 : Int32))]))) (fun _ kk => XS.iload X30.here hx rfl (hb hby at_113) rfl kk) ?_
                refine go_of (B := (T30.setTop (mkF m 117 #[.val (.int k), .val (.int od), .val (.int ((k &&& (2147483647 : Int32)) % (6 : Int32))), .val (.ref w_GREATER), .val (.int (4 : Int32)), .val (.int (1 : Int32)), .unset] [(.int (1 : Int32)), (.int (4 : Int32))]))) (fun _ kk => XS.iload X30.here hx rfl (hb hby at_115) rfl kk) ?_
                refine go_of (B := (T30.setTop (mkF m 118 #[.val (.int k), .val (.int od), .val (.int ((k &&& (2147483647 : Int32)) % (6 : Int32))), .val (.ref w_GREATER), .val (.int (4 : Int32)), .val (.int (1 : Int32)), .unset] [(.int (2 : Int32))]))) (fun _ kk => XS.ishr X30.here hx rfl (hb hby at_117) rfl kk) ?_
                refine go_of (B := (T30.setTop (mkF m 119 #[.val (.int k), .val (.int od), .val (.int ((k &&& (2147483647 : Int32)) % (6 : Int32))), .val (.ref w_GREATER), .val (.int (4 : Int32)), .val (.int (1 : Int32)), .unset] [(.int (1 : Int32)), (.int (2 : Int32))]))) (fun _ kk => XS.iconst X30.here hx rfl (hb hby at_118) kk) ?_
                refine go_of (B := (T30.setTop (mkF m 120 #[.val (.int k), .val (.int od), .val (.int ((k &&& (2147483647 : Int32)) % (6 : Int32))), .val (.ref w_GREATER), .val (.int (4 : Int32)), .val (.int (1 : Int32)), .unset] [(.int (0 : Int32))]))) (fun _ kk => XS.iand X30.here hx rfl (hb hby at_119) rfl kk) ?_
                refine go_of (B := (T30.setTop (mkF m 127 #[.val (.int k), .val (.int od), .val (.int ((k &&& (2147483647 : Int32)) % (6 : Int32))), .val (.ref w_GREATER), .val (.int (4 : Int32)), .val (.int (1 : Int32)), .unset] []))) (fun _ kk => XS.ifYes X30.here hx rfl (pc0 := 120) (pc' := 127) rfl (hb hby at_120) rfl ((if0 _ _).trans (teq (by decide : (0 : Int32) = (0 : Int32))).1) (by decide) (by decide) kk) ?_
                refine go_of (B := (T30.setTop (mkF m 128 #[.val (.int k), .val (.int od), .val (.int ((k &&& (2147483647 : Int32)) % (6 : Int32))), .val (.ref w_GREATER), .val (.int (4 : Int32)), .val (.int (1 : Int32)), .unset] [(.int (0 : Int32))]))) (fun _ kk => XS.iconst X30.here hx rfl (hb hby at_127) kk) ?_
                refine go_of (B := (T30.setTop (mkF m 130 #[.val (.int k), .val (.int od), .val (.int ((k &&& (2147483647 : Int32)) % (6 : Int32))), .val (.ref w_GREATER), .val (.int (4 : Int32)), .val (.int (1 : Int32)), .val (.int (0 : Int32))] []))) (fun _ kk => XS.istore X30.here hx rfl (hb hby at_128) rfl rfl kk) ?_
                refine go_of (B := (T30.setTop (mkF m 131 #[.val (.int k), .val (.int od), .val (.int ((k &&& (2147483647 : Int32)) % (6 : Int32))), .val (.ref w_GREATER), .val (.int (4 : Int32)), .val (.int (1 : Int32)), .val (.int (0 : Int32))] [(.ref w_GREATER)]))) (fun _ kk => XS.aloadN X30.here hx rfl (hb hby at_130) rfl rfl kk) ?_
                refine go_of (B := (T30.setTop (mkF m 132 #[.val (.int k), .val (.int od), .val (.int ((k &&& (2147483647 : Int32)) % (6 : Int32))), .val (.ref w_GREATER), .val (.int (4 : Int32)), .val (.int (1 : Int32)), .val (.int (0 : Int32))] [(.int od), (.ref w_GREATER)]))) (fun _ kk => XS.iloadN X30.here hx rfl (hb hby at_131) rfl kk) ?_
                obtain ⟨cq34, kq34, q34a, q34b, q34c⟩ := isOf hZ e30 E_GREATER
                obtain ⟨_, _, ⟨T34, L34, k34, n34⟩, -, X34, ⟨Lc34, hQ34, l34, y34, z34⟩, st34⟩ := X30.virtualBack hx (y := (⟨"com/example/sure_paths/surepaths/model/PropertyCondition$Operator", "holds", "(I)Z"⟩ : MethodName)) (z := (⟨"com/example/sure_paths/surepaths/model/PropertyCondition$Operator", "holds", "(I)Z"⟩ : MethodName)) hown (mvT hZ (hw _ (List.mem_of_getElem? (i := 4) rfl))) (mvT hZ (hw _ (List.mem_of_getElem? (i := 5) rfl))) (notFace_of_selects (args := #[]) (mvT hZ (hw _ (List.mem_of_getElem? (i := 7) rfl)))) (mvT hZ (hw _ (List.mem_of_getElem? (i := 7) rfl))) (mvT hZ (hw _ (List.mem_of_getElem? (i := 6) rfl))) (by decide) (backOf (W := 0) (rmh4 l Z a0 hw [] w_GREATER od h0 n0 Z0 E_GREATER F_GREATER) hZ (hw _ (List.mem_of_getElem? (i := 8) rfl)) (hw _ (List.mem_of_getElem? (i := 2) rfl)) (by decide) (by decide)) q34a q34c (g := (mkF m 132 #[.val (.int k), .val (.int od), .val (.int ((k &&& (2147483647 : Int32)) % (6 : Int32))), .val (.ref w_GREATER), .val (.int (4 : Int32)), .val (.int (1 : Int32)), .val (.int (0 : Int32))] [(.int od), (.ref w_GREATER)])) rfl (by rw [hml]; rfl) (Steps.refl _) (argsL := [(.int od)]) (rest := []) (lenOf pd__I_Z rfl) rfl (by show 2 * 0 + _ ≤ _; exact Nat.le_of_eq rfl) (hb hby at_132) (fun _ _ => ⟨rfl, e30, (by decide : 0 + 0 ≤ _), (by decide : 0 + 0 ≤ _)⟩)
                dsimp only [Pt.U, Pt.locs, Pt.cells, Pt.slots] at X34 l34 y34 z34 st34 hQ34
                subst l34 y34 z34
                obtain ⟨rfl, N34q, e34⟩ := hQ34
                have N34 := Fr.app N0 N34q
                refine go_tr (B := (T34.setTop (mkF m 135 #[.val (.int k), .val (.int od), .val (.int ((k &&& (2147483647 : Int32)) % (6 : Int32))), .val (.ref w_GREATER), .val (.int (4 : Int32)), .val (.int (1 : Int32)), .val (.int (0 : Int32))] [(.int (own_h4 od))]))) (st34) ?_
                refine go_of (B := (T34.setTop (mkF m 137 #[.val (.int k), .val (.int od), .val (.int ((k &&& (2147483647 : Int32)) % (6 : Int32))), .val (.ref w_GREATER), .val (.int (4 : Int32)), .val (.int (1 : Int32)), .val (.int (0 : Int32))] [(.int (0 : Int32)), (.int (own_h4 od))]))) (fun _ kk => XS.iload X34.here hx rfl (hb hby at_135) rfl kk) ?_
                refine go_of (B := (T34.setTop (mkF m 140 #[.val (.int k), .val (.int od), .val (.int ((k &&& (2147483647 : Int32)) % (6 : Int32))), .val (.ref w_GREATER), .val (.int (4 : Int32)), .val (.int (1 : Int32)), .val (.int (0 : Int32))] []))) (fun _ kk => XS.icmpNo X34.here hx rfl (hb hby at_137) rfl (teq (own_h4_z od hc31 hc33 : (own_h4 od) = (0 : Int32))).2 kk) ?_
                refine go_of (B := (T34.setTop (mkF m 141 #[.val (.int k), .val (.int od), .val (.int ((k &&& (2147483647 : Int32)) % (6 : Int32))), .val (.ref w_GREATER), .val (.int (4 : Int32)), .val (.int (1 : Int32)), .val (.int (0 : Int32))] [(.int (1 : Int32))]))) (fun _ kk => XS.iconst X34.here hx rfl (hb hby at_140) kk) ?_
                refine go_of (B := (T34.setTop (mkF m 145 #[.val (.int k), .val (.int od), .val (.int ((k &&& (2147483647 : Int32)) % (6 : Int32))), .val (.ref w_GREATER), .val (.int (4 : Int32)), .val (.int (1 : Int32)), .val (.int (0 : Int32))] [(.int (1 : Int32))]))) (fun _ kk => XS.goto X34.here hx rfl (pc0 := 141) (pc' := 145) rfl (hb hby at_141) (by decide) (by decide) kk) ?_
                refine go_end X34 (v := some (.int (nar .boolean (1 : Int32)))) (fun h => by rw [Bd.returns] at h; cases h) Bd.notSynchronized (by decide) (by decide) (Q := (Q_rm0 Z k od w_EQUAL w_NOT_EQUAL w_LESS w_LESS_OR_EQUAL w_GREATER w_GREATER_OR_EQUAL h0 n0)) ?_ (fun fs hr => retN X34 hx (t := .boolean) Bd.returns (by simp) (hb hby at_145) hr)
                show (fun (v : Option Value) (h : Heap) (L : List Loc) => v = some (.int 1) ∧ Fr n0 L) (some (.int (nar .boolean (1 : Int32)))) T34.heap _
                rw [e34]
                exact ⟨rfl, N34⟩
              · refine go_of (B := (T30.setTop (mkF m 110 #[.val (.int k), .val (.int od), .val (.int ((k &&& (2147483647 : Int32)) % (6 : Int32))), .val (.ref w_GREATER), .val (.int (4 : Int32)), .unset, .unset] []))) (fun _ kk => XS.ifYes X30.here hx rfl (pc0 := 101) (pc' := 110) rfl (hb hby at_101) rfl ((if0 _ _).trans (feq hc33).2) (by decide) (by decide) kk) ?_
                refine go_of (B := (T30.setTop (mkF m 111 #[.val (.int k), .val (.int od), .val (.int ((k &&& (2147483647 : Int32)) % (6 : Int32))), .val (.ref w_GREATER), .val (.int (4 : Int32)), .unset, .unset] [(.int (2 : Int32))]))) (fun _ kk => XS.iconst X30.here hx rfl (hb hby at_110) kk) ?_
                refine go_of (B := (T30.setTop (mkF m 113 #[.val (.int k), .val (.int od), .val (.int ((k &&& (2147483647 : Int32)) % (6 : Int32))), .val (.ref w_GREATER), .val (.int (4 : Int32)), .val (.int (2 : Int32)), .unset] []))) (fun _ kk => XS.istore X30.here hx rfl (hb hby at_111) rfl rfl kk) ?_
                refine go_of (B := (T30.setTop (mkF m 115 #[.val (.int k), .val (.int od), .val (.int ((k &&& (2147483647 : Int32)) % (6 : Int32))), .val (.ref w_GREATER), .val (.int (4 : Int32)), .val (.int (2 : Int32)), .unset] [(.int (4 : Int32))]))) (fun _ kk => XS.iload X30.here hx rfl (hb hby at_113) rfl kk) ?_
                refine go_of (B := (T30.setTop (mkF m 117 #[.val (.int k), .val (.int od), .val (.int ((k &&& (2147483647 : Int32)) % (6 : Int32))), .val (.ref w_GREATER), .val (.int (4 : Int32)), .val (.int (2 : Int32)), .unset] [(.int (2 : Int32)), (.int (4 : Int32))]))) (fun _ kk => XS.iload X30.here hx rfl (hb hby at_115) rfl kk) ?_
                refine go_of (B := (T30.setTop (mkF m 118 #[.val (.int k), .val (.int od), .val (.int ((k &&& (2147483647 : Int32)) % (6 : Int32))), .val (.ref w_GREATER), .val (.int (4 : Int32)), .val (.int (2 : Int32)), .unset] [(.int (1 : Int32))]))) (fun _ kk => XS.ishr X30.here hx rfl (hb hby at_117) rfl kk) ?_
                refine go_of (B := (T30.setTop (mkF m 119 #[.val (.int k), .val (.int od), .val (.int ((k &&& (2147483647 : Int32)) % (6 : Int32))), .val (.ref w_GREATER), .val (.int (4 : Int32)), .val (.int (2 : Int32)), .unset] [(.int (1 : Int32)), (.int (1 : Int32))]))) (fun _ kk => XS.iconst X30.here hx rfl (hb hby at_118) kk) ?_
                refine go_of (B := (T30.setTop (mkF m 120 #[.val (.int k), .val (.int od), .val (.int ((k &&& (2147483647 : Int32)) % (6 : Int32))), .val (.ref w_GREATER), .val (.int (4 : Int32)), .val (.int (2 : Int32)), .unset] [(.int (1 : Int32))]))) (fun _ kk => XS.iand X30.here hx rfl (hb hby at_119) rfl kk) ?_
                refine go_of (B := (T30.setTop (mkF m 123 #[.val (.int k), .val (.int od), .val (.int ((k &&& (2147483647 : Int32)) % (6 : Int32))), .val (.ref w_GREATER), .val (.int (4 : Int32)), .val (.int (2 : Int32)), .unset] []))) (fun _ kk => XS.ifNo X30.here hx rfl (hb hby at_120) rfl ((if0 _ _).trans (feq (by decide : ¬ ((1 : Int32) = (0 : Int32)))).1) kk) ?_
                refine go_of (B := (T30.setTop (mkF m 124 #[.val (.int k), .val (.int od), .val (.int ((k &&& (2147483647 : Int32)) % (6 : Int32))), .val (.ref w_GREATER), .val (.int (4 : Int32)), .val (.int (2 : Int32)), .unset] [(.int (1 : Int32))]))) (fun _ kk => XS.iconst X30.here hx rfl (hb hby at_123) kk) ?_
                refine go_of (B := (T30.setTop (mkF m 128 #[.val (.int k), .val (.int od), .val (.int ((k &&& (2147483647 : Int32)) % (6 : Int32))), .val (.ref w_GREATER), .val (.int (4 : Int32)), .val (.int (2 : Int32)), .unset] [(.int (1 : Int32))]))) (fun _ kk => XS.goto X30.here hx rfl (pc0 := 124) (pc' := 128) rfl (hb hby at_124) (by decide) (by decide) kk) ?_
                refine go_of (B := (T30.setTop (mkF m 130 #[.val (.int k), .val (.int od), .val (.int ((k &&& (2147483647 : Int32)) % (6 : Int32))), .val (.ref w_GREATER), .val (.int (4 : Int32)), .val (.int (2 : Int32)), .val (.int (1 : Int32))] []))) (fun _ kk => XS.istore X30.here hx rfl (hb hby at_128) rfl rfl kk) ?_
                refine go_of (B := (T30.setTop (mkF m 131 #[.val (.int k), .val (.int od), .val (.int ((k &&& (2147483647 : Int32)) % (6 : Int32))), .val (.ref w_GREATER), .val (.int (4 : Int32)), .val (.int (2 : Int32)), .val (.int (1 : Int32))] [(.ref w_GREATER)]))) (fun _ kk => XS.aloadN X30.here hx rfl (hb hby at_130) rfl rfl kk) ?_
                refine go_of (B := (T30.setTop (mkF m 132 #[.val (.int k), .val (.int od), .val (.int ((k &&& (2147483647 : Int32)) % (6 : Int32))), .val (.ref w_GREATER), .val (.int (4 : Int32)), .val (.int (2 : Int32)), .val (.int (1 : Int32))] [(.int od), (.ref w_GREATER)]))) (fun _ kk => XS.iloadN X30.here hx rfl (hb hby at_131) rfl kk) ?_
                obtain ⟨cq35, kq35, q35a, q35b, q35c⟩ := isOf hZ e30 E_GREATER
                obtain ⟨_, _, ⟨T35, L35, k35, n35⟩, -, X35, ⟨Lc35, hQ35, l35, y35, z35⟩, st35⟩ := X30.virtualBack hx (y := (⟨"com/example/sure_paths/surepaths/model/PropertyCondition$Operator", "holds", "(I)Z"⟩ : MethodName)) (z := (⟨"com/example/sure_paths/surepaths/model/PropertyCondition$Operator", "holds", "(I)Z"⟩ : MethodName)) hown (mvT hZ (hw _ (List.mem_of_getElem? (i := 4) rfl))) (mvT hZ (hw _ (List.mem_of_getElem? (i := 5) rfl))) (notFace_of_selects (args := #[]) (mvT hZ (hw _ (List.mem_of_getElem? (i := 7) rfl)))) (mvT hZ (hw _ (List.mem_of_getElem? (i := 7) rfl))) (mvT hZ (hw _ (List.mem_of_getElem? (i := 6) rfl))) (by decide) (backOf (W := 0) (rmh4 l Z a0 hw [] w_GREATER od h0 n0 Z0 E_GREATER F_GREATER) hZ (hw _ (List.mem_of_getElem? (i := 8) rfl)) (hw _ (List.mem_of_getElem? (i := 2) rfl)) (by decide) (by decide)) q35a q35c (g := (mkF m 132 #[.val (.int k), .val (.int od), .val (.int ((k &&& (2147483647 : Int32)) % (6 : Int32))), .val (.ref w_GREATER), .val (.int (4 : Int32)), .val (.int (2 : Int32)), .val (.int (1 : Int32))] [(.int od), (.ref w_GREATER)])) rfl (by rw [hml]; rfl) (Steps.refl _) (argsL := [(.int od)]) (rest := []) (lenOf pd__I_Z rfl) rfl (by show 2 * 0 + _ ≤ _; exact Nat.le_of_eq rfl) (hb hby at_132) (fun _ _ => ⟨rfl, e30, (by decide : 0 + 0 ≤ _), (by decide : 0 + 0 ≤ _)⟩)
                dsimp only [Pt.U, Pt.locs, Pt.cells, Pt.slots] at X35 l35 y35 z35 st35 hQ35
                subst l35 y35 z35
                obtain ⟨rfl, N35q, e35⟩ := hQ35
                have N35 := Fr.app N0 N35q
                refine go_tr (B := (T35.setTop (mkF m 135 #[.val (.int k), .val (.int od), .val (.int ((k &&& (2147483647 : Int32)) % (6 : Int32))), .val (.ref w_GREATER), .val (.int (4 : Int32)), .val (.int (2 : Int32)), .val (.int (1 : Int32))] [(.int (own_h4 od))]))) (st35) ?_
                refine go_of (B := (T35.setTop (mkF m 137 #[.val (.int k), .val (.int od), .val (.int ((k &&& (2147483647 : Int32)) % (6 : Int32))), .val (.ref w_GREATER), .val (.int (4 : Int32)), .val (.int (2 : Int32)), .val (.int (1 : Int32))] [(.int (1 : Int32)), (.int (own_h4 od))]))) (fun _ kk => XS.iload X35.here hx rfl (hb hby at_135) rfl kk) ?_
                refine go_of (B := (T35.setTop (mkF m 140 #[.val (.int k), .val (.int od), .val (.int ((k &&& (2147483647 : Int32)) % (6 : Int32))), .val (.ref w_GREATER), .val (.int (4 : Int32)), .val (.int (2 : Int32)), .val (.int (1 : Int32))] []))) (fun _ kk => XS.icmpNo X35.here hx rfl (hb hby at_137) rfl (teq (own_h4_p od hc31 hc33 : (own_h4 od) = (1 : Int32))).2 kk) ?_
                refine go_of (B := (T35.setTop (mkF m 141 #[.val (.int k), .val (.int od), .val (.int ((k &&& (2147483647 : Int32)) % (6 : Int32))), .val (.ref w_GREATER), .val (.int (4 : Int32)), .val (.int (2 : Int32)), .val (.int (1 : Int32))] [(.int (1 : Int32))]))) (fun _ kk => XS.iconst X35.here hx rfl (hb hby at_140) kk) ?_
                refine go_of (B := (T35.setTop (mkF m 145 #[.val (.int k), .val (.int od), .val (.int ((k &&& (2147483647 : Int32)) % (6 : Int32))), .val (.ref w_GREATER), .val (.int (4 : Int32)), .val (.int (2 : Int32)), .val (.int (1 : Int32))] [(.int (1 : Int32))]))) (fun _ kk => XS.goto X35.here hx rfl (pc0 := 141) (pc' := 145) rfl (hb hby at_141) (by decide) (by decide) kk) ?_
                refine go_end X35 (v := some (.int (nar .boolean (1 : Int32)))) (fun h => by rw [Bd.returns] at h; cases h) Bd.notSynchronized (by decide) (by decide) (Q := (Q_rm0 Z k od w_EQUAL w_NOT_EQUAL w_LESS w_LESS_OR_EQUAL w_GREATER w_GREATER_OR_EQUAL h0 n0)) ?_ (fun fs hr => retN X35 hx (t := .boolean) Bd.returns (by simp) (hb hby at_145) hr)
                show (fun (v : Option Value) (h : Heap) (L : List Loc) => v = some (.int 1) ∧ Fr n0 L) (some (.int (nar .boolean (1 : Int32)))) T35.heap _
                rw [e35]
                exact ⟨rfl, N35⟩
          · refine go_of (B := (s₁.setTop (mkF m 82 #[.val (.int k), .val (.int od), .val (.int ((k &&& (2147483647 : Int32)) % (6 : Int32))), .unset, .unset, .unset, .unset] []))) (fun _ kk => XS.icmpYes X0.here hx rfl (pc0 := 69) (pc' := 82) rfl (hb hby at_69) rfl (feq hc29).2 (by decide) (by decide) kk) ?_
            obtain ⟨T36, X36, e36, st36⟩ := getS2 X0 hx hZ hown (host := "") (Or.inl (hw _ (List.mem_of_getElem? (i := 24) rfl))) Via.refl e0 S_GREATER_OR_EQUAL (g := (mkF m 82 #[.val (.int k), .val (.int od), .val (.int ((k &&& (2147483647 : Int32)) % (6 : Int32))), .unset, .unset, .unset, .unset] [])) rfl (hb hby at_82)
            refine go_of (B := (T36.setTop (mkF m 85 #[.val (.int k), .val (.int od), .val (.int ((k &&& (2147483647 : Int32)) % (6 : Int32))), .unset, .unset, .unset, .unset] [(.ref w_GREATER_OR_EQUAL)]))) (st36) ?_
            refine go_of (B := (T36.setTop (mkF m 86 #[.val (.int k), .val (.int od), .val (.int ((k &&& (2147483647 : Int32)) % (6 : Int32))), .val (.ref w_GREATER_OR_EQUAL), .unset, .unset, .unset] []))) (fun _ kk => XS.astoreN X36.here hx rfl (hb hby at_85) rfl rfl rfl kk) ?_
            refine go_of (B := (T36.setTop (mkF m 88 #[.val (.int k), .val (.int od), .val (.int ((k &&& (2147483647 : Int32)) % (6 : Int32))), .val (.ref w_GREATER_OR_EQUAL), .unset, .unset, .unset] [(.int (6 : Int32))]))) (fun _ kk => XS.bipush X36.here hx rfl (hb hby at_86) kk) ?_
            refine go_of (B := (T36.setTop (mkF m 90 #[.val (.int k), .val (.int od), .val (.int ((k &&& (2147483647 : Int32)) % (6 : Int32))), .val (.ref w_GREATER_OR_EQUAL), .val (.int (6 : Int32)), .unset, .unset] []))) (fun _ kk => XS.istore X36.here hx rfl (hb hby at_88) rfl rfl kk) ?_
            refine go_of (B := (T36.setTop (mkF m 91 #[.val (.int k), .val (.int od), .val (.int ((k &&& (2147483647 : Int32)) % (6 : Int32))), .val (.ref w_GREATER_OR_EQUAL), .val (.int (6 : Int32)), .unset, .unset] [(.int od)]))) (fun _ kk => XS.iloadN X36.here hx rfl (hb hby at_90) rfl kk) ?_
            by_cases hc37 : od < (0 : Int32)
            · refine go_of (B := (T36.setTop (mkF m 94 #[.val (.int k), .val (.int od), .val (.int ((k &&& (2147483647 : Int32)) % (6 : Int32))), .val (.ref w_GREATER_OR_EQUAL), .val (.int (6 : Int32)), .unset, .unset] []))) (fun _ kk => XS.ifNo X36.here hx rfl (hb hby at_91) rfl ((if0 _ _).trans (tlt hc37).2.1) kk) ?_
              refine go_of (B := (T36.setTop (mkF m 95 #[.val (.int k), .val (.int od), .val (.int ((k &&& (2147483647 : Int32)) % (6 : Int32))), .val (.ref w_GREATER_OR_EQUAL), .val (.int (6 : Int32)), .unset, .unset] [(.int (0 : Int32))]))) (fun _ kk => XS.iconst X36.here hx rfl (hb hby at_94) kk) ?_
              refine go_of (B := (T36.setTop (mkF m 97 #[.val (.int k), .val (.int od), .val (.int ((k &&& (2147483647 : Int32)) % (6 : Int32))), .val (.ref w_GREATER_OR_EQUAL), .val (.int (6 : Int32)), .val (.int (0 : Int32)), .unset] []))) (fun _ kk => XS.istore X36.here hx rfl (hb hby at_95) rfl rfl kk) ?_
              refine go_of (B := (T36.setTop (mkF m 113 #[.val (.int k), .val (.int od), .val (.int ((k &&& (2147483647 : Int32)) % (6 : Int32))), .val (.ref w_GREATER_OR_EQUAL), .val (.int (6 : Int32)), .val (.int (0 : Int32)), .unset] []))) (fun _ kk => XS.goto X36.here hx rfl (pc0 := 97) (pc' := 113) rfl (hb hby at_97) (by decide) (by decide) kk) ?_
              refine go_of (B := (T36.setTop (mkF m 115 #[.val (.int k), .val (.int od), .val (.int ((k &&& (2147483647 : Int32)) % (6 : Int32))), .val (.ref w_GREATER_OR_EQUAL), .val (.int (6 : Int32)), .val (.int (0 : Int32)), .unset] [(.int (6 : Int32))]))) (fun _ kk => XS.iload X36.here hx rfl (hb hby at_113) rfl kk) ?_
              refine go_of (B := (T36.setTop (mkF m 117 #[.val (.int k), .val (.int od), .val (.int ((k &&& (2147483647 : Int32)) % (6 : Int32))), .val (.ref w_GREATER_OR_EQUAL), .val (.int (6 : Int32)), .val (.int (0 : Int32)), .unset] [(.int (0 : Int32)), (.int (6 : Int32))]))) (fun _ kk => XS.iload X36.here hx rfl (hb hby at_115) rfl kk) ?_
              refine go_of (B := (T36.setTop (mkF m 118 #[.val (.int k), .val (.int od), .val (.int ((k &&& (2147483647 : Int32)) % (6 : Int32))), .val (.ref w_GREATER_OR_EQUAL), .val (.int (6 : Int32)), .val (.int (0 : Int32)), .unset] [(.int (6 : Int32))]))) (fun _ kk => XS.ishr X36.here hx rfl (hb hby at_117) rfl kk) ?_
              refine go_of (B := (T36.setTop (mkF m 119 #[.val (.int k), .val (.int od), .val (.int ((k &&& (2147483647 : Int32)) % (6 : Int32))), .val (.ref w_GREATER_OR_EQUAL), .val (.int (6 : Int32)), .val (.int (0 : Int32)), .unset] [(.int (1 : Int32)), (.int (6 : Int32))]))) (fun _ kk => XS.iconst X36.here hx rfl (hb hby at_118) kk) ?_
              refine go_of (B := (T36.setTop (mkF m 120 #[.val (.int k), .val (.int od), .val (.int ((k &&& (2147483647 : Int32)) % (6 : Int32))), .val (.ref w_GREATER_OR_EQUAL), .val (.int (6 : Int32)), .val (.int (0 : Int32)), .unset] [(.int (0 : Int32))]))) (fun _ kk => XS.iand X36.here hx rfl (hb hby at_119) rfl kk) ?_
              refine go_of (B := (T36.setTop (mkF m 127 #[.val (.int k), .val (.int od), .val (.int ((k &&& (2147483647 : Int32)) % (6 : Int32))), .val (.ref w_GREATER_OR_EQUAL), .val (.int (6 : Int32)), .val (.int (0 : Int32)), .unset] []))) (fun _ kk => XS.ifYes X36.here hx rfl (pc0 := 120) (pc' := 127) rfl (hb hby at_120) rfl ((if0 _ _).trans (teq (by decide : (0 : Int32) = (0 : Int32))).1) (by decide) (by decide) kk) ?_
              refine go_of (B := (T36.setTop (mkF m 128 #[.val (.int k), .val (.int od), .val (.int ((k &&& (2147483647 : Int32)) % (6 : Int32))), .val (.ref w_GREATER_OR_EQUAL), .val (.int (6 : Int32)), .val (.int (0 : Int32)), .unset] [(.int (0 : Int32))]))) (fun _ kk => XS.iconst X36.here hx rfl (hb hby at_127) kk) ?_
              refine go_of (B := (T36.setTop (mkF m 130 #[.val (.int k), .val (.int od), .val (.int ((k &&& (2147483647 : Int32)) % (6 : Int32))), .val (.ref w_GREATER_OR_EQUAL), .val (.int (6 : Int32)), .val (.int (0 : Int32)), .val (.int (0 : Int32))] []))) (fun _ kk => XS.istore X36.here hx rfl (hb hby at_128) rfl rfl kk) ?_
              refine go_of (B := (T36.setTop (mkF m 131 #[.val (.int k), .val (.int od), .val (.int ((k &&& (2147483647 : Int32)) % (6 : Int32))), .val (.ref w_GREATER_OR_EQUAL), .val (.int (6 : Int32)), .val (.int (0 : Int32)), .val (.int (0 : Int32))] [(.ref w_GREATER_OR_EQUAL)]))) (fun _ kk => XS.aloadN X36.here hx rfl (hb hby at_130) rfl rfl kk) ?_
              refine go_of (B := (T36.setTop (mkF m 132 #[.val (.int k), .val (.int od), .val (.int ((k &&& (2147483647 : Int32)) % (6 : Int32))), .val (.ref w_GREATER_OR_EQUAL), .val (.int (6 : Int32)), .val (.int (0 : Int32)), .val (.int (0 : Int32))] [(.int od), (.ref w_GREATER_OR_EQUAL)]))) (fun _ kk => XS.iloadN X36.here hx rfl (hb hby at_131) rfl kk) ?_
              obtain ⟨cq38, kq38, q38a, q38b, q38c⟩ := isOf hZ e36 E_GREATER_OR_EQUAL
              obtain ⟨_, _, ⟨T38, L38, k38, n38⟩, -, X38, ⟨Lc38, hQ38, l38, y38, z38⟩, st38⟩ := X36.virtualBack hx (y := (⟨"com/example/sure_paths/surepaths/model/PropertyCondition$Operator", "holds", "(I)Z"⟩ : MethodName)) (z := (⟨"com/example/sure_paths/surepaths/model/PropertyCondition$Operator", "holds", "(I)Z"⟩ : MethodName)) hown (mvT hZ (hw _ (List.mem_of_getElem? (i := 4) rfl))) (mvT hZ (hw _ (List.mem_of_getElem? (i := 5) rfl))) (notFace_of_selects (args := #[]) (mvT hZ (hw _ (List.mem_of_getElem? (i := 7) rfl)))) (mvT hZ (hw _ (List.mem_of_getElem? (i := 7) rfl))) (mvT hZ (hw _ (List.mem_of_getElem? (i := 6) rfl))) (by decide) (backOf (W := 0) (rmh5 l Z a0 hw [] w_GREATER_OR_EQUAL od h0 n0 Z0 E_GREATER_OR_EQUAL F_GREATER_OR_EQUAL) hZ (hw _ (List.mem_of_getElem? (i := 8) rfl)) (hw _ (List.mem_of_getElem? (i := 2) rfl)) (by decide) (by decide)) q38a q38c (g := (mkF m 132 #[.val (.int k), .val (.int od), .val (.int ((k &&& (2147483647 : Int32)) % (6 : Int32))), .val (.ref w_GREATER_OR_EQUAL), .val (.int (6 : Int32)), .val (.int (0 : Int32)), .val (.int (0 : Int32))] [(.int od), (.ref w_GREATER_OR_EQUAL)])) rfl (by rw [hml]; rfl) (Steps.refl _) (argsL := [(.int od)]) (rest := []) (lenOf pd__I_Z rfl) rfl (by show 2 * 0 + _ ≤ _; exact Nat.le_of_eq rfl) (hb hby at_132) (fun _ _ => ⟨rfl, e36, (by decide : 0 + 0 ≤ _), (by decide : 0 + 0 ≤ _)⟩)
              dsimp only [Pt.U, Pt.locs, Pt.cells, Pt.slots] at X38 l38 y38 z38 st38 hQ38
              subst l38 y38 z38
              obtain ⟨rfl, N38q, e38⟩ := hQ38
              have N38 := Fr.app N0 N38q
              refine go_tr (B := (T38.setTop (mkF m 135 #[.val (.int k), .val (.int od), .val (.int ((k &&& (2147483647 : Int32)) % (6 : Int32))), .val (.ref w_GREATER_OR_EQUAL), .val (.int (6 : Int32)), .val (.int (0 : Int32)), .val (.int (0 : Int32))] [(.int (own_h5 od))]))) (st38) ?_
              refine go_of (B := (T38.setTop (mkF m 137 #[.val (.int k), .val (.int od), .val (.int ((k &&& (2147483647 : Int32)) % (6 : Int32))), .val (.ref w_GREATER_OR_EQUAL), .val (.int (6 : Int32)), .val (.int (0 : Int32)), .val (.int (0 : Int32))] [(.int (0 : Int32)), (.int (own_h5 od))]))) (fun _ kk => XS.iload X38.here hx rfl (hb hby at_135) rfl kk) ?_
              refine go_of (B := (T38.setTop (mkF m 140 #[.val (.int k), .val (.int od), .val (.int ((k &&& (2147483647 : Int32)) % (6 : Int32))), .val (.ref w_GREATER_OR_EQUAL), .val (.int (6 : Int32)), .val (.int (0 : Int32)), .val (.int (0 : Int32))] []))) (fun _ kk => XS.icmpNo X38.here hx rfl (hb hby at_137) rfl (teq (own_h5_n od hc37 : (own_h5 od) = (0 : Int32))).2 kk) ?_
              refine go_of (B := (T38.setTop (mkF m 141 #[.val (.int k), .val (.int od), .val (.int ((k &&& (2147483647 : Int32)) % (6 : Int32))), .val (.ref w_GREATER_OR_EQUAL), .val (.int (6 : Int32)), .val (.int (0 : Int32)), .val (.int (0 : Int32))] [(.int (1 : Int32))]))) (fun _ kk => XS.iconst X38.here hx rfl (hb hby at_140) kk) ?_
              refine go_of (B := (T38.setTop (mkF m 145 #[.val (.int k), .val (.int od), .val (.int ((k &&& (2147483647 : Int32)) % (6 : Int32))), .val (.ref w_GREATER_OR_EQUAL), .val (.int (6 : Int32)), .val (.int (0 : Int32)), .val (.int (0 : Int32))] [(.int (1 : Int32))]))) (fun _ kk => XS.goto X38.here hx rfl (pc0 := 141) (pc' := 145) rfl (hb hby at_141) (by decide) (by decide) kk) ?_
              refine go_end X38 (v := some (.int (nar .boolean (1 : Int32)))) (fun h => by rw [Bd.returns] at h; cases h) Bd.notSynchronized (by decide) (by decide) (Q := (Q_rm0 Z k od w_EQUAL w_NOT_EQUAL w_LESS w_LESS_OR_EQUAL w_GREATER w_GREATER_OR_EQUAL h0 n0)) ?_ (fun fs hr => retN X38 hx (t := .boolean) Bd.returns (by simp) (hb hby at_145) hr)
              show (fun (v : Option Value) (h : Heap) (L : List Loc) => v = some (.int 1) ∧ Fr n0 L) (some (.int (nar .boolean (1 : Int32)))) T38.heap _
              rw [e38]
              exact ⟨rfl, N38⟩
            · refine go_of (B := (T36.setTop (mkF m 100 #[.val (.int k), .val (.int od), .val (.int ((k &&& (2147483647 : Int32)) % (6 : Int32))), .val (.ref w_GREATER_OR_EQUAL), .val (.int (6 : Int32)), .unset, .unset] []))) (fun _ kk => XS.ifYes X36.here hx rfl (pc0 := 91) (pc' := 100) rfl (hb hby at_91) rfl ((if0 _ _).trans (flt hc37).2.1) (by decide) (by decide) kk) ?_
              refine go_of (B := (T36.setTop (mkF m 101 #[.val (.int k), .val (.int od), .val (.int ((k &&& (2147483647 : Int32)) % (6 : Int32))), .val (.ref w_GREATER_OR_EQUAL), .val (.int (6 : Int32)), .unset, .unset] [(.int od)]))) (fun _ kk => XS.iloadN X36.here hx rfl (hb hby at_100) rfl kk) ?_
              by_cases hc39 : od = (0 : Int32)
              · refine go_of (B := (T36.setTop (mkF m 104 #[.val (.int k), .val (.int od), .val (.int ((k &&& (2147483647 : Int32)) % (6 : Int32))), .val (.ref w_GREATER_OR_EQUAL), .val (.int (6 : Int32)), .unset, .unset] []))) (fun _ kk => XS.ifNo X36.here hx rfl (hb hby at_101) rfl ((if0 _ _).trans (teq hc39).2) kk) ?_
                refine go_of (B := (T36.setTop (mkF m 105 #[.val (.int k), .val (.int od), .val (.int ((k &&& (2147483647 : Int32)) % (6 : Int32))), .val (.ref w_GREATER_OR_EQUAL), .val (.int (6 : Int32)), .unset, .unset] [(.int (1 : Int32))]))) (fun _ kk => XS.iconst X36.here hx rfl (hb hby at_104) kk) ?_
                refine go_of (B := (T36.setTop (mkF m 107 #[.val (.int k), .val (.int od), .val (.int ((k &&& (2147483647 : Int32)) % (6 : Int32))), .val (.ref w_GREATER_OR_EQUAL), .val (.int (6 : Int32)), .val (.int (1 : Int32)), .unset] []))) (fun _ kk => XS.istore X36.here hx rfl (hb hby at_105) rfl rfl kk) ?_
                refine go_of (B := (T36.setTop (mkF m 113 #[.val (.int k), .val (.int od), .val (.int ((k &&& (2147483647 : Int32)) % (6 : Int32))), .val (.ref w_GREATER_OR_EQUAL), .val (.int (6 : Int32)), .val (.int (1 : Int32)), .unset] []))) (fun _ kk => XS.goto X36.here hx rfl (pc0 := 107) (pc' := 113) rfl (hb hby at_107) (by decide) (by decide) kk) ?_
                refine go_of (B := (T36.setTop (mkF m 115 #[.val (.int k), .val (.int od), .val (.int ((k &&& (2147483647 : Int32)) % (6 : Int32))), .val (.ref w_GREATER_OR_EQUAL), .val (.int (6 : Int32)), .val (.int (1 : Int32)), .unset] [(.int (6 : Int32))]))) (fun _ kk => XS.iload X36.here hx rfl (hb hby at_113) rfl kk) ?_
                refine go_of (B := (T36.setTop (mkF m 117 #[.val (.int k), .val (.int od), .val (.int ((k &&& (2147483647 : Int32)) % (6 : Int32))), .val (.ref w_GREATER_OR_EQUAL), .val (.int (6 : Int32)), .val (.int (1 : Int32)), .unset] [(.int (1 : Int32)), (.int (6 : Int32))]))) (fun _ kk => XS.iload X36.here hx rfl (hb hby at_115) rfl kk) ?_
                refine go_of (B := (T36.setTop (mkF m 118 #[.val (.int k), .val (.int od), .val (.int ((k &&& (2147483647 : Int32)) % (6 : Int32))), .val (.ref w_GREATER_OR_EQUAL), .val (.int (6 : Int32)), .val (.int (1 : Int32)), .unset] [(.int (3 : Int32))]))) (fun _ kk => XS.ishr X36.here hx rfl (hb hby at_117) rfl kk) ?_
                refine go_of (B := (T36.setTop (mkF m 119 #[.val (.int k), .val (.int od), .val (.int ((k &&& (2147483647 : Int32)) % (6 : Int32))), .val (.ref w_GREATER_OR_EQUAL), .val (.int (6 : Int32)), .val (.int (1 : Int32)), .unset] [(.int (1 : Int32)), (.int (3 : Int32))]))) (fun _ kk => XS.iconst X36.here hx rfl (hb hby at_118) kk) ?_
                refine go_of (B := (T36.setTop (mkF m 120 #[.val (.int k), .val (.int od), .val (.int ((k &&& (2147483647 : Int32)) % (6 : Int32))), .val (.ref w_GREATER_OR_EQUAL), .val (.int (6 : Int32)), .val (.int (1 : Int32)), .unset] [(.int (1 : Int32))]))) (fun _ kk => XS.iand X36.here hx rfl (hb hby at_119) rfl kk) ?_
                refine go_of (B := (T36.setTop (mkF m 123 #[.val (.int k), .val (.int od), .val (.int ((k &&& (2147483647 : Int32)) % (6 : Int32))), .val (.ref w_GREATER_OR_EQUAL), .val (.int (6 : Int32)), .val (.int (1 : Int32)), .unset] []))) (fun _ kk => XS.ifNo X36.here hx rfl (hb hby at_120) rfl ((if0 _ _).trans (feq (by decide : ¬ ((1 : Int32) = (0 : Int32)))).1) kk) ?_
                refine go_of (B := (T36.setTop (mkF m 124 #[.val (.int k), .val (.int od), .val (.int ((k &&& (2147483647 : Int32)) % (6 : Int32))), .val (.ref w_GREATER_OR_EQUAL), .val (.int (6 : Int32)), .val (.int (1 : Int32)), .unset] [(.int (1 : Int32))]))) (fun _ kk => XS.iconst X36.here hx rfl (hb hby at_123) kk) ?_
                refine go_of (B := (T36.setTop (mkF m 128 #[.val (.int k), .val (.int od), .val (.int ((k &&& (2147483647 : Int32)) % (6 : Int32))), .val (.ref w_GREATER_OR_EQUAL), .val (.int (6 : Int32)), .val (.int (1 : Int32)), .unset] [(.int (1 : Int32))]))) (fun _ kk => XS.goto X36.here hx rfl (pc0 := 124) (pc' := 128) rfl (hb hby at_124) (by decide) (by decide) kk) ?_
                refine go_of (B := (T36.setTop (mkF m 130 #[.val (.int k), .val (.int od), .val (.int ((k &&& (2147483647 : Int32)) % (6 : Int32))), .val (.ref w_GREATER_OR_EQUAL), .val (.int (6 : Int32)), .val (.int (1 : Int32)), .val (.int (1 : Int32))] []))) (fun _ kk => XS.istore X36.here hx rfl (hb hby at_128) rfl rfl kk) ?_
                refine go_of (B := (T36.setTop (mkF m 131 #[.val (.int k), .val (.int od), .val (.int ((k &&& (2147483647 : Int32)) % (6 : Int32))), .val (.ref w_GREATER_OR_EQUAL), .val (.int (6 : Int32)), .val (.int (1 : Int32)), .val (.int (1 : Int32))] [(.ref w_GREATER_OR_EQUAL)]))) (fun _ kk => XS.aloadN X36.here hx rfl (hb hby at_130) rfl rfl kk) ?_
                refine go_of (B := (T36.setTop (mkF m 132 #[.val (.int k), .val (.int od), .val (.int ((k &&& (2147483647 : Int32)) % (6 : Int32))), .val (.ref w_GREATER_OR_EQUAL), .val (.int (6 : Int32)), .val (.int (1 : Int32)), .val (.int (1 : Int32))] [(.int od), (.ref w_GREATER_OR_EQUAL)]))) (fun _ kk => XS.iloadN X36.here hx rfl (hb hby at_131) rfl kk) ?_
                obtain ⟨cq40, kq40, q40a, q40b, q40c⟩ := isOf hZ e36 E_GREATER_OR_EQUAL
                obtain ⟨_, _, ⟨T40, L40, k40, n40⟩, -, X40, ⟨Lc40, hQ40, l40, y40, z40⟩, st40⟩ := X36.virtualBack hx (y := (⟨"com/example/sure_paths/surepaths/model/PropertyCondition$Operator", "holds", "(I)Z"⟩ : MethodName)) (z := (⟨"com/example/sure_paths/surepaths/model/PropertyCondition$Operator", "holds", "(I)Z"⟩ : MethodName)) hown (mvT hZ (hw _ (List.mem_of_getElem? (i := 4) rfl))) (mvT hZ (hw _ (List.mem_of_getElem? (i := 5) rfl))) (notFace_of_selects (args := #[]) (mvT hZ (hw _ (List.mem_of_getElem? (i := 7) rfl)))) (mvT hZ (hw _ (List.mem_of_getElem? (i := 7) rfl))) (mvT hZ (hw _ (List.mem_of_getElem? (i := 6) rfl))) (by decide) (backOf (W := 0) (rmh5 l Z a0 hw [] w_GREATER_OR_EQUAL od h0 n0 Z0 E_GREATER_OR_EQUAL F_GREATER_OR_EQUAL) hZ (hw _ (List.mem_of_getElem? (i := 8) rfl)) (hw _ (List.mem_of_getElem? (i := 2) rfl)) (by decide) (by decide)) q40a q40c (g := (mkF m 132 #[.val (.int k), .val (.int od), .val (.int ((k &&& (2147483647 : Int32)) % (6 : Int32))), .val (.ref w_GREATER_OR_EQUAL), .val (.int (6 : Int32)), .val (.int (1 : Int32)), .val (.int (1 : Int32))] [(.int od), (.ref w_GREATER_OR_EQUAL)])) rfl (by rw [hml]; rfl) (Steps.refl _) (argsL := [(.int od)]) (rest := []) (lenOf pd__I_Z rfl) rfl (by show 2 * 0 + _ ≤ _; exact Nat.le_of_eq rfl) (hb hby at_132) (fun _ _ => ⟨rfl, e36, (by decide : 0 + 0 ≤ _), (by decide : 0 + 0 ≤ _)⟩)
                dsimp only [Pt.U, Pt.locs, Pt.cells, Pt.slots] at X40 l40 y40 z40 st40 hQ40
                subst l40 y40 z40
                obtain ⟨rfl, N40q, e40⟩ := hQ40
                have N40 := Fr.app N0 N40q
                refine go_tr (B := (T40.setTop (mkF m 135 #[.val (.int k), .val (.int od), .val (.int ((k &&& (2147483647 : Int32)) % (6 : Int32))), .val (.ref w_GREATER_OR_EQUAL), .val (.int (6 : Int32)), .val (.int (1 : Int32)), .val (.int (1 : Int32))] [(.int (own_h5 od))]))) (st40) ?_
                refine go_of (B := (T40.setTop (mkF m 137 #[.val (.int k), .val (.int od), .val (.int ((k &&& (2147483647 : Int32)) % (6 : Int32))), .val (.ref w_GREATER_OR_EQUAL), .val (.int (6 : Int32)), .val (.int (1 : Int32)), .val (.int (1 : Int32))] [(.int (1 : Int32)), (.int (own_h5 od))]))) (fun _ kk => XS.iload X40.here hx rfl (hb hby at_135) rfl kk) ?_
                refine go_of (B := (T40.setTop (mkF m 140 #[.val (.int k), .val (.int od), .val (.int ((k &&& (2147483647 : Int32)) % (6 : Int32))), .val (.ref w_GREATER_OR_EQUAL), .val (.int (6 : Int32)), .val (.int (1 : Int32)), .val (.int (1 : Int32))] []))) (fun _ kk => XS.icmpNo X40.here hx rfl (hb hby at_137) rfl (teq (own_h5_z od hc37 hc39 : (own_h5 od) = (1 : Int32))).2 kk) ?_
                refine go_of (B := (T40.setTop (mkF m 141 #[.val (.int k), .val (.int od), .val (.int ((k &&& (2147483647 : Int32)) % (6 : Int32))), .val (.ref w_GREATER_OR_EQUAL), .val (.int (6 : Int32)), .val (.int (1 : Int32)), .val (.int (1 : Int32))] [(.int (1 : Int32))]))) (fun _ kk => XS.iconst X40.here hx rfl (hb hby at_140) kk) ?_
                refine go_of (B := (T40.setTop (mkF m 145 #[.val (.int k), .val (.int od), .val (.int ((k &&& (2147483647 : Int32)) % (6 : Int32))), .val (.ref w_GREATER_OR_EQUAL), .val (.int (6 : Int32)), .val (.int (1 : Int32)), .val (.int (1 : Int32))] [(.int (1 : Int32))]))) (fun _ kk => XS.goto X40.here hx rfl (pc0 := 141) (pc' := 145) rfl (hb hby at_141) (by decide) (by decide) kk) ?_
                refine go_end X40 (v := some (.int (nar .boolean (1 : Int32)))) (fun h => by rw [Bd.returns] at h; cases h) Bd.notSynchronized (by decide) (by decide) (Q := (Q_rm0 Z k od w_EQUAL w_NOT_EQUAL w_LESS w_LESS_OR_EQUAL w_GREATER w_GREATER_OR_EQUAL h0 n0)) ?_ (fun fs hr => retN X40 hx (t := .boolean) Bd.returns (by simp) (hb hby at_145) hr)
                show (fun (v : Option Value) (h : Heap) (L : List Loc) => v = some (.int 1) ∧ Fr n0 L) (some (.int (nar .boolean (1 : Int32)))) T40.heap _
                rw [e40]
                exact ⟨rfl, N40⟩
              · refine go_of (B := (T36.setTop (mkF m 110 #[.val (.int k), .val (.int od), .val (.int ((k &&& (2147483647 : Int32)) % (6 : Int32))), .val (.ref w_GREATER_OR_EQUAL), .val (.int (6 : Int32)), .unset, .unset] []))) (fun _ kk => XS.ifYes X36.here hx rfl (pc0 := 101) (pc' := 110) rfl (hb hby at_101) rfl ((if0 _ _).trans (feq hc39).2) (by decide) (by decide) kk) ?_
                refine go_of (B := (T36.setTop (mkF m 111 #[.val (.int k), .val (.int od), .val (.int ((k &&& (2147483647 : Int32)) % (6 : Int32))), .val (.ref w_GREATER_OR_EQUAL), .val (.int (6 : Int32)), .unset, .unset] [(.int (2 : Int32))]))) (fun _ kk => XS.iconst X36.here hx rfl (hb hby at_110) kk) ?_
                refine go_of (B := (T36.setTop (mkF m 113 #[.val (.int k), .val (.int od), .val (.int ((k &&& (2147483647 : Int32)) % (6 : Int32))), .val (.ref w_GREATER_OR_EQUAL), .val (.int (6 : Int32)), .val (.int (2 : Int32)), .unset] []))) (fun _ kk => XS.istore X36.here hx rfl (hb hby at_111) rfl rfl kk) ?_
                refine go_of (B := (T36.setTop (mkF m 115 #[.val (.int k), .val (.int od), .val (.int ((k &&& (2147483647 : Int32)) % (6 : Int32))), .val (.ref w_GREATER_OR_EQUAL), .val (.int (6 : Int32)), .val (.int (2 : Int32)), .unset] [(.int (6 : Int32))]))) (fun _ kk => XS.iload X36.here hx rfl (hb hby at_113) rfl kk) ?_
                refine go_of (B := (T36.setTop (mkF m 117 #[.val (.int k), .val (.int od), .val (.int ((k &&& (2147483647 : Int32)) % (6 : Int32))), .val (.ref w_GREATER_OR_EQUAL), .val (.int (6 : Int32)), .val (.int (2 : Int32)), .unset] [(.int (2 : Int32)), (.int (6 : Int32))]))) (fun _ kk => XS.iload X36.here hx rfl (hb hby at_115) rfl kk) ?_
                refine go_of (B := (T36.setTop (mkF m 118 #[.val (.int k), .val (.int od), .val (.int ((k &&& (2147483647 : Int32)) % (6 : Int32))), .val (.ref w_GREATER_OR_EQUAL), .val (.int (6 : Int32)), .val (.int (2 : Int32)), .unset] [(.int (1 : Int32))]))) (fun _ kk => XS.ishr X36.here hx rfl (hb hby at_117) rfl kk) ?_
                refine go_of (B := (T36.setTop (mkF m 119 #[.val (.int k), .val (.int od), .val (.int ((k &&& (2147483647 : Int32)) % (6 : Int32))), .val (.ref w_GREATER_OR_EQUAL), .val (.int (6 : Int32)), .val (.int (2 : Int32)), .unset] [(.int (1 : Int32)), (.int (1 : Int32))]))) (fun _ kk => XS.iconst X36.here hx rfl (hb hby at_118) kk) ?_
                refine go_of (B := (T36.setTop (mkF m 120 #[.val (.int k), .val (.int od), .val (.int ((k &&& (2147483647 : Int32)) % (6 : Int32))), .val (.ref w_GREATER_OR_EQUAL), .val (.int (6 : Int32)), .val (.int (2 : Int32)), .unset] [(.int (1 : Int32))]))) (fun _ kk => XS.iand X36.here hx rfl (hb hby at_119) rfl kk) ?_
                refine go_of (B := (T36.setTop (mkF m 123 #[.val (.int k), .val (.int od), .val (.int ((k &&& (2147483647 : Int32)) % (6 : Int32))), .val (.ref w_GREATER_OR_EQUAL), .val (.int (6 : Int32)), .val (.int (2 : Int32)), .unset] []))) (fun _ kk => XS.ifNo X36.here hx rfl (hb hby at_120) rfl ((if0 _ _).trans (feq (by decide : ¬ ((1 : Int32) = (0 : Int32)))).1) kk) ?_
                refine go_of (B := (T36.setTop (mkF m 124 #[.val (.int k), .val (.int od), .val (.int ((k &&& (2147483647 : Int32)) % (6 : Int32))), .val (.ref w_GREATER_OR_EQUAL), .val (.int (6 : Int32)), .val (.int (2 : Int32)), .unset] [(.int (1 : Int32))]))) (fun _ kk => XS.iconst X36.here hx rfl (hb hby at_123) kk) ?_
                refine go_of (B := (T36.setTop (mkF m 128 #[.val (.int k), .val (.int od), .val (.int ((k &&& (2147483647 : Int32)) % (6 : Int32))), .val (.ref w_GREATER_OR_EQUAL), .val (.int (6 : Int32)), .val (.int (2 : Int32)), .unset] [(.int (1 : Int32))]))) (fun _ kk => XS.goto X36.here hx rfl (pc0 := 124) (pc' := 128) rfl (hb hby at_124) (by decide) (by decide) kk) ?_
                refine go_of (B := (T36.setTop (mkF m 130 #[.val (.int k), .val (.int od), .val (.int ((k &&& (2147483647 : Int32)) % (6 : Int32))), .val (.ref w_GREATER_OR_EQUAL), .val (.int (6 : Int32)), .val (.int (2 : Int32)), .val (.int (1 : Int32))] []))) (fun _ kk => XS.istore X36.here hx rfl (hb hby at_128) rfl rfl kk) ?_
                refine go_of (B := (T36.setTop (mkF m 131 #[.val (.int k), .val (.int od), .val (.int ((k &&& (2147483647 : Int32)) % (6 : Int32))), .val (.ref w_GREATER_OR_EQUAL), .val (.int (6 : Int32)), .val (.int (2 : Int32)), .val (.int (1 : Int32))] [(.ref w_GREATER_OR_EQUAL)]))) (fun _ kk => XS.aloadN X36.here hx rfl (hb hby at_130) rfl rfl kk) ?_
                refine go_of (B := (T36.setTop (mkF m 132 #[.val (.int k), .val (.int od), .val (.int ((k &&& (2147483647 : Int32)) % (6 : Int32))), .val (.ref w_GREATER_OR_EQUAL), .val (.int (6 : Int32)), .val (.int (2 : Int32)), .val (.int (1 : Int32))] [(.int od), (.ref w_GREATER_OR_EQUAL)]))) (fun _ kk => XS.iloadN X36.here hx rfl (hb hby at_131) rfl kk) ?_
                obtain ⟨cq41, kq41, q41a, q41b, q41c⟩ := isOf hZ e36 E_GREATER_OR_EQUAL
                obtain ⟨_, _, ⟨T41, L41, k41, n41⟩, -, X41, ⟨Lc41, hQ41, l41, y41, z41⟩, st41⟩ := X36.virtualBack hx (y := (⟨"com/example/sure_paths/surepaths/model/PropertyCondition$Operator", "holds", "(I)Z"⟩ : MethodName)) (z := (⟨"com/example/sure_paths/surepaths/model/PropertyCondition$Operator", "holds", "(I)Z"⟩ : MethodName)) hown (mvT hZ (hw _ (List.mem_of_getElem? (i := 4) rfl))) (mvT hZ (hw _ (List.mem_of_getElem? (i := 5) rfl))) (notFace_of_selects (args := #[]) (mvT hZ (hw _ (List.mem_of_getElem? (i := 7) rfl)))) (mvT hZ (hw _ (List.mem_of_getElem? (i := 7) rfl))) (mvT hZ (hw _ (List.mem_of_getElem? (i := 6) rfl))) (by decide) (backOf (W := 0) (rmh5 l Z a0 hw [] w_GREATER_OR_EQUAL od h0 n0 Z0 E_GREATER_OR_EQUAL F_GREATER_OR_EQUAL) hZ (hw _ (List.mem_of_getElem? (i := 8) rfl)) (hw _ (List.mem_of_getElem? (i := 2) rfl)) (by decide) (by decide)) q41a q41c (g := (mkF m 132 #[.val (.int k), .val (.int od), .val (.int ((k &&& (2147483647 : Int32)) % (6 : Int32))), .val (.ref w_GREATER_OR_EQUAL), .val (.int (6 : Int32)), .val (.int (2 : Int32)), .val (.int (1 : Int32))] [(.int od), (.ref w_GREATER_OR_EQUAL)])) rfl (by rw [hml]; rfl) (Steps.refl _) (argsL := [(.int od)]) (rest := []) (lenOf pd__I_Z rfl) rfl (by show 2 * 0 + _ ≤ _; exact Nat.le_of_eq rfl) (hb hby at_132) (fun _ _ => ⟨rfl, e36, (by decide : 0 + 0 ≤ _), (by decide : 0 + 0 ≤ _)⟩)
                dsimp only [Pt.U, Pt.locs, Pt.cells, Pt.slots] at X41 l41 y41 z41 st41 hQ41
                subst l41 y41 z41
                obtain ⟨rfl, N41q, e41⟩ := hQ41
                have N41 := Fr.app N0 N41q
                refine go_tr (B := (T41.setTop (mkF m 135 #[.val (.int k), .val (.int od), .val (.int ((k &&& (2147483647 : Int32)) % (6 : Int32))), .val (.ref w_GREATER_OR_EQUAL), .val (.int (6 : Int32)), .val (.int (2 : Int32)), .val (.int (1 : Int32))] [(.int (own_h5 od))]))) (st41) ?_
                refine go_of (B := (T41.setTop (mkF m 137 #[.val (.int k), .val (.int od), .val (.int ((k &&& (2147483647 : Int32)) % (6 : Int32))), .val (.ref w_GREATER_OR_EQUAL), .val (.int (6 : Int32)), .val (.int (2 : Int32)), .val (.int (1 : Int32))] [(.int (1 : Int32)), (.int (own_h5 od))]))) (fun _ kk => XS.iload X41.here hx rfl (hb hby at_135) rfl kk) ?_
                refine go_of (B := (T41.setTop (mkF m 140 #[.val (.int k), .val (.int od), .val (.int ((k &&& (2147483647 : Int32)) % (6 : Int32))), .val (.ref w_GREATER_OR_EQUAL), .val (.int (6 : Int32)), .val (.int (2 : Int32)), .val (.int (1 : Int32))] []))) (fun _ kk => XS.icmpNo X41.here hx rfl (hb hby at_137) rfl (teq (own_h5_p od hc37 hc39 : (own_h5 od) = (1 : Int32))).2 kk) ?_
                refine go_of (B := (T41.setTop (mkF m 141 #[.val (.int k), .val (.int od), .val (.int ((k &&& (2147483647 : Int32)) % (6 : Int32))), .val (.ref w_GREATER_OR_EQUAL), .val (.int (6 : Int32)), .val (.int (2 : Int32)), .val (.int (1 : Int32))] [(.int (1 : Int32))]))) (fun _ kk => XS.iconst X41.here hx rfl (hb hby at_140) kk) ?_
                refine go_of (B := (T41.setTop (mkF m 145 #[.val (.int k), .val (.int od), .val (.int ((k &&& (2147483647 : Int32)) % (6 : Int32))), .val (.ref w_GREATER_OR_EQUAL), .val (.int (6 : Int32)), .val (.int (2 : Int32)), .val (.int (1 : Int32))] [(.int (1 : Int32))]))) (fun _ kk => XS.goto X41.here hx rfl (pc0 := 141) (pc' := 145) rfl (hb hby at_141) (by decide) (by decide) kk) ?_
                refine go_end X41 (v := some (.int (nar .boolean (1 : Int32)))) (fun h => by rw [Bd.returns] at h; cases h) Bd.notSynchronized (by decide) (by decide) (Q := (Q_rm0 Z k od w_EQUAL w_NOT_EQUAL w_LESS w_LESS_OR_EQUAL w_GREATER w_GREATER_OR_EQUAL h0 n0)) ?_ (fun fs hr => retN X41 hx (t := .boolean) Bd.returns (by simp) (hb hby at_145) hr)
                show (fun (v : Option Value) (h : Heap) (L : List Loc) => v = some (.int 1) ∧ Fr n0 L) (some (.int (nar .boolean (1 : Int32)))) T41.heap _
                rw [e41]
                exact ⟨rfl, N41⟩
set_option maxRecDepth 65536 in
set_option maxHeartbeats 40000000 in
theorem comes_1 {Post : Tables → Env → Array Value → State → Outcome → State → Prop} (hpost : ∀ tb e args s v u, (limb_1_1.after args s (.returned v) u = true ∧ limb_1_2.after args s (.returned v) u = true ∧ True) → FrameEnd s (.returned v) u (Jvm.fieldLocs frame_1_writes args s ++ Jvm.arrayLocs frame_1_arrays args s ++ Jvm.staticLocs frame_1_statics s) 0 0 → Post tb e args s (.returned v) u) :
    ArmFor flags0 classFile x code maxLocals ret World_1 tables_1 room_1 Calls_1 rest_1 Pre_1 Post := by
  intro l hfl _ _ p e ha hc hk s m args below hf hA hF happ hP
  obtain ⟨hcalls, hrest, hpre⟩ := hP
  obtain ⟨-, -, -, hnamed, -, -, -, hat⟩ := (Spec.applies_iff hf).mp happ
  obtain ⟨hg, hn⟩ := and_e (Cond.before_iff.mp (show (Jvm.Cond.and given_1 narrow_1).before args s = true from hpre))
  obtain ⟨g1, g2⟩ := and_e hg
  obtain ⟨g3, g4⟩ := and_e g2
  obtain ⟨w0, w1, rfl⟩ : ∃ w0 w1 : Value, args = #[w0, w1] := by
    have hs : args.size = 2 := by simpa [Cond.value, given_1] using g1
    obtain ⟨L⟩ := args
    match L, hs with
    | [w0, w1], _ => exact ⟨w0, w1, rfl⟩
  have hw := fun d (hd : d ∈ tables_1) => atoms_spec (ws := Jvm.Cond.code x code maxLocals ret :: tables_1) hat d (List.mem_cons_of_mem _ hd)
  have hfit : Fit s := fun {y c} hc i hi => by
    obtain ⟨ha, rfl⟩ := Array.getElem?_eq_some_iff.mp hc
    have q := List.all_eq_true.mp ((Array.all_eq_true_iff_forall_mem.mp hF) _ (Array.getElem_mem ha)) i (List.mem_range.mpr hi)
    simpa [Array.getElem?_eq_getElem hi] using q
  obtain ⟨i0, ei0⟩ := is_v g3
  obtain rfl : w0 = (.int i0) := Option.some.inj ei0
  obtain ⟨i1, ei1⟩ := is_v g4
  obtain rfl : w1 = (.int i1) := Option.some.inj ei1
  obtain ⟨na1, na2⟩ := and_e hn
  obtain ⟨na3, na4⟩ := and_e na2
  obtain ⟨na5, na6⟩ := and_e na4
  obtain ⟨na7, na8⟩ := and_e na6
  obtain ⟨na9, na10⟩ := and_e na8
  obtain ⟨na11, na12⟩ := and_e na10
  obtain ⟨na13, na14⟩ := and_e na12
  obtain ⟨na15, na16⟩ := and_e na14
  obtain ⟨na17, na18⟩ := and_e na16
  obtain ⟨na19, na20⟩ := and_e na18
  obtain ⟨na21, na22⟩ := and_e na20
  obtain ⟨w_EQUAL, ev_EQUAL⟩ := exa_v na1
  have E_EQUAL := Exa.start ev_EQUAL na1
  have S_EQUAL := Sta.start ev_EQUAL (Or.inr ⟨(hw _ (List.mem_of_getElem? (i := 2) rfl)), (hw _ (List.mem_of_getElem? (i := 3) rfl))⟩)
  obtain ⟨w_LESS, ev_LESS⟩ := exa_v na5
  have E_LESS := Exa.start ev_LESS na5
  have S_LESS := Sta.start ev_LESS (Or.inr ⟨(hw _ (List.mem_of_getElem? (i := 2) rfl)), (hw _ (List.mem_of_getElem? (i := 19) rfl))⟩)
  obtain ⟨w_GREATER, ev_GREATER⟩ := exa_v na9
  have E_GREATER := Exa.start ev_GREATER na9
  have S_GREATER := Sta.start ev_GREATER (Or.inr ⟨(hw _ (List.mem_of_getElem? (i := 2) rfl)), (hw _ (List.mem_of_getElem? (i := 21) rfl))⟩)
  obtain ⟨w_NOT_EQUAL, ev_NOT_EQUAL⟩ := exa_v na13
  have E_NOT_EQUAL := Exa.start ev_NOT_EQUAL na13
  have S_NOT_EQUAL := Sta.start ev_NOT_EQUAL (Or.inr ⟨(hw _ (List.mem_of_getElem? (i := 2) rfl)), (hw _ (List.mem_of_getElem? (i := 23) rfl))⟩)
  obtain ⟨w_GREATER_OR_EQUAL, ev_GREATER_OR_EQUAL⟩ := exa_v na17
  have E_GREATER_OR_EQUAL := Exa.start ev_GREATER_OR_EQUAL na17
  have S_GREATER_OR_EQUAL := Sta.start ev_GREATER_OR_EQUAL (Or.inr ⟨(hw _ (List.mem_of_getElem? (i := 2) rfl)), (hw _ (List.mem_of_getElem? (i := 25) rfl))⟩)
  obtain ⟨w_LESS_OR_EQUAL, ev_LESS_OR_EQUAL⟩ := exa_v na21
  have E_LESS_OR_EQUAL := Exa.start ev_LESS_OR_EQUAL na21
  have S_LESS_OR_EQUAL := Sta.start ev_LESS_OR_EQUAL (Or.inr ⟨(hw _ (List.mem_of_getElem? (i := 2) rfl)), (hw _ (List.mem_of_getElem? (i := 27) rfl))⟩)
  have F_EQUAL := own_fldI ev_EQUAL na3
  have F_LESS := own_fldI ev_LESS na7
  have F_GREATER := own_fldI ev_GREATER na11
  have F_NOT_EQUAL := own_fldI ev_NOT_EQUAL na15
  have F_GREATER_OR_EQUAL := own_fldI ev_GREATER_OR_EQUAL na19
  have F_LESS_OR_EQUAL := own_fldI ev_LESS_OR_EQUAL na22
  obtain ⟨n, o, h1, h2, h3, _, L, rfl, ⟨rfl, N⟩, hq⟩ := rm0 l s _ hw tables_1 i0 i1 w_EQUAL w_NOT_EQUAL w_LESS w_LESS_OR_EQUAL w_GREATER w_GREATER_OR_EQUAL s.heap s.heap.size (Nat.le_refl _) S_EQUAL S_NOT_EQUAL S_LESS S_LESS_OR_EQUAL S_GREATER S_GREATER_OR_EQUAL E_EQUAL E_NOT_EQUAL E_LESS E_LESS_OR_EQUAL E_GREATER E_GREATER_OR_EQUAL F_EQUAL F_NOT_EQUAL F_LESS F_LESS_OR_EQUAL F_GREATER F_GREATER_OR_EQUAL p e ha hc hk s m _ below hf ((Spec.applies_iff_loose hf).mp happ).1 ⟨rfl, State.Warmed39.refl s, rfl⟩ trivial
  exact ⟨n, _, h1, h2, h3, hpost _ _ _ _ _ _ ⟨Cond.after_iff.mpr rfl, Cond.after_iff.mpr (eq_i res_at (Term.int_eval (1)) rfl), trivial⟩ ⟨hq.1, hq.2.1, (hq.2.2.sift fun y hy => Or.inr (N y hy)).mono (by decide) (by decide)⟩⟩
theorem main_1_1 : Claimed_1_1 := comes_1 fun _ _ _ _ _ _ h hF => ⟨h.1, hF⟩
theorem main_1_2 : Claimed_1_2 := comes_1 fun _ _ _ _ _ _ h hF => ⟨h.2.1, hF⟩
end Jvm.Pilot.@@N@@
namespace Jvm.Pilot.@@N@@
open Jvm Jvm.ClassFile Sem Op Lib Jvm.Free Jvm.Stand Jvm.Pilot.@@N@@.Jvm.D
/-! MADE BY PROGRAM (witnessworld.py) out of the Statement's table words and the real class files: 12 classes; the members and pool entries that the words name. The judged class is class 1, her method 1. -/
namespace start1
open Jvm.ClassFile
def u (s : String) : CpInfo := .utf8 (stringToUtf16 s)
/-- a pool by its gaps: so many unusable entries, then the entry; so many at the end -/
def gap : Nat → List CpInfo → List CpInfo
  | 0, r => r
  | n + 1, r => .unusable :: gap n r
def poolList (es : List (Nat × CpInfo)) (last : Nat) : List CpInfo := es.foldr (fun e r => gap e.1 (e.2 :: r)) (gap last [])
def pool (es : List (Nat × CpInfo)) (last : Nat) : Array CpInfo := ⟨poolList es last⟩
def fileOf (pool : Array CpInfo) (this : Nat) (attrs : Array Attribute := #[]) (ms : Array MethodInfo := #[]) (fl : Nat := 33) (sup : Nat := 0) (ifs : Array Nat := #[]) (fds : Array FieldInfo := #[]) : ClassFile where
  minorVersion := 0
  majorVersion := 65
  constantPool := pool
  accessFlags := fl
  thisClass := this
  superClass := sup
  interfaces := ifs
  fields := fds
  methods := ms
  attributes := attrs
def plain (name : String) (sup : Option ClassId) : Class where
  name := name
  kind := .ordinary
  loader := none
  accessFlags := 33
  super := sup
  interfaces := #[]
  cf := none
  fields := #[]
  methods := #[]
  instanceTypes := #[]
  staticTypes := #[]
  resolved := #[]
  callSites := []
  init := .initialized
  statics := none
  mirror := none

def pool0 : Array CpInfo := pool [(5, u "<init>"), (0, u "()V"), (1, .class_ 10), (1, u "java/lang/Object")] 113

def k0m0 : Method := { name := "<init>", desc := "()V", sig := { parameters := [], returnType := none }, accessFlags := 1, code := none }
/-- java/lang/Object -/
def k0 : Class := { plain "java/lang/Object" none with
  accessFlags := 33
  interfaces := #[]
  cf := some (fileOf pool0 8 #[] #[{ accessFlags := 1, nameIndex := 5, descriptorIndex := 6, attributes := #[] }] 33 0 #[] #[])
  fields := #[]
  methods := #[k0m0]
  instanceTypes := #[]
  staticTypes := #[]
  resolved := Array.replicate 124 none
  statics := none }

def pool1 : Array CpInfo := pool [(2, .class_ 4), (1, u "java/lang/Object"), (0, u "<init>"), (0, u "()V"), (0, .integer 2147483647), (0, .fieldref 9 10), (0, .class_ 11), (0, .nameAndType 12 13), (0, u "com/example/sure_paths/surepaths/model/PropertyCondition$Operator"), (0, u "EQUAL"), (0, u "Lcom/example/sure_paths/surepaths/model/PropertyCondition$Operator;"), (0, .fieldref 9 15), (0, .nameAndType 16 13), (0, u "NOT_EQUAL"), (0, .fieldref 9 18), (0, .nameAndType 19 13), (0, u "LESS"), (0, .fieldref 9 21), (0, .nameAndType 22 13), (0, u "LESS_OR_EQUAL"), (0, .fieldref 9 24), (0, .nameAndType 25 13), (0, u "GREATER"), (0, .fieldref 9 27), (0, .nameAndType 28 13), (0, u "GREATER_OR_EQUAL"), (0, .methodref 9 30), (0, .nameAndType 31 32), (0, u "holds"), (0, u "(I)Z"), (0, .class_ 34), (0, u "com/example/sure_paths/surepaths/model/OperatorHoldsPinLaw"), (2, u "law"), (0, u "(II)Z")] 7

def k1m0 : Method := { name := "<init>", desc := "()V", sig := { parameters := [], returnType := none }, accessFlags := 1, code := none }
def k1c1 : Code := { maxStack := 2, maxLocals := 7, code := code, exceptionTable := #[], attributes := #[] }
def k1m1 : Method := { name := "law", desc := "(II)Z", sig := { parameters := [.int, .int], returnType := some .boolean }, accessFlags := 9, code := some k1c1 }
/-- com/example/sure_paths/surepaths/model/OperatorHoldsPinLaw -/
def k1 : Class := { plain "com/example/sure_paths/surepaths/model/OperatorHoldsPinLaw" (some 0) with
  accessFlags := 49
  interfaces := #[]
  cf := some (fileOf pool1 33 #[] #[{ accessFlags := 1, nameIndex := 5, descriptorIndex := 6, attributes := #[] }, { accessFlags := 9, nameIndex := 37, descriptorIndex := 38, attributes := #[] }] 49 2 #[] #[])
  fields := #[]
  methods := #[k1m0, k1m1]
  instanceTypes := #[]
  staticTypes := #[]
  resolved := Array.replicate 46 none
  statics := none }

def pool2 : Array CpInfo := pool [(1, .class_ 2), (0, u "java/lang/constant/Constable"), (0, .class_ 4), (0, u "java/lang/Object")] 6

/-- java/lang/constant/Constable -/
def k2 : Class := { plain "java/lang/constant/Constable" (some 0) with
  accessFlags := 1537
  interfaces := #[]
  cf := some (fileOf pool2 1 #[] #[] 1537 3 #[] #[])
  fields := #[]
  methods := #[]
  instanceTypes := #[]
  staticTypes := #[]
  resolved := Array.replicate 11 none
  statics := none }

def pool3 : Array CpInfo := pool [(1, .class_ 2), (0, u "java/lang/Comparable"), (0, .class_ 4), (0, u "java/lang/Object")] 7

/-- java/lang/Comparable -/
def k3 : Class := { plain "java/lang/Comparable" (some 0) with
  accessFlags := 1537
  interfaces := #[]
  cf := some (fileOf pool3 1 #[] #[] 1537 3 #[] #[])
  fields := #[]
  methods := #[]
  instanceTypes := #[]
  staticTypes := #[]
  resolved := Array.replicate 12 none
  statics := none }

def pool4 : Array CpInfo := pool [(1, .class_ 2), (0, u "java/io/Serializable"), (0, .class_ 4), (0, u "java/lang/Object")] 2

/-- java/io/Serializable -/
def k4 : Class := { plain "java/io/Serializable" (some 0) with
  accessFlags := 1537
  interfaces := #[]
  cf := some (fileOf pool4 1 #[] #[] 1537 3 #[] #[])
  fields := #[]
  methods := #[]
  instanceTypes := #[]
  staticTypes := #[]
  resolved := Array.replicate 7 none
  statics := none }

def pool5 : Array CpInfo := pool [(2, .class_ 4), (1, u "java/lang/Enum"), (0, u "name"), (0, u "Ljava/lang/String;"), (0, .fieldref 2 8), (0, .nameAndType 9 10), (0, u "ordinal"), (0, u "I"), (1, .class_ 14), (1, u "java/lang/Object"), (4, u "hash"), (86, .class_ 108), (1, u "java/lang/Enum$EnumDesc"), (2, .class_ 112), (0, u "java/lang/constant/Constable"), (0, .class_ 114), (0, u "java/lang/Comparable"), (0, .class_ 116), (0, u "java/io/Serializable"), (9, u "()I")] 77

def k5c0 : Code := { maxStack := 1, maxLocals := 1, code := jdk_37_method_2_code, exceptionTable := #[], attributes := #[] }
def k5m0 : Method := { name := "ordinal", desc := "()I", sig := { parameters := [], returnType := some .int }, accessFlags := 17, code := some k5c0 }
/-- java/lang/Enum -/
def k5 : Class := { plain "java/lang/Enum" (some 0) with
  accessFlags := 1057
  interfaces := #[2, 3, 4]
  cf := some (fileOf pool5 2 #[.nestMembers #[106]] #[{ accessFlags := 17, nameIndex := 9, descriptorIndex := 126, attributes := #[] }] 1057 12 #[111, 113, 115] #[{ accessFlags := 18, nameIndex := 5, descriptorIndex := 6, attributes := #[] }, { accessFlags := 18, nameIndex := 9, descriptorIndex := 10, attributes := #[] }, { accessFlags := 2, nameIndex := 19, descriptorIndex := 10, attributes := #[] }])
  fields := #[{ name := "name", type := (.object "java/lang/String"), accessFlags := 18, slot := 0, constantValue := 0 }, { name := "ordinal", type := .int, accessFlags := 18, slot := 1, constantValue := 0 }, { name := "hash", type := .int, accessFlags := 2, slot := 2, constantValue := 0 }]
  methods := #[k5m0]
  instanceTypes := #[(.object "java/lang/String"), .int, .int]
  staticTypes := #[]
  resolved := Array.replicate 204 none
  statics := none }

def pool6 : Array CpInfo := pool [(1, .class_ 2), (0, u "com/example/sure_paths/surepaths/model/PropertyCondition$Operator"), (2, u "EQUAL"), (0, u "Lcom/example/sure_paths/surepaths/model/PropertyCondition$Operator;"), (2, u "NOT_EQUAL"), (2, u "LESS"), (2, u "LESS_OR_EQUAL"), (2, u "GREATER"), (2, u "GREATER_OR_EQUAL"), (2, u "$VALUES"), (0, u "[Lcom/example/sure_paths/surepaths/model/PropertyCondition$Operator;"), (6, .class_ 34), (1, u "java/lang/Enum"), (8, u "symbol"), (0, u "Ljava/lang/String;"), (0, .methodref 1 46), (0, .nameAndType 47 48), (0, u "ordinal"), (0, u "()I"), (39, u "holds"), (0, u "(I)Z"), (7, .class_ 98), (0, u "com/example/sure_paths/surepaths/model/PropertyCondition")] 2

def k6c0 : Code := { maxStack := 4, maxLocals := 2, code := prog_59_method_5_code, exceptionTable := #[], attributes := #[] }
def k6m0 : Method := { name := "holds", desc := "(I)Z", sig := { parameters := [.int], returnType := some .boolean }, accessFlags := 1, code := some k6c0 }
/-- com/example/sure_paths/surepaths/model/PropertyCondition$Operator -/
def k6 : Class := { plain "com/example/sure_paths/surepaths/model/PropertyCondition$Operator" (some 5) with
  accessFlags := 16433
  interfaces := #[]
  cf := some (fileOf pool6 1 #[.nestHost 97] #[{ accessFlags := 1, nameIndex := 88, descriptorIndex := 89, attributes := #[] }] 16433 32 #[] #[{ accessFlags := 16409, nameIndex := 5, descriptorIndex := 6, attributes := #[] }, { accessFlags := 16409, nameIndex := 9, descriptorIndex := 6, attributes := #[] }, { accessFlags := 16409, nameIndex := 12, descriptorIndex := 6, attributes := #[] }, { accessFlags := 16409, nameIndex := 15, descriptorIndex := 6, attributes := #[] }, { accessFlags := 16409, nameIndex := 18, descriptorIndex := 6, attributes := #[] }, { accessFlags := 16409, nameIndex := 21, descriptorIndex := 6, attributes := #[] }, { accessFlags := 18, nameIndex := 43, descriptorIndex := 44, attributes := #[] }, { accessFlags := 4122, nameIndex := 24, descriptorIndex := 25, attributes := #[] }])
  fields := #[{ name := "EQUAL", type := (.object "com/example/sure_paths/surepaths/model/PropertyCondition$Operator"), accessFlags := 16409, slot := 0, constantValue := 0 }, { name := "NOT_EQUAL", type := (.object "com/example/sure_paths/surepaths/model/PropertyCondition$Operator"), accessFlags := 16409, slot := 1, constantValue := 0 }, { name := "LESS", type := (.object "com/example/sure_paths/surepaths/model/PropertyCondition$Operator"), accessFlags := 16409, slot := 2, constantValue := 0 }, { name := "LESS_OR_EQUAL", type := (.object "com/example/sure_paths/surepaths/model/PropertyCondition$Operator"), accessFlags := 16409, slot := 3, constantValue := 0 }, { name := "GREATER", type := (.object "com/example/sure_paths/surepaths/model/PropertyCondition$Operator"), accessFlags := 16409, slot := 4, constantValue := 0 }, { name := "GREATER_OR_EQUAL", type := (.object "com/example/sure_paths/surepaths/model/PropertyCondition$Operator"), accessFlags := 16409, slot := 5, constantValue := 0 }, { name := "symbol", type := (.object "java/lang/String"), accessFlags := 18, slot := 3, constantValue := 0 }, { name := "$VALUES", type := (.array (.object "com/example/sure_paths/surepaths/model/PropertyCondition$Operator")), accessFlags := 4122, slot := 6, constantValue := 0 }]
  methods := #[k6m0]
  instanceTypes := #[(.object "java/lang/String"), .int, .int, (.object "java/lang/String")]
  staticTypes := #[(.object "com/example/sure_paths/surepaths/model/PropertyCondition$Operator"), (.object "com/example/sure_paths/surepaths/model/PropertyCondition$Operator"), (.object "com/example/sure_paths/surepaths/model/PropertyCondition$Operator"), (.object "com/example/sure_paths/surepaths/model/PropertyCondition$Operator"), (.object "com/example/sure_paths/surepaths/model/PropertyCondition$Operator"), (.object "com/example/sure_paths/surepaths/model/PropertyCondition$Operator"), (.array (.object "com/example/sure_paths/surepaths/model/PropertyCondition$Operator"))]
  resolved := Array.replicate 101 none
  statics := some 0 }

def pool7 : Array CpInfo := pool [(1, u "java/lang/Cloneable"), (0, .class_ 1), (0, u "java/lang/Object"), (0, .class_ 3)] 3

/-- java/lang/Cloneable -/
def k7 : Class := { plain "java/lang/Cloneable" (some 0) with
  accessFlags := 1537
  interfaces := #[]
  cf := some (fileOf pool7 2 #[] #[] 1537 4 #[] #[])
  fields := #[]
  methods := #[]
  instanceTypes := #[]
  staticTypes := #[]
  resolved := Array.replicate 8 none
  statics := none }

/-- the primitive byte -/
def k8 : Class := { plain "byte" none with kind := .primitive 'B', accessFlags := 0x411 }
/-- [B -/
def k9 : Class := { plain "[B" (some 0) with kind := .array 8 .byte, interfaces := #[7, 4], accessFlags := 1041 }

/-- the primitive int -/
def k10 : Class := { plain "int" none with kind := .primitive 'I', accessFlags := 0x411 }
/-- [I -/
def k11 : Class := { plain "[I" (some 0) with kind := .array 10 .int, interfaces := #[7, 4], accessFlags := 1041 }

def heap : Heap := #[{ cls := 6, slots := #[.ref 1, .ref 2, .ref 3, .ref 4, .ref 5, .ref 6, .null], vm := .statics 6 },
  { cls := 6, slots := #[.null, .int 0, .int 0, .null], vm := .none },
  { cls := 6, slots := #[.null, .int 1, .int 0, .null], vm := .none },
  { cls := 6, slots := #[.null, .int 2, .int 0, .null], vm := .none },
  { cls := 6, slots := #[.null, .int 3, .int 0, .null], vm := .none },
  { cls := 6, slots := #[.null, .int 4, .int 0, .null], vm := .none },
  { cls := 6, slots := #[.null, .int 5, .int 0, .null], vm := .none }]
def classes : Array Class := #[k0, k1, k2, k3, k4, k5, k6, k7, k8, k9, k10, k11]
def interned : List (Array UInt16 × Addr) := []
def slotsUsed : Nat := 31
def theMethod : MethodId := ⟨1, 1⟩
def args0 : Array Value := #[.int 5, .int 3]
def aboutOver (below : List Frame) : State where
  vm := { classes := classes, interned := interned.toArray }
  heap := heap
  slotsUsed := slotsUsed
  threads := #[{ frames := .invoking theMethod args0 :: below }]
def below0 : List Frame := [.native { method := ⟨0, 0⟩, args := #[] }]
def about1 : State := aboutOver below0
def p0 : Program := .bare "" "" ""
def e0 : Env := launch0.env 0 0 0
theorem w_frames : about1.frames = Frame.invoking theMethod args0 :: below0 := rfl
set_option maxRecDepth 65536 in
theorem w_args : argsFit about1.vm theMethod args0 = true := by decide +kernel
set_option maxRecDepth 65536 in
theorem w_heap : heapFits about1 = true := by decide +kernel
set_option maxRecDepth 65536 in
theorem w_runnable : about1.curStatus? = some .runnable := by decide +kernel
set_option maxRecDepth 65536 in
theorem w_alone : about1.alone = true := by decide +kernel
set_option maxRecDepth 65536 in
theorem w_named : about1.methodNamed? x = some theMethod := by decide +kernel
set_option maxRecDepth 65536 in
theorem w_hears : about1.hears theMethod below0 = true := by decide +kernel
set_option maxRecDepth 65536 in
theorem w_ripe : about1.ripe theMethod args0 below0 = true := by decide +kernel
theorem w_running : about1.status = .running := rfl
set_option maxRecDepth 65536 in
theorem w_room : about1.hasRoom e0.platform room_1 = true :=
  launch0.hasRoom_least _ room_1 (by decide +kernel) (by decide +kernel) (by decide +kernel) (by decide +kernel) (by decide +kernel) (by decide +kernel)
theorem allAtoms_all (ts : List Jvm.Cond) (a : Array Jvm.Value) (st : Jvm.State) : (allAtoms ts).before a st = ts.all (fun c => c.before a st) := by
  induction ts with
  | nil => rfl
  | cons c t ih =>
    show (Jvm.Cond.and c (allAtoms t)).before a st = _
    rw [Jvm.Cond.before_and, ih, List.all_cons]
def words1 : List Jvm.Cond := Jvm.Cond.code x code maxLocals ret :: tables_1
/-- a 'code' word, met by the world's own term for the bytes: nothing is compared byte by byte -/
theorem code_word {y : MethodName} {bytes : ByteArray} {mx : Nat} {rt : Option FieldType} {a : Array Value} {s : State} {m : MethodId} {meth : Method} {c : Code} (h1 : s.methodNamed? y = some m) (h2 : s.vm.method? m = some meth) (h3 : meth.code = some c) (h4 : c.code = bytes)
    (h5 : (c.maxLocals == mx && c.exceptionTable.isEmpty && decide (c.maxStack ≤ mostOperands) && decide (meth.sig.returnType = rt) && !meth.locks && decide (parseMethodDescriptor y.desc = some meth.sig)) = true) : (Jvm.Cond.code y bytes mx rt).before a s = true := by
  simp only [Bool.and_eq_true, beq_iff_eq, Bool.not_eq_true', decide_eq_true_eq] at h5
  obtain ⟨⟨⟨⟨⟨g1, g2⟩, g3⟩, g4⟩, g5⟩, g6⟩ := h5
  simp [Cond.before, Cond.holds, Cond.value, h1, h2, h3, h4, g1, g2, g3, g4, g5, g6]
def isCode : Jvm.Cond → Bool
  | .code _ _ _ _ => true
  | _ => false
theorem all_split {L : List Jvm.Cond} {P : Jvm.Cond → Bool} (h1 : L.all (fun c => isCode c || P c) = true) (h2 : ∀ c ∈ L.filter isCode, P c = true) : L.all P = true := by
  refine List.all_eq_true.mpr fun c hc => ?_
  have h := List.all_eq_true.mp h1 c hc
  rcases Bool.eq_false_or_eq_true (isCode c) with hi | hi
  · exact h2 c (List.mem_filter.mpr ⟨hc, hi⟩)
  · simpa [hi] using h
set_option maxRecDepth 65536 in
theorem w_c0 : (Jvm.Cond.code x code maxLocals ret).before args0 about1 = true := code_word (m := ⟨1, 1⟩) (meth := k1m1) (c := k1c1) (by decide +kernel) rfl rfl rfl (by decide +kernel)
set_option maxRecDepth 65536 in
theorem w_c1 : (Jvm.Cond.code ({ cls := "com/example/sure_paths/surepaths/model/PropertyCondition$Operator", name := "holds", desc := "(I)Z" } : Jvm.MethodName) prog_59_method_5_code (2 : Nat) (Option.some Jvm.ClassFile.FieldType.boolean)).before args0 about1 = true := code_word (m := ⟨6, 0⟩) (meth := k6m0) (c := k6c0) (by decide +kernel) rfl rfl rfl (by decide +kernel)
set_option maxRecDepth 65536 in
theorem w_c2 : (Jvm.Cond.code ({ cls := "java/lang/Enum", name := "ordinal", desc := "()I" } : Jvm.MethodName) jdk_37_method_2_code (1 : Nat) (Option.some Jvm.ClassFile.FieldType.int)).before args0 about1 = true := code_word (m := ⟨5, 0⟩) (meth := k5m0) (c := k5c0) (by decide +kernel) rfl rfl rfl (by decide +kernel)
def codes1 : List Jvm.Cond := [Jvm.Cond.code x code maxLocals ret, Jvm.Cond.code ({ cls := "com/example/sure_paths/surepaths/model/PropertyCondition$Operator", name := "holds", desc := "(I)Z" } : Jvm.MethodName) prog_59_method_5_code (2 : Nat) (Option.some Jvm.ClassFile.FieldType.boolean), Jvm.Cond.code ({ cls := "java/lang/Enum", name := "ordinal", desc := "()I" } : Jvm.MethodName) jdk_37_method_2_code (1 : Nat) (Option.some Jvm.ClassFile.FieldType.int)]
set_option maxRecDepth 65536 in
theorem codes_eq : words1.filter isCode = codes1 := rfl
theorem w_codes : ∀ c ∈ words1.filter isCode, c.before args0 about1 = true := by
  rw [codes_eq]
  intro c hc
  simp only [codes1, List.mem_cons, List.not_mem_nil, or_false] at hc
  rcases hc with rfl | rfl | rfl
  · exact w_c0
  · exact w_c1
  · exact w_c2
set_option maxRecDepth 65536 in
theorem w_t1 : (words1.take 24).all (fun c => isCode c || c.before args0 about1) = true := by decide +kernel
set_option maxRecDepth 65536 in
theorem w_t2 : (words1.drop 24).all (fun c => isCode c || c.before args0 about1) = true := by decide +kernel
theorem w_tables : (allAtoms (Jvm.Cond.code x code maxLocals ret :: tables_1)).before args0 about1 = true := by
  rw [allAtoms_all]
  show words1.all (fun c => c.before args0 about1) = true
  refine all_split ?_ w_codes
  rw [← List.take_append_drop 24 words1, List.all_append, w_t1, w_t2]
  rfl
set_option maxRecDepth 65536 in
theorem w_case : (Jvm.Cond.and given_1 narrow_1).before args0 about1 = true := by decide +kernel
theorem w_applies : (headSpec (Jvm.Cond.code x code maxLocals ret :: tables_1) room_1).applies x e0.platform about1 = true :=
  (Spec.applies_iff w_frames).mpr ⟨w_running, w_runnable, w_alone, w_named, w_hears, w_ripe, w_room, w_tables⟩
theorem atStart : AtStart classFile x code maxLocals ret World_1 tables_1 room_1 Calls_1 rest_1 Pre_1 launch0 p0 e0 about1 theMethod args0 below0 :=
  ⟨lists_1, trivial, launch0.admits_env _ _ _, launch0.least_env, fairChoices_fair.cas, fairChoices_fair.clock, w_frames, w_args, w_heap, w_applies, trivial, trivial, w_case⟩
end start1
theorem witness_1 : WitnessClaimed_1 := ⟨start1.p0, start1.e0, start1.about1, start1.theMethod, start1.args0, start1.below0, start1.atStart⟩
end Jvm.Pilot.@@N@@
