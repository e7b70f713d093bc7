import JvmDerived
import JvmDerived.Pilot.@@N@@Statement
import JvmDerived.Pilot.@@N@@Code
set_option linter.unusedVariables false
set_option linter.unusedSimpArgs false
namespace Jvm.Pilot.@@N@@
open Jvm Jvm.ClassFile Sem Op Lib Jvm.Free Jvm.Stand Jvm.LawKit Jvm.RoadKit Bundle Jvm.Pilot.@@N@@.Jvm.D
/-! own: the walk by continuation -/
def Go (p : Program) (e : Env) (below : List Frame) (A : State) (G : Outcome → State → Prop) : Prop :=
  ∃ s₂ o, Steps p.tables e below A s₂ ∧ s₂.status = .running ∧ Ended s₂ below o ∧ G o s₂
section Own
variable {p : Program} {l : Launch} {e : Env} {R : Room} {s : State} {m : MethodId} {args : Array Value} {below : List Frame} {meth : Method} {c : Code} {T : State} {locs : List Loc} {cells slots : Nat} {G : Outcome → State → Prop} {A B : State}
theorem go_of (h : ∀ t, Steps p.tables e below B t → Steps p.tables e below A t) (k : Go p e below B G) : Go p e below A G := by
  obtain ⟨s₂, o, h1, h2⟩ := k; exact ⟨s₂, o, h _ h1, h2⟩
theorem go_tr (h : Steps p.tables e below A B) (k : Go p e below B G) : Go p e below A G := go_of (fun _ q => h.trans q) k
theorem go_end (X : Stand p l e R s m args below meth c T locs cells slots) {v : Option Value} (hv : meth.sig.returnType = none → v = none) (hlocks : meth.locks = false) {C S : Nat} (hc : cells ≤ C) (hs : slots ≤ S)
    {Q : Option Value → Heap → List Loc → Prop} (hQ : Q v T.heap locs) {f : JFrame}
    (st : ∀ fs, (∀ (f : JFrame) (acts : List Action), f.method = m → f.locked = none → f.entered = [] → (doReturn e (T.setTop f) acts v).1 = T.setFrames fs) → Steps p.tables e below (T.setTop f) (T.setFrames fs)) :
    Go p e below (T.setTop f) (fun o U' => ∃ v L, o = .returned v ∧ Q v U'.heap L ∧ FrameEnd s o U' L C S) := by
  obtain ⟨fs, hr, hrun, hended, hW, hsame⟩ := X.leave (v := v) hv hlocks
  exact ⟨_, _, st fs hr, hrun, hended, _, _, rfl, hQ, ⟨_, rfl⟩, hW, hsame.mono hc hs⟩
theorem go_endW {vm : Vm} (X : Stand p l e R (s.setVm vm) m args below meth c T locs cells slots) {k : Nat} (hS : s.Since vm k) (hk : k ≤ T.heap.size) {v : Option Value} (hv : meth.sig.returnType = none → v = none) (hlocks : meth.locks = false) {C S : Nat} (hc : cells ≤ C) (hs : slots ≤ S)
    {Q : Option Value → Heap → List Loc → Prop} (hQ : Q v T.heap locs) {f : JFrame}
    (st : ∀ fs, (∀ (f : JFrame) (acts : List Action), f.method = m → f.locked = none → f.entered = [] → (doReturn e (T.setTop f) acts v).1 = T.setFrames fs) → Steps p.tables e below (T.setTop f) (T.setFrames fs)) :
    Go p e below (T.setTop f) (fun o U' => ∃ v L, o = .returned v ∧ Q v U'.heap L ∧ ReturnedEndW s o U' L C S) := by
  obtain ⟨fs, hr, hrun, hended, e1, e2, e3, e4⟩ := X.leaveW hS hk (v := v) hv hlocks
  exact ⟨_, _, st fs hr, hrun, hended, _, _, rfl, hQ, e1, e2, e3, e4.mono hc hs⟩
theorem own_retI (X : Stand p l e R s m args below meth c T locs cells slots) (hx : p.tables.exec = Jvm.exec) {pc : Nat} {Ls : Array Slot} {z : Int32} {rest : List Value} (hret : meth.sig.returnType = some .int) (hd : decode c.code pc = .ok (.ireturn, 1)) {fs : List Frame}
    (hl : ∀ (f : JFrame) (acts : List Action), f.method = m → f.locked = none → f.entered = [] → (doReturn e (T.setTop f) acts (some (.int z))).1 = T.setFrames fs) : Steps p.tables e below (T.setTop (mkF m pc Ls (.int z :: rest))) (T.setFrames fs) :=
  retOut X hx hret rfl (Or.inl ⟨rfl, Or.inl rfl, _, rfl⟩) hd hl
theorem own_retL (X : Stand p l e R s m args below meth c T locs cells slots) (hx : p.tables.exec = Jvm.exec) {pc : Nat} {Ls : Array Slot} {z : Int64} {rest : List Value} (hret : meth.sig.returnType = some .long) (hd : decode c.code pc = .ok (.lreturn, 1)) {fs : List Frame}
    (hl : ∀ (f : JFrame) (acts : List Action), f.method = m → f.locked = none → f.entered = [] → (doReturn e (T.setTop f) acts (some (.long z))).1 = T.setFrames fs) : Steps p.tables e below (T.setTop (mkF m pc Ls (.long z :: rest))) (T.setFrames fs) :=
  retOut X hx hret rfl (Or.inr (Or.inl ⟨rfl, rfl, _, rfl⟩)) hd hl
theorem own_retA (X : Stand p l e R s m args below meth c T locs cells slots) (hx : p.tables.exec = Jvm.exec) {pc : Nat} {Ls : Array Slot} {w : Value} {t : FieldType} {rest : List Value} (hret : meth.sig.returnType = some t) (ht : t.isReference = true) (hw : w.isRef = true) (hd : decode c.code pc = .ok (.areturn, 1)) {fs : List Frame}
    (hl : ∀ (f : JFrame) (acts : List Action), f.method = m → f.locked = none → f.entered = [] → (doReturn e (T.setTop f) acts (some w)).1 = T.setFrames fs) : Steps p.tables e below (T.setTop (mkF m pc Ls (w :: rest))) (T.setFrames fs) :=
  retOut X hx hret (by cases t <;> first | rfl | (cases ht; done)) (Or.inr (Or.inr (Or.inr (Or.inr ⟨rfl, ht, hw⟩)))) hd hl
theorem own_fldI {t : Term} {C n d : String} {k : Int32} {a : Addr} (ev : t.eval args s none [] s = some (.ref a)) (h : (Jvm.Cond.eq (.field t C n d) (.int k)).value args s none s [] = some true) : Fld s s.heap a C n d (.int k) := by
  obtain ⟨x, y, h1, h2, -, kyx⟩ := cmp_v (Or.inl h)
  have e2 : y = .int k := (Option.some.inj (h2.symm.trans (Term.int_eval k)))
  subst e2
  obtain ⟨z, rfl⟩ := kyx
  have hz : z = k := by simpa [Cond.value, h1, Term.int_eval] using h
  subst hz
  rw [fld_at ev] at h1
  exact Fld.start h1
theorem own_ne {a b : Addr} (h : @Ne Nat a b) : a ≠ b := h
theorem own_le {a b : Nat} (h : @LE.le Nat instLENat a b) : @LE.le Nat instLENat a b := h
theorem own_nlt {a : Addr} {n : Nat} (h : a < n) : @LT.lt Nat instLTNat a n := h
theorem own_nle {a : Nat} {b : Addr} (h : a ≤ b) : @LE.le Nat instLENat a b := h
theorem own_inskeep {Z : State} {h h' : Heap} {a : Addr} {C : String} {ws : List Addr} (F : Ins Z h a C true) (K : Keep h h' ws) : Ins Z h' a C true := by
  obtain ⟨cell, cT, h1, h2, h3⟩ := F; obtain ⟨c', q, r1, r2, -⟩ := K.2.2 a cell h1; exact ⟨c', cT, q, h2, by rw [r1, r2]; exact h3⟩
theorem own_inslt {Z : State} {h : Heap} {a : Addr} {C : String} {b : Bool} (F : Ins Z h a C b) : a < h.size := by obtain ⟨_, _, h1, -⟩ := F; exact (Array.getElem?_eq_some_iff.mp h1).1
theorem own_kx {h h' : Heap} (K : Keep h h' []) : Ext h h' := ⟨K.1, fun a c q => K.2.1 a c q nin0⟩
theorem own_cache {t : Term} {C : String} {q : Jvm.Cond} {cl : Cell} {a : Addr} {ty : FieldType} (ev : ∀ idx, t.eval args s none idx s = some (.ref a)) (Ar : Arr s s.heap a cl ty)
    (h : (Jvm.Cond.all t (.and (.exactly (.elem t (.index 0)) C) q)).value args s none s [] = some true) (hz : cl.slots.size = 256) : ∀ i, i < 256 → ∃ w, cl.slots[i]? = some (.ref w) ∧ Exa s s.heap w C := fun i hi => by
  have hat : s.arrayAt? a = some cl := Arr.fin (Vm.Alike.refl _) Ar
  have hv := Cond.all_elim (ev []) hat h i (by rw [hz]; exact hi)
  obtain ⟨h1, -⟩ := and_e hv
  obtain ⟨w, ew⟩ := exa_v h1
  have ex := exa_at ew h1
  obtain ⟨p1, p2⟩ := IntBox.place_nonneg i hi
  rw [elem_f (ev [i]) (j := i.toInt32) rfl hat p1, p2] at ew
  exact ⟨w, ew, ex⟩
theorem own_stev {C n d : String} {v : Value} (h : (Term.static C n d).eval args s none [] s = some v) (idx : List Nat) : (Term.static C n d).eval args s none idx s = some v := h
theorem own_len {t : Term} {a : Addr} {cl : Cell} {ty : FieldType} {k : Int32} (ev : t.eval args s none [] s = some (.ref a)) (Ar : Arr s s.heap a cl ty) (h : (Jvm.Cond.eq (.length t) (.int k)).value args s none s [] = some true) (hk : ¬ k < 0) : cl.slots.size = k.toNatClampNeg := by
  have hat : s.arrayAt? a = some cl := Arr.fin (Vm.Alike.refl _) Ar
  obtain ⟨x, y, h1, h2, -, kyx⟩ := cmp_v (Or.inl h)
  have e2 : y = .int k := (Option.some.inj (h2.symm.trans (Term.int_eval k)))
  subst e2
  obtain ⟨z, rfl⟩ := kyx
  have hz : z = k := by simpa [Cond.value, h1, Term.int_eval] using h
  subst hz
  have hl : cl.slots.size < 2 ^ 31 := by
    by_cases q : cl.slots.size < 2 ^ 31
    · exact q
    · simp [Term.eval, ev, hat, q] at h1
  rw [len_f ev hat hl] at h1
  have h3 : cl.slots.size.toInt32 = z := by simpa using h1
  rw [← h3]
  have h4 := len_toInt hl
  simp only [Int32.toNatClampNeg, h4]; rfl
end Own
theorem d3_0 : decode jdk_37_method_2_code 0 = .ok (.aload_n 0, 1) := by decide +kernel
theorem d3_1 : decode jdk_37_method_2_code 1 = .ok (.getfield 7, 3) := by decide +kernel
theorem d3_4 : decode jdk_37_method_2_code 4 = .ok (.ireturn, 1) := by decide +kernel
def Q_rm3 (Z : State) (a : Addr) (o : Int32) (h0 : Heap) (n0 : Nat) (v : Option Value) (h : Heap) (L : List Loc) : Prop := v = some (.int o) ∧ Fr n0 L ∧ h = h0
theorem pn_java_lang_Enum : plainName "java/lang/Enum" = true := by first | (simp [plainName, overriddenIn]; done) | decide +kernel
theorem ef_rm3 (m : MethodId) (a : Addr)  : entryFrame m #[(.ref a)] 1 = mkF m 0 #[.val (.ref a)] [] := by first | (simp [entryFrame, mkF, argsToLocals, Value.category]; done) | rfl
set_option maxRecDepth 65536 in
set_option maxHeartbeats 40000000 in
theorem rm3 (l : Launch) (Z : State) (a0 : Array Value) (hw : ∀ d ∈ tables_1, d.before a0 Z = true) (ws : List Jvm.Cond) (a : Addr) (o : Int32) (h0 : Heap) (n0 : Nat) (Z0 : n0 ≤ h0.size) (F : Fld Z h0 a "java/lang/Enum" "ordinal" "I" (.int o)) :
    MetFree l (⟨"java/lang/Enum", "ordinal", "()I"⟩ : MethodName) (head1 (Jvm.Cond.code (⟨"java/lang/Enum", "ordinal", "()I"⟩ : MethodName) jdk_37_method_2_code 1 (some .int) :: ws) ({ frames := 0, cells := 0, slots := 0, locals := 0 } : Room)) (fun aa' U1' => aa' = #[(.ref a)] ∧ Z.Warmed39 U1'.vm ∧ U1'.heap = h0) (fun _ _ _ _ _ => True) (fun _ U1' oo' U2' => ∃ vv' LL', oo' = .returned vv' ∧ (Q_rm3 Z a o h0 n0) vv' U2'.heap LL' ∧ FrameEnd U1' oo' U2' LL' ({ frames := 0, cells := 0, slots := 0, locals := 0 } : Room).cells ({ frames := 0, cells := 0, slots := 0, locals := 0 } : Room).slots) := by
  refine MetFree.of_bodySF (plainFor_of_name pn_java_lang_Enum) hisR ?_
  intro p e s m args below meth c s₁ Bd hml0 hP hK
  obtain ⟨rfl, hZ, hh⟩ := hP
  have hx := Bd.exec
  have hby := Bd.bytes
  have hml : c.maxLocals = 1 := hml0
  have hown : s.vm.findClass "java/lang/Enum" = some m.cls := findClass_of_methodNamed Bd.named
  have hnm := (name_of_methodNamed Bd.named Bd.method).1
  have X0 : Stand p l e ({ frames := 0, cells := 0, slots := 0, locals := 0 } : Room) s m #[(.ref a)] below meth c s₁ [] 0 0 := Stand.of_body Bd
  have e0 : s₁.heap = h0 := by rw [← hh, Bd.state]; rfl
  have N0 := Fr.nil n0
  refine go_of (A := s₁.setTop (entryFrame m #[(.ref a)] 1)) (B := s₁.setTop (mkF m 0 #[.val (.ref a)] [])) (fun _ kk' => castTop (ef_rm3 m a) kk') ?_
  refine go_of (B := (s₁.setTop (mkF m 1 #[.val (.ref a)] [(.ref a)]))) (fun _ kk => XS.aloadN X0.here hx rfl (hb hby d3_0) rfl rfl kk) ?_
  obtain ⟨T1, X1, e1, st1⟩ := getF X0 hx hZ hown (host := "") (Or.inl (hw _ (List.mem_of_getElem? (i := 23) rfl))) Via.refl e0 F (g := (mkF m 1 #[.val (.ref a)] [(.ref a)])) rfl rfl (hb hby d3_1)
  refine go_of (B := (T1.setTop (mkF m 4 #[.val (.ref a)] [(.int o)]))) (st1) ?_
  refine go_end X1 (v := some (.int o)) (fun h => by rw [Bd.returns] at h; cases h) Bd.notSynchronized (by decide) (by decide) (Q := (Q_rm3 Z a o h0 n0)) ?_ (fun fs hr => own_retI X1 hx Bd.returns (hb hby d3_4) hr)
  show (fun (v : Option Value) (h : Heap) (L : List Loc) => v = some (.int o) ∧ Fr n0 L ∧ h = h0) (some (.int o)) T1.heap _
  rw [e1]
  exact ⟨rfl, N0, rfl⟩
theorem d2_0 : decode prog_23_method_4_code 0 = .ok (.iconst 1, 1) := by decide +kernel
theorem d2_1 : decode prog_23_method_4_code 1 = .ok (.aload_n 0, 1) := by decide +kernel
theorem d2_2 : decode prog_23_method_4_code 2 = .ok (.invokevirtual 36, 3) := by decide +kernel
theorem pd___I : parseMethodDescriptor "()I" = some ⟨[], some .int⟩ := by decide +kernel
theorem d2_5 : decode prog_23_method_4_code 5 = .ok (.ishl, 1) := by decide +kernel
theorem d2_6 : decode prog_23_method_4_code 6 = .ok (.ireturn, 1) := by decide +kernel
def Q_rm2 (Z : State) (a : Addr) (o : Int32) (h0 : Heap) (n0 : Nat) (v : Option Value) (h : Heap) (L : List Loc) : Prop := v = some (.int ((1 : Int32) <<< (o &&& 31))) ∧ Fr n0 L ∧ h = h0
theorem pn_com_example_libpubid_libpubid_resolution_SharedCacheCall : plainName "com/example/libpubid/libpubid/resolution/SharedCacheCall" = true := by first | (simp [plainName, overriddenIn]; done) | decide +kernel
theorem ef_rm2 (m : MethodId) (a : Addr)  : entryFrame m #[(.ref a)] 1 = mkF m 0 #[.val (.ref a)] [] := by first | (simp [entryFrame, mkF, argsToLocals, Value.category]; done) | rfl
set_option maxRecDepth 65536 in
set_option maxHeartbeats 40000000 in
theorem rm2 (l : Launch) (Z : State) (a0 : Array Value) (hw : ∀ d ∈ tables_1, d.before a0 Z = true) (ws : List Jvm.Cond) (a : Addr) (o : Int32) (h0 : Heap) (n0 : Nat) (Z0 : n0 ≤ h0.size) (F : Fld Z h0 a "java/lang/Enum" "ordinal" "I" (.int o)) (E : Exa Z h0 a "com/example/libpubid/libpubid/resolution/SharedCacheCall") :
    MetFree l (⟨"com/example/libpubid/libpubid/resolution/SharedCacheCall", "bit", "()I"⟩ : MethodName) (head1 (Jvm.Cond.code (⟨"com/example/libpubid/libpubid/resolution/SharedCacheCall", "bit", "()I"⟩ : MethodName) prog_23_method_4_code 1 (some .int) :: ws) ({ frames := 1, cells := 0, slots := 0, locals := 13 } : Room)) (fun aa' U1' => aa' = #[(.ref a)] ∧ Z.Warmed39 U1'.vm ∧ U1'.heap = h0) (fun _ _ _ _ _ => True) (fun _ U1' oo' U2' => ∃ vv' LL', oo' = .returned vv' ∧ (Q_rm2 Z a o h0 n0) vv' U2'.heap LL' ∧ FrameEnd U1' oo' U2' LL' ({ frames := 1, cells := 0, slots := 0, locals := 13 } : Room).cells ({ frames := 1, cells := 0, slots := 0, locals := 13 } : Room).slots) := by
  refine MetFree.of_bodySF (plainFor_of_name pn_com_example_libpubid_libpubid_resolution_SharedCacheCall) hisR ?_
  intro p e s m args below meth c s₁ Bd hml0 hP hK
  obtain ⟨rfl, hZ, hh⟩ := hP
  have hx := Bd.exec
  have hby := Bd.bytes
  have hml : c.maxLocals = 1 := hml0
  have hown : s.vm.findClass "com/example/libpubid/libpubid/resolution/SharedCacheCall" = some m.cls := findClass_of_methodNamed Bd.named
  have hnm := (name_of_methodNamed Bd.named Bd.method).1
  have X0 : Stand p l e ({ frames := 1, cells := 0, slots := 0, locals := 13 } : Room) s m #[(.ref a)] below meth c s₁ [] 0 0 := Stand.of_body Bd
  have e0 : s₁.heap = h0 := by rw [← hh, Bd.state]; rfl
  have N0 := Fr.nil n0
  refine go_of (A := s₁.setTop (entryFrame m #[(.ref a)] 1)) (B := s₁.setTop (mkF m 0 #[.val (.ref a)] [])) (fun _ kk' => castTop (ef_rm2 m a) kk') ?_
  refine go_of (B := (s₁.setTop (mkF m 1 #[.val (.ref a)] [(.int (1 : Int32))]))) (fun _ kk => XS.iconst X0.here hx rfl (hb hby d2_0) kk) ?_
  refine go_of (B := (s₁.setTop (mkF m 2 #[.val (.ref a)] [(.ref a), (.int (1 : Int32))]))) (fun _ kk => XS.aloadN X0.here hx rfl (hb hby d2_1) rfl rfl kk) ?_
  obtain ⟨cq1, kq1, q1a, q1b, q1c⟩ := isOf hZ e0 E
  obtain ⟨_, _, ⟨T1, L1, k1, n1⟩, -, X1, ⟨Lc1, hQ1, l1, y1, z1⟩, st1⟩ := X0.virtualBackUp hx (owner := "java/lang/Enum") (x := (⟨"com/example/libpubid/libpubid/resolution/SharedCacheCall", "ordinal", "()I"⟩ : MethodName)) (y := (⟨"java/lang/Enum", "ordinal", "()I"⟩ : MethodName)) hown (mvT hZ (hw _ (List.mem_of_getElem? (i := 16) rfl))) (mvT hZ (hw _ (List.mem_of_getElem? (i := 17) rfl))) (mvT hZ (hw _ (List.mem_of_getElem? (i := 18) rfl))) (by decide) (mvT hZ (hw _ (List.mem_of_getElem? (i := 20) rfl))) (mvT hZ (hw _ (List.mem_of_getElem? (i := 19) rfl))) (backOf (W := 1) (rm3 l Z a0 hw [] a o h0 n0 Z0 F) hZ (hw _ (List.mem_of_getElem? (i := 22) rfl)) (hw _ (List.mem_of_getElem? (i := 21) rfl)) (by decide) (by decide)) q1a q1c (g := (mkF m 2 #[.val (.ref a)] [(.ref a), (.int (1 : Int32))])) rfl (by rw [hml]; rfl) (Steps.refl _) (argsL := []) (rest := [(.int (1 : Int32))]) (lenOf pd___I rfl) rfl (by show 2 * 0 + _ ≤ _; exact Nat.le_of_eq rfl) (hb hby d2_2) (fun _ _ => ⟨rfl, e0, (by decide : 0 + 0 ≤ _), (by decide : 0 + 0 ≤ _)⟩)
  dsimp only [Pt.U, Pt.locs, Pt.cells, Pt.slots] at X1 l1 y1 z1 st1 hQ1
  subst l1 y1 z1
  obtain ⟨rfl, N1q, e1⟩ := hQ1
  have N1 := Fr.app N0 N1q
  refine go_tr (B := (T1.setTop (mkF m 5 #[.val (.ref a)] [(.int o), (.int (1 : Int32))]))) (st1) ?_
  refine go_of (B := (T1.setTop (mkF m 6 #[.val (.ref a)] [(.int ((1 : Int32) <<< (o &&& 31)))]))) (fun _ kk => XS.ishl X1.here hx rfl (hb hby d2_5) rfl kk) ?_
  refine go_end X1 (v := some (.int ((1 : Int32) <<< (o &&& 31)))) (fun h => by rw [Bd.returns] at h; cases h) Bd.notSynchronized (by decide) (by decide) (Q := (Q_rm2 Z a o h0 n0)) ?_ (fun fs hr => own_retI X1 hx Bd.returns (hb hby d2_6) hr)
  show (fun (v : Option Value) (h : Heap) (L : List Loc) => v = some (.int ((1 : Int32) <<< (o &&& 31))) ∧ Fr n0 L ∧ h = h0) (some (.int ((1 : Int32) <<< (o &&& 31)))) T1.heap _
  rw [e1]
  exact ⟨rfl, N1, rfl⟩
def own_bits (a w : Addr) (o ow oe : Int32) : Int32 := if a = w then ((1 : Int32) <<< (o &&& 31)) ||| ((1 : Int32) <<< (oe &&& 31)) else (1 : Int32) <<< (o &&& 31)
theorem d1_0 : decode prog_23_method_5_code 0 = .ok (.aload_n 0, 1) := by decide +kernel
theorem d1_1 : decode prog_23_method_5_code 1 = .ok (.getstatic 7, 3) := by decide +kernel
theorem d1_4 : decode prog_23_method_5_code 4 = .ok (.if_acmp .ne 17, 3) := by decide +kernel
theorem d1_7 : decode prog_23_method_5_code 7 = .ok (.aload_n 0, 1) := by decide +kernel
theorem d1_8 : decode prog_23_method_5_code 8 = .ok (.invokevirtual 40, 3) := by decide +kernel
theorem d1_11 : decode prog_23_method_5_code 11 = .ok (.getstatic 10, 3) := by decide +kernel
theorem d1_14 : decode prog_23_method_5_code 14 = .ok (.invokevirtual 40, 3) := by decide +kernel
theorem d1_17 : decode prog_23_method_5_code 17 = .ok (.ior, 1) := by decide +kernel
theorem d1_18 : decode prog_23_method_5_code 18 = .ok (.goto 7, 3) := by decide +kernel
theorem d1_25 : decode prog_23_method_5_code 25 = .ok (.ireturn, 1) := by decide +kernel
def Q_rm1 (Z : State) (a : Addr) (wW : Addr) (wE : Addr) (o : Int32) (ow : Int32) (oe : Int32) (h0 : Heap) (n0 : Nat) (v : Option Value) (h : Heap) (L : List Loc) : Prop := v = some (.int (own_bits a wW o ow oe)) ∧ Fr n0 L ∧ h = h0
theorem d1_21 : decode prog_23_method_5_code 21 = .ok (.aload_n 0, 1) := by decide +kernel
theorem d1_22 : decode prog_23_method_5_code 22 = .ok (.invokevirtual 40, 3) := by decide +kernel
theorem ef_rm1 (m : MethodId) (a : Addr)  : entryFrame m #[(.ref a)] 1 = mkF m 0 #[.val (.ref a)] [] := by first | (simp [entryFrame, mkF, argsToLocals, Value.category]; done) | rfl
set_option maxRecDepth 65536 in
set_option maxHeartbeats 40000000 in
theorem rm1 (l : Launch) (Z : State) (a0 : Array Value) (hw : ∀ d ∈ tables_1, d.before a0 Z = true) (ws : List Jvm.Cond) (a : Addr) (wW : Addr) (wE : Addr) (o : Int32) (ow : Int32) (oe : Int32) (h0 : Heap) (n0 : Nat) (Z0 : n0 ≤ h0.size) (S_W : Sta Z h0 "com/example/libpubid/libpubid/resolution/SharedCacheCall" "WRITE" "Lcom/example/libpubid/libpubid/resolution/SharedCacheCall;" (.ref wW)) (S_E : Sta Z h0 "com/example/libpubid/libpubid/resolution/SharedCacheCall" "EVICT" "Lcom/example/libpubid/libpubid/resolution/SharedCacheCall;" (.ref wE)) (E : Exa Z h0 a "com/example/libpubid/libpubid/resolution/SharedCacheCall") (EE : Exa Z h0 wE "com/example/libpubid/libpubid/resolution/SharedCacheCall") (F : Fld Z h0 a "java/lang/Enum" "ordinal" "I" (.int o)) (FE : Fld Z h0 wE "java/lang/Enum" "ordinal" "I" (.int oe)) :
    MetFree l (⟨"com/example/libpubid/libpubid/resolution/SharedCacheCall", "answeringBits", "()I"⟩ : MethodName) (head1 (Jvm.Cond.code (⟨"com/example/libpubid/libpubid/resolution/SharedCacheCall", "answeringBits", "()I"⟩ : MethodName) prog_23_method_5_code 1 (some .int) :: ws) ({ frames := 2, cells := 0, slots := 0, locals := 26 } : Room)) (fun aa' U1' => aa' = #[(.ref a)] ∧ Z.Warmed39 U1'.vm ∧ U1'.heap = h0) (fun _ _ _ _ _ => True) (fun _ U1' oo' U2' => ∃ vv' LL', oo' = .returned vv' ∧ (Q_rm1 Z a wW wE o ow oe h0 n0) vv' U2'.heap LL' ∧ FrameEnd U1' oo' U2' LL' ({ frames := 2, cells := 0, slots := 0, locals := 26 } : Room).cells ({ frames := 2, cells := 0, slots := 0, locals := 26 } : Room).slots) := by
  refine MetFree.of_bodySF (plainFor_of_name pn_com_example_libpubid_libpubid_resolution_SharedCacheCall) hisR ?_
  intro p e s m args below meth c s₁ Bd hml0 hP hK
  obtain ⟨rfl, hZ, hh⟩ := hP
  have hx := Bd.exec
  have hby := Bd.bytes
  have hml : c.maxLocals = 1 := hml0
  have hown : s.vm.findClass "com/example/libpubid/libpubid/resolution/SharedCacheCall" = some m.cls := findClass_of_methodNamed Bd.named
  have hnm := (name_of_methodNamed Bd.named Bd.method).1
  have X0 : Stand p l e ({ frames := 2, cells := 0, slots := 0, locals := 26 } : Room) s m #[(.ref a)] below meth c s₁ [] 0 0 := Stand.of_body Bd
  have e0 : s₁.heap = h0 := by rw [← hh, Bd.state]; rfl
  have N0 := Fr.nil n0
  refine go_of (A := s₁.setTop (entryFrame m #[(.ref a)] 1)) (B := s₁.setTop (mkF m 0 #[.val (.ref a)] [])) (fun _ kk' => castTop (ef_rm1 m a) kk') ?_
  refine go_of (B := (s₁.setTop (mkF m 1 #[.val (.ref a)] [(.ref a)]))) (fun _ kk => XS.aloadN X0.here hx rfl (hb hby d1_0) rfl rfl kk) ?_
  obtain ⟨T1, X1, e1, st1⟩ := getS2 X0 hx hZ hown (host := "") (Or.inl (hw _ (List.mem_of_getElem? (i := 9) rfl))) Via.refl e0 S_W (g := (mkF m 1 #[.val (.ref a)] [(.ref a)])) rfl (hb hby d1_1)
  refine go_of (B := (T1.setTop (mkF m 4 #[.val (.ref a)] [(.ref wW), (.ref a)]))) (st1) ?_
  by_cases ha2 : a = wW
  · refine go_of (B := (T1.setTop (mkF m 7 #[.val (.ref a)] []))) (fun _ kk => Jvm.RoadKit.acmp (g := (mkF m 4 #[.val (.ref a)] [(.ref wW), (.ref a)])) X1 hx rfl rfl rfl (pc0 := 4) (pc' := 7) (same := true) rfl (hb hby d1_4) rfl (decide_eq_true (congrArg Value.ref ha2)) (by decide) (by decide) kk) ?_
    refine go_of (B := (T1.setTop (mkF m 8 #[.val (.ref a)] [(.ref a)]))) (fun _ kk => XS.aloadN X1.here hx rfl (hb hby d1_7) rfl rfl kk) ?_
    obtain ⟨cq3, kq3, q3a, q3b, q3c⟩ := isOf hZ e1 E
    obtain ⟨_, _, ⟨T3, L3, k3, n3⟩, -, X3, ⟨Lc3, hQ3, l3, y3, z3⟩, st3⟩ := X1.virtualBack hx (y := (⟨"com/example/libpubid/libpubid/resolution/SharedCacheCall", "bit", "()I"⟩ : MethodName)) (z := (⟨"com/example/libpubid/libpubid/resolution/SharedCacheCall", "bit", "()I"⟩ : MethodName)) hown (mvT hZ (hw _ (List.mem_of_getElem? (i := 11) rfl))) (mvT hZ (hw _ (List.mem_of_getElem? (i := 12) rfl))) (notFace_of_selects (args := #[]) (mvT hZ (hw _ (List.mem_of_getElem? (i := 14) rfl)))) (mvT hZ (hw _ (List.mem_of_getElem? (i := 14) rfl))) (mvT hZ (hw _ (List.mem_of_getElem? (i := 13) rfl))) (by decide) (backOf (W := 0) (rm2 l Z a0 hw [] a o h0 n0 Z0 F E) hZ (hw _ (List.mem_of_getElem? (i := 15) rfl)) (hw _ (List.mem_of_getElem? (i := 2) rfl)) (by decide) (by decide)) q3a q3c (g := (mkF m 8 #[.val (.ref a)] [(.ref a)])) rfl (by rw [hml]; rfl) (Steps.refl _) (argsL := []) (rest := []) (lenOf pd___I rfl) rfl (by show 2 * 0 + _ ≤ _; exact Nat.le_of_eq rfl) (hb hby d1_8) (fun _ _ => ⟨rfl, e1, (by decide : 0 + 0 ≤ _), (by decide : 0 + 0 ≤ _)⟩)
    dsimp only [Pt.U, Pt.locs, Pt.cells, Pt.slots] at X3 l3 y3 z3 st3 hQ3
    subst l3 y3 z3
    obtain ⟨rfl, N3q, e3⟩ := hQ3
    have N3 := Fr.app N0 N3q
    refine go_tr (B := (T3.setTop (mkF m 11 #[.val (.ref a)] [(.int ((1 : Int32) <<< (o &&& 31)))]))) (st3) ?_
    obtain ⟨T4, X4, e4, st4⟩ := getS2 X3 hx hZ hown (host := "") (Or.inl (hw _ (List.mem_of_getElem? (i := 28) rfl))) Via.refl e3 S_E (g := (mkF m 11 #[.val (.ref a)] [(.int ((1 : Int32) <<< (o &&& 31)))])) rfl (hb hby d1_11)
    refine go_of (B := (T4.setTop (mkF m 14 #[.val (.ref a)] [(.ref wE), (.int ((1 : Int32) <<< (o &&& 31)))]))) (st4) ?_
    obtain ⟨cq5, kq5, q5a, q5b, q5c⟩ := isOf hZ e4 EE
    obtain ⟨_, _, ⟨T5, L5, k5, n5⟩, -, X5, ⟨Lc5, hQ5, l5, y5, z5⟩, st5⟩ := X4.virtualBack hx (y := (⟨"com/example/libpubid/libpubid/resolution/SharedCacheCall", "bit", "()I"⟩ : MethodName)) (z := (⟨"com/example/libpubid/libpubid/resolution/SharedCacheCall", "bit", "()I"⟩ : MethodName)) hown (mvT hZ (hw _ (List.mem_of_getElem? (i := 11) rfl))) (mvT hZ (hw _ (List.mem_of_getElem? (i := 12) rfl))) (notFace_of_selects (args := #[]) (mvT hZ (hw _ (List.mem_of_getElem? (i := 14) rfl)))) (mvT hZ (hw _ (List.mem_of_getElem? (i := 14) rfl))) (mvT hZ (hw _ (List.mem_of_getElem? (i := 13) rfl))) (by decide) (backOf (W := 1) (rm2 l Z a0 hw [] wE oe h0 n0 Z0 FE EE) hZ (hw _ (List.mem_of_getElem? (i := 15) rfl)) (hw _ (List.mem_of_getElem? (i := 2) rfl)) (by decide) (by decide)) q5a q5c (g := (mkF m 14 #[.val (.ref a)] [(.ref wE), (.int ((1 : Int32) <<< (o &&& 31)))])) rfl (by rw [hml]; rfl) (Steps.refl _) (argsL := []) (rest := [(.int ((1 : Int32) <<< (o &&& 31)))]) (lenOf pd___I rfl) rfl (by show 2 * 0 + _ ≤ _; exact Nat.le_of_eq rfl) (hb hby d1_14) (fun _ _ => ⟨rfl, e4, (by decide : 0 + 0 ≤ _), (by decide : 0 + 0 ≤ _)⟩)
    dsimp only [Pt.U, Pt.locs, Pt.cells, Pt.slots] at X5 l5 y5 z5 st5 hQ5
    subst l5 y5 z5
    obtain ⟨rfl, N5q, e5⟩ := hQ5
    have N5 := Fr.app N3 N5q
    refine go_tr (B := (T5.setTop (mkF m 17 #[.val (.ref a)] [(.int ((1 : Int32) <<< (oe &&& 31))), (.int ((1 : Int32) <<< (o &&& 31)))]))) (st5) ?_
    refine go_of (B := (T5.setTop (mkF m 18 #[.val (.ref a)] [(.int (((1 : Int32) <<< (o &&& 31)) ||| ((1 : Int32) <<< (oe &&& 31))))]))) (fun _ kk => XS.ior X5.here hx rfl (hb hby d1_17) rfl kk) ?_
    refine go_of (B := (T5.setTop (mkF m 25 #[.val (.ref a)] [(.int (((1 : Int32) <<< (o &&& 31)) ||| ((1 : Int32) <<< (oe &&& 31))))]))) (fun _ kk => XS.goto X5.here hx rfl (pc0 := 18) (pc' := 25) rfl (hb hby d1_18) (by decide) (by decide) kk) ?_
    refine go_end X5 (v := some (.int (((1 : Int32) <<< (o &&& 31)) ||| ((1 : Int32) <<< (oe &&& 31))))) (fun h => by rw [Bd.returns] at h; cases h) Bd.notSynchronized (by decide) (by decide) (Q := (Q_rm1 Z a wW wE o ow oe h0 n0)) ?_ (fun fs hr => own_retI X5 hx Bd.returns (hb hby d1_25) hr)
    show (fun (v : Option Value) (h : Heap) (L : List Loc) => v = some (.int (own_bits a wW o ow oe)) ∧ Fr n0 L ∧ h = h0) (some (.int (((1 : Int32) <<< (o &&& 31)) ||| ((1 : Int32) <<< (oe &&& 31))))) T5.heap _
    rw [e5]
    refine ⟨?_, N5, rfl⟩
    simp [own_bits, ha2]
  · refine go_of (B := (T1.setTop (mkF m 21 #[.val (.ref a)] []))) (fun _ kk => Jvm.RoadKit.acmp (g := (mkF m 4 #[.val (.ref a)] [(.ref wW), (.ref a)])) X1 hx rfl rfl rfl (pc0 := 4) (pc' := 21) (same := false) rfl (hb hby d1_4) rfl (decide_eq_false fun q => ha2 (Value.ref.inj q)) (by decide) (by decide) kk) ?_
    refine go_of (B := (T1.setTop (mkF m 22 #[.val (.ref a)] [(.ref a)]))) (fun _ kk => XS.aloadN X1.here hx rfl (hb hby d1_21) rfl rfl kk) ?_
    obtain ⟨cq6, kq6, q6a, q6b, q6c⟩ := isOf hZ e1 E
    obtain ⟨_, _, ⟨T6, L6, k6, n6⟩, -, X6, ⟨Lc6, hQ6, l6, y6, z6⟩, st6⟩ := X1.virtualBack hx (y := (⟨"com/example/libpubid/libpubid/resolution/SharedCacheCall", "bit", "()I"⟩ : MethodName)) (z := (⟨"com/example/libpubid/libpubid/resolution/SharedCacheCall", "bit", "()I"⟩ : MethodName)) hown (mvT hZ (hw _ (List.mem_of_getElem? (i := 11) rfl))) (mvT hZ (hw _ (List.mem_of_getElem? (i := 12) rfl))) (notFace_of_selects (args := #[]) (mvT hZ (hw _ (List.mem_of_getElem? (i := 14) rfl)))) (mvT hZ (hw _ (List.mem_of_getElem? (i := 14) rfl))) (mvT hZ (hw _ (List.mem_of_getElem? (i := 13) rfl))) (by decide) (backOf (W := 0) (rm2 l Z a0 hw [] a o h0 n0 Z0 F E) hZ (hw _ (List.mem_of_getElem? (i := 15) rfl)) (hw _ (List.mem_of_getElem? (i := 2) rfl)) (by decide) (by decide)) q6a q6c (g := (mkF m 22 #[.val (.ref a)] [(.ref a)])) rfl (by rw [hml]; rfl) (Steps.refl _) (argsL := []) (rest := []) (lenOf pd___I rfl) rfl (by show 2 * 0 + _ ≤ _; exact Nat.le_of_eq rfl) (hb hby d1_22) (fun _ _ => ⟨rfl, e1, (by decide : 0 + 0 ≤ _), (by decide : 0 + 0 ≤ _)⟩)
    dsimp only [Pt.U, Pt.locs, Pt.cells, Pt.slots] at X6 l6 y6 z6 st6 hQ6
    subst l6 y6 z6
    obtain ⟨rfl, N6q, e6⟩ := hQ6
    have N6 := Fr.app N0 N6q
    refine go_tr (B := (T6.setTop (mkF m 25 #[.val (.ref a)] [(.int ((1 : Int32) <<< (o &&& 31)))]))) (st6) ?_
    refine go_end X6 (v := some (.int ((1 : Int32) <<< (o &&& 31)))) (fun h => by rw [Bd.returns] at h; cases h) Bd.notSynchronized (by decide) (by decide) (Q := (Q_rm1 Z a wW wE o ow oe h0 n0)) ?_ (fun fs hr => own_retI X6 hx Bd.returns (hb hby d1_25) hr)
    show (fun (v : Option Value) (h : Heap) (L : List Loc) => v = some (.int (own_bits a wW o ow oe)) ∧ Fr n0 L ∧ h = h0) (some (.int ((1 : Int32) <<< (o &&& 31)))) T6.heap _
    rw [e6]
    refine ⟨?_, N6, rfl⟩
    simp [own_bits, ha2]
def Q_rm0 (Z : State) (k : Int32) (w_READ : Addr) (w_WRITE : Addr) (w_EVICT : Addr) (h0 : Heap) (n0 : Nat) (v : Option Value) (h : Heap) (L : List Loc) : Prop := v = some (.int 1) ∧ Fr n0 L
theorem pn_com_example_libpubid_libpubid_resolution_SharedCacheCallAnsweringBitsPinLaw : plainName "com/example/libpubid/libpubid/resolution/SharedCacheCallAnsweringBitsPinLaw" = true := by first | (simp [plainName, overriddenIn]; done) | decide +kernel
theorem ef_rm0 (m : MethodId) (k : Int32)  : entryFrame m #[(.int k)] maxLocals = mkF m 0 #[.val (.int k), .unset, .unset, .unset] [] := by first | (simp [entryFrame, mkF, argsToLocals, Value.category, maxLocals]; done) | rfl
set_option maxRecDepth 65536 in
set_option maxHeartbeats 40000000 in
theorem rm0 (l : Launch) (Z : State) (a0 : Array Value) (hw : ∀ d ∈ tables_1, d.before a0 Z = true) (ws : List Jvm.Cond) (k : Int32) (w_READ : Addr) (w_WRITE : Addr) (w_EVICT : Addr) (h0 : Heap) (n0 : Nat) (Z0 : n0 ≤ h0.size) (S_READ : Sta Z h0 "com/example/libpubid/libpubid/resolution/SharedCacheCall" "READ" "Lcom/example/libpubid/libpubid/resolution/SharedCacheCall;" (.ref w_READ)) (S_WRITE : Sta Z h0 "com/example/libpubid/libpubid/resolution/SharedCacheCall" "WRITE" "Lcom/example/libpubid/libpubid/resolution/SharedCacheCall;" (.ref w_WRITE)) (S_EVICT : Sta Z h0 "com/example/libpubid/libpubid/resolution/SharedCacheCall" "EVICT" "Lcom/example/libpubid/libpubid/resolution/SharedCacheCall;" (.ref w_EVICT)) (E_READ : Exa Z h0 w_READ "com/example/libpubid/libpubid/resolution/SharedCacheCall") (E_WRITE : Exa Z h0 w_WRITE "com/example/libpubid/libpubid/resolution/SharedCacheCall") (E_EVICT : Exa Z h0 w_EVICT "com/example/libpubid/libpubid/resolution/SharedCacheCall") (F_READ : Fld Z h0 w_READ "java/lang/Enum" "ordinal" "I" (.int 0)) (F_WRITE : Fld Z h0 w_WRITE "java/lang/Enum" "ordinal" "I" (.int 1)) (F_EVICT : Fld Z h0 w_EVICT "java/lang/Enum" "ordinal" "I" (.int 2)) :
    MetFree l x (head1 (Jvm.Cond.code x code maxLocals ret :: ws) room_1) (fun aa' U1' => aa' = #[(.int k)] ∧ Z.Warmed39 U1'.vm ∧ U1'.heap = h0) (fun _ _ _ _ _ => True) (fun _ U1' oo' U2' => ∃ vv' LL', oo' = .returned vv' ∧ (Q_rm0 Z k w_READ w_WRITE w_EVICT h0 n0) vv' U2'.heap LL' ∧ FrameEnd U1' oo' U2' LL' room_1.cells room_1.slots) := by
  refine MetFree.of_bodySF (plainFor_of_name pn_com_example_libpubid_libpubid_resolution_SharedCacheCallAnsweringBitsPinLaw) hisR ?_
  intro p e s m args below meth c s₁ Bd hml0 hP hK
  obtain ⟨rfl, hZ, hh⟩ := hP
  have hx := Bd.exec
  have hby := Bd.bytes
  have hml : c.maxLocals = 4 := hml0
  have hown : s.vm.findClass "com/example/libpubid/libpubid/resolution/SharedCacheCallAnsweringBitsPinLaw" = some m.cls := findClass_of_methodNamed Bd.named
  have hnm := (name_of_methodNamed Bd.named Bd.method).1
  have X0 : Stand p l e room_1 s m #[(.int k)] below meth c s₁ [] 0 0 := Stand.of_body Bd
  have e0 : s₁.heap = h0 := by rw [← hh, Bd.state]; rfl
  have N0 := Fr.nil n0
  refine go_of (A := s₁.setTop (entryFrame m #[(.int k)] maxLocals)) (B := s₁.setTop (mkF m 0 #[.val (.int k), .unset, .unset, .unset] [])) (fun _ kk' => castTop (ef_rm0 m k) kk') ?_
  refine go_of (B := (s₁.setTop (mkF m 1 #[.val (.int k), .unset, .unset, .unset] [(.int k)]))) (fun _ kk => XS.iloadN X0.here hx rfl (hb hby at_0) rfl kk) ?_
  refine go_of (B := (s₁.setTop (mkF m 3 #[.val (.int k), .unset, .unset, .unset] [(.int (2147483647 : Int32)), (.int k)]))) (fun _ kk => X0.ldcInt hx hown (mvT hZ (hw _ (List.mem_of_getElem? (i := 0) rfl))) (g := (mkF m 1 #[.val (.int k), .unset, .unset, .unset] [(.int k)])) rfl (hb hby at_1) _ kk) ?_
  refine go_of (B := (s₁.setTop (mkF m 4 #[.val (.int k), .unset, .unset, .unset] [(.int (k &&& (2147483647 : Int32)))]))) (fun _ kk => XS.iand X0.here hx rfl (hb hby at_3) rfl kk) ?_
  refine go_of (B := (s₁.setTop (mkF m 5 #[.val (.int k), .unset, .unset, .unset] [(.int (3 : Int32)), (.int (k &&& (2147483647 : Int32)))]))) (fun _ kk => XS.iconst X0.here hx rfl (hb hby at_4) kk) ?_
  refine go_of (B := (s₁.setTop (mkF m 6 #[.val (.int k), .unset, .unset, .unset] [(.int ((k &&& (2147483647 : Int32)) % (3 : Int32)))]))) (fun _ kk => iremM X0 hx rfl (hb hby at_5) rfl (by decide) kk) ?_
  refine go_of (B := (s₁.setTop (mkF m 7 #[.val (.int k), .val (.int ((k &&& (2147483647 : Int32)) % (3 : Int32))), .unset, .unset] []))) (fun _ kk => XS.istoreN X0.here hx rfl (hb hby at_6) rfl rfl kk) ?_
  refine go_of (B := (s₁.setTop (mkF m 8 #[.val (.int k), .val (.int ((k &&& (2147483647 : Int32)) % (3 : Int32))), .unset, .unset] [(.int ((k &&& (2147483647 : Int32)) % (3 : Int32)))]))) (fun _ kk => XS.iloadN X0.here hx rfl (hb hby at_7) rfl kk) ?_
  by_cases hc1 : ((k &&& (2147483647 : Int32)) % (3 : Int32)) = (0 : Int32)
  · refine go_of (B := (s₁.setTop (mkF m 11 #[.val (.int k), .val (.int ((k &&& (2147483647 : Int32)) % (3 : Int32))), .unset, .unset] []))) (fun _ kk => XS.ifNo X0.here hx rfl (hb hby at_8) rfl ((if0 _ _).trans (teq hc1).2) kk) ?_
    obtain ⟨T2, X2, e2, st2⟩ := getS2 X0 hx hZ hown (host := "") (Or.inl (hw _ (List.mem_of_getElem? (i := 1) rfl))) Via.refl e0 S_READ (g := (mkF m 11 #[.val (.int k), .val (.int ((k &&& (2147483647 : Int32)) % (3 : Int32))), .unset, .unset] [])) rfl (hb hby at_11)
    refine go_of (B := (T2.setTop (mkF m 14 #[.val (.int k), .val (.int ((k &&& (2147483647 : Int32)) % (3 : Int32))), .unset, .unset] [(.ref w_READ)]))) (st2) ?_
    refine go_of (B := (T2.setTop (mkF m 15 #[.val (.int k), .val (.int ((k &&& (2147483647 : Int32)) % (3 : Int32))), .val (.ref w_READ), .unset] []))) (fun _ kk => XS.astoreN X2.here hx rfl (hb hby at_14) rfl rfl rfl kk) ?_
    refine go_of (B := (T2.setTop (mkF m 16 #[.val (.int k), .val (.int ((k &&& (2147483647 : Int32)) % (3 : Int32))), .val (.ref w_READ), .unset] [(.int (1 : Int32))]))) (fun _ kk => XS.iconst X2.here hx rfl (hb hby at_15) kk) ?_
    refine go_of (B := (T2.setTop (mkF m 17 #[.val (.int k), .val (.int ((k &&& (2147483647 : Int32)) % (3 : Int32))), .val (.ref w_READ), .val (.int (1 : Int32))] []))) (fun _ kk => XS.istoreN X2.here hx rfl (hb hby at_16) rfl rfl kk) ?_
    refine go_of (B := (T2.setTop (mkF m 41 #[.val (.int k), .val (.int ((k &&& (2147483647 : Int32)) % (3 : Int32))), .val (.ref w_READ), .val (.int (1 : Int32))] []))) (fun _ kk => XS.goto X2.here hx rfl (pc0 := 17) (pc' := 41) rfl (hb hby at_17) (by decide) (by decide) kk) ?_
    refine go_of (B := (T2.setTop (mkF m 42 #[.val (.int k), .val (.int ((k &&& (2147483647 : Int32)) % (3 : Int32))), .val (.ref w_READ), .val (.int (1 : Int32))] [(.ref w_READ)]))) (fun _ kk => XS.aloadN X2.here hx rfl (hb hby at_41) rfl rfl kk) ?_
    obtain ⟨cq3, kq3, q3a, q3b, q3c⟩ := isOf hZ e2 E_READ
    obtain ⟨_, _, ⟨T3, L3, k3, n3⟩, -, X3, ⟨Lc3, hQ3, l3, y3, z3⟩, st3⟩ := X2.virtualBack hx (y := (⟨"com/example/libpubid/libpubid/resolution/SharedCacheCall", "answeringBits", "()I"⟩ : MethodName)) (z := (⟨"com/example/libpubid/libpubid/resolution/SharedCacheCall", "answeringBits", "()I"⟩ : MethodName)) hown (mvT hZ (hw _ (List.mem_of_getElem? (i := 4) rfl))) (mvT hZ (hw _ (List.mem_of_getElem? (i := 5) rfl))) (notFace_of_selects (args := #[]) (mvT hZ (hw _ (List.mem_of_getElem? (i := 7) rfl)))) (mvT hZ (hw _ (List.mem_of_getElem? (i := 7) rfl))) (mvT hZ (hw _ (List.mem_of_getElem? (i := 6) rfl))) (by decide) (backOf (W := 0) (rm1 l Z a0 hw [] w_READ w_WRITE w_EVICT 0 1 2 h0 n0 Z0 S_WRITE S_EVICT E_READ E_EVICT F_READ F_EVICT) hZ (hw _ (List.mem_of_getElem? (i := 8) rfl)) (hw _ (List.mem_of_getElem? (i := 2) rfl)) (by decide) (by decide)) q3a q3c (g := (mkF m 42 #[.val (.int k), .val (.int ((k &&& (2147483647 : Int32)) % (3 : Int32))), .val (.ref w_READ), .val (.int (1 : Int32))] [(.ref w_READ)])) rfl (by rw [hml]; rfl) (Steps.refl _) (argsL := []) (rest := []) (lenOf pd___I rfl) rfl (by show 2 * 0 + _ ≤ _; exact Nat.le_of_eq rfl) (hb hby at_42) (fun _ _ => ⟨rfl, e2, (by decide : 0 + 0 ≤ _), (by decide : 0 + 0 ≤ _)⟩)
    dsimp only [Pt.U, Pt.locs, Pt.cells, Pt.slots] at X3 l3 y3 z3 st3 hQ3
    subst l3 y3 z3
    obtain ⟨rfl, N3q, e3⟩ := hQ3
    have N3 := Fr.app N0 N3q
    refine go_tr (B := (T3.setTop (mkF m 45 #[.val (.int k), .val (.int ((k &&& (2147483647 : Int32)) % (3 : Int32))), .val (.ref w_READ), .val (.int (1 : Int32))] [(.int (own_bits w_READ w_WRITE 0 1 2))]))) (st3) ?_
    refine go_of (B := (T3.setTop (mkF m 46 #[.val (.int k), .val (.int ((k &&& (2147483647 : Int32)) % (3 : Int32))), .val (.ref w_READ), .val (.int (1 : Int32))] [(.int (1 : Int32)), (.int (own_bits w_READ w_WRITE 0 1 2))]))) (fun _ kk => XS.iloadN X3.here hx rfl (hb hby at_45) rfl kk) ?_
    refine go_of (B := (T3.setTop (mkF m 49 #[.val (.int k), .val (.int ((k &&& (2147483647 : Int32)) % (3 : Int32))), .val (.ref w_READ), .val (.int (1 : Int32))] []))) (fun _ kk => XS.icmpNo X3.here hx rfl (hb hby at_46) rfl (teq (by rw [own_bits, if_neg (F_READ.ne F_WRITE (by decide))]; decide : (own_bits w_READ w_WRITE 0 1 2) = (1 : Int32))).2 kk) ?_
    refine go_of (B := (T3.setTop (mkF m 50 #[.val (.int k), .val (.int ((k &&& (2147483647 : Int32)) % (3 : Int32))), .val (.ref w_READ), .val (.int (1 : Int32))] [(.int (1 : Int32))]))) (fun _ kk => XS.iconst X3.here hx rfl (hb hby at_49) kk) ?_
    refine go_of (B := (T3.setTop (mkF m 54 #[.val (.int k), .val (.int ((k &&& (2147483647 : Int32)) % (3 : Int32))), .val (.ref w_READ), .val (.int (1 : Int32))] [(.int (1 : Int32))]))) (fun _ kk => XS.goto X3.here hx rfl (pc0 := 50) (pc' := 54) rfl (hb hby at_50) (by decide) (by decide) kk) ?_
    refine go_end X3 (v := some (.int (nar .boolean (1 : Int32)))) (fun h => by rw [Bd.returns] at h; cases h) Bd.notSynchronized (by decide) (by decide) (Q := (Q_rm0 Z k w_READ w_WRITE w_EVICT h0 n0)) ?_ (fun fs hr => retN X3 hx (t := .boolean) Bd.returns (by simp) (hb hby at_54) hr)
    show (fun (v : Option Value) (h : Heap) (L : List Loc) => v = some (.int 1) ∧ Fr n0 L) (some (.int (nar .boolean (1 : Int32)))) T3.heap _
    rw [e3]
    exact ⟨rfl, N3⟩
  · refine go_of (B := (s₁.setTop (mkF m 20 #[.val (.int k), .val (.int ((k &&& (2147483647 : Int32)) % (3 : Int32))), .unset, .unset] []))) (fun _ kk => XS.ifYes X0.here hx rfl (pc0 := 8) (pc' := 20) rfl (hb hby at_8) rfl ((if0 _ _).trans (feq hc1).2) (by decide) (by decide) kk) ?_
    refine go_of (B := (s₁.setTop (mkF m 21 #[.val (.int k), .val (.int ((k &&& (2147483647 : Int32)) % (3 : Int32))), .unset, .unset] [(.int ((k &&& (2147483647 : Int32)) % (3 : Int32)))]))) (fun _ kk => XS.iloadN X0.here hx rfl (hb hby at_20) rfl kk) ?_
    refine go_of (B := (s₁.setTop (mkF m 22 #[.val (.int k), .val (.int ((k &&& (2147483647 : Int32)) % (3 : Int32))), .unset, .unset] [(.int (1 : Int32)), (.int ((k &&& (2147483647 : Int32)) % (3 : Int32)))]))) (fun _ kk => XS.iconst X0.here hx rfl (hb hby at_21) kk) ?_
    by_cases hc4 : ((k &&& (2147483647 : Int32)) % (3 : Int32)) = (1 : Int32)
    · refine go_of (B := (s₁.setTop (mkF m 25 #[.val (.int k), .val (.int ((k &&& (2147483647 : Int32)) % (3 : Int32))), .unset, .unset] []))) (fun _ kk => XS.icmpNo X0.here hx rfl (hb hby at_22) rfl (teq hc4).2 kk) ?_
      obtain ⟨T5, X5, e5, st5⟩ := getS2 X0 hx hZ hown (host := "") (Or.inl (hw _ (List.mem_of_getElem? (i := 27) rfl))) Via.refl e0 S_WRITE (g := (mkF m 25 #[.val (.int k), .val (.int ((k &&& (2147483647 : Int32)) % (3 : Int32))), .unset, .unset] [])) rfl (hb hby at_25)
      refine go_of (B := (T5.setTop (mkF m 28 #[.val (.int k), .val (.int ((k &&& (2147483647 : Int32)) % (3 : Int32))), .unset, .unset] [(.ref w_WRITE)]))) (st5) ?_
      refine go_of (B := (T5.setTop (mkF m 29 #[.val (.int k), .val (.int ((k &&& (2147483647 : Int32)) % (3 : Int32))), .val (.ref w_WRITE), .unset] []))) (fun _ kk => XS.astoreN X5.here hx rfl (hb hby at_28) rfl rfl rfl kk) ?_
      refine go_of (B := (T5.setTop (mkF m 31 #[.val (.int k), .val (.int ((k &&& (2147483647 : Int32)) % (3 : Int32))), .val (.ref w_WRITE), .unset] [(.int (6 : Int32))]))) (fun _ kk => XS.bipush X5.here hx rfl (hb hby at_29) kk) ?_
      refine go_of (B := (T5.setTop (mkF m 32 #[.val (.int k), .val (.int ((k &&& (2147483647 : Int32)) % (3 : Int32))), .val (.ref w_WRITE), .val (.int (6 : Int32))] []))) (fun _ kk => XS.istoreN X5.here hx rfl (hb hby at_31) rfl rfl kk) ?_
      refine go_of (B := (T5.setTop (mkF m 41 #[.val (.int k), .val (.int ((k &&& (2147483647 : Int32)) % (3 : Int32))), .val (.ref w_WRITE), .val (.int (6 : Int32))] []))) (fun _ kk => XS.goto X5.here hx rfl (pc0 := 32) (pc' := 41) rfl (hb hby at_32) (by decide) (by decide) kk) ?_
      refine go_of (B := (T5.setTop (mkF m 42 #[.val (.int k), .val (.int ((k &&& (2147483647 : Int32)) % (3 : Int32))), .val (.ref w_WRITE), .val (.int (6 : Int32))] [(.ref w_WRITE)]))) (fun _ kk => XS.aloadN X5.here hx rfl (hb hby at_41) rfl rfl kk) ?_
      obtain ⟨cq6, kq6, q6a, q6b, q6c⟩ := isOf hZ e5 E_WRITE
      obtain ⟨_, _, ⟨T6, L6, k6, n6⟩, -, X6, ⟨Lc6, hQ6, l6, y6, z6⟩, st6⟩ := X5.virtualBack hx (y := (⟨"com/example/libpubid/libpubid/resolution/SharedCacheCall", "answeringBits", "()I"⟩ : MethodName)) (z := (⟨"com/example/libpubid/libpubid/resolution/SharedCacheCall", "answeringBits", "()I"⟩ : MethodName)) hown (mvT hZ (hw _ (List.mem_of_getElem? (i := 4) rfl))) (mvT hZ (hw _ (List.mem_of_getElem? (i := 5) rfl))) (notFace_of_selects (args := #[]) (mvT hZ (hw _ (List.mem_of_getElem? (i := 7) rfl)))) (mvT hZ (hw _ (List.mem_of_getElem? (i := 7) rfl))) (mvT hZ (hw _ (List.mem_of_getElem? (i := 6) rfl))) (by decide) (backOf (W := 0) (rm1 l Z a0 hw [] w_WRITE w_WRITE w_EVICT 1 1 2 h0 n0 Z0 S_WRITE S_EVICT E_WRITE E_EVICT F_WRITE F_EVICT) hZ (hw _ (List.mem_of_getElem? (i := 8) rfl)) (hw _ (List.mem_of_getElem? (i := 2) rfl)) (by decide) (by decide)) q6a q6c (g := (mkF m 42 #[.val (.int k), .val (.int ((k &&& (2147483647 : Int32)) % (3 : Int32))), .val (.ref w_WRITE), .val (.int (6 : Int32))] [(.ref w_WRITE)])) rfl (by rw [hml]; rfl) (Steps.refl _) (argsL := []) (rest := []) (lenOf pd___I rfl) rfl (by show 2 * 0 + _ ≤ _; exact Nat.le_of_eq rfl) (hb hby at_42) (fun _ _ => ⟨rfl, e5, (by decide : 0 + 0 ≤ _), (by decide : 0 + 0 ≤ _)⟩)
      dsimp only [Pt.U, Pt.locs, Pt.cells, Pt.slots] at X6 l6 y6 z6 st6 hQ6
      subst l6 y6 z6
      obtain ⟨rfl, N6q, e6⟩ := hQ6
      have N6 := Fr.app N0 N6q
      refine go_tr (B := (T6.setTop (mkF m 45 #[.val (.int k), .val (.int ((k &&& (2147483647 : Int32)) % (3 : Int32))), .val (.ref w_WRITE), .val (.int (6 : Int32))] [(.int (own_bits w_WRITE w_WRITE 1 1 2))]))) (st6) ?_
      refine go_of (B := (T6.setTop (mkF m 46 #[.val (.int k), .val (.int ((k &&& (2147483647 : Int32)) % (3 : Int32))), .val (.ref w_WRITE), .val (.int (6 : Int32))] [(.int (6 : Int32)), (.int (own_bits w_WRITE w_WRITE 1 1 2))]))) (fun _ kk => XS.iloadN X6.here hx rfl (hb hby at_45) rfl kk) ?_
      refine go_of (B := (T6.setTop (mkF m 49 #[.val (.int k), .val (.int ((k &&& (2147483647 : Int32)) % (3 : Int32))), .val (.ref w_WRITE), .val (.int (6 : Int32))] []))) (fun _ kk => XS.icmpNo X6.here hx rfl (hb hby at_46) rfl (teq (by rw [own_bits, if_pos rfl]; decide : (own_bits w_WRITE w_WRITE 1 1 2) = (6 : Int32))).2 kk) ?_
      refine go_of (B := (T6.setTop (mkF m 50 #[.val (.int k), .val (.int ((k &&& (2147483647 : Int32)) % (3 : Int32))), .val (.ref w_WRITE), .val (.int (6 : Int32))] [(.int (1 : Int32))]))) (fun _ kk => XS.iconst X6.here hx rfl (hb hby at_49) kk) ?_
      refine go_of (B := (T6.setTop (mkF m 54 #[.val (.int k), .val (.int ((k &&& (2147483647 : Int32)) % (3 : Int32))), .val (.ref w_WRITE), .val (.int (6 : Int32))] [(.int (1 : Int32))]))) (fun _ kk => XS.goto X6.here hx rfl (pc0 := 50) (pc' := 54) rfl (hb hby at_50) (by decide) (by decide) kk) ?_
      refine go_end X6 (v := some (.int (nar .boolean (1 : Int32)))) (fun h => by rw [Bd.returns] at h; cases h) Bd.notSynchronized (by decide) (by decide) (Q := (Q_rm0 Z k w_READ w_WRITE w_EVICT h0 n0)) ?_ (fun fs hr => retN X6 hx (t := .boolean) Bd.returns (by simp) (hb hby at_54) hr)
      show (fun (v : Option Value) (h : Heap) (L : List Loc) => v = some (.int 1) ∧ Fr n0 L) (some (.int (nar .boolean (1 : Int32)))) T6.heap _
      rw [e6]
      exact ⟨rfl, N6⟩
    · refine go_of (B := (s₁.setTop (mkF m 35 #[.val (.int k), .val (.int ((k &&& (2147483647 : Int32)) % (3 : Int32))), .unset, .unset] []))) (fun _ kk => XS.icmpYes X0.here hx rfl (pc0 := 22) (pc' := 35) rfl (hb hby at_22) rfl (feq hc4).2 (by decide) (by decide) kk) ?_
      obtain ⟨T7, X7, e7, st7⟩ := getS2 X0 hx hZ hown (host := "") (Or.inl (hw _ (List.mem_of_getElem? (i := 25) rfl))) Via.refl e0 S_EVICT (g := (mkF m 35 #[.val (.int k), .val (.int ((k &&& (2147483647 : Int32)) % (3 : Int32))), .unset, .unset] [])) rfl (hb hby at_35)
      refine go_of (B := (T7.setTop (mkF m 38 #[.val (.int k), .val (.int ((k &&& (2147483647 : Int32)) % (3 : Int32))), .unset, .unset] [(.ref w_EVICT)]))) (st7) ?_
      refine go_of (B := (T7.setTop (mkF m 39 #[.val (.int k), .val (.int ((k &&& (2147483647 : Int32)) % (3 : Int32))), .val (.ref w_EVICT), .unset] []))) (fun _ kk => XS.astoreN X7.here hx rfl (hb hby at_38) rfl rfl rfl kk) ?_
      refine go_of (B := (T7.setTop (mkF m 40 #[.val (.int k), .val (.int ((k &&& (2147483647 : Int32)) % (3 : Int32))), .val (.ref w_EVICT), .unset] [(.int (4 : Int32))]))) (fun _ kk => XS.iconst X7.here hx rfl (hb hby at_39) kk) ?_
      refine go_of (B := (T7.setTop (mkF m 41 #[.val (.int k), .val (.int ((k &&& (2147483647 : Int32)) % (3 : Int32))), .val (.ref w_EVICT), .val (.int (4 : Int32))] []))) (fun _ kk => XS.istoreN X7.here hx rfl (hb hby at_40) rfl rfl kk) ?_
      refine go_of (B := (T7.setTop (mkF m 42 #[.val (.int k), .val (.int ((k &&& (2147483647 : Int32)) % (3 : Int32))), .val (.ref w_EVICT), .val (.int (4 : Int32))] [(.ref w_EVICT)]))) (fun _ kk => XS.aloadN X7.here hx rfl (hb hby at_41) rfl rfl kk) ?_
      obtain ⟨cq8, kq8, q8a, q8b, q8c⟩ := isOf hZ e7 E_EVICT
      obtain ⟨_, _, ⟨T8, L8, k8, n8⟩, -, X8, ⟨Lc8, hQ8, l8, y8, z8⟩, st8⟩ := X7.virtualBack hx (y := (⟨"com/example/libpubid/libpubid/resolution/SharedCacheCall", "answeringBits", "()I"⟩ : MethodName)) (z := (⟨"com/example/libpubid/libpubid/resolution/SharedCacheCall", "answeringBits", "()I"⟩ : MethodName)) hown (mvT hZ (hw _ (List.mem_of_getElem? (i := 4) rfl))) (mvT hZ (hw _ (List.mem_of_getElem? (i := 5) rfl))) (notFace_of_selects (args := #[]) (mvT hZ (hw _ (List.mem_of_getElem? (i := 7) rfl)))) (mvT hZ (hw _ (List.mem_of_getElem? (i := 7) rfl))) (mvT hZ (hw _ (List.mem_of_getElem? (i := 6) rfl))) (by decide) (backOf (W := 0) (rm1 l Z a0 hw [] w_EVICT w_WRITE w_EVICT 2 1 2 h0 n0 Z0 S_WRITE S_EVICT E_EVICT E_EVICT F_EVICT F_EVICT) hZ (hw _ (List.mem_of_getElem? (i := 8) rfl)) (hw _ (List.mem_of_getElem? (i := 2) rfl)) (by decide) (by decide)) q8a q8c (g := (mkF m 42 #[.val (.int k), .val (.int ((k &&& (2147483647 : Int32)) % (3 : Int32))), .val (.ref w_EVICT), .val (.int (4 : Int32))] [(.ref w_EVICT)])) rfl (by rw [hml]; rfl) (Steps.refl _) (argsL := []) (rest := []) (lenOf pd___I rfl) rfl (by show 2 * 0 + _ ≤ _; exact Nat.le_of_eq rfl) (hb hby at_42) (fun _ _ => ⟨rfl, e7, (by decide : 0 + 0 ≤ _), (by decide : 0 + 0 ≤ _)⟩)
      dsimp only [Pt.U, Pt.locs, Pt.cells, Pt.slots] at X8 l8 y8 z8 st8 hQ8
      subst l8 y8 z8
      obtain ⟨rfl, N8q, e8⟩ := hQ8
      have N8 := Fr.app N0 N8q
      refine go_tr (B := (T8.setTop (mkF m 45 #[.val (.int k), .val (.int ((k &&& (2147483647 : Int32)) % (3 : Int32))), .val (.ref w_EVICT), .val (.int (4 : Int32))] [(.int (own_bits w_EVICT w_WRITE 2 1 2))]))) (st8) ?_
      refine go_of (B := (T8.setTop (mkF m 46 #[.val (.int k), .val (.int ((k &&& (2147483647 : Int32)) % (3 : Int32))), .val (.ref w_EVICT), .val (.int (4 : Int32))] [(.int (4 : Int32)), (.int (own_bits w_EVICT w_WRITE 2 1 2))]))) (fun _ kk => XS.iloadN X8.here hx rfl (hb hby at_45) rfl kk) ?_
      refine go_of (B := (T8.setTop (mkF m 49 #[.val (.int k), .val (.int ((k &&& (2147483647 : Int32)) % (3 : Int32))), .val (.ref w_EVICT), .val (.int (4 : Int32))] []))) (fun _ kk => XS.icmpNo X8.here hx rfl (hb hby at_46) rfl (teq (by rw [own_bits, if_neg (F_EVICT.ne F_WRITE (by decide))]; decide : (own_bits w_EVICT w_WRITE 2 1 2) = (4 : Int32))).2 kk) ?_
      refine go_of (B := (T8.setTop (mkF m 50 #[.val (.int k), .val (.int ((k &&& (2147483647 : Int32)) % (3 : Int32))), .val (.ref w_EVICT), .val (.int (4 : Int32))] [(.int (1 : Int32))]))) (fun _ kk => XS.iconst X8.here hx rfl (hb hby at_49) kk) ?_
      refine go_of (B := (T8.setTop (mkF m 54 #[.val (.int k), .val (.int ((k &&& (2147483647 : Int32)) % (3 : Int32))), .val (.ref w_EVICT), .val (.int (4 : Int32))] [(.int (1 : Int32))]))) (fun _ kk => XS.goto X8.here hx rfl (pc0 := 50) (pc' := 54) rfl (hb hby at_50) (by decide) (by decide) kk) ?_
      refine go_end X8 (v := some (.int (nar .boolean (1 : Int32)))) (fun h => by rw [Bd.returns] at h; cases h) Bd.notSynchronized (by decide) (by decide) (Q := (Q_rm0 Z k w_READ w_WRITE w_EVICT h0 n0)) ?_ (fun fs hr => retN X8 hx (t := .boolean) Bd.returns (by simp) (hb hby at_54) hr)
      show (fun (v : Option Value) (h : Heap) (L : List Loc) => v = some (.int 1) ∧ Fr n0 L) (some (.int (nar .boolean (1 : Int32)))) T8.heap _
      rw [e8]
      exact ⟨rfl, N8⟩
set_option maxRecDepth 65536 in
set_option maxHeartbeats 40000000 in
theorem comes_1 {Post : Tables → Env → Array Value → State → Outcome → State → Prop} (hpost : ∀ tb e args s v u, (limb_1_1.after args s (.returned v) u = true ∧ limb_1_2.after args s (.returned v) u = true ∧ True) → FrameEnd s (.returned v) u (Jvm.fieldLocs frame_1_writes args s ++ Jvm.arrayLocs frame_1_arrays args s ++ Jvm.staticLocs frame_1_statics s) 0 0 → Post tb e args s (.returned v) u) :
    ArmFor flags0 classFile x code maxLocals ret World_1 tables_1 room_1 Calls_1 rest_1 Pre_1 Post := by
  intro l hfl _ _ p e ha hc hk s m args below hf hA hF happ hP
  obtain ⟨hcalls, hrest, hpre⟩ := hP
  obtain ⟨-, -, -, hnamed, -, -, -, hat⟩ := (Spec.applies_iff hf).mp happ
  obtain ⟨hg, hn⟩ := and_e (Cond.before_iff.mp (show (Jvm.Cond.and given_1 narrow_1).before args s = true from hpre))
  obtain ⟨g1, g2⟩ := and_e hg
  obtain ⟨w0, rfl⟩ : ∃ w0 : Value, args = #[w0] := by
    have hs : args.size = 1 := by simpa [Cond.value, given_1] using g1
    obtain ⟨L⟩ := args
    match L, hs with
    | [w0], _ => exact ⟨w0, rfl⟩
  have hw := fun d (hd : d ∈ tables_1) => atoms_spec (ws := Jvm.Cond.code x code maxLocals ret :: tables_1) hat d (List.mem_cons_of_mem _ hd)
  have hfit : Fit s := fun {y c} hc i hi => by
    obtain ⟨ha, rfl⟩ := Array.getElem?_eq_some_iff.mp hc
    have q := List.all_eq_true.mp ((Array.all_eq_true_iff_forall_mem.mp hF) _ (Array.getElem_mem ha)) i (List.mem_range.mpr hi)
    simpa [Array.getElem?_eq_getElem hi] using q
  obtain ⟨i0, ei0⟩ := is_v g2
  obtain rfl : w0 = (.int i0) := Option.some.inj ei0
  obtain ⟨na1, na2⟩ := and_e hn
  obtain ⟨na3, na4⟩ := and_e na2
  obtain ⟨na5, na6⟩ := and_e na4
  obtain ⟨na7, na8⟩ := and_e na6
  obtain ⟨na9, na10⟩ := and_e na8
  obtain ⟨w_READ, ev_READ⟩ := exa_v na1
  have E_READ := Exa.start ev_READ na1
  have S_READ := Sta.start ev_READ (Or.inr ⟨(hw _ (List.mem_of_getElem? (i := 2) rfl)), (hw _ (List.mem_of_getElem? (i := 3) rfl))⟩)
  obtain ⟨w_WRITE, ev_WRITE⟩ := exa_v na3
  have E_WRITE := Exa.start ev_WRITE na3
  have S_WRITE := Sta.start ev_WRITE (Or.inr ⟨(hw _ (List.mem_of_getElem? (i := 2) rfl)), (hw _ (List.mem_of_getElem? (i := 10) rfl))⟩)
  obtain ⟨w_EVICT, ev_EVICT⟩ := exa_v na9
  have E_EVICT := Exa.start ev_EVICT na9
  have S_EVICT := Sta.start ev_EVICT (Or.inr ⟨(hw _ (List.mem_of_getElem? (i := 2) rfl)), (hw _ (List.mem_of_getElem? (i := 26) rfl))⟩)
  have F_READ := own_fldI ev_READ na5
  have F_WRITE := own_fldI ev_WRITE na7
  have F_EVICT := own_fldI ev_EVICT na10
  obtain ⟨n, o, h1, h2, h3, _, L, rfl, ⟨rfl, N⟩, hq⟩ := rm0 l s _ hw tables_1 i0 w_READ w_WRITE w_EVICT s.heap s.heap.size (Nat.le_refl _) S_READ S_WRITE S_EVICT E_READ E_WRITE E_EVICT F_READ F_WRITE F_EVICT p e ha hc hk s m _ below hf ((Spec.applies_iff_loose hf).mp happ).1 ⟨rfl, State.Warmed39.refl s, rfl⟩ trivial
  exact ⟨n, _, h1, h2, h3, hpost _ _ _ _ _ _ ⟨Cond.after_iff.mpr rfl, Cond.after_iff.mpr (eq_i res_at (Term.int_eval (1)) rfl), trivial⟩ ⟨hq.1, hq.2.1, (hq.2.2.sift fun y hy => Or.inr (N y hy)).mono (by decide) (by decide)⟩⟩
theorem main_1_1 : Claimed_1_1 := comes_1 fun _ _ _ _ _ _ h hF => ⟨h.1, hF⟩
theorem main_1_2 : Claimed_1_2 := comes_1 fun _ _ _ _ _ _ h hF => ⟨h.2.1, hF⟩
end Jvm.Pilot.@@N@@
namespace Jvm.Pilot.@@N@@
open Jvm Jvm.ClassFile Sem Op Lib Jvm.Free Jvm.Stand Jvm.Pilot.@@N@@.Jvm.D
/-! MADE BY PROGRAM (witnessworld.py) out of the Statement's table words and the real class files: 12 classes; the members and pool entries that the words name. The judged class is class 1, her method 1. -/
namespace start1
open Jvm.ClassFile
def u (s : String) : CpInfo := .utf8 (stringToUtf16 s)
/-- a pool by its gaps: so many unusable entries, then the entry; so many at the end -/
def gap : Nat → List CpInfo → List CpInfo
  | 0, r => r
  | n + 1, r => .unusable :: gap n r
def poolList (es : List (Nat × CpInfo)) (last : Nat) : List CpInfo := es.foldr (fun e r => gap e.1 (e.2 :: r)) (gap last [])
def pool (es : List (Nat × CpInfo)) (last : Nat) : Array CpInfo := ⟨poolList es last⟩
def fileOf (pool : Array CpInfo) (this : Nat) (attrs : Array Attribute := #[]) (ms : Array MethodInfo := #[]) (fl : Nat := 33) (sup : Nat := 0) (ifs : Array Nat := #[]) (fds : Array FieldInfo := #[]) : ClassFile where
  minorVersion := 0
  majorVersion := 65
  constantPool := pool
  accessFlags := fl
  thisClass := this
  superClass := sup
  interfaces := ifs
  fields := fds
  methods := ms
  attributes := attrs
def plain (name : String) (sup : Option ClassId) : Class where
  name := name
  kind := .ordinary
  loader := none
  accessFlags := 33
  super := sup
  interfaces := #[]
  cf := none
  fields := #[]
  methods := #[]
  instanceTypes := #[]
  staticTypes := #[]
  resolved := #[]
  callSites := []
  init := .initialized
  statics := none
  mirror := none

def pool0 : Array CpInfo := pool [(5, u "<init>"), (0, u "()V"), (1, .class_ 10), (1, u "java/lang/Object")] 113

def k0m0 : Method := { name := "<init>", desc := "()V", sig := { parameters := [], returnType := none }, accessFlags := 1, code := none }
/-- java/lang/Object -/
def k0 : Class := { plain "java/lang/Object" none with
  accessFlags := 33
  interfaces := #[]
  cf := some (fileOf pool0 8 #[] #[{ accessFlags := 1, nameIndex := 5, descriptorIndex := 6, attributes := #[] }] 33 0 #[] #[])
  fields := #[]
  methods := #[k0m0]
  instanceTypes := #[]
  staticTypes := #[]
  resolved := Array.replicate 124 none
  statics := none }

def pool1 : Array CpInfo := pool [(2, .class_ 4), (1, u "java/lang/Object"), (0, u "<init>"), (0, u "()V"), (0, .integer 2147483647), (0, .fieldref 9 10), (0, .class_ 11), (0, .nameAndType 12 13), (0, u "com/example/libpubid/libpubid/resolution/SharedCacheCall"), (0, u "READ"), (0, u "Lcom/example/libpubid/libpubid/resolution/SharedCacheCall;"), (0, .fieldref 9 15), (0, .nameAndType 16 13), (0, u "WRITE"), (0, .fieldref 9 18), (0, .nameAndType 19 13), (0, u "EVICT"), (0, .methodref 9 21), (0, .nameAndType 22 23), (0, u "answeringBits"), (0, u "()I"), (0, .class_ 25), (0, u "com/example/libpubid/libpubid/resolution/SharedCacheCallAnsweringBitsPinLaw"), (2, u "law"), (0, u "(I)Z")] 3

def k1m0 : Method := { name := "<init>", desc := "()V", sig := { parameters := [], returnType := none }, accessFlags := 1, code := none }
def k1c1 : Code := { maxStack := 2, maxLocals := 4, code := code, exceptionTable := #[], attributes := #[] }
def k1m1 : Method := { name := "law", desc := "(I)Z", sig := { parameters := [.int], returnType := some .boolean }, accessFlags := 9, code := some k1c1 }
/-- com/example/libpubid/libpubid/resolution/SharedCacheCallAnsweringBitsPinLaw -/
def k1 : Class := { plain "com/example/libpubid/libpubid/resolution/SharedCacheCallAnsweringBitsPinLaw" (some 0) with
  accessFlags := 49
  interfaces := #[]
  cf := some (fileOf pool1 24 #[] #[{ accessFlags := 1, nameIndex := 5, descriptorIndex := 6, attributes := #[] }, { accessFlags := 9, nameIndex := 28, descriptorIndex := 29, attributes := #[] }] 49 2 #[] #[])
  fields := #[]
  methods := #[k1m0, k1m1]
  instanceTypes := #[]
  staticTypes := #[]
  resolved := Array.replicate 33 none
  statics := none }

def pool2 : Array CpInfo := pool [(1, .class_ 2), (0, u "java/lang/constant/Constable"), (0, .class_ 4), (0, u "java/lang/Object")] 6

/-- java/lang/constant/Constable -/
def k2 : Class := { plain "java/lang/constant/Constable" (some 0) with
  accessFlags := 1537
  interfaces := #[]
  cf := some (fileOf pool2 1 #[] #[] 1537 3 #[] #[])
  fields := #[]
  methods := #[]
  instanceTypes := #[]
  staticTypes := #[]
  resolved := Array.replicate 11 none
  statics := none }

def pool3 : Array CpInfo := pool [(1, .class_ 2), (0, u "java/lang/Comparable"), (0, .class_ 4), (0, u "java/lang/Object")] 7

/-- java/lang/Comparable -/
def k3 : Class := { plain "java/lang/Comparable" (some 0) with
  accessFlags := 1537
  interfaces := #[]
  cf := some (fileOf pool3 1 #[] #[] 1537 3 #[] #[])
  fields := #[]
  methods := #[]
  instanceTypes := #[]
  staticTypes := #[]
  resolved := Array.replicate 12 none
  statics := none }

def pool4 : Array CpInfo := pool [(1, .class_ 2), (0, u "java/io/Serializable"), (0, .class_ 4), (0, u "java/lang/Object")] 2

/-- java/io/Serializable -/
def k4 : Class := { plain "java/io/Serializable" (some 0) with
  accessFlags := 1537
  interfaces := #[]
  cf := some (fileOf pool4 1 #[] #[] 1537 3 #[] #[])
  fields := #[]
  methods := #[]
  instanceTypes := #[]
  staticTypes := #[]
  resolved := Array.replicate 7 none
  statics := none }

def pool5 : Array CpInfo := pool [(2, .class_ 4), (1, u "java/lang/Enum"), (0, u "name"), (0, u "Ljava/lang/String;"), (0, .fieldref 2 8), (0, .nameAndType 9 10), (0, u "ordinal"), (0, u "I"), (1, .class_ 14), (1, u "java/lang/Object"), (4, u "hash"), (86, .class_ 108), (1, u "java/lang/Enum$EnumDesc"), (2, .class_ 112), (0, u "java/lang/constant/Constable"), (0, .class_ 114), (0, u "java/lang/Comparable"), (0, .class_ 116), (0, u "java/io/Serializable"), (9, u "()I")] 77

def k5c0 : Code := { maxStack := 1, maxLocals := 1, code := jdk_37_method_2_code, exceptionTable := #[], attributes := #[] }
def k5m0 : Method := { name := "ordinal", desc := "()I", sig := { parameters := [], returnType := some .int }, accessFlags := 17, code := some k5c0 }
/-- java/lang/Enum -/
def k5 : Class := { plain "java/lang/Enum" (some 0) with
  accessFlags := 1057
  interfaces := #[2, 3, 4]
  cf := some (fileOf pool5 2 #[.nestMembers #[106]] #[{ accessFlags := 17, nameIndex := 9, descriptorIndex := 126, attributes := #[] }] 1057 12 #[111, 113, 115] #[{ accessFlags := 18, nameIndex := 5, descriptorIndex := 6, attributes := #[] }, { accessFlags := 18, nameIndex := 9, descriptorIndex := 10, attributes := #[] }, { accessFlags := 2, nameIndex := 19, descriptorIndex := 10, attributes := #[] }])
  fields := #[{ name := "name", type := (.object "java/lang/String"), accessFlags := 18, slot := 0, constantValue := 0 }, { name := "ordinal", type := .int, accessFlags := 18, slot := 1, constantValue := 0 }, { name := "hash", type := .int, accessFlags := 2, slot := 2, constantValue := 0 }]
  methods := #[k5m0]
  instanceTypes := #[(.object "java/lang/String"), .int, .int]
  staticTypes := #[]
  resolved := Array.replicate 204 none
  statics := none }

def pool6 : Array CpInfo := pool [(1, .class_ 2), (0, u "com/example/libpubid/libpubid/resolution/SharedCacheCall"), (2, u "READ"), (0, u "Lcom/example/libpubid/libpubid/resolution/SharedCacheCall;"), (0, .fieldref 1 8), (0, .nameAndType 9 6), (0, u "WRITE"), (0, .fieldref 1 11), (0, .nameAndType 12 6), (0, u "EVICT"), (2, u "$VALUES"), (0, u "[Lcom/example/libpubid/libpubid/resolution/SharedCacheCall;"), (6, .class_ 25), (1, u "java/lang/Enum"), (8, u "failureMessage"), (0, u "Ljava/lang/String;"), (0, .methodref 1 37), (0, .nameAndType 38 39), (0, u "ordinal"), (0, u "()I"), (0, .methodref 1 41), (0, .nameAndType 42 39), (0, u "bit"), (23, u "answeringBits")] 7

def k6c0 : Code := { maxStack := 2, maxLocals := 1, code := prog_23_method_4_code, exceptionTable := #[], attributes := #[] }
def k6m0 : Method := { name := "bit", desc := "()I", sig := { parameters := [], returnType := some .int }, accessFlags := 0, code := some k6c0 }
def k6c1 : Code := { maxStack := 2, maxLocals := 1, code := prog_23_method_5_code, exceptionTable := #[], attributes := #[] }
def k6m1 : Method := { name := "answeringBits", desc := "()I", sig := { parameters := [], returnType := some .int }, accessFlags := 0, code := some k6c1 }
/-- com/example/libpubid/libpubid/resolution/SharedCacheCall -/
def k6 : Class := { plain "com/example/libpubid/libpubid/resolution/SharedCacheCall" (some 5) with
  accessFlags := 16433
  interfaces := #[]
  cf := some (fileOf pool6 1 #[] #[{ accessFlags := 0, nameIndex := 42, descriptorIndex := 39, attributes := #[] }, { accessFlags := 0, nameIndex := 66, descriptorIndex := 39, attributes := #[] }] 16433 23 #[] #[{ accessFlags := 16409, nameIndex := 5, descriptorIndex := 6, attributes := #[] }, { accessFlags := 16409, nameIndex := 9, descriptorIndex := 6, attributes := #[] }, { accessFlags := 16409, nameIndex := 12, descriptorIndex := 6, attributes := #[] }, { accessFlags := 18, nameIndex := 34, descriptorIndex := 35, attributes := #[] }, { accessFlags := 4122, nameIndex := 15, descriptorIndex := 16, attributes := #[] }])
  fields := #[{ name := "READ", type := (.object "com/example/libpubid/libpubid/resolution/SharedCacheCall"), accessFlags := 16409, slot := 0, constantValue := 0 }, { name := "WRITE", type := (.object "com/example/libpubid/libpubid/resolution/SharedCacheCall"), accessFlags := 16409, slot := 1, constantValue := 0 }, { name := "EVICT", type := (.object "com/example/libpubid/libpubid/resolution/SharedCacheCall"), accessFlags := 16409, slot := 2, constantValue := 0 }, { name := "failureMessage", type := (.object "java/lang/String"), accessFlags := 18, slot := 3, constantValue := 0 }, { name := "$VALUES", type := (.array (.object "com/example/libpubid/libpubid/resolution/SharedCacheCall")), accessFlags := 4122, slot := 3, constantValue := 0 }]
  methods := #[k6m0, k6m1]
  instanceTypes := #[(.object "java/lang/String"), .int, .int, (.object "java/lang/String")]
  staticTypes := #[(.object "com/example/libpubid/libpubid/resolution/SharedCacheCall"), (.object "com/example/libpubid/libpubid/resolution/SharedCacheCall"), (.object "com/example/libpubid/libpubid/resolution/SharedCacheCall"), (.array (.object "com/example/libpubid/libpubid/resolution/SharedCacheCall"))]
  resolved := Array.replicate 74 none
  statics := some 0 }

def pool7 : Array CpInfo := pool [(1, u "java/lang/Cloneable"), (0, .class_ 1), (0, u "java/lang/Object"), (0, .class_ 3)] 3

/-- java/lang/Cloneable -/
def k7 : Class := { plain "java/lang/Cloneable" (some 0) with
  accessFlags := 1537
  interfaces := #[]
  cf := some (fileOf pool7 2 #[] #[] 1537 4 #[] #[])
  fields := #[]
  methods := #[]
  instanceTypes := #[]
  staticTypes := #[]
  resolved := Array.replicate 8 none
  statics := none }

/-- the primitive byte -/
def k8 : Class := { plain "byte" none with kind := .primitive 'B', accessFlags := 0x411 }
/-- [B -/
def k9 : Class := { plain "[B" (some 0) with kind := .array 8 .byte, interfaces := #[7, 4], accessFlags := 1041 }

/-- the primitive int -/
def k10 : Class := { plain "int" none with kind := .primitive 'I', accessFlags := 0x411 }
/-- [I -/
def k11 : Class := { plain "[I" (some 0) with kind := .array 10 .int, interfaces := #[7, 4], accessFlags := 1041 }

def heap : Heap := #[{ cls := 6, slots := #[.ref 1, .ref 2, .ref 3, .null], vm := .statics 6 },
  { cls := 6, slots := #[.null, .int 0, .int 0, .null], vm := .none },
  { cls := 6, slots := #[.null, .int 1, .int 0, .null], vm := .none },
  { cls := 6, slots := #[.null, .int 2, .int 0, .null], vm := .none }]
def classes : Array Class := #[k0, k1, k2, k3, k4, k5, k6, k7, k8, k9, k10, k11]
def interned : List (Array UInt16 × Addr) := []
def slotsUsed : Nat := 16
def theMethod : MethodId := ⟨1, 1⟩
def args0 : Array Value := #[.int 5]
def aboutOver (below : List Frame) : State where
  vm := { classes := classes, interned := interned.toArray }
  heap := heap
  slotsUsed := slotsUsed
  threads := #[{ frames := .invoking theMethod args0 :: below }]
def below0 : List Frame := [.native { method := ⟨0, 0⟩, args := #[] }]
def about1 : State := aboutOver below0
def p0 : Program := .bare "" "" ""
def e0 : Env := launch0.env 0 0 0
theorem w_frames : about1.frames = Frame.invoking theMethod args0 :: below0 := rfl
set_option maxRecDepth 65536 in
theorem w_args : argsFit about1.vm theMethod args0 = true := by decide +kernel
set_option maxRecDepth 65536 in
theorem w_heap : heapFits about1 = true := by decide +kernel
set_option maxRecDepth 65536 in
theorem w_runnable : about1.curStatus? = some .runnable := by decide +kernel
set_option maxRecDepth 65536 in
theorem w_alone : about1.alone = true := by decide +kernel
set_option maxRecDepth 65536 in
theorem w_named : about1.methodNamed? x = some theMethod := by decide +kernel
set_option maxRecDepth 65536 in
theorem w_hears : about1.hears theMethod below0 = true := by decide +kernel
set_option maxRecDepth 65536 in
theorem w_ripe : about1.ripe theMethod args0 below0 = true := by decide +kernel
theorem w_running : about1.status = .running := rfl
set_option maxRecDepth 65536 in
theorem w_room : about1.hasRoom e0.platform room_1 = true :=
  launch0.hasRoom_least _ room_1 (by decide +kernel) (by decide +kernel) (by decide +kernel) (by decide +kernel) (by decide +kernel) (by decide +kernel)
theorem allAtoms_all (ts : List Jvm.Cond) (a : Array Jvm.Value) (st : Jvm.State) : (allAtoms ts).before a st = ts.all (fun c => c.before a st) := by
  induction ts with
  | nil => rfl
  | cons c t ih =>
    show (Jvm.Cond.and c (allAtoms t)).before a st = _
    rw [Jvm.Cond.before_and, ih, List.all_cons]
def words1 : List Jvm.Cond := Jvm.Cond.code x code maxLocals ret :: tables_1
/-- a 'code' word, met by the world's own term for the bytes: nothing is compared byte by byte -/
theorem code_word {y : MethodName} {bytes : ByteArray} {mx : Nat} {rt : Option FieldType} {a : Array Value} {s : State} {m : MethodId} {meth : Method} {c : Code} (h1 : s.methodNamed? y = some m) (h2 : s.vm.method? m = some meth) (h3 : meth.code = some c) (h4 : c.code = bytes)
    (h5 : (c.maxLocals == mx && c.exceptionTable.isEmpty && decide (c.maxStack ≤ mostOperands) && decide (meth.sig.returnType = rt) && !meth.locks && decide (parseMethodDescriptor y.desc = some meth.sig)) = true) : (Jvm.Cond.code y bytes mx rt).before a s = true := by
  simp only [Bool.and_eq_true, beq_iff_eq, Bool.not_eq_true', decide_eq_true_eq] at h5
  obtain ⟨⟨⟨⟨⟨g1, g2⟩, g3⟩, g4⟩, g5⟩, g6⟩ := h5
  simp [Cond.before, Cond.holds, Cond.value, h1, h2, h3, h4, g1, g2, g3, g4, g5, g6]
def isCode : Jvm.Cond → Bool
  | .code _ _ _ _ => true
  | _ => false
theorem all_split {L : List Jvm.Cond} {P : Jvm.Cond → Bool} (h1 : L.all (fun c => isCode c || P c) = true) (h2 : ∀ c ∈ L.filter isCode, P c = true) : L.all P = true := by
  refine List.all_eq_true.mpr fun c hc => ?_
  have h := List.all_eq_true.mp h1 c hc
  rcases Bool.eq_false_or_eq_true (isCode c) with hi | hi
  · exact h2 c (List.mem_filter.mpr ⟨hc, hi⟩)
  · simpa [hi] using h
set_option maxRecDepth 65536 in
theorem w_c0 : (Jvm.Cond.code x code maxLocals ret).before args0 about1 = true := code_word (m := ⟨1, 1⟩) (meth := k1m1) (c := k1c1) (by decide +kernel) rfl rfl rfl (by decide +kernel)
set_option maxRecDepth 65536 in
theorem w_c1 : (Jvm.Cond.code ({ cls := "com/example/libpubid/libpubid/resolution/SharedCacheCall", name := "answeringBits", desc := "()I" } : Jvm.MethodName) prog_23_method_5_code (1 : Nat) (Option.some Jvm.ClassFile.FieldType.int)).before args0 about1 = true := code_word (m := ⟨6, 1⟩) (meth := k6m1) (c := k6c1) (by decide +kernel) rfl rfl rfl (by decide +kernel)
set_option maxRecDepth 65536 in
theorem w_c2 : (Jvm.Cond.code ({ cls := "com/example/libpubid/libpubid/resolution/SharedCacheCall", name := "bit", desc := "()I" } : Jvm.MethodName) prog_23_method_4_code (1 : Nat) (Option.some Jvm.ClassFile.FieldType.int)).before args0 about1 = true := code_word (m := ⟨6, 0⟩) (meth := k6m0) (c := k6c0) (by decide +kernel) rfl rfl rfl (by decide +kernel)
set_option maxRecDepth 65536 in
theorem w_c3 : (Jvm.Cond.code ({ cls := "java/lang/Enum", name := "ordinal", desc := "()I" } : Jvm.MethodName) jdk_37_method_2_code (1 : Nat) (Option.some Jvm.ClassFile.FieldType.int)).before args0 about1 = true := code_word (m := ⟨5, 0⟩) (meth := k5m0) (c := k5c0) (by decide +kernel) rfl rfl rfl (by decide +kernel)
def codes1 : List Jvm.Cond := [Jvm.Cond.code x code maxLocals ret, Jvm.Cond.code ({ cls := "com/example/libpubid/libpubid/resolution/SharedCacheCall", name := "answeringBits", desc := "()I" } : Jvm.MethodName) prog_23_method_5_code (1 : Nat) (Option.some Jvm.ClassFile.FieldType.int), Jvm.Cond.code ({ cls := "com/example/libpubid/libpubid/resolution/SharedCacheCall", name := "bit", desc := "()I" } : Jvm.MethodName) prog_23_method_4_code (1 : Nat) (Option.some Jvm.ClassFile.FieldType.int), Jvm.Cond.code ({ cls := "java/lang/Enum", name := "ordinal", desc := "()I" } : Jvm.MethodName) jdk_37_method_2_code (1 : Nat) (Option.some Jvm.ClassFile.FieldType.int)]
set_option maxRecDepth 65536 in
theorem codes_eq : words1.filter isCode = codes1 := rfl
theorem w_codes : ∀ c ∈ words1.filter isCode, c.before args0 about1 = true := by
  rw [codes_eq]
  intro c hc
  simp only [codes1, List.mem_cons, List.not_mem_nil, or_false] at hc
  rcases hc with rfl | rfl | rfl | rfl
  · exact w_c0
  · exact w_c1
  · exact w_c2
  · exact w_c3
set_option maxRecDepth 65536 in
theorem w_t1 : (words1.take 24).all (fun c => isCode c || c.before args0 about1) = true := by decide +kernel
set_option maxRecDepth 65536 in
theorem w_t2 : (words1.drop 24).all (fun c => isCode c || c.before args0 about1) = true := by decide +kernel
theorem w_tables : (allAtoms (Jvm.Cond.code x code maxLocals ret :: tables_1)).before args0 about1 = true := by
  rw [allAtoms_all]
  show words1.all (fun c => c.before args0 about1) = true
  refine all_split ?_ w_codes
  rw [← List.take_append_drop 24 words1, List.all_append, w_t1, w_t2]
  rfl
set_option maxRecDepth 65536 in
theorem w_case : (Jvm.Cond.and given_1 narrow_1).before args0 about1 = true := by decide +kernel
theorem w_applies : (headSpec (Jvm.Cond.code x code maxLocals ret :: tables_1) room_1).applies x e0.platform about1 = true :=
  (Spec.applies_iff w_frames).mpr ⟨w_running, w_runnable, w_alone, w_named, w_hears, w_ripe, w_room, w_tables⟩
theorem atStart : AtStart classFile x code maxLocals ret World_1 tables_1 room_1 Calls_1 rest_1 Pre_1 launch0 p0 e0 about1 theMethod args0 below0 :=
  ⟨lists_1, trivial, launch0.admits_env _ _ _, launch0.least_env, fairChoices_fair.cas, fairChoices_fair.clock, w_frames, w_args, w_heap, w_applies, trivial, trivial, w_case⟩
end start1
theorem witness_1 : WitnessClaimed_1 := ⟨start1.p0, start1.e0, start1.about1, start1.theMethod, start1.args0, start1.below0, start1.atStart⟩
end Jvm.Pilot.@@N@@
