import JvmDerived
import JvmDerived.Pilot.@@N@@Statement
import JvmDerived.Pilot.@@N@@Code
set_option linter.unusedVariables false
set_option linter.unusedSimpArgs false
set_option maxRecDepth 65536
set_option maxHeartbeats 40000000
namespace Jvm.Pilot.@@N@@
open Jvm Jvm.ClassFile Sem Op Lib Jvm.Free Jvm.Stand Jvm.LawKit Jvm.RoadKit Bundle Jvm.Pilot.@@N@@.Jvm.D
/-! own: the walk by continuation -/
def Go (p : Program) (e : Env) (below : List Frame) (A : State) (G : Outcome → State → Prop) : Prop :=
  ∃ s₂ o, Steps p.tables e below A s₂ ∧ s₂.status = .running ∧ Ended s₂ below o ∧ G o s₂
section Own
variable {p : Program} {l : Launch} {e : Env} {R : Room} {s : State} {m : MethodId} {args : Array Value} {below : List Frame} {meth : Method} {c : Code} {T : State} {locs : List Loc} {cells slots : Nat} {G : Outcome → State → Prop} {A B : State}
theorem go_of (h : ∀ t, Steps p.tables e below B t → Steps p.tables e below A t) (k : Go p e below B G) : Go p e below A G := by
  obtain ⟨s₂, o, h1, h2⟩ := k; exact ⟨s₂, o, h _ h1, h2⟩
theorem go_tr (h : Steps p.tables e below A B) (k : Go p e below B G) : Go p e below A G := go_of (fun _ q => h.trans q) k
theorem go_end (X : Stand p l e R s m args below meth c T locs cells slots) {v : Option Value} (hv : meth.sig.returnType = none → v = none) (hlocks : meth.locks = false) {C S : Nat} (hc : cells ≤ C) (hs : slots ≤ S)
    {Q : Option Value → Heap → List Loc → Prop} (hQ : Q v T.heap locs) {f : JFrame}
    (st : ∀ fs, (∀ (f : JFrame) (acts : List Action), f.method = m → f.locked = none → f.entered = [] → (doReturn e (T.setTop f) acts v).1 = T.setFrames fs) → Steps p.tables e below (T.setTop f) (T.setFrames fs)) :
    Go p e below (T.setTop f) (fun o U' => ∃ v L, o = .returned v ∧ Q v U'.heap L ∧ FrameEnd s o U' L C S) := by
  obtain ⟨fs, hr, hrun, hended, hW, hsame⟩ := X.leave (v := v) hv hlocks
  exact ⟨_, _, st fs hr, hrun, hended, _, _, rfl, hQ, ⟨_, rfl⟩, hW, hsame.mono hc hs⟩
theorem go_endW {vm : Vm} (X : Stand p l e R (s.setVm vm) m args below meth c T locs cells slots) {k : Nat} (hS : s.Since vm k) (hk : k ≤ T.heap.size) {v : Option Value} (hv : meth.sig.returnType = none → v = none) (hlocks : meth.locks = false) {C S : Nat} (hc : cells ≤ C) (hs : slots ≤ S)
    {Q : Option Value → Heap → List Loc → Prop} (hQ : Q v T.heap locs) {f : JFrame}
    (st : ∀ fs, (∀ (f : JFrame) (acts : List Action), f.method = m → f.locked = none → f.entered = [] → (doReturn e (T.setTop f) acts v).1 = T.setFrames fs) → Steps p.tables e below (T.setTop f) (T.setFrames fs)) :
    Go p e below (T.setTop f) (fun o U' => ∃ v L, o = .returned v ∧ Q v U'.heap L ∧ ReturnedEndW s o U' L C S) := by
  obtain ⟨fs, hr, hrun, hended, e1, e2, e3, e4⟩ := X.leaveW hS hk (v := v) hv hlocks
  exact ⟨_, _, st fs hr, hrun, hended, _, _, rfl, hQ, e1, e2, e3, e4.mono hc hs⟩
theorem go_endH {Z : State} {a0 : Array Value} {EL : List (String × Nat)} {vm : Vm} {h0 h1 : Heap} (X : Stand p l e R (s.setVm vm) m args below meth c T locs cells slots) (hZ : Z.Warmed39 vm) (hEL : EW Z a0 EL) (HC : CHr Z EL s.vm h0 vm h1) (hh : s.heap = h0) (eT : T.heap = h1) {k : Nat} (hS : s.Since vm k) (hk : k ≤ T.heap.size) {v : Option Value} (hv : meth.sig.returnType = none → v = none) (hlocks : meth.locks = false) {C S : Nat} (hc : cells ≤ C) (hs : slots ≤ S)
    {Q : Option Value → Heap → List Loc → Prop} (hQ : Q v T.heap locs) {f : JFrame}
    (st : ∀ fs, (∀ (f : JFrame) (acts : List Action), f.method = m → f.locked = none → f.entered = [] → (doReturn e (T.setTop f) acts v).1 = T.setFrames fs) → Steps p.tables e below (T.setTop f) (T.setFrames fs)) :
    Go p e below (T.setTop f) (fun o U' => ∃ v L, o = .returned v ∧ Q v U'.heap L ∧ CHr Z EL s.vm s.heap U'.vm U'.heap ∧ ReturnedEndW s o U' L C S) := by
  obtain ⟨fs, hr, hrun, hended, e1, e2, e3, e4⟩ := X.leaveW hS hk (v := v) hv hlocks
  refine ⟨_, _, st fs hr, hrun, hended, _, _, rfl, hQ, ?_, e1, e2, e3, e4.mono hc hs⟩
  subst hh eT
  have q := HC.trans (CHv.at X hZ hEL HC.1)
  exact q
theorem own_retI (X : Stand p l e R s m args below meth c T locs cells slots) (hx : p.tables.exec = Jvm.exec) {pc : Nat} {Ls : Array Slot} {z : Int32} {rest : List Value} (hret : meth.sig.returnType = some .int) (hd : decode c.code pc = .ok (.ireturn, 1)) {fs : List Frame}
    (hl : ∀ (f : JFrame) (acts : List Action), f.method = m → f.locked = none → f.entered = [] → (doReturn e (T.setTop f) acts (some (.int z))).1 = T.setFrames fs) : Steps p.tables e below (T.setTop (mkF m pc Ls (.int z :: rest))) (T.setFrames fs) :=
  retOut X hx hret rfl (Or.inl ⟨rfl, Or.inl rfl, _, rfl⟩) hd hl
theorem own_retL (X : Stand p l e R s m args below meth c T locs cells slots) (hx : p.tables.exec = Jvm.exec) {pc : Nat} {Ls : Array Slot} {z : Int64} {rest : List Value} (hret : meth.sig.returnType = some .long) (hd : decode c.code pc = .ok (.lreturn, 1)) {fs : List Frame}
    (hl : ∀ (f : JFrame) (acts : List Action), f.method = m → f.locked = none → f.entered = [] → (doReturn e (T.setTop f) acts (some (.long z))).1 = T.setFrames fs) : Steps p.tables e below (T.setTop (mkF m pc Ls (.long z :: rest))) (T.setFrames fs) :=
  retOut X hx hret rfl (Or.inr (Or.inl ⟨rfl, rfl, _, rfl⟩)) hd hl
theorem own_retA (X : Stand p l e R s m args below meth c T locs cells slots) (hx : p.tables.exec = Jvm.exec) {pc : Nat} {Ls : Array Slot} {w : Value} {t : FieldType} {rest : List Value} (hret : meth.sig.returnType = some t) (ht : t.isReference = true) (hw : w.isRef = true) (hd : decode c.code pc = .ok (.areturn, 1)) {fs : List Frame}
    (hl : ∀ (f : JFrame) (acts : List Action), f.method = m → f.locked = none → f.entered = [] → (doReturn e (T.setTop f) acts (some w)).1 = T.setFrames fs) : Steps p.tables e below (T.setTop (mkF m pc Ls (w :: rest))) (T.setFrames fs) :=
  retOut X hx hret (by cases t <;> first | rfl | (cases ht; done)) (Or.inr (Or.inr (Or.inr (Or.inr ⟨rfl, ht, hw⟩)))) hd hl
theorem own_fldI {t : Term} {C n d : String} {k : Int32} {a : Addr} (ev : t.eval args s none [] s = some (.ref a)) (h : (Jvm.Cond.eq (.field t C n d) (.int k)).value args s none s [] = some true) : Fld s s.heap a C n d (.int k) := by
  obtain ⟨x, y, h1, h2, -, kyx⟩ := cmp_v (Or.inl h)
  have e2 : y = .int k := (Option.some.inj (h2.symm.trans (Term.int_eval k)))
  subst e2
  obtain ⟨z, rfl⟩ := kyx
  have hz : z = k := by simpa [Cond.value, h1, Term.int_eval] using h
  subst hz
  rw [fld_at ev] at h1
  exact Fld.start h1
theorem own_tsw (X : Stand p l e R s m args below meth c T locs cells slots) (hexec : p.tables.exec = Jvm.exec) {g : JFrame} (hg : g.method = m) {k : Int32} {rest : List Value} (hstack : g.stack = .int k :: rest) {default low high : Int} {offsets : Array Int} {len pc0 pc' : Nat} (hpc : g.pc = pc0)
    (hdg : decode c.code g.pc = .ok (.tableswitch default low high offsets, len)) (ki : Int) (hk : k.toInt = ki) (hin : ¬ (ki < low ∨ ki > high)) (off : Int) (hoffs : offsets[(ki - low).toNat]? = some off) (hoff : 0 ≤ (pc0 : Int) + off) (hp : ((pc0 : Int) + off).toNat = pc') {target : State}
    (hr : Steps p.tables e below (T.setTop { g with pc := pc', stack := rest }) target) : Steps p.tables e below (T.setTop g) target := by
  subst hpc hk hp; exact X.tableswitchIn hexec hg hstack hdg hin hoffs hoff target hr
theorem own_ne {a b : Addr} (h : @Ne Nat a b) : a ≠ b := h
theorem own_lt {a b : Nat} (h : @LT.lt Nat instLTNat a b) : @LT.lt Nat instLTNat a b := h
theorem own_le {a b : Nat} (h : @LE.le Nat instLENat a b) : @LE.le Nat instLENat a b := h
theorem own_nlt {a : Addr} {n : Nat} (h : a < n) : @LT.lt Nat instLTNat a n := h
theorem own_nle {a : Nat} {b : Addr} (h : a ≤ b) : @LE.le Nat instLENat a b := h
theorem own_inskeep {Z : State} {h h' : Heap} {a : Addr} {C : String} {ws : List Addr} (F : Ins Z h a C true) (K : Keep h h' ws) : Ins Z h' a C true := by
  obtain ⟨cell, cT, h1, h2, h3⟩ := F; obtain ⟨c', q, r1, r2, -⟩ := K.2.2 a cell h1; exact ⟨c', cT, q, h2, by rw [r1, r2]; exact h3⟩
theorem own_inslt {Z : State} {h : Heap} {a : Addr} {C : String} {b : Bool} (F : Ins Z h a C b) : a < h.size := by obtain ⟨_, _, h1, -⟩ := F; exact (Array.getElem?_eq_some_iff.mp h1).1
theorem own_kx {h h' : Heap} (K : Keep h h' []) : Ext h h' := ⟨K.1, fun a c q => K.2.1 a c q nin0⟩
theorem own_cache {t : Term} {C : String} {q : Jvm.Cond} {cl : Cell} {a : Addr} {ty : FieldType} (ev : ∀ idx, t.eval args s none idx s = some (.ref a)) (Ar : Arr s s.heap a cl ty)
    (h : (Jvm.Cond.all t (.and (.exactly (.elem t (.index 0)) C) q)).value args s none s [] = some true) (hz : cl.slots.size = 256) : ∀ i, i < 256 → ∃ w, cl.slots[i]? = some (.ref w) ∧ Exa s s.heap w C := fun i hi => by
  have hat : s.arrayAt? a = some cl := Arr.fin (Vm.Alike.refl _) Ar
  have hv := Cond.all_elim (ev []) hat h i (by rw [hz]; exact hi)
  obtain ⟨h1, -⟩ := and_e hv
  obtain ⟨w, ew⟩ := exa_v h1
  have ex := exa_at ew h1
  obtain ⟨p1, p2⟩ := IntBox.place_nonneg i hi
  rw [elem_f (ev [i]) (j := i.toInt32) rfl hat p1, p2] at ew
  exact ⟨w, ew, ex⟩
theorem own_stev {C n d : String} {v : Value} (h : (Term.static C n d).eval args s none [] s = some v) (idx : List Nat) : (Term.static C n d).eval args s none idx s = some v := h
theorem own_len {t : Term} {a : Addr} {cl : Cell} {ty : FieldType} {k : Int32} (ev : t.eval args s none [] s = some (.ref a)) (Ar : Arr s s.heap a cl ty) (h : (Jvm.Cond.eq (.length t) (.int k)).value args s none s [] = some true) (hk : ¬ k < 0) : cl.slots.size = k.toNatClampNeg := by
  have hat : s.arrayAt? a = some cl := Arr.fin (Vm.Alike.refl _) Ar
  obtain ⟨x, y, h1, h2, -, kyx⟩ := cmp_v (Or.inl h)
  have e2 : y = .int k := (Option.some.inj (h2.symm.trans (Term.int_eval k)))
  subst e2
  obtain ⟨z, rfl⟩ := kyx
  have hz : z = k := by simpa [Cond.value, h1, Term.int_eval] using h
  subst hz
  have hl : cl.slots.size < 2 ^ 31 := by
    by_cases q : cl.slots.size < 2 ^ 31
    · exact q
    · simp [Term.eval, ev, hat, q] at h1
  rw [len_f ev hat hl] at h1
  have h3 : cl.slots.size.toInt32 = z := by simpa using h1
  rw [← h3]
  have h4 := len_toInt hl
  simp only [Int32.toNatClampNeg, h4]; rfl
end Own
abbrev TW (a0 : Array Value) (Z : State) : Prop := ∀ d ∈ tables_1, d.before a0 Z = true
abbrev own_MF (l : Launch) (Z : State) (y : MethodName) (bytes : ByteArray) (maxL : Nat) (ret : Option FieldType) (ws : List Jvm.Cond) (rm : Room) (A : Array Value) (h0 : Heap) (Q : Option Value → Heap → List Loc → Prop) : Prop := MetFree l y (head1 (Jvm.Cond.code y bytes maxL ret :: ws) rm) (fun a U => a = A ∧ Z.Warmed39 U.vm ∧ U.heap = h0) (fun _ _ _ _ _ => True) (fun _ U o U' => ∃ v L, o = .returned v ∧ Q v U'.heap L ∧ FrameEnd U o U' L rm.cells rm.slots)
abbrev own_MFW (l : Launch) (Z : State) (y : MethodName) (bytes : ByteArray) (maxL : Nat) (ret : Option FieldType) (ws : List Jvm.Cond) (rm : Room) (A : Array Value) (h0 : Heap) (Q : Option Value → Heap → List Loc → Prop) : Prop := MetFree l y (head1 (Jvm.Cond.code y bytes maxL ret :: ws) rm) (fun a U => a = A ∧ Z.Warmed39 U.vm ∧ U.heap = h0) (fun _ _ _ _ _ => True) (fun _ U o U' => ∃ v L, o = .returned v ∧ Q v U'.heap L ∧ ReturnedEndW U o U' L rm.cells rm.slots)
abbrev MN0 : MethodName := ⟨"com/example/holdfast/holdfast/ExclusiveNamesAnOwnerPinLaw", "ch", "(I)C"⟩
abbrev MN1 : MethodName := ⟨"com/example/holdfast/holdfast/HoldfastLock$Exclusive", "endMessage", "(Ljava/lang/String;Ljava/lang/String;)Ljava/lang/String;"⟩
abbrev MN2 : MethodName := ⟨"com/example/holdfast/holdfast/HoldfastLock$Exclusive", "namesAnOwner", "(Ljava/lang/String;)Z"⟩
abbrev MN3 : MethodName := ⟨"java/lang/AbstractStringBuilder", "append", "(Ljava/lang/String;)Ljava/lang/AbstractStringBuilder;"⟩
abbrev MN4 : MethodName := ⟨"java/lang/AbstractStringBuilder", "ensureCapacityInternal", "(I)V"⟩
abbrev MN5 : MethodName := ⟨"java/lang/AbstractStringBuilder", "getValue", "()[B"⟩
abbrev MN6 : MethodName := ⟨"java/lang/AbstractStringBuilder", "inflateIfNeededFor", "(Ljava/lang/String;)V"⟩
abbrev MN7 : MethodName := ⟨"java/lang/AbstractStringBuilder", "isLatin1", "()Z"⟩
abbrev MN8 : MethodName := ⟨"java/lang/AbstractStringBuilder", "length", "()I"⟩
abbrev MN9 : MethodName := ⟨"java/lang/AbstractStringBuilder", "putStringAt", "(ILjava/lang/String;)V"⟩
abbrev MN10 : MethodName := ⟨"java/lang/Math", "max", "(II)I"⟩
abbrev MN11 : MethodName := ⟨"java/lang/Math", "min", "(II)I"⟩
abbrev MN12 : MethodName := ⟨"java/lang/String", "<init>", "([C)V"⟩
abbrev MN13 : MethodName := ⟨"java/lang/String", "<init>", "([CIILjava/lang/Void;)V"⟩
abbrev MN14 : MethodName := ⟨"java/lang/String", "coder", "()B"⟩
abbrev MN15 : MethodName := ⟨"java/lang/String", "getBytes", "([BIB)V"⟩
abbrev MN16 : MethodName := ⟨"java/lang/String", "indexOf", "(I)I"⟩
abbrev MN17 : MethodName := ⟨"java/lang/String", "indexOf", "(II)I"⟩
abbrev MN18 : MethodName := ⟨"java/lang/String", "isLatin1", "()Z"⟩
abbrev MN19 : MethodName := ⟨"java/lang/String", "length", "()I"⟩
abbrev MN20 : MethodName := ⟨"java/lang/String", "valueOf", "(C)Ljava/lang/String;"⟩
abbrev MN21 : MethodName := ⟨"java/lang/StringBuilder", "append", "(Ljava/lang/String;)Ljava/lang/StringBuilder;"⟩
abbrev MN22 : MethodName := ⟨"java/lang/StringBuilder", "toString", "()Ljava/lang/String;"⟩
abbrev MN23 : MethodName := ⟨"java/lang/StringLatin1", "canEncode", "(I)Z"⟩
abbrev MN24 : MethodName := ⟨"java/lang/StringLatin1", "indexOf", "([BIII)I"⟩
abbrev MN25 : MethodName := ⟨"java/lang/StringLatin1", "indexOfChar", "([BIII)I"⟩
abbrev MN26 : MethodName := ⟨"java/lang/StringUTF16", "coderFromArrayLen", "([BI)B"⟩
abbrev MN27 : MethodName := ⟨"java/lang/StringUTF16", "compress", "([CII)[B"⟩
abbrev MN28 : MethodName := ⟨"java/lang/StringUTF16", "compress", "([CI[BII)I"⟩
theorem own_wd {a0 : Array Value} {Z : State} (hw : TW a0 Z) (i : Nat) {d : Jvm.Cond} (h : tables_1[i]? = some d) : d.before a0 Z = true := hw _ (List.mem_of_getElem? h)
abbrev own_R (f c s l : Nat) : Room := { frames := f, cells := c, slots := s, locals := l }
theorem own_wS {a0 : Array Value} {Z : State} (hw : ∀ d ∈ tables_1, d.before a0 Z = true) : ∀ a ∈ Bundle.stringAtoms, a.before a0 Z = true := by
  intro a ha
  simp only [Bundle.stringAtoms, List.mem_cons, List.not_mem_nil, or_false] at ha
  rcases ha with rfl | rfl | rfl | rfl | rfl | rfl | rfl
  · exact hw _ (List.mem_of_getElem? (i := 7) rfl)
  · exact hw _ (List.mem_of_getElem? (i := 6) rfl)
  · exact hw _ (List.mem_of_getElem? (i := 20) rfl)
  · exact hw _ (List.mem_of_getElem? (i := 21) rfl)
  · exact hw _ (List.mem_of_getElem? (i := 22) rfl)
  · exact hw _ (List.mem_of_getElem? (i := 23) rfl)
  · exact hw _ (List.mem_of_getElem? (i := 24) rfl)
theorem own_fI {a0 : Array Value} {Z : State} {K : String} {n : Nat} (w : (Cond.instantiable K n).before a0 Z = true) : ∃ t k, Z.vm.findClass K = some t ∧ Z.vm.classes[t]? = some k ∧ k.kind = .ordinary ∧ k.isInterface = false := by
  obtain ⟨c, k, h1, h2, h3, h4, -⟩ := Cond.instantiable_spec w
  exact ⟨c, k, h1, h2, h3, by cases q : k.isInterface <;> simp_all⟩
theorem own_nsroot {a0 : Array Value} {Z : State} {O K : String} {n : Nat} (w : (Cond.noSuperclass O).before a0 Z = true) (wk : (Cond.instantiable K n).before a0 Z = true) (hn : O ≠ K) : NS Z O K := by
  obtain ⟨c, k, h1, h2, h3, -, -⟩ := Cond.noSuperclass_spec w
  obtain ⟨t, kt, g1, -⟩ := own_fI wk
  have ne := ids_ne h1 g1 hn
  refine ⟨c, t, h1, g1, fun fuel => ?_⟩
  cases fuel with
  | zero => rfl
  | succ f => simp [Vm.isSubclassAux, ne, h2, h3]
theorem own_nsno {a0 : Array Value} {Z : State} {C S K : String} {n : Nat} (w : (Cond.superclass C S).before a0 Z = true) (wk : (Cond.instantiable K n).before a0 Z = true) (nn : NS Z C K) (hn : C ≠ K) : ∃ c t, Z.vm.findClass C = some c ∧ Z.vm.findClass K = some t ∧ Z.vm.assignable c t = false := by
  obtain ⟨c, t, h0, g0, n3⟩ := nn
  obtain ⟨p, k, kp, h1, h2, h3, h4, h5, -, h7⟩ := Cond.superclass_spec h0 w
  obtain ⟨t', k', g1, g2, g5, g7⟩ := own_fI wk
  cases g0.symm.trans g1
  have ne := ids_ne h0 g0 hn
  refine ⟨c, t, h0, g0, ?_⟩
  show Z.vm.assignableAux (255 + 1) c t = false
  simp [Vm.assignableAux, ne, h2, g2, h5, g5, g7, Vm.isSubclass, n3]

theorem own_safe_null {Z : State} {EL : List (String × Nat)} {vm : Vm} {h : Heap} {x : Addr} (hal : Z.vm.Alike vm) (E : Exa Z h x "java/lang/String") (F : Fld Z h x "java/lang/String" "value" "[B" .null) : Safe Z EL vm h x := fun B => by
  obtain ⟨p, -, u, a, -, q, -, G, rfl | rfl⟩ := B
  · obtain ⟨cS, ⟨⟨s1, s2, s3, ⟨cv, kv, iv, s4, s4'⟩, ⟨cc, kc, ic, s5, s5'⟩, s6, s7, s8, -⟩, hfS, hcS⟩, -⟩ := G
    obtain ⟨cell, cf, k, i, f, f1, f2, f3, f4, f5, f6, f7⟩ := F
    obtain ⟨kv', z4⟩ := ff_back (U := Wst Z vm h) hal s4
    cases (show h[q.sa]? = some q.sC from s1).symm.trans f1
    cases z4.symm.trans f2
    cases s8.symm.trans f7
  · obtain ⟨cell, k, e1, e2, e3, -, -⟩ := E
    cases (show h[q.sd]? = some q.SA from G.hd).symm.trans e1
    obtain ⟨cS, -, -, f, -⟩ := G
    have f' : vm.findClass "[B" = some q.SA.cls := f
    rw [hal.findClass] at f'
    exact ids_ne f' e2 (by decide) rfl
theorem own_safe_arv {Z : State} {EL : List (String × Nat)} {vm : Vm} {h : Heap} {x : Addr} {k : ClassId} {ty : FieldType} {n : Int32} {vs : List Value} {d : Value} (hal : Z.vm.Alike vm) (A : Arv Z h x k ty n vs d) (ht : ty ≠ .byte) : Safe Z EL vm h x := by
  obtain ⟨cl, Ar, -⟩ := A; exact Safe.arr hal Ar ht
/-- an ordinary object that is no String -/
def Ord (Z : State) (h : Heap) (o : Addr) : Prop := ∃ (cell : Cell) (k : Class), h[o]? = some cell ∧ Z.vm.classes[cell.cls]? = some k ∧ k.kind = .ordinary ∧ Z.vm.findClass "java/lang/String" ≠ some cell.cls
theorem Ord.of {Z : State} {h : Heap} {o : Addr} {a0 : Array Value} {C : String} {n : Nat} (E : Exa Z h o C) (w : (Cond.instantiable C n).before a0 Z = true) (hn : C ≠ "java/lang/String") : Ord Z h o := by
  obtain ⟨cell, k, e1, e2, e3, -, -⟩ := E
  obtain ⟨t, k', f1, f2, f3, -⟩ := own_fI w
  cases e2.symm.trans f1
  cases e3.symm.trans f2
  exact ⟨cell, k, e1, e3, f3, fun q => ids_ne e2 q hn rfl⟩
theorem Ord.ne {Z : State} {h : Heap} {o t : Addr} {k : ClassId} {ty : FieldType} {n : Int32} {vs : List Value} {d : Value} (F : Ord Z h o) (A : Arv Z h t k ty n vs d) : t ≠ o := fun e => by
  subst e
  obtain ⟨cell, kk, f1, f2, f3, -⟩ := F
  obtain ⟨c, ⟨a1, ⟨-, k2, a2, comp, a3⟩, -⟩, -⟩ := A
  cases f1.symm.trans a1
  cases f2.symm.trans a2
  rw [f3] at a3; cases a3
theorem Ord.ne' {Z : State} {h : Heap} {o a : Addr} (F : Ord Z h o) (E : Exa Z h a "java/lang/String") : a ≠ o := fun e => by
  subst e
  obtain ⟨cell, kk, f1, f2, f3, f4⟩ := F
  obtain ⟨c, k, e1, e2, -⟩ := E
  cases f1.symm.trans e1
  exact f4 e2

def own_EL : List (String × Nat) := [("java/lang/String", 7), ("com/example/holdfast/holdfast/HoldfastLock$Exclusive", 123)]
abbrev own_MFH (l : Launch) (Z : State) (y : MethodName) (bytes : ByteArray) (maxL : Nat) (ret : Option FieldType) (ws : List Jvm.Cond) (rm : Room) (A : Array Value) (h0 : Heap) (Q : Option Value → Heap → List Loc → Prop) : Prop := MetFree l y (head1 (Jvm.Cond.code y bytes maxL ret :: ws) rm) (fun a U => a = A ∧ Z.Warmed39 U.vm ∧ U.heap = h0 ∧ CHv Z own_EL U.vm h0) (fun _ _ _ _ _ => True) (fun _ U o U' => ∃ v L, o = .returned v ∧ Q v U'.heap L ∧ CHr Z own_EL U.vm U.heap U'.vm U'.heap ∧ ReturnedEndW U o U' L rm.cells rm.slots)
theorem own_EW {a0 : Array Value} {Z : State} (hw : ∀ d ∈ tables_1, d.before a0 Z = true) : EW Z a0 own_EL := EW.cons (hw _ (List.mem_of_getElem? (i := 19) rfl)) (by decide) (EW.cons (hw _ (List.mem_of_getElem? (i := 143) rfl)) (by decide) (EW.nil))
theorem own_selp {Z : State} {a0 : Array Value} {C : String} {y : MethodName} (w : (Cond.selects C y y).before a0 Z = true) (wp : (Cond.privateMethod y).before a0 Z = true) (wi : (Cond.instanceMethod y).before a0 Z = true) (hy : y.cls ≠ "java/lang/invoke/MethodHandle" ∧ y.cls ≠ "java/lang/invoke/VarHandle") : (Cond.selects y.cls y y).before a0 Z = true := by
  obtain ⟨c, r, m, h1, h2, h3, h4, mk, h5, h6⟩ := Cond.selects_spec w
  obtain ⟨m', meth, g1, g2, -, -⟩ := Cond.instanceMethod_spec wi
  cases h3.symm.trans g1
  have hp := Cond.privateMethod_at wp _ _ g1 g2
  have hc := findClass_of_methodNamed g1
  cases (State.methodFound?_of_named g1 hy).symm.trans h2
  simp [Cond.before, Cond.holds, Cond.value, hc, h2, g1, selectMethod_private g2 hp, h5, h6]
theorem own_nf {s : State} {args : Array Value} {C : String} {x z y : MethodName} (w : (Cond.selects C x z).before args s = true) (hz : z.cls = y.cls) : NotFace s y := fun r0 h0 => by
  obtain ⟨c, r, mz, -, -, h3, -, mk, h5, h6⟩ := Cond.selects_spec w
  have e1 := findClass_of_methodNamed h3
  have e2 := findClass_of_methodNamed h0
  rw [hz, e2] at e1
  have e3 : r0.cls = mz.cls := Option.some.inj e1
  exact ⟨mk, by rw [e3]; exact h5, h6⟩
theorem own_same {Z : State} {a0 : Array Value} {C : String} {x z y : MethodName} (wi : (Cond.instanceMethod y).before a0 Z = true) (w : (Cond.selects C x z).before a0 Z = true) (hz : z.cls = y.cls) (hy : y.cls ≠ "java/lang/invoke/MethodHandle" ∧ y.cls ≠ "java/lang/invoke/VarHandle") : (Cond.sameMethod y.cls y.cls y.name y.desc).before a0 Z = true := by
  obtain ⟨m, meth, g1, g2, -, -⟩ := Cond.instanceMethod_spec wi
  obtain ⟨kr, n1, n2⟩ := own_nf w hz m g1
  have hc := findClass_of_methodNamed g1
  have hf := State.methodFound?_of_named g1 hy
  obtain ⟨yc, yn, yd⟩ := y
  simp only at hc hf g1
  simp [Cond.before, Cond.holds, Cond.value, hc, hf, g1, n1, n2]

abbrev own_b8 (c : Int32) : Int32 := c.toInt8.toInt32
theorem own_bb (c : Int32) : c.toInt8.toInt32.toInt8.toInt32 = c.toInt8.toInt32 := by simp
/-- a String of Latin-1 chars -/
def Str (Z : State) (h : Heap) (a : Addr) (n : Int32) (cs : List Int32) : Prop := ∃ (t : Addr) (k : ClassId), Exa Z h a "java/lang/String" ∧ Fld Z h a "java/lang/String" "coder" "B" (.int 0) ∧ Fld Z h a "java/lang/String" "value" "[B" (.ref t) ∧ Arv Z h t k .byte n (cs.map fun c => .int (own_b8 c)) (.int 0) ∧ (∀ c ∈ cs, ¬ c < 0 ∧ ¬ (255 : Int32) < c)
theorem Str.ext {Z : State} {h h' : Heap} {a : Addr} {n : Int32} {cs : List Int32} (F : Str Z h a n cs) (E : Ext h h') : Str Z h' a n cs := by
  obtain ⟨t, k, f1, f2, f3, f4, f5⟩ := F; exact ⟨t, k, f1.ext E, f2.ext E, f3.ext E, f4.ext E, f5⟩
theorem Str.lt {Z : State} {h : Heap} {a : Addr} {n : Int32} {cs : List Int32} (F : Str Z h a n cs) : a < h.size := by obtain ⟨t, k, f1, -⟩ := F; exact f1.lt
theorem Str.exa {Z : State} {h : Heap} {a : Addr} {n : Int32} {cs : List Int32} (F : Str Z h a n cs) : Exa Z h a "java/lang/String" := by obtain ⟨t, k, f1, -⟩ := F; exact f1
theorem own_allc {P : Int32 → Prop} {c : Int32} {cs : List Int32} (h : P c) (r : ∀ x ∈ cs, P x) : ∀ x ∈ c :: cs, P x := fun x q => (List.mem_cons.mp q).elim (fun e => e ▸ h) (r x)
theorem own_narc {c : Int32} (h : ¬ c < 0 ∧ ¬ (255 : Int32) < c) : nar .char c = c := by
  have h1 := c_i2c c
  apply Int32.toInt_inj.mp
  have e0 : (0 : Int32).toInt = 0 := rfl
  have e1 : (255 : Int32).toInt = 255 := rfl
  have h2 := h.1; have h3 := h.2
  rw [Int32.lt_iff_toInt_lt] at h2 h3
  show c.toUInt32.toUInt16.toUInt32.toInt32.toInt = c.toInt
  omega
theorem own_b255 {c : Int32} (h : ¬ c < 0 ∧ ¬ (255 : Int32) < c) : (own_b8 c &&& (255 : Int32)).toUInt32.toUInt16.toUInt32.toInt32 = c := by
  have h1 := c_i2b c
  have h4 : (own_b8 c &&& (255 : Int32)).toInt = (own_b8 c).toInt % 256 := c_mask (own_b8 c) 255 8 (by decide) (by decide)
  have h5 := c_i2c (own_b8 c &&& (255 : Int32))
  apply Int32.toInt_inj.mp
  have e0 : (0 : Int32).toInt = 0 := rfl
  have e1 : (255 : Int32).toInt = 255 := rfl
  have h2 := h.1; have h3 := h.2
  rw [Int32.lt_iff_toInt_lt] at h2 h3
  have e8 : (own_b8 c).toInt = c.toInt8.toInt32.toInt := rfl
  omega
theorem own_b8inj {c d : Int32} (h : ¬ c < 0 ∧ ¬ (255 : Int32) < c) (h' : ¬ d < 0 ∧ ¬ (255 : Int32) < d) (e : own_b8 c = own_b8 d) : c = d := by
  rw [← own_b255 h, ← own_b255 h', e]

def own_hs (w : Int32) : List Int32 → Bool
  | [] => false
  | b :: r => decide (b = w) || own_hs w r
theorem own_hsb (w : Int32) (hw : ¬ w < 0 ∧ ¬ (255 : Int32) < w) : ∀ cs : List Int32, (∀ c ∈ cs, ¬ c < 0 ∧ ¬ (255 : Int32) < c) → own_hs (own_b8 w) (cs.map own_b8) = own_hs w cs
  | [], _ => rfl
  | c :: cs, h => by
    have ih := own_hsb w hw cs (fun x q => h x (List.mem_cons_of_mem _ q))
    have e : (own_b8 c = own_b8 w) ↔ (c = w) := ⟨own_b8inj (h c (List.mem_cons_self ..)) hw, fun q => by rw [q]⟩
    simp only [List.map_cons, own_hs, ih, e]
theorem own_bt {b : Bool} (h : ¬ b = false) : b = true := by cases b; exact absurd rfl h; rfl

abbrev own_ch (va : Int32) : Int32 := (va &&& (255 : Int32)).toUInt32.toUInt16.toUInt32.toInt32
theorem own_chv (va : Int32) : own_ch va = va &&& (255 : Int32) := by
  have h : (va &&& (255 : Int32)).toInt = va.toInt % 256 := c_mask va 255 8 (by decide) (by decide)
  have h5 := c_i2c (va &&& (255 : Int32))
  apply Int32.toInt_inj.mp
  show (va &&& (255 : Int32)).toUInt32.toUInt16.toUInt32.toInt32.toInt = _
  omega
theorem own_chr (va : Int32) : ¬ own_ch va < 0 ∧ ¬ (255 : Int32) < own_ch va := by
  have h : (va &&& (255 : Int32)).toInt = va.toInt % 256 := c_mask va 255 8 (by decide) (by decide)
  rw [own_chv, Int32.lt_iff_toInt_lt, Int32.lt_iff_toInt_lt]
  have e1 : (255 : Int32).toInt = 255 := rfl; have e0 : (0 : Int32).toInt = 0 := rfl
  omega
def own_cx (va : Int32) : Int32 := if (va &&& (256 : Int32)) = (0 : Int32) then own_ch va else 32
theorem own_cxr (va : Int32) : ¬ own_cx va < 0 ∧ ¬ (255 : Int32) < own_cx va := by
  unfold own_cx; split
  · exact own_chr va
  · decide
def own_no (cs : List Int32) : Int32 := bif own_hs 32 cs then 1 else 0
theorem own_n5 (z : Int32) : ((z &&& (2147483647 : Int32)) % (5 : Int32)) = 0 ∨ ((z &&& (2147483647 : Int32)) % (5 : Int32)) = 1 ∨ ((z &&& (2147483647 : Int32)) % (5 : Int32)) = 2 ∨ ((z &&& (2147483647 : Int32)) % (5 : Int32)) = 3 ∨ ((z &&& (2147483647 : Int32)) % (5 : Int32)) = 4 := by
  have h : (z &&& (2147483647 : Int32)).toInt = z.toInt % 2147483648 := c_mask z 2147483647 31 (by decide) (by decide)
  generalize (z &&& (2147483647 : Int32)) = y at h
  have h1 := (c_irem y 5 5 rfl).1 (by omega)
  have e0 : (0 : Int32).toInt = 0 := rfl; have e1 : (1 : Int32).toInt = 1 := rfl; have e2 : (2 : Int32).toInt = 2 := rfl; have e3 : (3 : Int32).toInt = 3 := rfl; have e4 : (4 : Int32).toInt = 4 := rfl
  simp only [← Int32.toInt_inj]
  omega
def SB (Z : State) (h : Heap) (a d : Addr) (kd : ClassId) (k : Int32) (bs : List Value) : Prop := Exa Z h a "java/lang/StringBuilder" ∧ Fld Z h a "java/lang/AbstractStringBuilder" "value" "[B" (.ref d) ∧ Fld Z h a "java/lang/AbstractStringBuilder" "coder" "B" (.int 0) ∧ Fld Z h a "java/lang/AbstractStringBuilder" "count" "I" (.int k) ∧ Arv Z h d kd .byte 16 bs (.int 0)
abbrev o_ : Value := .int (0 : Int32)
theorem d1_0 : decode method_2_code 0 = .ok (.iload_n 0, 1) := by decide +kernel
theorem d1_1 : decode method_2_code 1 = .ok (.sipush 256, 3) := by decide +kernel
theorem d1_4 : decode method_2_code 4 = .ok (.iand, 1) := by decide +kernel
theorem d1_5 : decode method_2_code 5 = .ok (.ifCond .eq 8, 3) := by decide +kernel
theorem d1_13 : decode method_2_code 13 = .ok (.iload_n 0, 1) := by decide +kernel
theorem d1_14 : decode method_2_code 14 = .ok (.sipush 255, 3) := by decide +kernel
theorem d1_17 : decode method_2_code 17 = .ok (.iand, 1) := by decide +kernel
theorem d1_18 : decode method_2_code 18 = .ok (.i2c, 1) := by decide +kernel
theorem d1_19 : decode method_2_code 19 = .ok (.ireturn, 1) := by decide +kernel
def Q_ch (Z : State) (va : Int32) (h0 : Heap) (n0 : Nat) (v : Option Value) (h : Heap) (L : List Loc) : Prop := v = some (.int (own_cx va)) ∧ Fr n0 L ∧ h = h0
theorem d1_8 : decode method_2_code 8 = .ok (.bipush 32, 2) := by decide +kernel
theorem d1_10 : decode method_2_code 10 = .ok (.goto 9, 3) := by decide +kernel
theorem pn_com_example_holdfast_holdfast_ExclusiveNamesAnOwnerPinLaw : plainName "com/example/holdfast/holdfast/ExclusiveNamesAnOwnerPinLaw" = true := by first | (simp [plainName, overriddenIn]; done) | decide +kernel
theorem ef_ch (m : MethodId) (va : Int32)  : entryFrame m #[(.int va)] 1 = mkF m 0 #[.val (.int va)] [] := by first | (simp [entryFrame, mkF, argsToLocals, Value.category]; done) | rfl
theorem ch (l : Launch) (Z : State) (a0 : Array Value) (hw : TW a0 Z) (ws : List Jvm.Cond) (va : Int32) (h0 : Heap) (n0 : Nat) (Z0 : n0 ≤ h0.size)  :
    own_MF l Z MN0 method_2_code 1 (some .char) ws (own_R 0 0 0 0) #[(.int va)] h0 (Q_ch Z va h0 n0) := by
  have wd := @own_wd _ _ hw
  refine MetFree.of_bodySF (plainFor_of_name pn_com_example_holdfast_holdfast_ExclusiveNamesAnOwnerPinLaw) hisR ?_
  intro p e s m args below meth c s₁ Bd hml0 hP hK
  obtain ⟨rfl, hZ, hh⟩ := hP
  have hx := Bd.exec
  have hby := Bd.bytes
  have hml : c.maxLocals = 1 := hml0
  have hown : s.vm.findClass "com/example/holdfast/holdfast/ExclusiveNamesAnOwnerPinLaw" = some m.cls := findClass_of_methodNamed Bd.named
  have hnm := (name_of_methodNamed Bd.named Bd.method).1
  have X0 : Stand p l e (own_R 0 0 0 0) s m #[(.int va)] below meth c s₁ [] 0 0 := Stand.of_body Bd
  have e0 : s₁.heap = h0 := by rw [← hh, Bd.state]; rfl
  have N0 := Fr.nil n0
  refine go_of (A := s₁.setTop (entryFrame m #[(.int va)] 1)) (B := s₁.setTop (mkF m 0 #[.val (.int va)] [])) (fun _ kk' => castTop (ef_ch m va) kk') ?_
  refine go_of (B := (s₁.setTop (mkF m 5 #[.val (.int va)] [(.int (va &&& (256 : Int32)))]))) (fun _ kk => XS.iloadN X0.here hx rfl (hb hby d1_0) rfl (XS.sipush X0.here hx rfl (hb hby d1_1) (XS.iand X0.here hx rfl (hb hby d1_4) rfl kk))) ?_
  by_cases hcc1 : (va &&& (256 : Int32)) = (0 : Int32)
  · refine go_of (B := (s₁.setTop (mkF m 19 #[.val (.int va)] [(.int ((va &&& (255 : Int32)).toUInt32.toUInt16.toUInt32.toInt32))]))) (fun _ kk => XS.ifYes X0.here hx rfl (pc0 := 5) (pc' := 13) rfl (hb hby d1_5) rfl ((if0 _ _).trans (teq hcc1).1) (by decide) (by decide) (XS.iloadN X0.here hx rfl (hb hby d1_13) rfl (XS.sipush X0.here hx rfl (hb hby d1_14) (XS.iand X0.here hx rfl (hb hby d1_17) rfl (XS.i2c X0.here hx rfl (hb hby d1_18) rfl kk))))) ?_
    refine go_end X0 (v := some (.int (nar .char ((va &&& (255 : Int32)).toUInt32.toUInt16.toUInt32.toInt32)))) (fun h => by rw [Bd.returns] at h; cases h) Bd.notSynchronized (by decide) (by decide) (Q := (Q_ch Z va h0 n0)) ?_ (fun fs hr => retN X0 hx (t := .char) Bd.returns (by simp) (hb hby d1_19) hr)
    unfold Q_ch
    try rw [e0]
    refine ⟨?_, N0, rfl⟩
    simp only [own_cx, hcc1, ↓reduceIte]
    first | rfl | rw [own_narc (own_chr va)]
  · refine go_of (B := (s₁.setTop (mkF m 19 #[.val (.int va)] [(.int (32 : Int32))]))) (fun _ kk => XS.ifNo X0.here hx rfl (hb hby d1_5) rfl ((if0 _ _).trans (feq hcc1).1) (XS.bipush X0.here hx rfl (hb hby d1_8) (XS.goto X0.here hx rfl (pc0 := 10) (pc' := 19) rfl (hb hby d1_10) (by decide) (by decide) kk))) ?_
    refine go_end X0 (v := some (.int (nar .char (32 : Int32)))) (fun h => by rw [Bd.returns] at h; cases h) Bd.notSynchronized (by decide) (by decide) (Q := (Q_ch Z va h0 n0)) ?_ (fun fs hr => retN X0 hx (t := .char) Bd.returns (by simp) (hb hby d1_19) hr)
    unfold Q_ch
    try rw [e0]
    refine ⟨?_, N0, rfl⟩
    simp only [own_cx, hcc1, ↓reduceIte]
    first | rfl | rw [own_narc (own_chr va)]
theorem d12_0 : decode jdk_43_method_4_code 0 = .ok (.iload_n 0, 1) := by decide +kernel
theorem d12_1 : decode jdk_43_method_4_code 1 = .ok (.ifCond .lt 14, 3) := by decide +kernel
theorem d12_4 : decode jdk_43_method_4_code 4 = .ok (.iload_n 0, 1) := by decide +kernel
theorem d12_5 : decode jdk_43_method_4_code 5 = .ok (.sipush 255, 3) := by decide +kernel
theorem d12_8 : decode jdk_43_method_4_code 8 = .ok (.if_icmp .gt 7, 3) := by decide +kernel
theorem d12_11 : decode jdk_43_method_4_code 11 = .ok (.iconst 1, 1) := by decide +kernel
theorem d12_12 : decode jdk_43_method_4_code 12 = .ok (.goto 4, 3) := by decide +kernel
theorem d12_16 : decode jdk_43_method_4_code 16 = .ok (.ireturn, 1) := by decide +kernel
def Q_v_cani32 (Z : State)  (h0 : Heap) (n0 : Nat) (v : Option Value) (h : Heap) (L : List Loc) : Prop := v = some (.int 1) ∧ Fr n0 L ∧ h = h0
theorem pn_java_lang_StringLatin1 : plainName "java/lang/StringLatin1" = true := by first | (simp [plainName, overriddenIn]; done) | decide +kernel
theorem ef_v_cani32 (m : MethodId)   : entryFrame m #[(.int (32 : Int32))] 1 = mkF m 0 #[.val (.int (32 : Int32))] [] := by first | (simp [entryFrame, mkF, argsToLocals, Value.category]; done) | rfl
theorem v_cani32 (l : Launch) (Z : State) (a0 : Array Value) (hw : TW a0 Z) (ws : List Jvm.Cond)  (h0 : Heap) (n0 : Nat) (Z0 : n0 ≤ h0.size)  :
    own_MF l Z MN23 jdk_43_method_4_code 1 (some .boolean) ws (own_R 0 0 0 0) #[(.int (32 : Int32))] h0 (Q_v_cani32 Z  h0 n0) := by
  have wd := @own_wd _ _ hw
  refine MetFree.of_bodySF (plainFor_of_name pn_java_lang_StringLatin1) hisR ?_
  intro p e s m args below meth c s₁ Bd hml0 hP hK
  obtain ⟨rfl, hZ, hh⟩ := hP
  have hx := Bd.exec
  have hby := Bd.bytes
  have hml : c.maxLocals = 1 := hml0
  have hown : s.vm.findClass "java/lang/StringLatin1" = some m.cls := findClass_of_methodNamed Bd.named
  have hnm := (name_of_methodNamed Bd.named Bd.method).1
  have X0 : Stand p l e (own_R 0 0 0 0) s m #[(.int (32 : Int32))] below meth c s₁ [] 0 0 := Stand.of_body Bd
  have e0 : s₁.heap = h0 := by rw [← hh, Bd.state]; rfl
  have N0 := Fr.nil n0
  refine go_of (A := s₁.setTop (entryFrame m #[(.int (32 : Int32))] 1)) (B := s₁.setTop (mkF m 0 #[.val (.int (32 : Int32))] [])) (fun _ kk' => castTop (ef_v_cani32 m ) kk') ?_
  refine go_of (B := (s₁.setTop (mkF m 12 #[.val (.int (32 : Int32))] [(.int (1 : Int32))]))) (fun _ kk => XS.iloadN X0.here hx rfl (hb hby d12_0) rfl (XS.ifNo X0.here hx rfl (hb hby d12_1) rfl ((if0 _ _).trans (flt (by decide : ¬ ((32 : Int32) < (0 : Int32)))).1) (XS.iloadN X0.here hx rfl (hb hby d12_4) rfl (XS.sipush X0.here hx rfl (hb hby d12_5) (XS.icmpNo X0.here hx rfl (hb hby d12_8) rfl (flt (by decide : ¬ ((255 : Int32) < (32 : Int32)))).2.2.1 (XS.iconst X0.here hx rfl (hb hby d12_11) kk)))))) ?_
  refine go_of (B := (s₁.setTop (mkF m 16 #[.val (.int (32 : Int32))] [(.int (1 : Int32))]))) (fun _ kk => XS.goto X0.here hx rfl (pc0 := 12) (pc' := 16) rfl (hb hby d12_12) (by decide) (by decide) kk) ?_
  refine go_end X0 (v := some (.int (nar .boolean (1 : Int32)))) (fun h => by rw [Bd.returns] at h; cases h) Bd.notSynchronized (by decide) (by decide) (Q := (Q_v_cani32 Z  h0 n0)) ?_ (fun fs hr => retN X0 hx (t := .boolean) Bd.returns (by simp) (hb hby d12_16) hr)
  unfold Q_v_cani32
  try rw [e0]
  exact ⟨rfl, N0, rfl⟩
def own_max (x y : Int32) : Int32 := if x < y then y else x
theorem d13_0 : decode jdk_29_method_65_code 0 = .ok (.iload_n 0, 1) := by decide +kernel
theorem d13_1 : decode jdk_29_method_65_code 1 = .ok (.iload_n 1, 1) := by decide +kernel
theorem d13_2 : decode jdk_29_method_65_code 2 = .ok (.if_icmp .lt 7, 3) := by decide +kernel
theorem d13_9 : decode jdk_29_method_65_code 9 = .ok (.iload_n 1, 1) := by decide +kernel
theorem d13_10 : decode jdk_29_method_65_code 10 = .ok (.ireturn, 1) := by decide +kernel
def Q_v_max (Z : State) (x : Int32) (y : Int32) (r : Int32) (h0 : Heap) (n0 : Nat) (v : Option Value) (h : Heap) (L : List Loc) : Prop := v = some (.int r) ∧ Fr n0 L ∧ h = h0
theorem d13_5 : decode jdk_29_method_65_code 5 = .ok (.iload_n 0, 1) := by decide +kernel
theorem d13_6 : decode jdk_29_method_65_code 6 = .ok (.goto 4, 3) := by decide +kernel
theorem ef_v_max (m : MethodId) (x : Int32) (y : Int32)  : entryFrame m #[(.int x), (.int y)] 2 = mkF m 0 #[.val (.int x), .val (.int y)] [] := by first | (simp [entryFrame, mkF, argsToLocals, Value.category]; done) | rfl
theorem v_max (l : Launch) (Z : State) (a0 : Array Value) (hw : TW a0 Z) (ws : List Jvm.Cond) (x : Int32) (y : Int32) (r : Int32) (h0 : Heap) (n0 : Nat) (Z0 : n0 ≤ h0.size) (hr : own_max x y = r) :
    own_MF l Z MN10 jdk_29_method_65_code 2 (some .int) ws (own_R 0 0 0 0) #[(.int x), (.int y)] h0 (Q_v_max Z x y r h0 n0) := by
  have wd := @own_wd _ _ hw
  refine MetFree.of_bodySF (Jvm.Free.JP.mathPlain rfl (by decide +kernel)) hisR ?_
  intro p e s m args below meth c s₁ Bd hml0 hP hK
  obtain ⟨rfl, hZ, hh⟩ := hP
  have hx := Bd.exec
  have hby := Bd.bytes
  have hml : c.maxLocals = 2 := hml0
  have hown : s.vm.findClass "java/lang/Math" = some m.cls := findClass_of_methodNamed Bd.named
  have hnm := (name_of_methodNamed Bd.named Bd.method).1
  have X0 : Stand p l e (own_R 0 0 0 0) s m #[(.int x), (.int y)] below meth c s₁ [] 0 0 := Stand.of_body Bd
  have e0 : s₁.heap = h0 := by rw [← hh, Bd.state]; rfl
  have N0 := Fr.nil n0
  refine go_of (A := s₁.setTop (entryFrame m #[(.int x), (.int y)] 2)) (B := s₁.setTop (mkF m 0 #[.val (.int x), .val (.int y)] [])) (fun _ kk' => castTop (ef_v_max m x y) kk') ?_
  refine go_of (B := (s₁.setTop (mkF m 2 #[.val (.int x), .val (.int y)] [(.int y), (.int x)]))) (fun _ kk => XS.iloadN X0.here hx rfl (hb hby d13_0) rfl (XS.iloadN X0.here hx rfl (hb hby d13_1) rfl kk)) ?_
  by_cases hcc1 : x < y
  · refine go_of (B := (s₁.setTop (mkF m 10 #[.val (.int x), .val (.int y)] [(.int y)]))) (fun _ kk => XS.icmpYes X0.here hx rfl (pc0 := 2) (pc' := 9) rfl (hb hby d13_2) rfl (tlt hcc1).1 (by decide) (by decide) (XS.iloadN X0.here hx rfl (hb hby d13_9) rfl kk)) ?_
    refine go_end X0 (v := some (.int y)) (fun h => by rw [Bd.returns] at h; cases h) Bd.notSynchronized (by decide) (by decide) (Q := (Q_v_max Z x y r h0 n0)) ?_ (fun fs hr => own_retI X0 hx Bd.returns (hb hby d13_10) hr)
    unfold Q_v_max
    try rw [e0]
    refine ⟨?_, N0, rfl⟩
    rw [← hr]; simp [own_max, hcc1]
  · refine go_of (B := (s₁.setTop (mkF m 10 #[.val (.int x), .val (.int y)] [(.int x)]))) (fun _ kk => XS.icmpNo X0.here hx rfl (hb hby d13_2) rfl (flt hcc1).1 (XS.iloadN X0.here hx rfl (hb hby d13_5) rfl (XS.goto X0.here hx rfl (pc0 := 6) (pc' := 10) rfl (hb hby d13_6) (by decide) (by decide) kk))) ?_
    refine go_end X0 (v := some (.int x)) (fun h => by rw [Bd.returns] at h; cases h) Bd.notSynchronized (by decide) (by decide) (Q := (Q_v_max Z x y r h0 n0)) ?_ (fun fs hr => own_retI X0 hx Bd.returns (hb hby d13_10) hr)
    unfold Q_v_max
    try rw [e0]
    refine ⟨?_, N0, rfl⟩
    rw [← hr]; simp [own_max, hcc1]
def own_min (x y : Int32) : Int32 := if y < x then y else x
theorem d14_0 : decode jdk_29_method_69_code 0 = .ok (.iload_n 0, 1) := by decide +kernel
theorem d14_1 : decode jdk_29_method_69_code 1 = .ok (.iload_n 1, 1) := by decide +kernel
theorem d14_2 : decode jdk_29_method_69_code 2 = .ok (.if_icmp .gt 7, 3) := by decide +kernel
theorem d14_9 : decode jdk_29_method_69_code 9 = .ok (.iload_n 1, 1) := by decide +kernel
theorem d14_10 : decode jdk_29_method_69_code 10 = .ok (.ireturn, 1) := by decide +kernel
def Q_v_min (Z : State) (x : Int32) (y : Int32) (r : Int32) (h0 : Heap) (n0 : Nat) (v : Option Value) (h : Heap) (L : List Loc) : Prop := v = some (.int r) ∧ Fr n0 L ∧ h = h0
theorem d14_5 : decode jdk_29_method_69_code 5 = .ok (.iload_n 0, 1) := by decide +kernel
theorem d14_6 : decode jdk_29_method_69_code 6 = .ok (.goto 4, 3) := by decide +kernel
theorem ef_v_min (m : MethodId) (x : Int32) (y : Int32)  : entryFrame m #[(.int x), (.int y)] 2 = mkF m 0 #[.val (.int x), .val (.int y)] [] := by first | (simp [entryFrame, mkF, argsToLocals, Value.category]; done) | rfl
theorem v_min (l : Launch) (Z : State) (a0 : Array Value) (hw : TW a0 Z) (ws : List Jvm.Cond) (x : Int32) (y : Int32) (r : Int32) (h0 : Heap) (n0 : Nat) (Z0 : n0 ≤ h0.size) (hr : own_min x y = r) :
    own_MF l Z MN11 jdk_29_method_69_code 2 (some .int) ws (own_R 0 0 0 0) #[(.int x), (.int y)] h0 (Q_v_min Z x y r h0 n0) := by
  have wd := @own_wd _ _ hw
  refine MetFree.of_bodySF (Jvm.Free.JP.mathPlain rfl (by decide +kernel)) hisR ?_
  intro p e s m args below meth c s₁ Bd hml0 hP hK
  obtain ⟨rfl, hZ, hh⟩ := hP
  have hx := Bd.exec
  have hby := Bd.bytes
  have hml : c.maxLocals = 2 := hml0
  have hown : s.vm.findClass "java/lang/Math" = some m.cls := findClass_of_methodNamed Bd.named
  have hnm := (name_of_methodNamed Bd.named Bd.method).1
  have X0 : Stand p l e (own_R 0 0 0 0) s m #[(.int x), (.int y)] below meth c s₁ [] 0 0 := Stand.of_body Bd
  have e0 : s₁.heap = h0 := by rw [← hh, Bd.state]; rfl
  have N0 := Fr.nil n0
  refine go_of (A := s₁.setTop (entryFrame m #[(.int x), (.int y)] 2)) (B := s₁.setTop (mkF m 0 #[.val (.int x), .val (.int y)] [])) (fun _ kk' => castTop (ef_v_min m x y) kk') ?_
  refine go_of (B := (s₁.setTop (mkF m 2 #[.val (.int x), .val (.int y)] [(.int y), (.int x)]))) (fun _ kk => XS.iloadN X0.here hx rfl (hb hby d14_0) rfl (XS.iloadN X0.here hx rfl (hb hby d14_1) rfl kk)) ?_
  by_cases hcc1 : y < x
  · refine go_of (B := (s₁.setTop (mkF m 10 #[.val (.int x), .val (.int y)] [(.int y)]))) (fun _ kk => XS.icmpYes X0.here hx rfl (pc0 := 2) (pc' := 9) rfl (hb hby d14_2) rfl (tlt hcc1).2.2.1 (by decide) (by decide) (XS.iloadN X0.here hx rfl (hb hby d14_9) rfl kk)) ?_
    refine go_end X0 (v := some (.int y)) (fun h => by rw [Bd.returns] at h; cases h) Bd.notSynchronized (by decide) (by decide) (Q := (Q_v_min Z x y r h0 n0)) ?_ (fun fs hr => own_retI X0 hx Bd.returns (hb hby d14_10) hr)
    unfold Q_v_min
    try rw [e0]
    refine ⟨?_, N0, rfl⟩
    rw [← hr]; simp [own_min, hcc1]
  · refine go_of (B := (s₁.setTop (mkF m 10 #[.val (.int x), .val (.int y)] [(.int x)]))) (fun _ kk => XS.icmpNo X0.here hx rfl (hb hby d14_2) rfl (flt hcc1).2.2.1 (XS.iloadN X0.here hx rfl (hb hby d14_5) rfl (XS.goto X0.here hx rfl (pc0 := 6) (pc' := 10) rfl (hb hby d14_6) (by decide) (by decide) kk))) ?_
    refine go_end X0 (v := some (.int x)) (fun h => by rw [Bd.returns] at h; cases h) Bd.notSynchronized (by decide) (by decide) (Q := (Q_v_min Z x y r h0 n0)) ?_ (fun fs hr => own_retI X0 hx Bd.returns (hb hby d14_10) hr)
    unfold Q_v_min
    try rw [e0]
    refine ⟨?_, N0, rfl⟩
    rw [← hr]; simp [own_min, hcc1]
theorem d11_0 : decode jdk_43_method_22_code 0 = .ok (.iload_n 1, 1) := by decide +kernel
theorem d11_1 : decode jdk_43_method_22_code 1 = .ok (.invokestatic 88, 3) := by decide +kernel
theorem pd__I_Z : parseMethodDescriptor "(I)Z" = some ⟨[.int], some .boolean⟩ := by decide +kernel
theorem d11_4 : decode jdk_43_method_22_code 4 = .ok (.ifCond .ne 5, 3) := by decide +kernel
theorem d11_9 : decode jdk_43_method_22_code 9 = .ok (.iload_n 2, 1) := by decide +kernel
theorem d11_10 : decode jdk_43_method_22_code 10 = .ok (.iconst 0, 1) := by decide +kernel
theorem d11_11 : decode jdk_43_method_22_code 11 = .ok (.invokestatic 92, 3) := by decide +kernel
theorem pd__II_I : parseMethodDescriptor "(II)I" = some ⟨[.int, .int], some .int⟩ := by decide +kernel
theorem d11_14 : decode jdk_43_method_22_code 14 = .ok (.istore_n 2, 1) := by decide +kernel
theorem d11_15 : decode jdk_43_method_22_code 15 = .ok (.iload_n 3, 1) := by decide +kernel
theorem d11_16 : decode jdk_43_method_22_code 16 = .ok (.aload_n 0, 1) := by decide +kernel
theorem d11_17 : decode jdk_43_method_22_code 17 = .ok (.arraylength, 1) := by decide +kernel
theorem d11_18 : decode jdk_43_method_22_code 18 = .ok (.invokestatic 38, 3) := by decide +kernel
theorem d11_21 : decode jdk_43_method_22_code 21 = .ok (.istore_n 3, 1) := by decide +kernel
theorem d11_22 : decode jdk_43_method_22_code 22 = .ok (.iload_n 2, 1) := by decide +kernel
theorem d11_23 : decode jdk_43_method_22_code 23 = .ok (.iload_n 3, 1) := by decide +kernel
theorem d11_24 : decode jdk_43_method_22_code 24 = .ok (.if_icmp .lt 5, 3) := by decide +kernel
theorem d11_27 : decode jdk_43_method_22_code 27 = .ok (.iconst (-1), 1) := by decide +kernel
theorem d11_28 : decode jdk_43_method_22_code 28 = .ok (.ireturn, 1) := by decide +kernel
def Q_v_lio_0_32 (Z : State) (t : Addr) (k : ClassId) (h0 : Heap) (n0 : Nat) (v : Option Value) (h : Heap) (L : List Loc) : Prop := ∃ r : Int32, v = some (.int r) ∧ (r < 0 ↔ own_hs (32 : Int32) [] = false) ∧ Fr n0 L ∧ h = h0
theorem ef_v_lio_0_32 (m : MethodId) (t : Addr)  : entryFrame m #[(.ref t), (.int (32 : Int32)), (.int (0 : Int32)), (.int (0 : Int32))] 4 = mkF m 0 #[.val (.ref t), .val (.int (32 : Int32)), .val (.int (0 : Int32)), .val (.int (0 : Int32))] [] := by first | (simp [entryFrame, mkF, argsToLocals, Value.category]; done) | rfl
theorem v_lio_0_32 (l : Launch) (Z : State) (a0 : Array Value) (hw : TW a0 Z) (ws : List Jvm.Cond) (t : Addr) (k : ClassId) (h0 : Heap) (n0 : Nat) (Z0 : n0 ≤ h0.size) (V : Arv Z h0 t k .byte 0 [] (.int 0)) :
    own_MF l Z MN24 jdk_43_method_22_code 4 (some .int) ws (own_R 1 0 0 13) #[(.ref t), (.int (32 : Int32)), (.int (0 : Int32)), (.int (0 : Int32))] h0 (Q_v_lio_0_32 Z t k h0 n0) := by
  have wd := @own_wd _ _ hw
  refine MetFree.of_bodySF (plainFor_of_name pn_java_lang_StringLatin1) hisR ?_
  intro p e s m args below meth c s₁ Bd hml0 hP hK
  obtain ⟨rfl, hZ, hh⟩ := hP
  have hx := Bd.exec
  have hby := Bd.bytes
  have hml : c.maxLocals = 4 := hml0
  have hown : s.vm.findClass "java/lang/StringLatin1" = some m.cls := findClass_of_methodNamed Bd.named
  have hnm := (name_of_methodNamed Bd.named Bd.method).1
  have X0 : Stand p l e (own_R 1 0 0 13) s m #[(.ref t), (.int (32 : Int32)), (.int (0 : Int32)), (.int (0 : Int32))] below meth c s₁ [] 0 0 := Stand.of_body Bd
  have e0 : s₁.heap = h0 := by rw [← hh, Bd.state]; rfl
  have N0 := Fr.nil n0
  refine go_of (A := s₁.setTop (entryFrame m #[(.ref t), (.int (32 : Int32)), (.int (0 : Int32)), (.int (0 : Int32))] 4)) (B := s₁.setTop (mkF m 0 #[.val (.ref t), .val (.int (32 : Int32)), .val (.int (0 : Int32)), .val (.int (0 : Int32))] [])) (fun _ kk' => castTop (ef_v_lio_0_32 m t) kk') ?_
  refine go_of (B := (s₁.setTop (mkF m 1 #[.val (.ref t), .val (.int (32 : Int32)), .val (.int (0 : Int32)), .val (.int (0 : Int32))] [(.int (32 : Int32))]))) (fun _ kk => XS.iloadN X0.here hx rfl (hb hby d11_0) rfl kk) ?_
  obtain ⟨_, _, ⟨T1, L1, k1, n1⟩, -, X1, ⟨Lc1, hQ1, l1, y1, z1⟩, st1⟩ := Jvm.LawKit.callS X0 hx (y := MN23) hown (mvT hZ (wd 61 rfl)) (mvT hZ (wd 62 rfl)) (mvT hZ (wd 59 rfl)) (mvT hZ (wd 63 rfl)) (by decide) (backOf (W := 0) (v_cani32 l Z a0 hw [] h0 n0 (by omega)) hZ (wd 63 rfl) (wd 59 rfl) (by decide) (by decide)) (g := (mkF m 1 #[.val (.ref t), .val (.int (32 : Int32)), .val (.int (0 : Int32)), .val (.int (0 : Int32))] [(.int (32 : Int32))])) rfl (by rw [hml]; rfl) (argsL := [(.int (32 : Int32))]) (rest := []) (lenOf pd__I_Z rfl) rfl (by show 2 * 0 + _ ≤ _; exact Nat.le_of_eq rfl) (hb hby d11_1) (fun _ _ => ⟨rfl, e0, (by decide : 0 + 0 ≤ _), (by decide : 0 + 0 ≤ _)⟩)
  dsimp only [Pt.U, Pt.locs, Pt.cells, Pt.slots] at X1 l1 y1 z1 st1 hQ1
  subst l1 y1 z1
  obtain ⟨rfl, N1q, e1⟩ := hQ1
  have N1 := Fr.app N0 N1q
  refine go_of (B := (T1.setTop (mkF m 4 #[.val (.ref t), .val (.int (32 : Int32)), .val (.int (0 : Int32)), .val (.int (0 : Int32))] [(.int (1 : Int32))]))) (st1) ?_
  refine go_of (B := (T1.setTop (mkF m 11 #[.val (.ref t), .val (.int (32 : Int32)), .val (.int (0 : Int32)), .val (.int (0 : Int32))] [(.int (0 : Int32)), (.int (0 : Int32))]))) (fun _ kk => XS.ifYes X1.here hx rfl (pc0 := 4) (pc' := 9) rfl (hb hby d11_4) rfl ((if0 _ _).trans (feq (by decide : ¬ ((1 : Int32) = (0 : Int32)))).2) (by decide) (by decide) (XS.iloadN X1.here hx rfl (hb hby d11_9) rfl (XS.iconst X1.here hx rfl (hb hby d11_10) kk))) ?_
  obtain ⟨_, _, ⟨T2, L2, k2, n2⟩, -, X2, ⟨Lc2, hQ2, l2, y2, z2⟩, st2⟩ := Jvm.LawKit.callS X1 hx (y := MN10) hown (mvT hZ (wd 64 rfl)) (mvT hZ (wd 65 rfl)) (mvT hZ (wd 66 rfl)) (mvT hZ (wd 67 rfl)) (by decide) (backOf (W := 0) (v_max l Z a0 hw [] (0 : Int32) (0 : Int32) (0 : Int32) h0 n0 (by omega) (by decide)) hZ (wd 67 rfl) (wd 66 rfl) (by decide) (by decide)) (g := (mkF m 11 #[.val (.ref t), .val (.int (32 : Int32)), .val (.int (0 : Int32)), .val (.int (0 : Int32))] [(.int (0 : Int32)), (.int (0 : Int32))])) rfl (by rw [hml]; rfl) (argsL := [(.int (0 : Int32)), (.int (0 : Int32))]) (rest := []) (lenOf pd__II_I rfl) rfl (by show 2 * 0 + _ ≤ _; exact Nat.le_of_eq rfl) (hb hby d11_11) (fun _ _ => ⟨rfl, e1, (by decide : 0 + 0 ≤ _), (by decide : 0 + 0 ≤ _)⟩)
  dsimp only [Pt.U, Pt.locs, Pt.cells, Pt.slots] at X2 l2 y2 z2 st2 hQ2
  subst l2 y2 z2
  obtain ⟨rfl, N2q, e2⟩ := hQ2
  have N2 := Fr.app N1 N2q
  refine go_of (B := (T2.setTop (mkF m 14 #[.val (.ref t), .val (.int (32 : Int32)), .val (.int (0 : Int32)), .val (.int (0 : Int32))] [(.int (0 : Int32))]))) (st2) ?_
  refine go_of (B := (T2.setTop (mkF m 17 #[.val (.ref t), .val (.int (32 : Int32)), .val (.int (0 : Int32)), .val (.int (0 : Int32))] [(.ref t), (.int (0 : Int32))]))) (fun _ kk => XS.istoreN X2.here hx rfl (hb hby d11_14) rfl rfl (XS.iloadN X2.here hx rfl (hb hby d11_15) rfl (XS.aloadN X2.here hx rfl (hb hby d11_16) rfl rfl kk))) ?_
  obtain ⟨cl3, Ar3, q3, Sz3, Nn3, Hh3, G3⟩ := id (V)
  have ln3 := len_of Sz3 Nn3
  refine go_of (B := (T2.setTop (mkF m 18 #[.val (.ref t), .val (.int (32 : Int32)), .val (.int (0 : Int32)), .val (.int (0 : Int32))] [(.int (0 : Int32)), (.int (0 : Int32))]))) (fun _ kk => X2.arraylength hx (by rw [e2]; exact Ar3.1) (State.isArrayOf_alike hZ.alike Ar3.2.1) (g := (mkF m 17 #[.val (.ref t), .val (.int (32 : Int32)), .val (.int (0 : Int32)), .val (.int (0 : Int32))] [(.ref t), (.int (0 : Int32))])) rfl rfl (hb hby d11_17) _ (by rw [ln3]; exact kk)) ?_
  obtain ⟨_, _, ⟨T4, L4, k4, n4⟩, -, X4, ⟨Lc4, hQ4, l4, y4, z4⟩, st4⟩ := Jvm.LawKit.callS X2 hx (y := MN11) hown (mvT hZ (wd 68 rfl)) (mvT hZ (wd 69 rfl)) (mvT hZ (wd 66 rfl)) (mvT hZ (wd 70 rfl)) (by decide) (backOf (W := 0) (v_min l Z a0 hw [] (0 : Int32) (0 : Int32) (0 : Int32) h0 n0 (by omega) (by decide)) hZ (wd 70 rfl) (wd 66 rfl) (by decide) (by decide)) (g := (mkF m 18 #[.val (.ref t), .val (.int (32 : Int32)), .val (.int (0 : Int32)), .val (.int (0 : Int32))] [(.int (0 : Int32)), (.int (0 : Int32))])) rfl (by rw [hml]; rfl) (argsL := [(.int (0 : Int32)), (.int (0 : Int32))]) (rest := []) (lenOf pd__II_I rfl) rfl (by show 2 * 0 + _ ≤ _; exact Nat.le_of_eq rfl) (hb hby d11_18) (fun _ _ => ⟨rfl, e2, (by decide : 0 + 0 ≤ _), (by decide : 0 + 0 ≤ _)⟩)
  dsimp only [Pt.U, Pt.locs, Pt.cells, Pt.slots] at X4 l4 y4 z4 st4 hQ4
  subst l4 y4 z4
  obtain ⟨rfl, N4q, e4⟩ := hQ4
  have N4 := Fr.app N2 N4q
  refine go_of (B := (T4.setTop (mkF m 21 #[.val (.ref t), .val (.int (32 : Int32)), .val (.int (0 : Int32)), .val (.int (0 : Int32))] [(.int (0 : Int32))]))) (st4) ?_
  refine go_of (B := (T4.setTop (mkF m 28 #[.val (.ref t), .val (.int (32 : Int32)), .val (.int (0 : Int32)), .val (.int (0 : Int32))] [(.int (-1 : Int32))]))) (fun _ kk => XS.istoreN X4.here hx rfl (hb hby d11_21) rfl rfl (XS.iloadN X4.here hx rfl (hb hby d11_22) rfl (XS.iloadN X4.here hx rfl (hb hby d11_23) rfl (XS.icmpNo X4.here hx rfl (hb hby d11_24) rfl (flt (by decide : ¬ ((0 : Int32) < (0 : Int32)))).1 (XS.iconst X4.here hx rfl (hb hby d11_27) kk))))) ?_
  refine go_end X4 (v := some (.int (-1 : Int32))) (fun h => by rw [Bd.returns] at h; cases h) Bd.notSynchronized (by decide) (by decide) (Q := (Q_v_lio_0_32 Z t k h0 n0)) ?_ (fun fs hr => own_retI X4 hx Bd.returns (hb hby d11_28) hr)
  unfold Q_v_lio_0_32
  try rw [e4]
  exact ⟨_, rfl, iff_of_true (by decide) rfl, N4, rfl⟩
theorem d8_0 : decode jdk_42_method_154_code 0 = .ok (.getstatic 38, 3) := by decide +kernel
theorem d8_3 : decode jdk_42_method_154_code 3 = .ok (.ifCond .eq 14, 3) := by decide +kernel
theorem d8_6 : decode jdk_42_method_154_code 6 = .ok (.aload_n 0, 1) := by decide +kernel
theorem d8_7 : decode jdk_42_method_154_code 7 = .ok (.getfield 15, 3) := by decide +kernel
theorem d8_10 : decode jdk_42_method_154_code 10 = .ok (.ifCond .ne 7, 3) := by decide +kernel
theorem d8_13 : decode jdk_42_method_154_code 13 = .ok (.iconst 1, 1) := by decide +kernel
theorem d8_14 : decode jdk_42_method_154_code 14 = .ok (.goto 4, 3) := by decide +kernel
theorem d8_18 : decode jdk_42_method_154_code 18 = .ok (.ireturn, 1) := by decide +kernel
def Q_str_latin (Z : State) (a : Addr) (gC : Int32) (h0 : Heap) (n0 : Nat) (v : Option Value) (h : Heap) (L : List Loc) : Prop := v = some (.int 1) ∧ Fr n0 L ∧ h = h0
theorem pn_java_lang_String : plainName "java/lang/String" = true := by first | (simp [plainName, overriddenIn]; done) | decide +kernel
theorem ef_str_latin (m : MethodId) (a : Addr)  : entryFrame m #[(.ref a)] 1 = mkF m 0 #[.val (.ref a)] [] := by first | (simp [entryFrame, mkF, argsToLocals, Value.category]; done) | rfl
theorem str_latin (l : Launch) (Z : State) (a0 : Array Value) (hw : TW a0 Z) (ws : List Jvm.Cond) (a : Addr) (gC : Int32) (h0 : Heap) (n0 : Nat) (Z0 : n0 ≤ h0.size) (O : Old Z n0 h0) (SC : Sta Z Z.heap "java/lang/String" "COMPACT_STRINGS" "Z" (.int gC)) (hgC : ¬ gC = (0 : Int32)) (Fc : Fld Z h0 a "java/lang/String" "coder" "B" (.int 0)) :
    own_MF l Z MN18 jdk_42_method_154_code 1 (some .boolean) ws (own_R 0 0 0 0) #[(.ref a)] h0 (Q_str_latin Z a gC h0 n0) := by
  have wd := @own_wd _ _ hw
  refine MetFree.of_bodySF (plainFor_of_name pn_java_lang_String) hisR ?_
  intro p e s m args below meth c s₁ Bd hml0 hP hK
  obtain ⟨rfl, hZ, hh⟩ := hP
  have hx := Bd.exec
  have hby := Bd.bytes
  have hml : c.maxLocals = 1 := hml0
  have hown : s.vm.findClass "java/lang/String" = some m.cls := findClass_of_methodNamed Bd.named
  have hnm := (name_of_methodNamed Bd.named Bd.method).1
  have X0 : Stand p l e (own_R 0 0 0 0) s m #[(.ref a)] below meth c s₁ [] 0 0 := Stand.of_body Bd
  have e0 : s₁.heap = h0 := by rw [← hh, Bd.state]; rfl
  have N0 := Fr.nil n0
  refine go_of (A := s₁.setTop (entryFrame m #[(.ref a)] 1)) (B := s₁.setTop (mkF m 0 #[.val (.ref a)] [])) (fun _ kk' => castTop (ef_str_latin m a) kk') ?_
  obtain ⟨T1, X1, e1, st1⟩ := getS2 X0 hx hZ hown (host := "") (Or.inl (wd 46 rfl)) Via.refl e0 (SC.ext O.2) (g := (mkF m 0 #[.val (.ref a)] [])) rfl (hb hby d8_0)
  refine go_of (B := (T1.setTop (mkF m 3 #[.val (.ref a)] [(.int gC)]))) (st1) ?_
  refine go_of (B := (T1.setTop (mkF m 7 #[.val (.ref a)] [(.ref a)]))) (fun _ kk => XS.ifNo X1.here hx rfl (hb hby d8_3) rfl ((if0 _ _).trans (feq hgC).1) (XS.aloadN X1.here hx rfl (hb hby d8_6) rfl rfl kk)) ?_
  obtain ⟨T2, X2, e2, st2⟩ := getF X1 hx hZ hown (host := "") (Or.inl (wd 26 rfl)) Via.refl e1 Fc (g := (mkF m 7 #[.val (.ref a)] [(.ref a)])) rfl rfl (hb hby d8_7)
  refine go_of (B := (T2.setTop (mkF m 10 #[.val (.ref a)] [(.int (0 : Int32))]))) (st2) ?_
  refine go_of (B := (T2.setTop (mkF m 18 #[.val (.ref a)] [(.int (1 : Int32))]))) (fun _ kk => XS.ifNo X2.here hx rfl (hb hby d8_10) rfl ((if0 _ _).trans (teq (by decide : (0 : Int32) = (0 : Int32))).2) (XS.iconst X2.here hx rfl (hb hby d8_13) (XS.goto X2.here hx rfl (pc0 := 14) (pc' := 18) rfl (hb hby d8_14) (by decide) (by decide) kk))) ?_
  refine go_end X2 (v := some (.int (nar .boolean (1 : Int32)))) (fun h => by rw [Bd.returns] at h; cases h) Bd.notSynchronized (by decide) (by decide) (Q := (Q_str_latin Z a gC h0 n0)) ?_ (fun fs hr => retN X2 hx (t := .boolean) Bd.returns (by simp) (hb hby d8_18) hr)
  unfold Q_str_latin
  try rw [e2]
  exact ⟨rfl, N0, rfl⟩
theorem d10_0 : decode jdk_42_method_152_code 0 = .ok (.getstatic 38, 3) := by decide +kernel
theorem d10_3 : decode jdk_42_method_152_code 3 = .ok (.ifCond .eq 10, 3) := by decide +kernel
theorem d10_6 : decode jdk_42_method_152_code 6 = .ok (.aload_n 0, 1) := by decide +kernel
theorem d10_7 : decode jdk_42_method_152_code 7 = .ok (.getfield 15, 3) := by decide +kernel
theorem d10_10 : decode jdk_42_method_152_code 10 = .ok (.goto 4, 3) := by decide +kernel
theorem d10_14 : decode jdk_42_method_152_code 14 = .ok (.ireturn, 1) := by decide +kernel
def Q_str_coder (Z : State) (a : Addr) (gC : Int32) (h0 : Heap) (n0 : Nat) (v : Option Value) (h : Heap) (L : List Loc) : Prop := v = some (.int 0) ∧ Fr n0 L ∧ h = h0
theorem ef_str_coder (m : MethodId) (a : Addr)  : entryFrame m #[(.ref a)] 1 = mkF m 0 #[.val (.ref a)] [] := by first | (simp [entryFrame, mkF, argsToLocals, Value.category]; done) | rfl
theorem str_coder (l : Launch) (Z : State) (a0 : Array Value) (hw : TW a0 Z) (ws : List Jvm.Cond) (a : Addr) (gC : Int32) (h0 : Heap) (n0 : Nat) (Z0 : n0 ≤ h0.size) (O : Old Z n0 h0) (SC : Sta Z Z.heap "java/lang/String" "COMPACT_STRINGS" "Z" (.int gC)) (hgC : ¬ gC = (0 : Int32)) (Fc : Fld Z h0 a "java/lang/String" "coder" "B" (.int 0)) :
    own_MF l Z MN14 jdk_42_method_152_code 1 (some .byte) ws (own_R 0 0 0 0) #[(.ref a)] h0 (Q_str_coder Z a gC h0 n0) := by
  have wd := @own_wd _ _ hw
  refine MetFree.of_bodySF (plainFor_of_name pn_java_lang_String) hisR ?_
  intro p e s m args below meth c s₁ Bd hml0 hP hK
  obtain ⟨rfl, hZ, hh⟩ := hP
  have hx := Bd.exec
  have hby := Bd.bytes
  have hml : c.maxLocals = 1 := hml0
  have hown : s.vm.findClass "java/lang/String" = some m.cls := findClass_of_methodNamed Bd.named
  have hnm := (name_of_methodNamed Bd.named Bd.method).1
  have X0 : Stand p l e (own_R 0 0 0 0) s m #[(.ref a)] below meth c s₁ [] 0 0 := Stand.of_body Bd
  have e0 : s₁.heap = h0 := by rw [← hh, Bd.state]; rfl
  have N0 := Fr.nil n0
  refine go_of (A := s₁.setTop (entryFrame m #[(.ref a)] 1)) (B := s₁.setTop (mkF m 0 #[.val (.ref a)] [])) (fun _ kk' => castTop (ef_str_coder m a) kk') ?_
  obtain ⟨T1, X1, e1, st1⟩ := getS2 X0 hx hZ hown (host := "") (Or.inl (wd 46 rfl)) Via.refl e0 (SC.ext O.2) (g := (mkF m 0 #[.val (.ref a)] [])) rfl (hb hby d10_0)
  refine go_of (B := (T1.setTop (mkF m 3 #[.val (.ref a)] [(.int gC)]))) (st1) ?_
  refine go_of (B := (T1.setTop (mkF m 7 #[.val (.ref a)] [(.ref a)]))) (fun _ kk => XS.ifNo X1.here hx rfl (hb hby d10_3) rfl ((if0 _ _).trans (feq hgC).1) (XS.aloadN X1.here hx rfl (hb hby d10_6) rfl rfl kk)) ?_
  obtain ⟨T2, X2, e2, st2⟩ := getF X1 hx hZ hown (host := "") (Or.inl (wd 26 rfl)) Via.refl e1 Fc (g := (mkF m 7 #[.val (.ref a)] [(.ref a)])) rfl rfl (hb hby d10_7)
  refine go_of (B := (T2.setTop (mkF m 10 #[.val (.ref a)] [(.int (0 : Int32))]))) (st2) ?_
  refine go_of (B := (T2.setTop (mkF m 14 #[.val (.ref a)] [(.int (0 : Int32))]))) (fun _ kk => XS.goto X2.here hx rfl (pc0 := 10) (pc' := 14) rfl (hb hby d10_10) (by decide) (by decide) kk) ?_
  refine go_end X2 (v := some (.int (nar .byte (0 : Int32)))) (fun h => by rw [Bd.returns] at h; cases h) Bd.notSynchronized (by decide) (by decide) (Q := (Q_str_coder Z a gC h0 n0)) ?_ (fun fs hr => retN X2 hx (t := .byte) Bd.returns (by simp) (hb hby d10_14) hr)
  unfold Q_str_coder
  try rw [e2]
  exact ⟨rfl, N0, rfl⟩
theorem d9_0 : decode jdk_42_method_54_code 0 = .ok (.aload_n 0, 1) := by decide +kernel
theorem d9_1 : decode jdk_42_method_54_code 1 = .ok (.getfield 9, 3) := by decide +kernel
theorem d9_4 : decode jdk_42_method_54_code 4 = .ok (.arraylength, 1) := by decide +kernel
theorem d9_5 : decode jdk_42_method_54_code 5 = .ok (.aload_n 0, 1) := by decide +kernel
theorem d9_6 : decode jdk_42_method_54_code 6 = .ok (.invokevirtual 335, 3) := by decide +kernel
theorem pd___B : parseMethodDescriptor "()B" = some ⟨[], some .byte⟩ := by decide +kernel
theorem d9_9 : decode jdk_42_method_54_code 9 = .ok (.ishr, 1) := by decide +kernel
theorem d9_10 : decode jdk_42_method_54_code 10 = .ok (.ireturn, 1) := by decide +kernel
def Q_str_len_0 (Z : State) (a : Addr) (gC : Int32) (h0 : Heap) (n0 : Nat) (v : Option Value) (h : Heap) (L : List Loc) : Prop := v = some (.int 0) ∧ Fr n0 L ∧ h = h0
theorem ef_str_len_0 (m : MethodId) (a : Addr)  : entryFrame m #[(.ref a)] 1 = mkF m 0 #[.val (.ref a)] [] := by first | (simp [entryFrame, mkF, argsToLocals, Value.category]; done) | rfl
theorem str_len_0 (l : Launch) (Z : State) (a0 : Array Value) (hw : TW a0 Z) (ws : List Jvm.Cond) (a : Addr) (gC : Int32) (h0 : Heap) (n0 : Nat) (Z0 : n0 ≤ h0.size) (O : Old Z n0 h0) (SC : Sta Z Z.heap "java/lang/String" "COMPACT_STRINGS" "Z" (.int gC)) (hgC : ¬ gC = (0 : Int32)) (S : Str Z h0 a 0 []) :
    own_MF l Z MN19 jdk_42_method_54_code 1 (some .int) ws (own_R 1 0 0 13) #[(.ref a)] h0 (Q_str_len_0 Z a gC h0 n0) := by
  have wd := @own_wd _ _ hw
  refine MetFree.of_bodySF (plainFor_of_name pn_java_lang_String) hisR ?_
  intro p e s m args below meth c s₁ Bd hml0 hP hK
  obtain ⟨rfl, hZ, hh⟩ := hP
  have hx := Bd.exec
  have hby := Bd.bytes
  have hml : c.maxLocals = 1 := hml0
  have hown : s.vm.findClass "java/lang/String" = some m.cls := findClass_of_methodNamed Bd.named
  have hnm := (name_of_methodNamed Bd.named Bd.method).1
  have X0 : Stand p l e (own_R 1 0 0 13) s m #[(.ref a)] below meth c s₁ [] 0 0 := Stand.of_body Bd
  have e0 : s₁.heap = h0 := by rw [← hh, Bd.state]; rfl
  have N0 := Fr.nil n0
  obtain ⟨t, k, Ea, Fc, Fv, Va, hcs⟩ := S
  have lta := own_nlt (Ea.lt)
  have ltt := own_nlt (Va.lt)
  refine go_of (A := s₁.setTop (entryFrame m #[(.ref a)] 1)) (B := s₁.setTop (mkF m 0 #[.val (.ref a)] [])) (fun _ kk' => castTop (ef_str_len_0 m a) kk') ?_
  refine go_of (B := (s₁.setTop (mkF m 1 #[.val (.ref a)] [(.ref a)]))) (fun _ kk => XS.aloadN X0.here hx rfl (hb hby d9_0) rfl rfl kk) ?_
  obtain ⟨T1, X1, e1, st1⟩ := getF X0 hx hZ hown (host := "") (Or.inl (wd 25 rfl)) Via.refl e0 Fv (g := (mkF m 1 #[.val (.ref a)] [(.ref a)])) rfl rfl (hb hby d9_1)
  refine go_of (B := (T1.setTop (mkF m 4 #[.val (.ref a)] [(.ref t)]))) (st1) ?_
  obtain ⟨cl2, Ar2, q2, Sz2, Nn2, Hh2, G2⟩ := id (Va)
  have ln2 := len_of Sz2 Nn2
  refine go_of (B := (T1.setTop (mkF m 5 #[.val (.ref a)] [(.int (0 : Int32))]))) (fun _ kk => X1.arraylength hx (by rw [e1]; exact Ar2.1) (State.isArrayOf_alike hZ.alike Ar2.2.1) (g := (mkF m 4 #[.val (.ref a)] [(.ref t)])) rfl rfl (hb hby d9_4) _ (by rw [ln2]; exact kk)) ?_
  refine go_of (B := (T1.setTop (mkF m 6 #[.val (.ref a)] [(.ref a), (.int (0 : Int32))]))) (fun _ kk => XS.aloadN X1.here hx rfl (hb hby d9_5) rfl rfl kk) ?_
  obtain ⟨cq3, kq3, q3a, q3b, q3c⟩ := isOf hZ e1 Ea
  obtain ⟨_, _, ⟨T3, L3, k3, n3⟩, -, X3, ⟨Lc3, hQ3, l3, y3, z3⟩, st3⟩ := X1.virtualBack hx (y := MN14) (z := MN14) hown (mvT hZ (wd 52 rfl)) (mvT hZ (wd 53 rfl)) (notFace_of_selects (args := #[]) (mvT hZ (wd 55 rfl))) (mvT hZ (wd 55 rfl)) (mvT hZ (wd 54 rfl)) (by decide) (backOf (W := 1) (str_coder l Z a0 hw [] a gC h0 n0 Z0 O SC hgC Fc) hZ (wd 56 rfl) (wd 7 rfl) (by decide) (by decide)) q3a q3c (g := (mkF m 6 #[.val (.ref a)] [(.ref a), (.int (0 : Int32))])) rfl (by rw [hml]; rfl) (Steps.refl _) (argsL := []) (rest := [(.int (0 : Int32))]) (lenOf pd___B rfl) rfl (by show 2 * 0 + _ ≤ _; exact Nat.le_of_eq rfl) (hb hby d9_6) (fun _ _ => ⟨rfl, e1, (by decide : 0 + 0 ≤ _), (by decide : 0 + 0 ≤ _)⟩)
  dsimp only [Pt.U, Pt.locs, Pt.cells, Pt.slots] at X3 l3 y3 z3 st3 hQ3
  subst l3 y3 z3
  obtain ⟨rfl, N3q, e3⟩ := hQ3
  have N3 := Fr.app N0 N3q
  refine go_tr (B := (T3.setTop (mkF m 9 #[.val (.ref a)] [(.int (0 : Int32)), (.int (0 : Int32))]))) (st3) ?_
  refine go_of (B := (T3.setTop (mkF m 10 #[.val (.ref a)] [(.int (0 : Int32))]))) (fun _ kk => XS.ishr X3.here hx rfl (hb hby d9_9) rfl kk) ?_
  refine go_end X3 (v := some (.int (0 : Int32))) (fun h => by rw [Bd.returns] at h; cases h) Bd.notSynchronized (by decide) (by decide) (Q := (Q_str_len_0 Z a gC h0 n0)) ?_ (fun fs hr => own_retI X3 hx Bd.returns (hb hby d9_10) hr)
  unfold Q_str_len_0
  try rw [e3]
  exact ⟨rfl, N3, rfl⟩
theorem d7_0 : decode jdk_42_method_80_code 0 = .ok (.aload_n 0, 1) := by decide +kernel
theorem d7_1 : decode jdk_42_method_80_code 1 = .ok (.invokevirtual 492, 3) := by decide +kernel
theorem pd___Z : parseMethodDescriptor "()Z" = some ⟨[], some .boolean⟩ := by decide +kernel
theorem d7_4 : decode jdk_42_method_80_code 4 = .ok (.ifCond .eq 19, 3) := by decide +kernel
theorem d7_7 : decode jdk_42_method_80_code 7 = .ok (.aload_n 0, 1) := by decide +kernel
theorem d7_8 : decode jdk_42_method_80_code 8 = .ok (.getfield 9, 3) := by decide +kernel
theorem d7_11 : decode jdk_42_method_80_code 11 = .ok (.iload_n 1, 1) := by decide +kernel
theorem d7_12 : decode jdk_42_method_80_code 12 = .ok (.iload_n 2, 1) := by decide +kernel
theorem d7_13 : decode jdk_42_method_80_code 13 = .ok (.aload_n 0, 1) := by decide +kernel
theorem d7_14 : decode jdk_42_method_80_code 14 = .ok (.invokevirtual 505, 3) := by decide +kernel
theorem pd___I : parseMethodDescriptor "()I" = some ⟨[], some .int⟩ := by decide +kernel
theorem d7_17 : decode jdk_42_method_80_code 17 = .ok (.invokestatic 637, 3) := by decide +kernel
theorem pd___BIII_I : parseMethodDescriptor "([BIII)I" = some ⟨[(.array .byte), .int, .int, .int], some .int⟩ := by decide +kernel
theorem d7_20 : decode jdk_42_method_80_code 20 = .ok (.goto 16, 3) := by decide +kernel
theorem d7_36 : decode jdk_42_method_80_code 36 = .ok (.ireturn, 1) := by decide +kernel
def Q_v_si2_0_32 (Z : State) (a : Addr) (gC : Int32) (h0 : Heap) (n0 : Nat) (v : Option Value) (h : Heap) (L : List Loc) : Prop := ∃ r : Int32, v = some (.int r) ∧ (r < 0 ↔ own_hs (32 : Int32) [] = false) ∧ Fr n0 L ∧ h = h0
theorem ef_v_si2_0_32 (m : MethodId) (a : Addr)  : entryFrame m #[(.ref a), (.int (32 : Int32)), (.int (0 : Int32))] 3 = mkF m 0 #[.val (.ref a), .val (.int (32 : Int32)), .val (.int (0 : Int32))] [] := by first | (simp [entryFrame, mkF, argsToLocals, Value.category]; done) | rfl
theorem v_si2_0_32 (l : Launch) (Z : State) (a0 : Array Value) (hw : TW a0 Z) (ws : List Jvm.Cond) (a : Addr) (gC : Int32) (h0 : Heap) (n0 : Nat) (Z0 : n0 ≤ h0.size) (O : Old Z n0 h0) (SC : Sta Z Z.heap "java/lang/String" "COMPACT_STRINGS" "Z" (.int gC)) (hgC : ¬ gC = (0 : Int32)) (S : Str Z h0 a 0 []) :
    own_MF l Z MN17 jdk_42_method_80_code 3 (some .int) ws (own_R 2 0 0 28) #[(.ref a), (.int (32 : Int32)), (.int (0 : Int32))] h0 (Q_v_si2_0_32 Z a gC h0 n0) := by
  have wd := @own_wd _ _ hw
  refine MetFree.of_bodySF (plainFor_of_name pn_java_lang_String) hisR ?_
  intro p e s m args below meth c s₁ Bd hml0 hP hK
  obtain ⟨rfl, hZ, hh⟩ := hP
  have hx := Bd.exec
  have hby := Bd.bytes
  have hml : c.maxLocals = 3 := hml0
  have hown : s.vm.findClass "java/lang/String" = some m.cls := findClass_of_methodNamed Bd.named
  have hnm := (name_of_methodNamed Bd.named Bd.method).1
  have X0 : Stand p l e (own_R 2 0 0 28) s m #[(.ref a), (.int (32 : Int32)), (.int (0 : Int32))] below meth c s₁ [] 0 0 := Stand.of_body Bd
  have e0 : s₁.heap = h0 := by rw [← hh, Bd.state]; rfl
  have N0 := Fr.nil n0
  obtain ⟨t, k, Ea, Fc, Fv, Va, hcs⟩ := (id S)
  have lta := own_nlt (Ea.lt)
  have ltt := own_nlt (Va.lt)
  refine go_of (A := s₁.setTop (entryFrame m #[(.ref a), (.int (32 : Int32)), (.int (0 : Int32))] 3)) (B := s₁.setTop (mkF m 0 #[.val (.ref a), .val (.int (32 : Int32)), .val (.int (0 : Int32))] [])) (fun _ kk' => castTop (ef_v_si2_0_32 m a) kk') ?_
  refine go_of (B := (s₁.setTop (mkF m 1 #[.val (.ref a), .val (.int (32 : Int32)), .val (.int (0 : Int32))] [(.ref a)]))) (fun _ kk => XS.aloadN X0.here hx rfl (hb hby d7_0) rfl rfl kk) ?_
  obtain ⟨cq1, kq1, q1a, q1b, q1c⟩ := isOf hZ e0 Ea
  obtain ⟨_, _, ⟨T1, L1, k1, n1⟩, -, X1, ⟨Lc1, hQ1, l1, y1, z1⟩, st1⟩ := X0.virtualBack hx (y := MN18) (z := MN18) hown (mvT hZ (wd 41 rfl)) (mvT hZ (wd 42 rfl)) (notFace_of_selects (args := #[]) (mvT hZ (wd 44 rfl))) (mvT hZ (wd 44 rfl)) (mvT hZ (wd 43 rfl)) (by decide) (backOf (W := 0) (str_latin l Z a0 hw [] a gC h0 n0 (by omega) O SC hgC Fc) hZ (wd 45 rfl) (wd 7 rfl) (by decide) (by decide)) q1a q1c (g := (mkF m 1 #[.val (.ref a), .val (.int (32 : Int32)), .val (.int (0 : Int32))] [(.ref a)])) rfl (by rw [hml]; rfl) (Steps.refl _) (argsL := []) (rest := []) (lenOf pd___Z rfl) rfl (by show 2 * 0 + _ ≤ _; exact Nat.le_of_eq rfl) (hb hby d7_1) (fun _ _ => ⟨rfl, e0, (by decide : 0 + 0 ≤ _), (by decide : 0 + 0 ≤ _)⟩)
  dsimp only [Pt.U, Pt.locs, Pt.cells, Pt.slots] at X1 l1 y1 z1 st1 hQ1
  subst l1 y1 z1
  obtain ⟨rfl, N1q, e1⟩ := hQ1
  have N1 := Fr.app N0 N1q
  refine go_tr (B := (T1.setTop (mkF m 4 #[.val (.ref a), .val (.int (32 : Int32)), .val (.int (0 : Int32))] [(.int (1 : Int32))]))) (st1) ?_
  refine go_of (B := (T1.setTop (mkF m 8 #[.val (.ref a), .val (.int (32 : Int32)), .val (.int (0 : Int32))] [(.ref a)]))) (fun _ kk => XS.ifNo X1.here hx rfl (hb hby d7_4) rfl ((if0 _ _).trans (feq (by decide : ¬ ((1 : Int32) = (0 : Int32)))).1) (XS.aloadN X1.here hx rfl (hb hby d7_7) rfl rfl kk)) ?_
  obtain ⟨T2, X2, e2, st2⟩ := getF X1 hx hZ hown (host := "") (Or.inl (wd 25 rfl)) Via.refl e1 Fv (g := (mkF m 8 #[.val (.ref a), .val (.int (32 : Int32)), .val (.int (0 : Int32))] [(.ref a)])) rfl rfl (hb hby d7_8)
  refine go_of (B := (T2.setTop (mkF m 11 #[.val (.ref a), .val (.int (32 : Int32)), .val (.int (0 : Int32))] [(.ref t)]))) (st2) ?_
  refine go_of (B := (T2.setTop (mkF m 14 #[.val (.ref a), .val (.int (32 : Int32)), .val (.int (0 : Int32))] [(.ref a), (.int (0 : Int32)), (.int (32 : Int32)), (.ref t)]))) (fun _ kk => XS.iloadN X2.here hx rfl (hb hby d7_11) rfl (XS.iloadN X2.here hx rfl (hb hby d7_12) rfl (XS.aloadN X2.here hx rfl (hb hby d7_13) rfl rfl kk))) ?_
  obtain ⟨cq3, kq3, q3a, q3b, q3c⟩ := isOf hZ e2 Ea
  obtain ⟨_, _, ⟨T3, L3, k3, n3⟩, -, X3, ⟨Lc3, hQ3, l3, y3, z3⟩, st3⟩ := X2.virtualBack hx (y := MN19) (z := MN19) hown (mvT hZ (wd 47 rfl)) (mvT hZ (wd 48 rfl)) (notFace_of_selects (args := #[]) (mvT hZ (wd 50 rfl))) (mvT hZ (wd 50 rfl)) (mvT hZ (wd 49 rfl)) (by decide) (backOf (W := 3) (str_len_0 l Z a0 hw [] a  gC h0 n0 (by omega) O SC hgC S) hZ (wd 51 rfl) (wd 7 rfl) (by decide) (by decide)) q3a q3c (g := (mkF m 14 #[.val (.ref a), .val (.int (32 : Int32)), .val (.int (0 : Int32))] [(.ref a), (.int (0 : Int32)), (.int (32 : Int32)), (.ref t)])) rfl (by rw [hml]; rfl) (Steps.refl _) (argsL := []) (rest := [(.int (0 : Int32)), (.int (32 : Int32)), (.ref t)]) (lenOf pd___I rfl) rfl (by show 2 * 0 + _ ≤ _; exact Nat.le_of_eq rfl) (hb hby d7_14) (fun _ _ => ⟨rfl, e2, (by decide : 0 + 0 ≤ _), (by decide : 0 + 0 ≤ _)⟩)
  dsimp only [Pt.U, Pt.locs, Pt.cells, Pt.slots] at X3 l3 y3 z3 st3 hQ3
  subst l3 y3 z3
  obtain ⟨rfl, N3q, e3⟩ := hQ3
  have N3 := Fr.app N1 N3q
  refine go_tr (B := (T3.setTop (mkF m 17 #[.val (.ref a), .val (.int (32 : Int32)), .val (.int (0 : Int32))] [(.int (0 : Int32)), (.int (0 : Int32)), (.int (32 : Int32)), (.ref t)]))) (st3) ?_
  obtain ⟨_, _, ⟨T4, L4, k4, n4⟩, -, X4, ⟨Lc4, hQ4, l4, y4, z4⟩, st4⟩ := Jvm.LawKit.callS X3 hx (y := MN24) hown (mvT hZ (wd 57 rfl)) (mvT hZ (wd 58 rfl)) (mvT hZ (wd 59 rfl)) (mvT hZ (wd 60 rfl)) (by decide) (backOf (W := 0) (v_lio_0_32 l Z a0 hw [] t  k h0 n0 (by omega) Va) hZ (wd 60 rfl) (wd 59 rfl) (by decide) (by decide)) (g := (mkF m 17 #[.val (.ref a), .val (.int (32 : Int32)), .val (.int (0 : Int32))] [(.int (0 : Int32)), (.int (0 : Int32)), (.int (32 : Int32)), (.ref t)])) rfl (by rw [hml]; rfl) (argsL := [(.ref t), (.int (32 : Int32)), (.int (0 : Int32)), (.int (0 : Int32))]) (rest := []) (lenOf pd___BIII_I rfl) rfl (by show 2 * 0 + _ ≤ _; exact Nat.le_of_eq rfl) (hb hby d7_17) (fun _ _ => ⟨rfl, e3, (by decide : 0 + 0 ≤ _), (by decide : 0 + 0 ≤ _)⟩)
  dsimp only [Pt.U, Pt.locs, Pt.cells, Pt.slots] at X4 l4 y4 z4 st4 hQ4
  subst l4 y4 z4
  obtain ⟨r4, rfl, hr4, N4q, e4⟩ := hQ4
  have N4 := Fr.app N3 N4q
  refine go_of (B := (T4.setTop (mkF m 20 #[.val (.ref a), .val (.int (32 : Int32)), .val (.int (0 : Int32))] [(.int r4)]))) (st4) ?_
  refine go_of (B := (T4.setTop (mkF m 36 #[.val (.ref a), .val (.int (32 : Int32)), .val (.int (0 : Int32))] [(.int r4)]))) (fun _ kk => XS.goto X4.here hx rfl (pc0 := 20) (pc' := 36) rfl (hb hby d7_20) (by decide) (by decide) kk) ?_
  refine go_end X4 (v := some (.int r4)) (fun h => by rw [Bd.returns] at h; cases h) Bd.notSynchronized (by decide) (by decide) (Q := (Q_v_si2_0_32 Z a gC h0 n0)) ?_ (fun fs hr => own_retI X4 hx Bd.returns (hb hby d7_36) hr)
  unfold Q_v_si2_0_32
  try rw [e4]
  exact ⟨_, rfl, hr4.trans (iff_of_eq (congrArg (fun b => b = false) (own_hsb (32 : Int32) (by decide) [] hcs))), N4, rfl⟩
theorem d6_0 : decode jdk_42_method_79_code 0 = .ok (.aload_n 0, 1) := by decide +kernel
theorem d6_1 : decode jdk_42_method_79_code 1 = .ok (.iload_n 1, 1) := by decide +kernel
theorem d6_2 : decode jdk_42_method_79_code 2 = .ok (.iconst 0, 1) := by decide +kernel
theorem d6_3 : decode jdk_42_method_79_code 3 = .ok (.invokevirtual 633, 3) := by decide +kernel
theorem d6_6 : decode jdk_42_method_79_code 6 = .ok (.ireturn, 1) := by decide +kernel
def Q_v_si_0_32 (Z : State) (a : Addr) (gC : Int32) (h0 : Heap) (n0 : Nat) (v : Option Value) (h : Heap) (L : List Loc) : Prop := ∃ r : Int32, v = some (.int r) ∧ (r < 0 ↔ own_hs (32 : Int32) [] = false) ∧ Fr n0 L ∧ h = h0
theorem ef_v_si_0_32 (m : MethodId) (a : Addr)  : entryFrame m #[(.ref a), (.int (32 : Int32))] 2 = mkF m 0 #[.val (.ref a), .val (.int (32 : Int32))] [] := by first | (simp [entryFrame, mkF, argsToLocals, Value.category]; done) | rfl
theorem v_si_0_32 (l : Launch) (Z : State) (a0 : Array Value) (hw : TW a0 Z) (ws : List Jvm.Cond) (a : Addr) (gC : Int32) (h0 : Heap) (n0 : Nat) (Z0 : n0 ≤ h0.size) (O : Old Z n0 h0) (SC : Sta Z Z.heap "java/lang/String" "COMPACT_STRINGS" "Z" (.int gC)) (hgC : ¬ gC = (0 : Int32)) (S : Str Z h0 a 0 []) :
    own_MF l Z MN16 jdk_42_method_79_code 2 (some .int) ws (own_R 3 0 0 42) #[(.ref a), (.int (32 : Int32))] h0 (Q_v_si_0_32 Z a gC h0 n0) := by
  have wd := @own_wd _ _ hw
  refine MetFree.of_bodySF (plainFor_of_name pn_java_lang_String) hisR ?_
  intro p e s m args below meth c s₁ Bd hml0 hP hK
  obtain ⟨rfl, hZ, hh⟩ := hP
  have hx := Bd.exec
  have hby := Bd.bytes
  have hml : c.maxLocals = 2 := hml0
  have hown : s.vm.findClass "java/lang/String" = some m.cls := findClass_of_methodNamed Bd.named
  have hnm := (name_of_methodNamed Bd.named Bd.method).1
  have X0 : Stand p l e (own_R 3 0 0 42) s m #[(.ref a), (.int (32 : Int32))] below meth c s₁ [] 0 0 := Stand.of_body Bd
  have e0 : s₁.heap = h0 := by rw [← hh, Bd.state]; rfl
  have N0 := Fr.nil n0
  refine go_of (A := s₁.setTop (entryFrame m #[(.ref a), (.int (32 : Int32))] 2)) (B := s₁.setTop (mkF m 0 #[.val (.ref a), .val (.int (32 : Int32))] [])) (fun _ kk' => castTop (ef_v_si_0_32 m a) kk') ?_
  refine go_of (B := (s₁.setTop (mkF m 3 #[.val (.ref a), .val (.int (32 : Int32))] [(.int (0 : Int32)), (.int (32 : Int32)), (.ref a)]))) (fun _ kk => XS.aloadN X0.here hx rfl (hb hby d6_0) rfl rfl (XS.iloadN X0.here hx rfl (hb hby d6_1) rfl (XS.iconst X0.here hx rfl (hb hby d6_2) kk))) ?_
  obtain ⟨cq1, kq1, q1a, q1b, q1c⟩ := isOf hZ e0 S.exa
  obtain ⟨_, _, ⟨T1, L1, k1, n1⟩, -, X1, ⟨Lc1, hQ1, l1, y1, z1⟩, st1⟩ := X0.virtualBack hx (y := MN17) (z := MN17) hown (mvT hZ (wd 36 rfl)) (mvT hZ (wd 37 rfl)) (notFace_of_selects (args := #[]) (mvT hZ (wd 39 rfl))) (mvT hZ (wd 39 rfl)) (mvT hZ (wd 38 rfl)) (by decide) (backOf (W := 0) (v_si2_0_32 l Z a0 hw [] a  gC h0 n0 (by omega) O SC hgC S) hZ (wd 40 rfl) (wd 7 rfl) (by decide) (by decide)) q1a q1c (g := (mkF m 3 #[.val (.ref a), .val (.int (32 : Int32))] [(.int (0 : Int32)), (.int (32 : Int32)), (.ref a)])) rfl (by rw [hml]; rfl) (Steps.refl _) (argsL := [(.int (32 : Int32)), (.int (0 : Int32))]) (rest := []) (lenOf pd__II_I rfl) rfl (by show 2 * 0 + _ ≤ _; exact Nat.le_of_eq rfl) (hb hby d6_3) (fun _ _ => ⟨rfl, e0, (by decide : 0 + 0 ≤ _), (by decide : 0 + 0 ≤ _)⟩)
  dsimp only [Pt.U, Pt.locs, Pt.cells, Pt.slots] at X1 l1 y1 z1 st1 hQ1
  subst l1 y1 z1
  obtain ⟨r1, rfl, hr1, N1q, e1⟩ := hQ1
  have N1 := Fr.app N0 N1q
  refine go_tr (B := (T1.setTop (mkF m 6 #[.val (.ref a), .val (.int (32 : Int32))] [(.int r1)]))) (st1) ?_
  refine go_end X1 (v := some (.int r1)) (fun h => by rw [Bd.returns] at h; cases h) Bd.notSynchronized (by decide) (by decide) (Q := (Q_v_si_0_32 Z a gC h0 n0)) ?_ (fun fs hr => own_retI X1 hx Bd.returns (hb hby d6_6) hr)
  unfold Q_v_si_0_32
  try rw [e1]
  exact ⟨_, rfl, hr1, N1, rfl⟩
theorem d5_0 : decode prog_10_method_13_code 0 = .ok (.aload_n 0, 1) := by decide +kernel
theorem d5_1 : decode prog_10_method_13_code 1 = .ok (.bipush 32, 2) := by decide +kernel
theorem d5_3 : decode prog_10_method_13_code 3 = .ok (.invokevirtual 125, 3) := by decide +kernel
theorem pd__I_I : parseMethodDescriptor "(I)I" = some ⟨[.int], some .int⟩ := by decide +kernel
theorem d5_6 : decode prog_10_method_13_code 6 = .ok (.ifCond .lt 7, 3) := by decide +kernel
theorem d5_13 : decode prog_10_method_13_code 13 = .ok (.iconst 0, 1) := by decide +kernel
theorem d5_14 : decode prog_10_method_13_code 14 = .ok (.ireturn, 1) := by decide +kernel
def Q_no_0 (Z : State) (a : Addr) (gC : Int32) (h0 : Heap) (n0 : Nat) (v : Option Value) (h : Heap) (L : List Loc) : Prop := v = some (.int (own_no [])) ∧ Fr n0 L ∧ h = h0
theorem d5_9 : decode prog_10_method_13_code 9 = .ok (.iconst 1, 1) := by decide +kernel
theorem d5_10 : decode prog_10_method_13_code 10 = .ok (.goto 4, 3) := by decide +kernel
theorem pn_com_example_holdfast_holdfast_HoldfastLock_Exclusive : plainName "com/example/holdfast/holdfast/HoldfastLock$Exclusive" = true := by first | (simp [plainName, overriddenIn]; done) | decide +kernel
theorem ef_no_0 (m : MethodId) (a : Addr)  : entryFrame m #[(.ref a)] 1 = mkF m 0 #[.val (.ref a)] [] := by first | (simp [entryFrame, mkF, argsToLocals, Value.category]; done) | rfl
theorem no_0 (l : Launch) (Z : State) (a0 : Array Value) (hw : TW a0 Z) (ws : List Jvm.Cond) (a : Addr) (gC : Int32) (h0 : Heap) (n0 : Nat) (Z0 : n0 ≤ h0.size) (O : Old Z n0 h0) (SC : Sta Z Z.heap "java/lang/String" "COMPACT_STRINGS" "Z" (.int gC)) (hgC : ¬ gC = (0 : Int32)) (S : Str Z h0 a 0 []) :
    own_MF l Z MN2 prog_10_method_13_code 1 (some .boolean) ws (own_R 4 0 0 55) #[(.ref a)] h0 (Q_no_0 Z a gC h0 n0) := by
  have wd := @own_wd _ _ hw
  refine MetFree.of_bodySF (plainFor_of_name pn_com_example_holdfast_holdfast_HoldfastLock_Exclusive) hisR ?_
  intro p e s m args below meth c s₁ Bd hml0 hP hK
  obtain ⟨rfl, hZ, hh⟩ := hP
  have hx := Bd.exec
  have hby := Bd.bytes
  have hml : c.maxLocals = 1 := hml0
  have hown : s.vm.findClass "com/example/holdfast/holdfast/HoldfastLock$Exclusive" = some m.cls := findClass_of_methodNamed Bd.named
  have hnm := (name_of_methodNamed Bd.named Bd.method).1
  have X0 : Stand p l e (own_R 4 0 0 55) s m #[(.ref a)] below meth c s₁ [] 0 0 := Stand.of_body Bd
  have e0 : s₁.heap = h0 := by rw [← hh, Bd.state]; rfl
  have N0 := Fr.nil n0
  refine go_of (A := s₁.setTop (entryFrame m #[(.ref a)] 1)) (B := s₁.setTop (mkF m 0 #[.val (.ref a)] [])) (fun _ kk' => castTop (ef_no_0 m a) kk') ?_
  refine go_of (B := (s₁.setTop (mkF m 3 #[.val (.ref a)] [(.int (32 : Int32)), (.ref a)]))) (fun _ kk => XS.aloadN X0.here hx rfl (hb hby d5_0) rfl rfl (XS.bipush X0.here hx rfl (hb hby d5_1) kk)) ?_
  obtain ⟨cq1, kq1, q1a, q1b, q1c⟩ := isOf hZ e0 S.exa
  obtain ⟨_, _, ⟨T1, L1, k1, n1⟩, -, X1, ⟨Lc1, hQ1, l1, y1, z1⟩, st1⟩ := X0.virtualBack hx (y := MN16) (z := MN16) hown (mvT hZ (wd 31 rfl)) (mvT hZ (wd 32 rfl)) (notFace_of_selects (args := #[]) (mvT hZ (wd 34 rfl))) (mvT hZ (wd 34 rfl)) (mvT hZ (wd 33 rfl)) (by decide) (backOf (W := 0) (v_si_0_32 l Z a0 hw [] a  gC h0 n0 (by omega) O SC hgC S) hZ (wd 35 rfl) (wd 7 rfl) (by decide) (by decide)) q1a q1c (g := (mkF m 3 #[.val (.ref a)] [(.int (32 : Int32)), (.ref a)])) rfl (by rw [hml]; rfl) (Steps.refl _) (argsL := [(.int (32 : Int32))]) (rest := []) (lenOf pd__I_I rfl) rfl (by show 2 * 0 + _ ≤ _; exact Nat.le_of_eq rfl) (hb hby d5_3) (fun _ _ => ⟨rfl, e0, (by decide : 0 + 0 ≤ _), (by decide : 0 + 0 ≤ _)⟩)
  dsimp only [Pt.U, Pt.locs, Pt.cells, Pt.slots] at X1 l1 y1 z1 st1 hQ1
  subst l1 y1 z1
  obtain ⟨r1, rfl, hr1, N1q, e1⟩ := hQ1
  have N1 := Fr.app N0 N1q
  refine go_tr (B := (T1.setTop (mkF m 6 #[.val (.ref a)] [(.int r1)]))) (st1) ?_
  by_cases hcc2 : r1 < (0 : Int32)
  · refine go_of (B := (T1.setTop (mkF m 14 #[.val (.ref a)] [(.int (0 : Int32))]))) (fun _ kk => XS.ifYes X1.here hx rfl (pc0 := 6) (pc' := 13) rfl (hb hby d5_6) rfl ((if0 _ _).trans (tlt hcc2).1) (by decide) (by decide) (XS.iconst X1.here hx rfl (hb hby d5_13) kk)) ?_
    refine go_end X1 (v := some (.int (nar .boolean (0 : Int32)))) (fun h => by rw [Bd.returns] at h; cases h) Bd.notSynchronized (by decide) (by decide) (Q := (Q_no_0 Z a gC h0 n0)) ?_ (fun fs hr => retN X1 hx (t := .boolean) Bd.returns (by simp) (hb hby d5_14) hr)
    unfold Q_no_0
    try rw [e1]
    refine ⟨?_, N1, rfl⟩
    have hq := hr1.mp hcc2
    rw [own_no, hq]; rfl
  · refine go_of (B := (T1.setTop (mkF m 14 #[.val (.ref a)] [(.int (1 : Int32))]))) (fun _ kk => XS.ifNo X1.here hx rfl (hb hby d5_6) rfl ((if0 _ _).trans (flt hcc2).1) (XS.iconst X1.here hx rfl (hb hby d5_9) (XS.goto X1.here hx rfl (pc0 := 10) (pc' := 14) rfl (hb hby d5_10) (by decide) (by decide) kk))) ?_
    refine go_end X1 (v := some (.int (nar .boolean (1 : Int32)))) (fun h => by rw [Bd.returns] at h; cases h) Bd.notSynchronized (by decide) (by decide) (Q := (Q_no_0 Z a gC h0 n0)) ?_ (fun fs hr => retN X1 hx (t := .boolean) Bd.returns (by simp) (hb hby d5_14) hr)
    unfold Q_no_0
    try rw [e1]
    refine ⟨?_, N1, rfl⟩
    have hq := own_bt (fun q => hcc2 (hr1.mpr q))
    rw [own_no, hq]; rfl
theorem d38_0 : decode jdk_43_method_23_code 0 = .ok (.iload_n 1, 1) := by decide +kernel
theorem d38_1 : decode jdk_43_method_23_code 1 = .ok (.i2b, 1) := by decide +kernel
theorem d38_2 : decode jdk_43_method_23_code 2 = .ok (.istore 4, 2) := by decide +kernel
theorem d38_4 : decode jdk_43_method_23_code 4 = .ok (.iload_n 2, 1) := by decide +kernel
theorem d38_5 : decode jdk_43_method_23_code 5 = .ok (.istore 5, 2) := by decide +kernel
theorem d38_7 : decode jdk_43_method_23_code 7 = .ok (.iload 5, 2) := by decide +kernel
theorem d38_9 : decode jdk_43_method_23_code 9 = .ok (.iload_n 3, 1) := by decide +kernel
theorem d38_10 : decode jdk_43_method_23_code 10 = .ok (.if_icmp .ge 21, 3) := by decide +kernel
theorem d38_13 : decode jdk_43_method_23_code 13 = .ok (.aload_n 0, 1) := by decide +kernel
theorem d38_14 : decode jdk_43_method_23_code 14 = .ok (.iload 5, 2) := by decide +kernel
theorem d38_16 : decode jdk_43_method_23_code 16 = .ok (.baload, 1) := by decide +kernel
theorem d38_17 : decode jdk_43_method_23_code 17 = .ok (.iload 4, 2) := by decide +kernel
theorem d38_19 : decode jdk_43_method_23_code 19 = .ok (.if_icmp .ne 6, 3) := by decide +kernel
theorem d38_22 : decode jdk_43_method_23_code 22 = .ok (.iload 5, 2) := by decide +kernel
theorem d38_24 : decode jdk_43_method_23_code 24 = .ok (.ireturn, 1) := by decide +kernel
def Q_v_ioc_1_32 (Z : State) (t : Addr) (w0 : Int32) (k : ClassId) (h0 : Heap) (n0 : Nat) (v : Option Value) (h : Heap) (L : List Loc) : Prop := ∃ r : Int32, v = some (.int r) ∧ (r < 0 ↔ own_hs (32 : Int32) [w0] = false) ∧ Fr n0 L ∧ h = h0
theorem d38_25 : decode jdk_43_method_23_code 25 = .ok (.iinc 5 1, 3) := by decide +kernel
theorem d38_28 : decode jdk_43_method_23_code 28 = .ok (.goto (-21), 3) := by decide +kernel
theorem d38_31 : decode jdk_43_method_23_code 31 = .ok (.iconst (-1), 1) := by decide +kernel
theorem d38_32 : decode jdk_43_method_23_code 32 = .ok (.ireturn, 1) := by decide +kernel
theorem ef_v_ioc_1_32 (m : MethodId) (t : Addr)  : entryFrame m #[(.ref t), (.int (32 : Int32)), (.int (0 : Int32)), (.int (1 : Int32))] 6 = mkF m 0 #[.val (.ref t), .val (.int (32 : Int32)), .val (.int (0 : Int32)), .val (.int (1 : Int32)), .unset, .unset] [] := by first | (simp [entryFrame, mkF, argsToLocals, Value.category]; done) | rfl
theorem v_ioc_1_32 (l : Launch) (Z : State) (a0 : Array Value) (hw : TW a0 Z) (ws : List Jvm.Cond) (t : Addr) (w0 : Int32) (k : ClassId) (h0 : Heap) (n0 : Nat) (Z0 : n0 ≤ h0.size) (V : Arv Z h0 t k .byte 1 [(.int w0)] (.int 0)) :
    own_MF l Z MN25 jdk_43_method_23_code 6 (some .int) ws (own_R 0 0 0 0) #[(.ref t), (.int (32 : Int32)), (.int (0 : Int32)), (.int (1 : Int32))] h0 (Q_v_ioc_1_32 Z t w0 k h0 n0) := by
  have wd := @own_wd _ _ hw
  refine MetFree.of_bodySF (plainFor_of_name pn_java_lang_StringLatin1) hisR ?_
  intro p e s m args below meth c s₁ Bd hml0 hP hK
  obtain ⟨rfl, hZ, hh⟩ := hP
  have hx := Bd.exec
  have hby := Bd.bytes
  have hml : c.maxLocals = 6 := hml0
  have hown : s.vm.findClass "java/lang/StringLatin1" = some m.cls := findClass_of_methodNamed Bd.named
  have hnm := (name_of_methodNamed Bd.named Bd.method).1
  have X0 : Stand p l e (own_R 0 0 0 0) s m #[(.ref t), (.int (32 : Int32)), (.int (0 : Int32)), (.int (1 : Int32))] below meth c s₁ [] 0 0 := Stand.of_body Bd
  have e0 : s₁.heap = h0 := by rw [← hh, Bd.state]; rfl
  have N0 := Fr.nil n0
  refine go_of (A := s₁.setTop (entryFrame m #[(.ref t), (.int (32 : Int32)), (.int (0 : Int32)), (.int (1 : Int32))] 6)) (B := s₁.setTop (mkF m 0 #[.val (.ref t), .val (.int (32 : Int32)), .val (.int (0 : Int32)), .val (.int (1 : Int32)), .unset, .unset] [])) (fun _ kk' => castTop (ef_v_ioc_1_32 m t) kk') ?_
  refine go_of (B := (s₁.setTop (mkF m 9 #[.val (.ref t), .val (.int (32 : Int32)), .val (.int (0 : Int32)), .val (.int (1 : Int32)), .val (.int (32 : Int32)), .val (.int (0 : Int32))] [(.int (0 : Int32))]))) (fun _ kk => XS.iloadN X0.here hx rfl (hb hby d38_0) rfl (XS.i2b X0.here hx rfl (hb hby d38_1) rfl (XS.istore X0.here hx rfl (hb hby d38_2) rfl rfl (XS.iloadN X0.here hx rfl (hb hby d38_4) rfl (XS.istore X0.here hx rfl (hb hby d38_5) rfl rfl (XS.iload X0.here hx rfl (hb hby d38_7) rfl kk)))))) ?_
  refine go_of (B := (s₁.setTop (mkF m 16 #[.val (.ref t), .val (.int (32 : Int32)), .val (.int (0 : Int32)), .val (.int (1 : Int32)), .val (.int (32 : Int32)), .val (.int (0 : Int32))] [(.int (0 : Int32)), (.ref t)]))) (fun _ kk => XS.iloadN X0.here hx rfl (hb hby d38_9) rfl (XS.icmpNo X0.here hx rfl (hb hby d38_10) rfl (tlt (by decide : (0 : Int32) < (1 : Int32))).2.1 (XS.aloadN X0.here hx rfl (hb hby d38_13) rfl rfl (XS.iload X0.here hx rfl (hb hby d38_14) rfl kk)))) ?_
  obtain ⟨cl1, Ar1, q1, Sz1, Nn1, Hh1, G1⟩ := id (V)
  refine go_of (B := (s₁.setTop (mkF m 19 #[.val (.ref t), .val (.int (32 : Int32)), .val (.int (0 : Int32)), .val (.int (1 : Int32)), .val (.int (32 : Int32)), .val (.int (0 : Int32))] [(.int (32 : Int32)), (.int w0)]))) (fun _ kk => X0.baloadBytes hx (j := (0 : Int32)) (v := (.int w0)) (by rw [e0]; exact Ar1.1) (State.isArrayOf_alike hZ.alike Ar1.2.1) Ar1.2.2 (inb_of Sz1 ⟨by decide, by decide⟩) (Hh1.at (inb_of Sz1 ⟨by decide, by decide⟩) rfl) (g := (mkF m 16 #[.val (.ref t), .val (.int (32 : Int32)), .val (.int (0 : Int32)), .val (.int (1 : Int32)), .val (.int (32 : Int32)), .val (.int (0 : Int32))] [(.int (0 : Int32)), (.ref t)])) rfl rfl (hb hby d38_16) _ (XS.iload X0.here hx rfl (hb hby d38_17) rfl kk)) ?_
  by_cases hcc2 : w0 = (32 : Int32)
  · refine go_of (B := (s₁.setTop (mkF m 24 #[.val (.ref t), .val (.int (32 : Int32)), .val (.int (0 : Int32)), .val (.int (1 : Int32)), .val (.int (32 : Int32)), .val (.int (0 : Int32))] [(.int (0 : Int32))]))) (fun _ kk => XS.icmpNo X0.here hx rfl (hb hby d38_19) rfl (teq hcc2).2 (XS.iload X0.here hx rfl (hb hby d38_22) rfl kk)) ?_
    refine go_end X0 (v := some (.int (0 : Int32))) (fun h => by rw [Bd.returns] at h; cases h) Bd.notSynchronized (by decide) (by decide) (Q := (Q_v_ioc_1_32 Z t w0 k h0 n0)) ?_ (fun fs hr => own_retI X0 hx Bd.returns (hb hby d38_24) hr)
    unfold Q_v_ioc_1_32
    try rw [e0]
    exact ⟨_, rfl, iff_of_false (by decide) (by simp [own_hs, hcc2]), N0, rfl⟩
  · refine go_of (B := (s₁.setTop (mkF m 31 #[.val (.ref t), .val (.int (32 : Int32)), .val (.int (0 : Int32)), .val (.int (1 : Int32)), .val (.int (32 : Int32)), .val (.int (1 : Int32))] []))) (fun _ kk => XS.icmpYes X0.here hx rfl (pc0 := 19) (pc' := 25) rfl (hb hby d38_19) rfl (feq hcc2).2 (by decide) (by decide) (XS.iinc X0.here hx rfl (hb hby d38_25) rfl rfl (XS.goto X0.here hx rfl (pc0 := 28) (pc' := 7) rfl (hb hby d38_28) (by decide) (by decide) (XS.iload X0.here hx rfl (hb hby d38_7) rfl (XS.iloadN X0.here hx rfl (hb hby d38_9) rfl (XS.icmpYes X0.here hx rfl (pc0 := 10) (pc' := 31) rfl (hb hby d38_10) rfl (flt (by decide : ¬ ((1 : Int32) < (1 : Int32)))).2.1 (by decide) (by decide) kk)))))) ?_
    refine go_of (B := (s₁.setTop (mkF m 32 #[.val (.ref t), .val (.int (32 : Int32)), .val (.int (0 : Int32)), .val (.int (1 : Int32)), .val (.int (32 : Int32)), .val (.int (1 : Int32))] [(.int (-1 : Int32))]))) (fun _ kk => XS.iconst X0.here hx rfl (hb hby d38_31) kk) ?_
    refine go_end X0 (v := some (.int (-1 : Int32))) (fun h => by rw [Bd.returns] at h; cases h) Bd.notSynchronized (by decide) (by decide) (Q := (Q_v_ioc_1_32 Z t w0 k h0 n0)) ?_ (fun fs hr => own_retI X0 hx Bd.returns (hb hby d38_32) hr)
    unfold Q_v_ioc_1_32
    try rw [e0]
    exact ⟨_, rfl, iff_of_true (by decide) (by simp [own_hs, hcc2]), N0, rfl⟩
theorem d11_29 : decode jdk_43_method_22_code 29 = .ok (.aload_n 0, 1) := by decide +kernel
theorem d11_30 : decode jdk_43_method_22_code 30 = .ok (.iload_n 1, 1) := by decide +kernel
theorem d11_31 : decode jdk_43_method_22_code 31 = .ok (.iload_n 2, 1) := by decide +kernel
theorem d11_32 : decode jdk_43_method_22_code 32 = .ok (.iload_n 3, 1) := by decide +kernel
theorem d11_33 : decode jdk_43_method_22_code 33 = .ok (.invokestatic 95, 3) := by decide +kernel
theorem d11_36 : decode jdk_43_method_22_code 36 = .ok (.ireturn, 1) := by decide +kernel
def Q_v_lio_1_32 (Z : State) (t : Addr) (w0 : Int32) (k : ClassId) (h0 : Heap) (n0 : Nat) (v : Option Value) (h : Heap) (L : List Loc) : Prop := ∃ r : Int32, v = some (.int r) ∧ (r < 0 ↔ own_hs (32 : Int32) [w0] = false) ∧ Fr n0 L ∧ h = h0
theorem ef_v_lio_1_32 (m : MethodId) (t : Addr)  : entryFrame m #[(.ref t), (.int (32 : Int32)), (.int (0 : Int32)), (.int (1 : Int32))] 4 = mkF m 0 #[.val (.ref t), .val (.int (32 : Int32)), .val (.int (0 : Int32)), .val (.int (1 : Int32))] [] := by first | (simp [entryFrame, mkF, argsToLocals, Value.category]; done) | rfl
theorem v_lio_1_32 (l : Launch) (Z : State) (a0 : Array Value) (hw : TW a0 Z) (ws : List Jvm.Cond) (t : Addr) (w0 : Int32) (k : ClassId) (h0 : Heap) (n0 : Nat) (Z0 : n0 ≤ h0.size) (V : Arv Z h0 t k .byte 1 [(.int w0)] (.int 0)) :
    own_MF l Z MN24 jdk_43_method_22_code 4 (some .int) ws (own_R 1 0 0 17) #[(.ref t), (.int (32 : Int32)), (.int (0 : Int32)), (.int (1 : Int32))] h0 (Q_v_lio_1_32 Z t w0 k h0 n0) := by
  have wd := @own_wd _ _ hw
  refine MetFree.of_bodySF (plainFor_of_name pn_java_lang_StringLatin1) hisR ?_
  intro p e s m args below meth c s₁ Bd hml0 hP hK
  obtain ⟨rfl, hZ, hh⟩ := hP
  have hx := Bd.exec
  have hby := Bd.bytes
  have hml : c.maxLocals = 4 := hml0
  have hown : s.vm.findClass "java/lang/StringLatin1" = some m.cls := findClass_of_methodNamed Bd.named
  have hnm := (name_of_methodNamed Bd.named Bd.method).1
  have X0 : Stand p l e (own_R 1 0 0 17) s m #[(.ref t), (.int (32 : Int32)), (.int (0 : Int32)), (.int (1 : Int32))] below meth c s₁ [] 0 0 := Stand.of_body Bd
  have e0 : s₁.heap = h0 := by rw [← hh, Bd.state]; rfl
  have N0 := Fr.nil n0
  refine go_of (A := s₁.setTop (entryFrame m #[(.ref t), (.int (32 : Int32)), (.int (0 : Int32)), (.int (1 : Int32))] 4)) (B := s₁.setTop (mkF m 0 #[.val (.ref t), .val (.int (32 : Int32)), .val (.int (0 : Int32)), .val (.int (1 : Int32))] [])) (fun _ kk' => castTop (ef_v_lio_1_32 m t) kk') ?_
  refine go_of (B := (s₁.setTop (mkF m 1 #[.val (.ref t), .val (.int (32 : Int32)), .val (.int (0 : Int32)), .val (.int (1 : Int32))] [(.int (32 : Int32))]))) (fun _ kk => XS.iloadN X0.here hx rfl (hb hby d11_0) rfl kk) ?_
  obtain ⟨_, _, ⟨T1, L1, k1, n1⟩, -, X1, ⟨Lc1, hQ1, l1, y1, z1⟩, st1⟩ := Jvm.LawKit.callS X0 hx (y := MN23) hown (mvT hZ (wd 61 rfl)) (mvT hZ (wd 62 rfl)) (mvT hZ (wd 59 rfl)) (mvT hZ (wd 63 rfl)) (by decide) (backOf (W := 0) (v_cani32 l Z a0 hw [] h0 n0 (by omega)) hZ (wd 63 rfl) (wd 59 rfl) (by decide) (by decide)) (g := (mkF m 1 #[.val (.ref t), .val (.int (32 : Int32)), .val (.int (0 : Int32)), .val (.int (1 : Int32))] [(.int (32 : Int32))])) rfl (by rw [hml]; rfl) (argsL := [(.int (32 : Int32))]) (rest := []) (lenOf pd__I_Z rfl) rfl (by show 2 * 0 + _ ≤ _; exact Nat.le_of_eq rfl) (hb hby d11_1) (fun _ _ => ⟨rfl, e0, (by decide : 0 + 0 ≤ _), (by decide : 0 + 0 ≤ _)⟩)
  dsimp only [Pt.U, Pt.locs, Pt.cells, Pt.slots] at X1 l1 y1 z1 st1 hQ1
  subst l1 y1 z1
  obtain ⟨rfl, N1q, e1⟩ := hQ1
  have N1 := Fr.app N0 N1q
  refine go_of (B := (T1.setTop (mkF m 4 #[.val (.ref t), .val (.int (32 : Int32)), .val (.int (0 : Int32)), .val (.int (1 : Int32))] [(.int (1 : Int32))]))) (st1) ?_
  refine go_of (B := (T1.setTop (mkF m 11 #[.val (.ref t), .val (.int (32 : Int32)), .val (.int (0 : Int32)), .val (.int (1 : Int32))] [(.int (0 : Int32)), (.int (0 : Int32))]))) (fun _ kk => XS.ifYes X1.here hx rfl (pc0 := 4) (pc' := 9) rfl (hb hby d11_4) rfl ((if0 _ _).trans (feq (by decide : ¬ ((1 : Int32) = (0 : Int32)))).2) (by decide) (by decide) (XS.iloadN X1.here hx rfl (hb hby d11_9) rfl (XS.iconst X1.here hx rfl (hb hby d11_10) kk))) ?_
  obtain ⟨_, _, ⟨T2, L2, k2, n2⟩, -, X2, ⟨Lc2, hQ2, l2, y2, z2⟩, st2⟩ := Jvm.LawKit.callS X1 hx (y := MN10) hown (mvT hZ (wd 64 rfl)) (mvT hZ (wd 65 rfl)) (mvT hZ (wd 66 rfl)) (mvT hZ (wd 67 rfl)) (by decide) (backOf (W := 0) (v_max l Z a0 hw [] (0 : Int32) (0 : Int32) (0 : Int32) h0 n0 (by omega) (by decide)) hZ (wd 67 rfl) (wd 66 rfl) (by decide) (by decide)) (g := (mkF m 11 #[.val (.ref t), .val (.int (32 : Int32)), .val (.int (0 : Int32)), .val (.int (1 : Int32))] [(.int (0 : Int32)), (.int (0 : Int32))])) rfl (by rw [hml]; rfl) (argsL := [(.int (0 : Int32)), (.int (0 : Int32))]) (rest := []) (lenOf pd__II_I rfl) rfl (by show 2 * 0 + _ ≤ _; exact Nat.le_of_eq rfl) (hb hby d11_11) (fun _ _ => ⟨rfl, e1, (by decide : 0 + 0 ≤ _), (by decide : 0 + 0 ≤ _)⟩)
  dsimp only [Pt.U, Pt.locs, Pt.cells, Pt.slots] at X2 l2 y2 z2 st2 hQ2
  subst l2 y2 z2
  obtain ⟨rfl, N2q, e2⟩ := hQ2
  have N2 := Fr.app N1 N2q
  refine go_of (B := (T2.setTop (mkF m 14 #[.val (.ref t), .val (.int (32 : Int32)), .val (.int (0 : Int32)), .val (.int (1 : Int32))] [(.int (0 : Int32))]))) (st2) ?_
  refine go_of (B := (T2.setTop (mkF m 17 #[.val (.ref t), .val (.int (32 : Int32)), .val (.int (0 : Int32)), .val (.int (1 : Int32))] [(.ref t), (.int (1 : Int32))]))) (fun _ kk => XS.istoreN X2.here hx rfl (hb hby d11_14) rfl rfl (XS.iloadN X2.here hx rfl (hb hby d11_15) rfl (XS.aloadN X2.here hx rfl (hb hby d11_16) rfl rfl kk))) ?_
  obtain ⟨cl3, Ar3, q3, Sz3, Nn3, Hh3, G3⟩ := id (V)
  have ln3 := len_of Sz3 Nn3
  refine go_of (B := (T2.setTop (mkF m 18 #[.val (.ref t), .val (.int (32 : Int32)), .val (.int (0 : Int32)), .val (.int (1 : Int32))] [(.int (1 : Int32)), (.int (1 : Int32))]))) (fun _ kk => X2.arraylength hx (by rw [e2]; exact Ar3.1) (State.isArrayOf_alike hZ.alike Ar3.2.1) (g := (mkF m 17 #[.val (.ref t), .val (.int (32 : Int32)), .val (.int (0 : Int32)), .val (.int (1 : Int32))] [(.ref t), (.int (1 : Int32))])) rfl rfl (hb hby d11_17) _ (by rw [ln3]; exact kk)) ?_
  obtain ⟨_, _, ⟨T4, L4, k4, n4⟩, -, X4, ⟨Lc4, hQ4, l4, y4, z4⟩, st4⟩ := Jvm.LawKit.callS X2 hx (y := MN11) hown (mvT hZ (wd 68 rfl)) (mvT hZ (wd 69 rfl)) (mvT hZ (wd 66 rfl)) (mvT hZ (wd 70 rfl)) (by decide) (backOf (W := 0) (v_min l Z a0 hw [] (1 : Int32) (1 : Int32) (1 : Int32) h0 n0 (by omega) (by decide)) hZ (wd 70 rfl) (wd 66 rfl) (by decide) (by decide)) (g := (mkF m 18 #[.val (.ref t), .val (.int (32 : Int32)), .val (.int (0 : Int32)), .val (.int (1 : Int32))] [(.int (1 : Int32)), (.int (1 : Int32))])) rfl (by rw [hml]; rfl) (argsL := [(.int (1 : Int32)), (.int (1 : Int32))]) (rest := []) (lenOf pd__II_I rfl) rfl (by show 2 * 0 + _ ≤ _; exact Nat.le_of_eq rfl) (hb hby d11_18) (fun _ _ => ⟨rfl, e2, (by decide : 0 + 0 ≤ _), (by decide : 0 + 0 ≤ _)⟩)
  dsimp only [Pt.U, Pt.locs, Pt.cells, Pt.slots] at X4 l4 y4 z4 st4 hQ4
  subst l4 y4 z4
  obtain ⟨rfl, N4q, e4⟩ := hQ4
  have N4 := Fr.app N2 N4q
  refine go_of (B := (T4.setTop (mkF m 21 #[.val (.ref t), .val (.int (32 : Int32)), .val (.int (0 : Int32)), .val (.int (1 : Int32))] [(.int (1 : Int32))]))) (st4) ?_
  refine go_of (B := (T4.setTop (mkF m 31 #[.val (.ref t), .val (.int (32 : Int32)), .val (.int (0 : Int32)), .val (.int (1 : Int32))] [(.int (32 : Int32)), (.ref t)]))) (fun _ kk => XS.istoreN X4.here hx rfl (hb hby d11_21) rfl rfl (XS.iloadN X4.here hx rfl (hb hby d11_22) rfl (XS.iloadN X4.here hx rfl (hb hby d11_23) rfl (XS.icmpYes X4.here hx rfl (pc0 := 24) (pc' := 29) rfl (hb hby d11_24) rfl (tlt (by decide : (0 : Int32) < (1 : Int32))).1 (by decide) (by decide) (XS.aloadN X4.here hx rfl (hb hby d11_29) rfl rfl (XS.iloadN X4.here hx rfl (hb hby d11_30) rfl kk)))))) ?_
  refine go_of (B := (T4.setTop (mkF m 33 #[.val (.ref t), .val (.int (32 : Int32)), .val (.int (0 : Int32)), .val (.int (1 : Int32))] [(.int (1 : Int32)), (.int (0 : Int32)), (.int (32 : Int32)), (.ref t)]))) (fun _ kk => XS.iloadN X4.here hx rfl (hb hby d11_31) rfl (XS.iloadN X4.here hx rfl (hb hby d11_32) rfl kk)) ?_
  obtain ⟨_, _, ⟨T5, L5, k5, n5⟩, -, X5, ⟨Lc5, hQ5, l5, y5, z5⟩, st5⟩ := Jvm.LawKit.callS X4 hx (y := MN25) hown (mvT hZ (wd 186 rfl)) (mvT hZ (wd 187 rfl)) (mvT hZ (wd 59 rfl)) (mvT hZ (wd 188 rfl)) (by decide) (backOf (W := 0) (v_ioc_1_32 l Z a0 hw [] t w0 k h0 n0 (by omega) V) hZ (wd 188 rfl) (wd 59 rfl) (by decide) (by decide)) (g := (mkF m 33 #[.val (.ref t), .val (.int (32 : Int32)), .val (.int (0 : Int32)), .val (.int (1 : Int32))] [(.int (1 : Int32)), (.int (0 : Int32)), (.int (32 : Int32)), (.ref t)])) rfl (by rw [hml]; rfl) (argsL := [(.ref t), (.int (32 : Int32)), (.int (0 : Int32)), (.int (1 : Int32))]) (rest := []) (lenOf pd___BIII_I rfl) rfl (by show 2 * 0 + _ ≤ _; exact Nat.le_of_eq rfl) (hb hby d11_33) (fun _ _ => ⟨rfl, e4, (by decide : 0 + 0 ≤ _), (by decide : 0 + 0 ≤ _)⟩)
  dsimp only [Pt.U, Pt.locs, Pt.cells, Pt.slots] at X5 l5 y5 z5 st5 hQ5
  subst l5 y5 z5
  obtain ⟨r5, rfl, hr5, N5q, e5⟩ := hQ5
  have N5 := Fr.app N4 N5q
  refine go_of (B := (T5.setTop (mkF m 36 #[.val (.ref t), .val (.int (32 : Int32)), .val (.int (0 : Int32)), .val (.int (1 : Int32))] [(.int r5)]))) (st5) ?_
  refine go_end X5 (v := some (.int r5)) (fun h => by rw [Bd.returns] at h; cases h) Bd.notSynchronized (by decide) (by decide) (Q := (Q_v_lio_1_32 Z t w0 k h0 n0)) ?_ (fun fs hr => own_retI X5 hx Bd.returns (hb hby d11_36) hr)
  unfold Q_v_lio_1_32
  try rw [e5]
  exact ⟨_, rfl, hr5, N5, rfl⟩
def Q_str_len_1 (Z : State) (a : Addr) (c0 : Int32) (gC : Int32) (h0 : Heap) (n0 : Nat) (v : Option Value) (h : Heap) (L : List Loc) : Prop := v = some (.int 1) ∧ Fr n0 L ∧ h = h0
theorem ef_str_len_1 (m : MethodId) (a : Addr)  : entryFrame m #[(.ref a)] 1 = mkF m 0 #[.val (.ref a)] [] := by first | (simp [entryFrame, mkF, argsToLocals, Value.category]; done) | rfl
theorem str_len_1 (l : Launch) (Z : State) (a0 : Array Value) (hw : TW a0 Z) (ws : List Jvm.Cond) (a : Addr) (c0 : Int32) (gC : Int32) (h0 : Heap) (n0 : Nat) (Z0 : n0 ≤ h0.size) (O : Old Z n0 h0) (SC : Sta Z Z.heap "java/lang/String" "COMPACT_STRINGS" "Z" (.int gC)) (hgC : ¬ gC = (0 : Int32)) (S : Str Z h0 a 1 [c0]) :
    own_MF l Z MN19 jdk_42_method_54_code 1 (some .int) ws (own_R 1 0 0 13) #[(.ref a)] h0 (Q_str_len_1 Z a c0 gC h0 n0) := by
  have wd := @own_wd _ _ hw
  refine MetFree.of_bodySF (plainFor_of_name pn_java_lang_String) hisR ?_
  intro p e s m args below meth c s₁ Bd hml0 hP hK
  obtain ⟨rfl, hZ, hh⟩ := hP
  have hx := Bd.exec
  have hby := Bd.bytes
  have hml : c.maxLocals = 1 := hml0
  have hown : s.vm.findClass "java/lang/String" = some m.cls := findClass_of_methodNamed Bd.named
  have hnm := (name_of_methodNamed Bd.named Bd.method).1
  have X0 : Stand p l e (own_R 1 0 0 13) s m #[(.ref a)] below meth c s₁ [] 0 0 := Stand.of_body Bd
  have e0 : s₁.heap = h0 := by rw [← hh, Bd.state]; rfl
  have N0 := Fr.nil n0
  obtain ⟨t, k, Ea, Fc, Fv, Va, hcs⟩ := S
  have lta := own_nlt (Ea.lt)
  have ltt := own_nlt (Va.lt)
  refine go_of (A := s₁.setTop (entryFrame m #[(.ref a)] 1)) (B := s₁.setTop (mkF m 0 #[.val (.ref a)] [])) (fun _ kk' => castTop (ef_str_len_1 m a) kk') ?_
  refine go_of (B := (s₁.setTop (mkF m 1 #[.val (.ref a)] [(.ref a)]))) (fun _ kk => XS.aloadN X0.here hx rfl (hb hby d9_0) rfl rfl kk) ?_
  obtain ⟨T1, X1, e1, st1⟩ := getF X0 hx hZ hown (host := "") (Or.inl (wd 25 rfl)) Via.refl e0 Fv (g := (mkF m 1 #[.val (.ref a)] [(.ref a)])) rfl rfl (hb hby d9_1)
  refine go_of (B := (T1.setTop (mkF m 4 #[.val (.ref a)] [(.ref t)]))) (st1) ?_
  obtain ⟨cl2, Ar2, q2, Sz2, Nn2, Hh2, G2⟩ := id (Va)
  have ln2 := len_of Sz2 Nn2
  refine go_of (B := (T1.setTop (mkF m 5 #[.val (.ref a)] [(.int (1 : Int32))]))) (fun _ kk => X1.arraylength hx (by rw [e1]; exact Ar2.1) (State.isArrayOf_alike hZ.alike Ar2.2.1) (g := (mkF m 4 #[.val (.ref a)] [(.ref t)])) rfl rfl (hb hby d9_4) _ (by rw [ln2]; exact kk)) ?_
  refine go_of (B := (T1.setTop (mkF m 6 #[.val (.ref a)] [(.ref a), (.int (1 : Int32))]))) (fun _ kk => XS.aloadN X1.here hx rfl (hb hby d9_5) rfl rfl kk) ?_
  obtain ⟨cq3, kq3, q3a, q3b, q3c⟩ := isOf hZ e1 Ea
  obtain ⟨_, _, ⟨T3, L3, k3, n3⟩, -, X3, ⟨Lc3, hQ3, l3, y3, z3⟩, st3⟩ := X1.virtualBack hx (y := MN14) (z := MN14) hown (mvT hZ (wd 52 rfl)) (mvT hZ (wd 53 rfl)) (notFace_of_selects (args := #[]) (mvT hZ (wd 55 rfl))) (mvT hZ (wd 55 rfl)) (mvT hZ (wd 54 rfl)) (by decide) (backOf (W := 1) (str_coder l Z a0 hw [] a gC h0 n0 Z0 O SC hgC Fc) hZ (wd 56 rfl) (wd 7 rfl) (by decide) (by decide)) q3a q3c (g := (mkF m 6 #[.val (.ref a)] [(.ref a), (.int (1 : Int32))])) rfl (by rw [hml]; rfl) (Steps.refl _) (argsL := []) (rest := [(.int (1 : Int32))]) (lenOf pd___B rfl) rfl (by show 2 * 0 + _ ≤ _; exact Nat.le_of_eq rfl) (hb hby d9_6) (fun _ _ => ⟨rfl, e1, (by decide : 0 + 0 ≤ _), (by decide : 0 + 0 ≤ _)⟩)
  dsimp only [Pt.U, Pt.locs, Pt.cells, Pt.slots] at X3 l3 y3 z3 st3 hQ3
  subst l3 y3 z3
  obtain ⟨rfl, N3q, e3⟩ := hQ3
  have N3 := Fr.app N0 N3q
  refine go_tr (B := (T3.setTop (mkF m 9 #[.val (.ref a)] [(.int (0 : Int32)), (.int (1 : Int32))]))) (st3) ?_
  refine go_of (B := (T3.setTop (mkF m 10 #[.val (.ref a)] [(.int (1 : Int32))]))) (fun _ kk => XS.ishr X3.here hx rfl (hb hby d9_9) rfl kk) ?_
  refine go_end X3 (v := some (.int (1 : Int32))) (fun h => by rw [Bd.returns] at h; cases h) Bd.notSynchronized (by decide) (by decide) (Q := (Q_str_len_1 Z a c0 gC h0 n0)) ?_ (fun fs hr => own_retI X3 hx Bd.returns (hb hby d9_10) hr)
  unfold Q_str_len_1
  try rw [e3]
  exact ⟨rfl, N3, rfl⟩
def Q_v_si2_1_32 (Z : State) (a : Addr) (c0 : Int32) (gC : Int32) (h0 : Heap) (n0 : Nat) (v : Option Value) (h : Heap) (L : List Loc) : Prop := ∃ r : Int32, v = some (.int r) ∧ (r < 0 ↔ own_hs (32 : Int32) [c0] = false) ∧ Fr n0 L ∧ h = h0
theorem ef_v_si2_1_32 (m : MethodId) (a : Addr)  : entryFrame m #[(.ref a), (.int (32 : Int32)), (.int (0 : Int32))] 3 = mkF m 0 #[.val (.ref a), .val (.int (32 : Int32)), .val (.int (0 : Int32))] [] := by first | (simp [entryFrame, mkF, argsToLocals, Value.category]; done) | rfl
theorem v_si2_1_32 (l : Launch) (Z : State) (a0 : Array Value) (hw : TW a0 Z) (ws : List Jvm.Cond) (a : Addr) (c0 : Int32) (gC : Int32) (h0 : Heap) (n0 : Nat) (Z0 : n0 ≤ h0.size) (O : Old Z n0 h0) (SC : Sta Z Z.heap "java/lang/String" "COMPACT_STRINGS" "Z" (.int gC)) (hgC : ¬ gC = (0 : Int32)) (S : Str Z h0 a 1 [c0]) :
    own_MF l Z MN17 jdk_42_method_80_code 3 (some .int) ws (own_R 2 0 0 32) #[(.ref a), (.int (32 : Int32)), (.int (0 : Int32))] h0 (Q_v_si2_1_32 Z a c0 gC h0 n0) := by
  have wd := @own_wd _ _ hw
  refine MetFree.of_bodySF (plainFor_of_name pn_java_lang_String) hisR ?_
  intro p e s m args below meth c s₁ Bd hml0 hP hK
  obtain ⟨rfl, hZ, hh⟩ := hP
  have hx := Bd.exec
  have hby := Bd.bytes
  have hml : c.maxLocals = 3 := hml0
  have hown : s.vm.findClass "java/lang/String" = some m.cls := findClass_of_methodNamed Bd.named
  have hnm := (name_of_methodNamed Bd.named Bd.method).1
  have X0 : Stand p l e (own_R 2 0 0 32) s m #[(.ref a), (.int (32 : Int32)), (.int (0 : Int32))] below meth c s₁ [] 0 0 := Stand.of_body Bd
  have e0 : s₁.heap = h0 := by rw [← hh, Bd.state]; rfl
  have N0 := Fr.nil n0
  obtain ⟨t, k, Ea, Fc, Fv, Va, hcs⟩ := (id S)
  have lta := own_nlt (Ea.lt)
  have ltt := own_nlt (Va.lt)
  refine go_of (A := s₁.setTop (entryFrame m #[(.ref a), (.int (32 : Int32)), (.int (0 : Int32))] 3)) (B := s₁.setTop (mkF m 0 #[.val (.ref a), .val (.int (32 : Int32)), .val (.int (0 : Int32))] [])) (fun _ kk' => castTop (ef_v_si2_1_32 m a) kk') ?_
  refine go_of (B := (s₁.setTop (mkF m 1 #[.val (.ref a), .val (.int (32 : Int32)), .val (.int (0 : Int32))] [(.ref a)]))) (fun _ kk => XS.aloadN X0.here hx rfl (hb hby d7_0) rfl rfl kk) ?_
  obtain ⟨cq1, kq1, q1a, q1b, q1c⟩ := isOf hZ e0 Ea
  obtain ⟨_, _, ⟨T1, L1, k1, n1⟩, -, X1, ⟨Lc1, hQ1, l1, y1, z1⟩, st1⟩ := X0.virtualBack hx (y := MN18) (z := MN18) hown (mvT hZ (wd 41 rfl)) (mvT hZ (wd 42 rfl)) (notFace_of_selects (args := #[]) (mvT hZ (wd 44 rfl))) (mvT hZ (wd 44 rfl)) (mvT hZ (wd 43 rfl)) (by decide) (backOf (W := 0) (str_latin l Z a0 hw [] a gC h0 n0 (by omega) O SC hgC Fc) hZ (wd 45 rfl) (wd 7 rfl) (by decide) (by decide)) q1a q1c (g := (mkF m 1 #[.val (.ref a), .val (.int (32 : Int32)), .val (.int (0 : Int32))] [(.ref a)])) rfl (by rw [hml]; rfl) (Steps.refl _) (argsL := []) (rest := []) (lenOf pd___Z rfl) rfl (by show 2 * 0 + _ ≤ _; exact Nat.le_of_eq rfl) (hb hby d7_1) (fun _ _ => ⟨rfl, e0, (by decide : 0 + 0 ≤ _), (by decide : 0 + 0 ≤ _)⟩)
  dsimp only [Pt.U, Pt.locs, Pt.cells, Pt.slots] at X1 l1 y1 z1 st1 hQ1
  subst l1 y1 z1
  obtain ⟨rfl, N1q, e1⟩ := hQ1
  have N1 := Fr.app N0 N1q
  refine go_tr (B := (T1.setTop (mkF m 4 #[.val (.ref a), .val (.int (32 : Int32)), .val (.int (0 : Int32))] [(.int (1 : Int32))]))) (st1) ?_
  refine go_of (B := (T1.setTop (mkF m 8 #[.val (.ref a), .val (.int (32 : Int32)), .val (.int (0 : Int32))] [(.ref a)]))) (fun _ kk => XS.ifNo X1.here hx rfl (hb hby d7_4) rfl ((if0 _ _).trans (feq (by decide : ¬ ((1 : Int32) = (0 : Int32)))).1) (XS.aloadN X1.here hx rfl (hb hby d7_7) rfl rfl kk)) ?_
  obtain ⟨T2, X2, e2, st2⟩ := getF X1 hx hZ hown (host := "") (Or.inl (wd 25 rfl)) Via.refl e1 Fv (g := (mkF m 8 #[.val (.ref a), .val (.int (32 : Int32)), .val (.int (0 : Int32))] [(.ref a)])) rfl rfl (hb hby d7_8)
  refine go_of (B := (T2.setTop (mkF m 11 #[.val (.ref a), .val (.int (32 : Int32)), .val (.int (0 : Int32))] [(.ref t)]))) (st2) ?_
  refine go_of (B := (T2.setTop (mkF m 14 #[.val (.ref a), .val (.int (32 : Int32)), .val (.int (0 : Int32))] [(.ref a), (.int (0 : Int32)), (.int (32 : Int32)), (.ref t)]))) (fun _ kk => XS.iloadN X2.here hx rfl (hb hby d7_11) rfl (XS.iloadN X2.here hx rfl (hb hby d7_12) rfl (XS.aloadN X2.here hx rfl (hb hby d7_13) rfl rfl kk))) ?_
  obtain ⟨cq3, kq3, q3a, q3b, q3c⟩ := isOf hZ e2 Ea
  obtain ⟨_, _, ⟨T3, L3, k3, n3⟩, -, X3, ⟨Lc3, hQ3, l3, y3, z3⟩, st3⟩ := X2.virtualBack hx (y := MN19) (z := MN19) hown (mvT hZ (wd 47 rfl)) (mvT hZ (wd 48 rfl)) (notFace_of_selects (args := #[]) (mvT hZ (wd 50 rfl))) (mvT hZ (wd 50 rfl)) (mvT hZ (wd 49 rfl)) (by decide) (backOf (W := 3) (str_len_1 l Z a0 hw [] a c0 gC h0 n0 (by omega) O SC hgC S) hZ (wd 51 rfl) (wd 7 rfl) (by decide) (by decide)) q3a q3c (g := (mkF m 14 #[.val (.ref a), .val (.int (32 : Int32)), .val (.int (0 : Int32))] [(.ref a), (.int (0 : Int32)), (.int (32 : Int32)), (.ref t)])) rfl (by rw [hml]; rfl) (Steps.refl _) (argsL := []) (rest := [(.int (0 : Int32)), (.int (32 : Int32)), (.ref t)]) (lenOf pd___I rfl) rfl (by show 2 * 0 + _ ≤ _; exact Nat.le_of_eq rfl) (hb hby d7_14) (fun _ _ => ⟨rfl, e2, (by decide : 0 + 0 ≤ _), (by decide : 0 + 0 ≤ _)⟩)
  dsimp only [Pt.U, Pt.locs, Pt.cells, Pt.slots] at X3 l3 y3 z3 st3 hQ3
  subst l3 y3 z3
  obtain ⟨rfl, N3q, e3⟩ := hQ3
  have N3 := Fr.app N1 N3q
  refine go_tr (B := (T3.setTop (mkF m 17 #[.val (.ref a), .val (.int (32 : Int32)), .val (.int (0 : Int32))] [(.int (1 : Int32)), (.int (0 : Int32)), (.int (32 : Int32)), (.ref t)]))) (st3) ?_
  obtain ⟨_, _, ⟨T4, L4, k4, n4⟩, -, X4, ⟨Lc4, hQ4, l4, y4, z4⟩, st4⟩ := Jvm.LawKit.callS X3 hx (y := MN24) hown (mvT hZ (wd 57 rfl)) (mvT hZ (wd 58 rfl)) (mvT hZ (wd 59 rfl)) (mvT hZ (wd 60 rfl)) (by decide) (backOf (W := 0) (v_lio_1_32 l Z a0 hw [] t (own_b8 c0) k h0 n0 (by omega) Va) hZ (wd 60 rfl) (wd 59 rfl) (by decide) (by decide)) (g := (mkF m 17 #[.val (.ref a), .val (.int (32 : Int32)), .val (.int (0 : Int32))] [(.int (1 : Int32)), (.int (0 : Int32)), (.int (32 : Int32)), (.ref t)])) rfl (by rw [hml]; rfl) (argsL := [(.ref t), (.int (32 : Int32)), (.int (0 : Int32)), (.int (1 : Int32))]) (rest := []) (lenOf pd___BIII_I rfl) rfl (by show 2 * 0 + _ ≤ _; exact Nat.le_of_eq rfl) (hb hby d7_17) (fun _ _ => ⟨rfl, e3, (by decide : 0 + 0 ≤ _), (by decide : 0 + 0 ≤ _)⟩)
  dsimp only [Pt.U, Pt.locs, Pt.cells, Pt.slots] at X4 l4 y4 z4 st4 hQ4
  subst l4 y4 z4
  obtain ⟨r4, rfl, hr4, N4q, e4⟩ := hQ4
  have N4 := Fr.app N3 N4q
  refine go_of (B := (T4.setTop (mkF m 20 #[.val (.ref a), .val (.int (32 : Int32)), .val (.int (0 : Int32))] [(.int r4)]))) (st4) ?_
  refine go_of (B := (T4.setTop (mkF m 36 #[.val (.ref a), .val (.int (32 : Int32)), .val (.int (0 : Int32))] [(.int r4)]))) (fun _ kk => XS.goto X4.here hx rfl (pc0 := 20) (pc' := 36) rfl (hb hby d7_20) (by decide) (by decide) kk) ?_
  refine go_end X4 (v := some (.int r4)) (fun h => by rw [Bd.returns] at h; cases h) Bd.notSynchronized (by decide) (by decide) (Q := (Q_v_si2_1_32 Z a c0 gC h0 n0)) ?_ (fun fs hr => own_retI X4 hx Bd.returns (hb hby d7_36) hr)
  unfold Q_v_si2_1_32
  try rw [e4]
  exact ⟨_, rfl, hr4.trans (iff_of_eq (congrArg (fun b => b = false) (own_hsb (32 : Int32) (by decide) [c0] hcs))), N4, rfl⟩
def Q_v_si_1_32 (Z : State) (a : Addr) (c0 : Int32) (gC : Int32) (h0 : Heap) (n0 : Nat) (v : Option Value) (h : Heap) (L : List Loc) : Prop := ∃ r : Int32, v = some (.int r) ∧ (r < 0 ↔ own_hs (32 : Int32) [c0] = false) ∧ Fr n0 L ∧ h = h0
theorem ef_v_si_1_32 (m : MethodId) (a : Addr)  : entryFrame m #[(.ref a), (.int (32 : Int32))] 2 = mkF m 0 #[.val (.ref a), .val (.int (32 : Int32))] [] := by first | (simp [entryFrame, mkF, argsToLocals, Value.category]; done) | rfl
theorem v_si_1_32 (l : Launch) (Z : State) (a0 : Array Value) (hw : TW a0 Z) (ws : List Jvm.Cond) (a : Addr) (c0 : Int32) (gC : Int32) (h0 : Heap) (n0 : Nat) (Z0 : n0 ≤ h0.size) (O : Old Z n0 h0) (SC : Sta Z Z.heap "java/lang/String" "COMPACT_STRINGS" "Z" (.int gC)) (hgC : ¬ gC = (0 : Int32)) (S : Str Z h0 a 1 [c0]) :
    own_MF l Z MN16 jdk_42_method_79_code 2 (some .int) ws (own_R 3 0 0 46) #[(.ref a), (.int (32 : Int32))] h0 (Q_v_si_1_32 Z a c0 gC h0 n0) := by
  have wd := @own_wd _ _ hw
  refine MetFree.of_bodySF (plainFor_of_name pn_java_lang_String) hisR ?_
  intro p e s m args below meth c s₁ Bd hml0 hP hK
  obtain ⟨rfl, hZ, hh⟩ := hP
  have hx := Bd.exec
  have hby := Bd.bytes
  have hml : c.maxLocals = 2 := hml0
  have hown : s.vm.findClass "java/lang/String" = some m.cls := findClass_of_methodNamed Bd.named
  have hnm := (name_of_methodNamed Bd.named Bd.method).1
  have X0 : Stand p l e (own_R 3 0 0 46) s m #[(.ref a), (.int (32 : Int32))] below meth c s₁ [] 0 0 := Stand.of_body Bd
  have e0 : s₁.heap = h0 := by rw [← hh, Bd.state]; rfl
  have N0 := Fr.nil n0
  refine go_of (A := s₁.setTop (entryFrame m #[(.ref a), (.int (32 : Int32))] 2)) (B := s₁.setTop (mkF m 0 #[.val (.ref a), .val (.int (32 : Int32))] [])) (fun _ kk' => castTop (ef_v_si_1_32 m a) kk') ?_
  refine go_of (B := (s₁.setTop (mkF m 3 #[.val (.ref a), .val (.int (32 : Int32))] [(.int (0 : Int32)), (.int (32 : Int32)), (.ref a)]))) (fun _ kk => XS.aloadN X0.here hx rfl (hb hby d6_0) rfl rfl (XS.iloadN X0.here hx rfl (hb hby d6_1) rfl (XS.iconst X0.here hx rfl (hb hby d6_2) kk))) ?_
  obtain ⟨cq1, kq1, q1a, q1b, q1c⟩ := isOf hZ e0 S.exa
  obtain ⟨_, _, ⟨T1, L1, k1, n1⟩, -, X1, ⟨Lc1, hQ1, l1, y1, z1⟩, st1⟩ := X0.virtualBack hx (y := MN17) (z := MN17) hown (mvT hZ (wd 36 rfl)) (mvT hZ (wd 37 rfl)) (notFace_of_selects (args := #[]) (mvT hZ (wd 39 rfl))) (mvT hZ (wd 39 rfl)) (mvT hZ (wd 38 rfl)) (by decide) (backOf (W := 0) (v_si2_1_32 l Z a0 hw [] a c0 gC h0 n0 (by omega) O SC hgC S) hZ (wd 40 rfl) (wd 7 rfl) (by decide) (by decide)) q1a q1c (g := (mkF m 3 #[.val (.ref a), .val (.int (32 : Int32))] [(.int (0 : Int32)), (.int (32 : Int32)), (.ref a)])) rfl (by rw [hml]; rfl) (Steps.refl _) (argsL := [(.int (32 : Int32)), (.int (0 : Int32))]) (rest := []) (lenOf pd__II_I rfl) rfl (by show 2 * 0 + _ ≤ _; exact Nat.le_of_eq rfl) (hb hby d6_3) (fun _ _ => ⟨rfl, e0, (by decide : 0 + 0 ≤ _), (by decide : 0 + 0 ≤ _)⟩)
  dsimp only [Pt.U, Pt.locs, Pt.cells, Pt.slots] at X1 l1 y1 z1 st1 hQ1
  subst l1 y1 z1
  obtain ⟨r1, rfl, hr1, N1q, e1⟩ := hQ1
  have N1 := Fr.app N0 N1q
  refine go_tr (B := (T1.setTop (mkF m 6 #[.val (.ref a), .val (.int (32 : Int32))] [(.int r1)]))) (st1) ?_
  refine go_end X1 (v := some (.int r1)) (fun h => by rw [Bd.returns] at h; cases h) Bd.notSynchronized (by decide) (by decide) (Q := (Q_v_si_1_32 Z a c0 gC h0 n0)) ?_ (fun fs hr => own_retI X1 hx Bd.returns (hb hby d6_6) hr)
  unfold Q_v_si_1_32
  try rw [e1]
  exact ⟨_, rfl, hr1, N1, rfl⟩
def Q_no_1 (Z : State) (a : Addr) (c0 : Int32) (gC : Int32) (h0 : Heap) (n0 : Nat) (v : Option Value) (h : Heap) (L : List Loc) : Prop := v = some (.int (own_no [c0])) ∧ Fr n0 L ∧ h = h0
theorem ef_no_1 (m : MethodId) (a : Addr)  : entryFrame m #[(.ref a)] 1 = mkF m 0 #[.val (.ref a)] [] := by first | (simp [entryFrame, mkF, argsToLocals, Value.category]; done) | rfl
theorem no_1 (l : Launch) (Z : State) (a0 : Array Value) (hw : TW a0 Z) (ws : List Jvm.Cond) (a : Addr) (c0 : Int32) (gC : Int32) (h0 : Heap) (n0 : Nat) (Z0 : n0 ≤ h0.size) (O : Old Z n0 h0) (SC : Sta Z Z.heap "java/lang/String" "COMPACT_STRINGS" "Z" (.int gC)) (hgC : ¬ gC = (0 : Int32)) (S : Str Z h0 a 1 [c0]) :
    own_MF l Z MN2 prog_10_method_13_code 1 (some .boolean) ws (own_R 4 0 0 59) #[(.ref a)] h0 (Q_no_1 Z a c0 gC h0 n0) := by
  have wd := @own_wd _ _ hw
  refine MetFree.of_bodySF (plainFor_of_name pn_com_example_holdfast_holdfast_HoldfastLock_Exclusive) hisR ?_
  intro p e s m args below meth c s₁ Bd hml0 hP hK
  obtain ⟨rfl, hZ, hh⟩ := hP
  have hx := Bd.exec
  have hby := Bd.bytes
  have hml : c.maxLocals = 1 := hml0
  have hown : s.vm.findClass "com/example/holdfast/holdfast/HoldfastLock$Exclusive" = some m.cls := findClass_of_methodNamed Bd.named
  have hnm := (name_of_methodNamed Bd.named Bd.method).1
  have X0 : Stand p l e (own_R 4 0 0 59) s m #[(.ref a)] below meth c s₁ [] 0 0 := Stand.of_body Bd
  have e0 : s₁.heap = h0 := by rw [← hh, Bd.state]; rfl
  have N0 := Fr.nil n0
  refine go_of (A := s₁.setTop (entryFrame m #[(.ref a)] 1)) (B := s₁.setTop (mkF m 0 #[.val (.ref a)] [])) (fun _ kk' => castTop (ef_no_1 m a) kk') ?_
  refine go_of (B := (s₁.setTop (mkF m 3 #[.val (.ref a)] [(.int (32 : Int32)), (.ref a)]))) (fun _ kk => XS.aloadN X0.here hx rfl (hb hby d5_0) rfl rfl (XS.bipush X0.here hx rfl (hb hby d5_1) kk)) ?_
  obtain ⟨cq1, kq1, q1a, q1b, q1c⟩ := isOf hZ e0 S.exa
  obtain ⟨_, _, ⟨T1, L1, k1, n1⟩, -, X1, ⟨Lc1, hQ1, l1, y1, z1⟩, st1⟩ := X0.virtualBack hx (y := MN16) (z := MN16) hown (mvT hZ (wd 31 rfl)) (mvT hZ (wd 32 rfl)) (notFace_of_selects (args := #[]) (mvT hZ (wd 34 rfl))) (mvT hZ (wd 34 rfl)) (mvT hZ (wd 33 rfl)) (by decide) (backOf (W := 0) (v_si_1_32 l Z a0 hw [] a c0 gC h0 n0 (by omega) O SC hgC S) hZ (wd 35 rfl) (wd 7 rfl) (by decide) (by decide)) q1a q1c (g := (mkF m 3 #[.val (.ref a)] [(.int (32 : Int32)), (.ref a)])) rfl (by rw [hml]; rfl) (Steps.refl _) (argsL := [(.int (32 : Int32))]) (rest := []) (lenOf pd__I_I rfl) rfl (by show 2 * 0 + _ ≤ _; exact Nat.le_of_eq rfl) (hb hby d5_3) (fun _ _ => ⟨rfl, e0, (by decide : 0 + 0 ≤ _), (by decide : 0 + 0 ≤ _)⟩)
  dsimp only [Pt.U, Pt.locs, Pt.cells, Pt.slots] at X1 l1 y1 z1 st1 hQ1
  subst l1 y1 z1
  obtain ⟨r1, rfl, hr1, N1q, e1⟩ := hQ1
  have N1 := Fr.app N0 N1q
  refine go_tr (B := (T1.setTop (mkF m 6 #[.val (.ref a)] [(.int r1)]))) (st1) ?_
  by_cases hcc2 : r1 < (0 : Int32)
  · refine go_of (B := (T1.setTop (mkF m 14 #[.val (.ref a)] [(.int (0 : Int32))]))) (fun _ kk => XS.ifYes X1.here hx rfl (pc0 := 6) (pc' := 13) rfl (hb hby d5_6) rfl ((if0 _ _).trans (tlt hcc2).1) (by decide) (by decide) (XS.iconst X1.here hx rfl (hb hby d5_13) kk)) ?_
    refine go_end X1 (v := some (.int (nar .boolean (0 : Int32)))) (fun h => by rw [Bd.returns] at h; cases h) Bd.notSynchronized (by decide) (by decide) (Q := (Q_no_1 Z a c0 gC h0 n0)) ?_ (fun fs hr => retN X1 hx (t := .boolean) Bd.returns (by simp) (hb hby d5_14) hr)
    unfold Q_no_1
    try rw [e1]
    refine ⟨?_, N1, rfl⟩
    have hq := hr1.mp hcc2
    rw [own_no, hq]; rfl
  · refine go_of (B := (T1.setTop (mkF m 14 #[.val (.ref a)] [(.int (1 : Int32))]))) (fun _ kk => XS.ifNo X1.here hx rfl (hb hby d5_6) rfl ((if0 _ _).trans (flt hcc2).1) (XS.iconst X1.here hx rfl (hb hby d5_9) (XS.goto X1.here hx rfl (pc0 := 10) (pc' := 14) rfl (hb hby d5_10) (by decide) (by decide) kk))) ?_
    refine go_end X1 (v := some (.int (nar .boolean (1 : Int32)))) (fun h => by rw [Bd.returns] at h; cases h) Bd.notSynchronized (by decide) (by decide) (Q := (Q_no_1 Z a c0 gC h0 n0)) ?_ (fun fs hr => retN X1 hx (t := .boolean) Bd.returns (by simp) (hb hby d5_14) hr)
    unfold Q_no_1
    try rw [e1]
    refine ⟨?_, N1, rfl⟩
    have hq := own_bt (fun q => hcc2 (hr1.mpr q))
    rw [own_no, hq]; rfl
def Q_v_ioc_2_32 (Z : State) (t : Addr) (w0 : Int32) (w1 : Int32) (k : ClassId) (h0 : Heap) (n0 : Nat) (v : Option Value) (h : Heap) (L : List Loc) : Prop := ∃ r : Int32, v = some (.int r) ∧ (r < 0 ↔ own_hs (32 : Int32) [w0, w1] = false) ∧ Fr n0 L ∧ h = h0
theorem ef_v_ioc_2_32 (m : MethodId) (t : Addr)  : entryFrame m #[(.ref t), (.int (32 : Int32)), (.int (0 : Int32)), (.int (2 : Int32))] 6 = mkF m 0 #[.val (.ref t), .val (.int (32 : Int32)), .val (.int (0 : Int32)), .val (.int (2 : Int32)), .unset, .unset] [] := by first | (simp [entryFrame, mkF, argsToLocals, Value.category]; done) | rfl
theorem v_ioc_2_32 (l : Launch) (Z : State) (a0 : Array Value) (hw : TW a0 Z) (ws : List Jvm.Cond) (t : Addr) (w0 : Int32) (w1 : Int32) (k : ClassId) (h0 : Heap) (n0 : Nat) (Z0 : n0 ≤ h0.size) (V : Arv Z h0 t k .byte 2 [(.int w0), (.int w1)] (.int 0)) :
    own_MF l Z MN25 jdk_43_method_23_code 6 (some .int) ws (own_R 0 0 0 0) #[(.ref t), (.int (32 : Int32)), (.int (0 : Int32)), (.int (2 : Int32))] h0 (Q_v_ioc_2_32 Z t w0 w1 k h0 n0) := by
  have wd := @own_wd _ _ hw
  refine MetFree.of_bodySF (plainFor_of_name pn_java_lang_StringLatin1) hisR ?_
  intro p e s m args below meth c s₁ Bd hml0 hP hK
  obtain ⟨rfl, hZ, hh⟩ := hP
  have hx := Bd.exec
  have hby := Bd.bytes
  have hml : c.maxLocals = 6 := hml0
  have hown : s.vm.findClass "java/lang/StringLatin1" = some m.cls := findClass_of_methodNamed Bd.named
  have hnm := (name_of_methodNamed Bd.named Bd.method).1
  have X0 : Stand p l e (own_R 0 0 0 0) s m #[(.ref t), (.int (32 : Int32)), (.int (0 : Int32)), (.int (2 : Int32))] below meth c s₁ [] 0 0 := Stand.of_body Bd
  have e0 : s₁.heap = h0 := by rw [← hh, Bd.state]; rfl
  have N0 := Fr.nil n0
  refine go_of (A := s₁.setTop (entryFrame m #[(.ref t), (.int (32 : Int32)), (.int (0 : Int32)), (.int (2 : Int32))] 6)) (B := s₁.setTop (mkF m 0 #[.val (.ref t), .val (.int (32 : Int32)), .val (.int (0 : Int32)), .val (.int (2 : Int32)), .unset, .unset] [])) (fun _ kk' => castTop (ef_v_ioc_2_32 m t) kk') ?_
  refine go_of (B := (s₁.setTop (mkF m 9 #[.val (.ref t), .val (.int (32 : Int32)), .val (.int (0 : Int32)), .val (.int (2 : Int32)), .val (.int (32 : Int32)), .val (.int (0 : Int32))] [(.int (0 : Int32))]))) (fun _ kk => XS.iloadN X0.here hx rfl (hb hby d38_0) rfl (XS.i2b X0.here hx rfl (hb hby d38_1) rfl (XS.istore X0.here hx rfl (hb hby d38_2) rfl rfl (XS.iloadN X0.here hx rfl (hb hby d38_4) rfl (XS.istore X0.here hx rfl (hb hby d38_5) rfl rfl (XS.iload X0.here hx rfl (hb hby d38_7) rfl kk)))))) ?_
  refine go_of (B := (s₁.setTop (mkF m 16 #[.val (.ref t), .val (.int (32 : Int32)), .val (.int (0 : Int32)), .val (.int (2 : Int32)), .val (.int (32 : Int32)), .val (.int (0 : Int32))] [(.int (0 : Int32)), (.ref t)]))) (fun _ kk => XS.iloadN X0.here hx rfl (hb hby d38_9) rfl (XS.icmpNo X0.here hx rfl (hb hby d38_10) rfl (tlt (by decide : (0 : Int32) < (2 : Int32))).2.1 (XS.aloadN X0.here hx rfl (hb hby d38_13) rfl rfl (XS.iload X0.here hx rfl (hb hby d38_14) rfl kk)))) ?_
  obtain ⟨cl1, Ar1, q1, Sz1, Nn1, Hh1, G1⟩ := id (V)
  refine go_of (B := (s₁.setTop (mkF m 19 #[.val (.ref t), .val (.int (32 : Int32)), .val (.int (0 : Int32)), .val (.int (2 : Int32)), .val (.int (32 : Int32)), .val (.int (0 : Int32))] [(.int (32 : Int32)), (.int w0)]))) (fun _ kk => X0.baloadBytes hx (j := (0 : Int32)) (v := (.int w0)) (by rw [e0]; exact Ar1.1) (State.isArrayOf_alike hZ.alike Ar1.2.1) Ar1.2.2 (inb_of Sz1 ⟨by decide, by decide⟩) (Hh1.at (inb_of Sz1 ⟨by decide, by decide⟩) rfl) (g := (mkF m 16 #[.val (.ref t), .val (.int (32 : Int32)), .val (.int (0 : Int32)), .val (.int (2 : Int32)), .val (.int (32 : Int32)), .val (.int (0 : Int32))] [(.int (0 : Int32)), (.ref t)])) rfl rfl (hb hby d38_16) _ (XS.iload X0.here hx rfl (hb hby d38_17) rfl kk)) ?_
  by_cases hcc2 : w0 = (32 : Int32)
  · refine go_of (B := (s₁.setTop (mkF m 24 #[.val (.ref t), .val (.int (32 : Int32)), .val (.int (0 : Int32)), .val (.int (2 : Int32)), .val (.int (32 : Int32)), .val (.int (0 : Int32))] [(.int (0 : Int32))]))) (fun _ kk => XS.icmpNo X0.here hx rfl (hb hby d38_19) rfl (teq hcc2).2 (XS.iload X0.here hx rfl (hb hby d38_22) rfl kk)) ?_
    refine go_end X0 (v := some (.int (0 : Int32))) (fun h => by rw [Bd.returns] at h; cases h) Bd.notSynchronized (by decide) (by decide) (Q := (Q_v_ioc_2_32 Z t w0 w1 k h0 n0)) ?_ (fun fs hr => own_retI X0 hx Bd.returns (hb hby d38_24) hr)
    unfold Q_v_ioc_2_32
    try rw [e0]
    exact ⟨_, rfl, iff_of_false (by decide) (by simp [own_hs, hcc2]), N0, rfl⟩
  · refine go_of (B := (s₁.setTop (mkF m 13 #[.val (.ref t), .val (.int (32 : Int32)), .val (.int (0 : Int32)), .val (.int (2 : Int32)), .val (.int (32 : Int32)), .val (.int (1 : Int32))] []))) (fun _ kk => XS.icmpYes X0.here hx rfl (pc0 := 19) (pc' := 25) rfl (hb hby d38_19) rfl (feq hcc2).2 (by decide) (by decide) (XS.iinc X0.here hx rfl (hb hby d38_25) rfl rfl (XS.goto X0.here hx rfl (pc0 := 28) (pc' := 7) rfl (hb hby d38_28) (by decide) (by decide) (XS.iload X0.here hx rfl (hb hby d38_7) rfl (XS.iloadN X0.here hx rfl (hb hby d38_9) rfl (XS.icmpNo X0.here hx rfl (hb hby d38_10) rfl (tlt (by decide : (1 : Int32) < (2 : Int32))).2.1 kk)))))) ?_
    refine go_of (B := (s₁.setTop (mkF m 16 #[.val (.ref t), .val (.int (32 : Int32)), .val (.int (0 : Int32)), .val (.int (2 : Int32)), .val (.int (32 : Int32)), .val (.int (1 : Int32))] [(.int (1 : Int32)), (.ref t)]))) (fun _ kk => XS.aloadN X0.here hx rfl (hb hby d38_13) rfl rfl (XS.iload X0.here hx rfl (hb hby d38_14) rfl kk)) ?_
    obtain ⟨cl3, Ar3, q3, Sz3, Nn3, Hh3, G3⟩ := id (V)
    refine go_of (B := (s₁.setTop (mkF m 19 #[.val (.ref t), .val (.int (32 : Int32)), .val (.int (0 : Int32)), .val (.int (2 : Int32)), .val (.int (32 : Int32)), .val (.int (1 : Int32))] [(.int (32 : Int32)), (.int w1)]))) (fun _ kk => X0.baloadBytes hx (j := (1 : Int32)) (v := (.int w1)) (by rw [e0]; exact Ar3.1) (State.isArrayOf_alike hZ.alike Ar3.2.1) Ar3.2.2 (inb_of Sz3 ⟨by decide, by decide⟩) (Hh3.at (inb_of Sz3 ⟨by decide, by decide⟩) rfl) (g := (mkF m 16 #[.val (.ref t), .val (.int (32 : Int32)), .val (.int (0 : Int32)), .val (.int (2 : Int32)), .val (.int (32 : Int32)), .val (.int (1 : Int32))] [(.int (1 : Int32)), (.ref t)])) rfl rfl (hb hby d38_16) _ (XS.iload X0.here hx rfl (hb hby d38_17) rfl kk)) ?_
    by_cases hcc4 : w1 = (32 : Int32)
    · refine go_of (B := (s₁.setTop (mkF m 24 #[.val (.ref t), .val (.int (32 : Int32)), .val (.int (0 : Int32)), .val (.int (2 : Int32)), .val (.int (32 : Int32)), .val (.int (1 : Int32))] [(.int (1 : Int32))]))) (fun _ kk => XS.icmpNo X0.here hx rfl (hb hby d38_19) rfl (teq hcc4).2 (XS.iload X0.here hx rfl (hb hby d38_22) rfl kk)) ?_
      refine go_end X0 (v := some (.int (1 : Int32))) (fun h => by rw [Bd.returns] at h; cases h) Bd.notSynchronized (by decide) (by decide) (Q := (Q_v_ioc_2_32 Z t w0 w1 k h0 n0)) ?_ (fun fs hr => own_retI X0 hx Bd.returns (hb hby d38_24) hr)
      unfold Q_v_ioc_2_32
      try rw [e0]
      exact ⟨_, rfl, iff_of_false (by decide) (by simp [own_hs, hcc2, hcc4]), N0, rfl⟩
    · refine go_of (B := (s₁.setTop (mkF m 31 #[.val (.ref t), .val (.int (32 : Int32)), .val (.int (0 : Int32)), .val (.int (2 : Int32)), .val (.int (32 : Int32)), .val (.int (2 : Int32))] []))) (fun _ kk => XS.icmpYes X0.here hx rfl (pc0 := 19) (pc' := 25) rfl (hb hby d38_19) rfl (feq hcc4).2 (by decide) (by decide) (XS.iinc X0.here hx rfl (hb hby d38_25) rfl rfl (XS.goto X0.here hx rfl (pc0 := 28) (pc' := 7) rfl (hb hby d38_28) (by decide) (by decide) (XS.iload X0.here hx rfl (hb hby d38_7) rfl (XS.iloadN X0.here hx rfl (hb hby d38_9) rfl (XS.icmpYes X0.here hx rfl (pc0 := 10) (pc' := 31) rfl (hb hby d38_10) rfl (flt (by decide : ¬ ((2 : Int32) < (2 : Int32)))).2.1 (by decide) (by decide) kk)))))) ?_
      refine go_of (B := (s₁.setTop (mkF m 32 #[.val (.ref t), .val (.int (32 : Int32)), .val (.int (0 : Int32)), .val (.int (2 : Int32)), .val (.int (32 : Int32)), .val (.int (2 : Int32))] [(.int (-1 : Int32))]))) (fun _ kk => XS.iconst X0.here hx rfl (hb hby d38_31) kk) ?_
      refine go_end X0 (v := some (.int (-1 : Int32))) (fun h => by rw [Bd.returns] at h; cases h) Bd.notSynchronized (by decide) (by decide) (Q := (Q_v_ioc_2_32 Z t w0 w1 k h0 n0)) ?_ (fun fs hr => own_retI X0 hx Bd.returns (hb hby d38_32) hr)
      unfold Q_v_ioc_2_32
      try rw [e0]
      exact ⟨_, rfl, iff_of_true (by decide) (by simp [own_hs, hcc2, hcc4]), N0, rfl⟩
def Q_v_lio_2_32 (Z : State) (t : Addr) (w0 : Int32) (w1 : Int32) (k : ClassId) (h0 : Heap) (n0 : Nat) (v : Option Value) (h : Heap) (L : List Loc) : Prop := ∃ r : Int32, v = some (.int r) ∧ (r < 0 ↔ own_hs (32 : Int32) [w0, w1] = false) ∧ Fr n0 L ∧ h = h0
theorem ef_v_lio_2_32 (m : MethodId) (t : Addr)  : entryFrame m #[(.ref t), (.int (32 : Int32)), (.int (0 : Int32)), (.int (2 : Int32))] 4 = mkF m 0 #[.val (.ref t), .val (.int (32 : Int32)), .val (.int (0 : Int32)), .val (.int (2 : Int32))] [] := by first | (simp [entryFrame, mkF, argsToLocals, Value.category]; done) | rfl
theorem v_lio_2_32 (l : Launch) (Z : State) (a0 : Array Value) (hw : TW a0 Z) (ws : List Jvm.Cond) (t : Addr) (w0 : Int32) (w1 : Int32) (k : ClassId) (h0 : Heap) (n0 : Nat) (Z0 : n0 ≤ h0.size) (V : Arv Z h0 t k .byte 2 [(.int w0), (.int w1)] (.int 0)) :
    own_MF l Z MN24 jdk_43_method_22_code 4 (some .int) ws (own_R 1 0 0 17) #[(.ref t), (.int (32 : Int32)), (.int (0 : Int32)), (.int (2 : Int32))] h0 (Q_v_lio_2_32 Z t w0 w1 k h0 n0) := by
  have wd := @own_wd _ _ hw
  refine MetFree.of_bodySF (plainFor_of_name pn_java_lang_StringLatin1) hisR ?_
  intro p e s m args below meth c s₁ Bd hml0 hP hK
  obtain ⟨rfl, hZ, hh⟩ := hP
  have hx := Bd.exec
  have hby := Bd.bytes
  have hml : c.maxLocals = 4 := hml0
  have hown : s.vm.findClass "java/lang/StringLatin1" = some m.cls := findClass_of_methodNamed Bd.named
  have hnm := (name_of_methodNamed Bd.named Bd.method).1
  have X0 : Stand p l e (own_R 1 0 0 17) s m #[(.ref t), (.int (32 : Int32)), (.int (0 : Int32)), (.int (2 : Int32))] below meth c s₁ [] 0 0 := Stand.of_body Bd
  have e0 : s₁.heap = h0 := by rw [← hh, Bd.state]; rfl
  have N0 := Fr.nil n0
  refine go_of (A := s₁.setTop (entryFrame m #[(.ref t), (.int (32 : Int32)), (.int (0 : Int32)), (.int (2 : Int32))] 4)) (B := s₁.setTop (mkF m 0 #[.val (.ref t), .val (.int (32 : Int32)), .val (.int (0 : Int32)), .val (.int (2 : Int32))] [])) (fun _ kk' => castTop (ef_v_lio_2_32 m t) kk') ?_
  refine go_of (B := (s₁.setTop (mkF m 1 #[.val (.ref t), .val (.int (32 : Int32)), .val (.int (0 : Int32)), .val (.int (2 : Int32))] [(.int (32 : Int32))]))) (fun _ kk => XS.iloadN X0.here hx rfl (hb hby d11_0) rfl kk) ?_
  obtain ⟨_, _, ⟨T1, L1, k1, n1⟩, -, X1, ⟨Lc1, hQ1, l1, y1, z1⟩, st1⟩ := Jvm.LawKit.callS X0 hx (y := MN23) hown (mvT hZ (wd 61 rfl)) (mvT hZ (wd 62 rfl)) (mvT hZ (wd 59 rfl)) (mvT hZ (wd 63 rfl)) (by decide) (backOf (W := 0) (v_cani32 l Z a0 hw [] h0 n0 (by omega)) hZ (wd 63 rfl) (wd 59 rfl) (by decide) (by decide)) (g := (mkF m 1 #[.val (.ref t), .val (.int (32 : Int32)), .val (.int (0 : Int32)), .val (.int (2 : Int32))] [(.int (32 : Int32))])) rfl (by rw [hml]; rfl) (argsL := [(.int (32 : Int32))]) (rest := []) (lenOf pd__I_Z rfl) rfl (by show 2 * 0 + _ ≤ _; exact Nat.le_of_eq rfl) (hb hby d11_1) (fun _ _ => ⟨rfl, e0, (by decide : 0 + 0 ≤ _), (by decide : 0 + 0 ≤ _)⟩)
  dsimp only [Pt.U, Pt.locs, Pt.cells, Pt.slots] at X1 l1 y1 z1 st1 hQ1
  subst l1 y1 z1
  obtain ⟨rfl, N1q, e1⟩ := hQ1
  have N1 := Fr.app N0 N1q
  refine go_of (B := (T1.setTop (mkF m 4 #[.val (.ref t), .val (.int (32 : Int32)), .val (.int (0 : Int32)), .val (.int (2 : Int32))] [(.int (1 : Int32))]))) (st1) ?_
  refine go_of (B := (T1.setTop (mkF m 11 #[.val (.ref t), .val (.int (32 : Int32)), .val (.int (0 : Int32)), .val (.int (2 : Int32))] [(.int (0 : Int32)), (.int (0 : Int32))]))) (fun _ kk => XS.ifYes X1.here hx rfl (pc0 := 4) (pc' := 9) rfl (hb hby d11_4) rfl ((if0 _ _).trans (feq (by decide : ¬ ((1 : Int32) = (0 : Int32)))).2) (by decide) (by decide) (XS.iloadN X1.here hx rfl (hb hby d11_9) rfl (XS.iconst X1.here hx rfl (hb hby d11_10) kk))) ?_
  obtain ⟨_, _, ⟨T2, L2, k2, n2⟩, -, X2, ⟨Lc2, hQ2, l2, y2, z2⟩, st2⟩ := Jvm.LawKit.callS X1 hx (y := MN10) hown (mvT hZ (wd 64 rfl)) (mvT hZ (wd 65 rfl)) (mvT hZ (wd 66 rfl)) (mvT hZ (wd 67 rfl)) (by decide) (backOf (W := 0) (v_max l Z a0 hw [] (0 : Int32) (0 : Int32) (0 : Int32) h0 n0 (by omega) (by decide)) hZ (wd 67 rfl) (wd 66 rfl) (by decide) (by decide)) (g := (mkF m 11 #[.val (.ref t), .val (.int (32 : Int32)), .val (.int (0 : Int32)), .val (.int (2 : Int32))] [(.int (0 : Int32)), (.int (0 : Int32))])) rfl (by rw [hml]; rfl) (argsL := [(.int (0 : Int32)), (.int (0 : Int32))]) (rest := []) (lenOf pd__II_I rfl) rfl (by show 2 * 0 + _ ≤ _; exact Nat.le_of_eq rfl) (hb hby d11_11) (fun _ _ => ⟨rfl, e1, (by decide : 0 + 0 ≤ _), (by decide : 0 + 0 ≤ _)⟩)
  dsimp only [Pt.U, Pt.locs, Pt.cells, Pt.slots] at X2 l2 y2 z2 st2 hQ2
  subst l2 y2 z2
  obtain ⟨rfl, N2q, e2⟩ := hQ2
  have N2 := Fr.app N1 N2q
  refine go_of (B := (T2.setTop (mkF m 14 #[.val (.ref t), .val (.int (32 : Int32)), .val (.int (0 : Int32)), .val (.int (2 : Int32))] [(.int (0 : Int32))]))) (st2) ?_
  refine go_of (B := (T2.setTop (mkF m 17 #[.val (.ref t), .val (.int (32 : Int32)), .val (.int (0 : Int32)), .val (.int (2 : Int32))] [(.ref t), (.int (2 : Int32))]))) (fun _ kk => XS.istoreN X2.here hx rfl (hb hby d11_14) rfl rfl (XS.iloadN X2.here hx rfl (hb hby d11_15) rfl (XS.aloadN X2.here hx rfl (hb hby d11_16) rfl rfl kk))) ?_
  obtain ⟨cl3, Ar3, q3, Sz3, Nn3, Hh3, G3⟩ := id (V)
  have ln3 := len_of Sz3 Nn3
  refine go_of (B := (T2.setTop (mkF m 18 #[.val (.ref t), .val (.int (32 : Int32)), .val (.int (0 : Int32)), .val (.int (2 : Int32))] [(.int (2 : Int32)), (.int (2 : Int32))]))) (fun _ kk => X2.arraylength hx (by rw [e2]; exact Ar3.1) (State.isArrayOf_alike hZ.alike Ar3.2.1) (g := (mkF m 17 #[.val (.ref t), .val (.int (32 : Int32)), .val (.int (0 : Int32)), .val (.int (2 : Int32))] [(.ref t), (.int (2 : Int32))])) rfl rfl (hb hby d11_17) _ (by rw [ln3]; exact kk)) ?_
  obtain ⟨_, _, ⟨T4, L4, k4, n4⟩, -, X4, ⟨Lc4, hQ4, l4, y4, z4⟩, st4⟩ := Jvm.LawKit.callS X2 hx (y := MN11) hown (mvT hZ (wd 68 rfl)) (mvT hZ (wd 69 rfl)) (mvT hZ (wd 66 rfl)) (mvT hZ (wd 70 rfl)) (by decide) (backOf (W := 0) (v_min l Z a0 hw [] (2 : Int32) (2 : Int32) (2 : Int32) h0 n0 (by omega) (by decide)) hZ (wd 70 rfl) (wd 66 rfl) (by decide) (by decide)) (g := (mkF m 18 #[.val (.ref t), .val (.int (32 : Int32)), .val (.int (0 : Int32)), .val (.int (2 : Int32))] [(.int (2 : Int32)), (.int (2 : Int32))])) rfl (by rw [hml]; rfl) (argsL := [(.int (2 : Int32)), (.int (2 : Int32))]) (rest := []) (lenOf pd__II_I rfl) rfl (by show 2 * 0 + _ ≤ _; exact Nat.le_of_eq rfl) (hb hby d11_18) (fun _ _ => ⟨rfl, e2, (by decide : 0 + 0 ≤ _), (by decide : 0 + 0 ≤ _)⟩)
  dsimp only [Pt.U, Pt.locs, Pt.cells, Pt.slots] at X4 l4 y4 z4 st4 hQ4
  subst l4 y4 z4
  obtain ⟨rfl, N4q, e4⟩ := hQ4
  have N4 := Fr.app N2 N4q
  refine go_of (B := (T4.setTop (mkF m 21 #[.val (.ref t), .val (.int (32 : Int32)), .val (.int (0 : Int32)), .val (.int (2 : Int32))] [(.int (2 : Int32))]))) (st4) ?_
  refine go_of (B := (T4.setTop (mkF m 31 #[.val (.ref t), .val (.int (32 : Int32)), .val (.int (0 : Int32)), .val (.int (2 : Int32))] [(.int (32 : Int32)), (.ref t)]))) (fun _ kk => XS.istoreN X4.here hx rfl (hb hby d11_21) rfl rfl (XS.iloadN X4.here hx rfl (hb hby d11_22) rfl (XS.iloadN X4.here hx rfl (hb hby d11_23) rfl (XS.icmpYes X4.here hx rfl (pc0 := 24) (pc' := 29) rfl (hb hby d11_24) rfl (tlt (by decide : (0 : Int32) < (2 : Int32))).1 (by decide) (by decide) (XS.aloadN X4.here hx rfl (hb hby d11_29) rfl rfl (XS.iloadN X4.here hx rfl (hb hby d11_30) rfl kk)))))) ?_
  refine go_of (B := (T4.setTop (mkF m 33 #[.val (.ref t), .val (.int (32 : Int32)), .val (.int (0 : Int32)), .val (.int (2 : Int32))] [(.int (2 : Int32)), (.int (0 : Int32)), (.int (32 : Int32)), (.ref t)]))) (fun _ kk => XS.iloadN X4.here hx rfl (hb hby d11_31) rfl (XS.iloadN X4.here hx rfl (hb hby d11_32) rfl kk)) ?_
  obtain ⟨_, _, ⟨T5, L5, k5, n5⟩, -, X5, ⟨Lc5, hQ5, l5, y5, z5⟩, st5⟩ := Jvm.LawKit.callS X4 hx (y := MN25) hown (mvT hZ (wd 186 rfl)) (mvT hZ (wd 187 rfl)) (mvT hZ (wd 59 rfl)) (mvT hZ (wd 188 rfl)) (by decide) (backOf (W := 0) (v_ioc_2_32 l Z a0 hw [] t w0 w1 k h0 n0 (by omega) V) hZ (wd 188 rfl) (wd 59 rfl) (by decide) (by decide)) (g := (mkF m 33 #[.val (.ref t), .val (.int (32 : Int32)), .val (.int (0 : Int32)), .val (.int (2 : Int32))] [(.int (2 : Int32)), (.int (0 : Int32)), (.int (32 : Int32)), (.ref t)])) rfl (by rw [hml]; rfl) (argsL := [(.ref t), (.int (32 : Int32)), (.int (0 : Int32)), (.int (2 : Int32))]) (rest := []) (lenOf pd___BIII_I rfl) rfl (by show 2 * 0 + _ ≤ _; exact Nat.le_of_eq rfl) (hb hby d11_33) (fun _ _ => ⟨rfl, e4, (by decide : 0 + 0 ≤ _), (by decide : 0 + 0 ≤ _)⟩)
  dsimp only [Pt.U, Pt.locs, Pt.cells, Pt.slots] at X5 l5 y5 z5 st5 hQ5
  subst l5 y5 z5
  obtain ⟨r5, rfl, hr5, N5q, e5⟩ := hQ5
  have N5 := Fr.app N4 N5q
  refine go_of (B := (T5.setTop (mkF m 36 #[.val (.ref t), .val (.int (32 : Int32)), .val (.int (0 : Int32)), .val (.int (2 : Int32))] [(.int r5)]))) (st5) ?_
  refine go_end X5 (v := some (.int r5)) (fun h => by rw [Bd.returns] at h; cases h) Bd.notSynchronized (by decide) (by decide) (Q := (Q_v_lio_2_32 Z t w0 w1 k h0 n0)) ?_ (fun fs hr => own_retI X5 hx Bd.returns (hb hby d11_36) hr)
  unfold Q_v_lio_2_32
  try rw [e5]
  exact ⟨_, rfl, hr5, N5, rfl⟩
def Q_str_len_2 (Z : State) (a : Addr) (c0 : Int32) (c1 : Int32) (gC : Int32) (h0 : Heap) (n0 : Nat) (v : Option Value) (h : Heap) (L : List Loc) : Prop := v = some (.int 2) ∧ Fr n0 L ∧ h = h0
theorem ef_str_len_2 (m : MethodId) (a : Addr)  : entryFrame m #[(.ref a)] 1 = mkF m 0 #[.val (.ref a)] [] := by first | (simp [entryFrame, mkF, argsToLocals, Value.category]; done) | rfl
theorem str_len_2 (l : Launch) (Z : State) (a0 : Array Value) (hw : TW a0 Z) (ws : List Jvm.Cond) (a : Addr) (c0 : Int32) (c1 : Int32) (gC : Int32) (h0 : Heap) (n0 : Nat) (Z0 : n0 ≤ h0.size) (O : Old Z n0 h0) (SC : Sta Z Z.heap "java/lang/String" "COMPACT_STRINGS" "Z" (.int gC)) (hgC : ¬ gC = (0 : Int32)) (S : Str Z h0 a 2 [c0, c1]) :
    own_MF l Z MN19 jdk_42_method_54_code 1 (some .int) ws (own_R 1 0 0 13) #[(.ref a)] h0 (Q_str_len_2 Z a c0 c1 gC h0 n0) := by
  have wd := @own_wd _ _ hw
  refine MetFree.of_bodySF (plainFor_of_name pn_java_lang_String) hisR ?_
  intro p e s m args below meth c s₁ Bd hml0 hP hK
  obtain ⟨rfl, hZ, hh⟩ := hP
  have hx := Bd.exec
  have hby := Bd.bytes
  have hml : c.maxLocals = 1 := hml0
  have hown : s.vm.findClass "java/lang/String" = some m.cls := findClass_of_methodNamed Bd.named
  have hnm := (name_of_methodNamed Bd.named Bd.method).1
  have X0 : Stand p l e (own_R 1 0 0 13) s m #[(.ref a)] below meth c s₁ [] 0 0 := Stand.of_body Bd
  have e0 : s₁.heap = h0 := by rw [← hh, Bd.state]; rfl
  have N0 := Fr.nil n0
  obtain ⟨t, k, Ea, Fc, Fv, Va, hcs⟩ := S
  have lta := own_nlt (Ea.lt)
  have ltt := own_nlt (Va.lt)
  refine go_of (A := s₁.setTop (entryFrame m #[(.ref a)] 1)) (B := s₁.setTop (mkF m 0 #[.val (.ref a)] [])) (fun _ kk' => castTop (ef_str_len_2 m a) kk') ?_
  refine go_of (B := (s₁.setTop (mkF m 1 #[.val (.ref a)] [(.ref a)]))) (fun _ kk => XS.aloadN X0.here hx rfl (hb hby d9_0) rfl rfl kk) ?_
  obtain ⟨T1, X1, e1, st1⟩ := getF X0 hx hZ hown (host := "") (Or.inl (wd 25 rfl)) Via.refl e0 Fv (g := (mkF m 1 #[.val (.ref a)] [(.ref a)])) rfl rfl (hb hby d9_1)
  refine go_of (B := (T1.setTop (mkF m 4 #[.val (.ref a)] [(.ref t)]))) (st1) ?_
  obtain ⟨cl2, Ar2, q2, Sz2, Nn2, Hh2, G2⟩ := id (Va)
  have ln2 := len_of Sz2 Nn2
  refine go_of (B := (T1.setTop (mkF m 5 #[.val (.ref a)] [(.int (2 : Int32))]))) (fun _ kk => X1.arraylength hx (by rw [e1]; exact Ar2.1) (State.isArrayOf_alike hZ.alike Ar2.2.1) (g := (mkF m 4 #[.val (.ref a)] [(.ref t)])) rfl rfl (hb hby d9_4) _ (by rw [ln2]; exact kk)) ?_
  refine go_of (B := (T1.setTop (mkF m 6 #[.val (.ref a)] [(.ref a), (.int (2 : Int32))]))) (fun _ kk => XS.aloadN X1.here hx rfl (hb hby d9_5) rfl rfl kk) ?_
  obtain ⟨cq3, kq3, q3a, q3b, q3c⟩ := isOf hZ e1 Ea
  obtain ⟨_, _, ⟨T3, L3, k3, n3⟩, -, X3, ⟨Lc3, hQ3, l3, y3, z3⟩, st3⟩ := X1.virtualBack hx (y := MN14) (z := MN14) hown (mvT hZ (wd 52 rfl)) (mvT hZ (wd 53 rfl)) (notFace_of_selects (args := #[]) (mvT hZ (wd 55 rfl))) (mvT hZ (wd 55 rfl)) (mvT hZ (wd 54 rfl)) (by decide) (backOf (W := 1) (str_coder l Z a0 hw [] a gC h0 n0 Z0 O SC hgC Fc) hZ (wd 56 rfl) (wd 7 rfl) (by decide) (by decide)) q3a q3c (g := (mkF m 6 #[.val (.ref a)] [(.ref a), (.int (2 : Int32))])) rfl (by rw [hml]; rfl) (Steps.refl _) (argsL := []) (rest := [(.int (2 : Int32))]) (lenOf pd___B rfl) rfl (by show 2 * 0 + _ ≤ _; exact Nat.le_of_eq rfl) (hb hby d9_6) (fun _ _ => ⟨rfl, e1, (by decide : 0 + 0 ≤ _), (by decide : 0 + 0 ≤ _)⟩)
  dsimp only [Pt.U, Pt.locs, Pt.cells, Pt.slots] at X3 l3 y3 z3 st3 hQ3
  subst l3 y3 z3
  obtain ⟨rfl, N3q, e3⟩ := hQ3
  have N3 := Fr.app N0 N3q
  refine go_tr (B := (T3.setTop (mkF m 9 #[.val (.ref a)] [(.int (0 : Int32)), (.int (2 : Int32))]))) (st3) ?_
  refine go_of (B := (T3.setTop (mkF m 10 #[.val (.ref a)] [(.int (2 : Int32))]))) (fun _ kk => XS.ishr X3.here hx rfl (hb hby d9_9) rfl kk) ?_
  refine go_end X3 (v := some (.int (2 : Int32))) (fun h => by rw [Bd.returns] at h; cases h) Bd.notSynchronized (by decide) (by decide) (Q := (Q_str_len_2 Z a c0 c1 gC h0 n0)) ?_ (fun fs hr => own_retI X3 hx Bd.returns (hb hby d9_10) hr)
  unfold Q_str_len_2
  try rw [e3]
  exact ⟨rfl, N3, rfl⟩
def Q_v_si2_2_32 (Z : State) (a : Addr) (c0 : Int32) (c1 : Int32) (gC : Int32) (h0 : Heap) (n0 : Nat) (v : Option Value) (h : Heap) (L : List Loc) : Prop := ∃ r : Int32, v = some (.int r) ∧ (r < 0 ↔ own_hs (32 : Int32) [c0, c1] = false) ∧ Fr n0 L ∧ h = h0
theorem ef_v_si2_2_32 (m : MethodId) (a : Addr)  : entryFrame m #[(.ref a), (.int (32 : Int32)), (.int (0 : Int32))] 3 = mkF m 0 #[.val (.ref a), .val (.int (32 : Int32)), .val (.int (0 : Int32))] [] := by first | (simp [entryFrame, mkF, argsToLocals, Value.category]; done) | rfl
theorem v_si2_2_32 (l : Launch) (Z : State) (a0 : Array Value) (hw : TW a0 Z) (ws : List Jvm.Cond) (a : Addr) (c0 : Int32) (c1 : Int32) (gC : Int32) (h0 : Heap) (n0 : Nat) (Z0 : n0 ≤ h0.size) (O : Old Z n0 h0) (SC : Sta Z Z.heap "java/lang/String" "COMPACT_STRINGS" "Z" (.int gC)) (hgC : ¬ gC = (0 : Int32)) (S : Str Z h0 a 2 [c0, c1]) :
    own_MF l Z MN17 jdk_42_method_80_code 3 (some .int) ws (own_R 2 0 0 32) #[(.ref a), (.int (32 : Int32)), (.int (0 : Int32))] h0 (Q_v_si2_2_32 Z a c0 c1 gC h0 n0) := by
  have wd := @own_wd _ _ hw
  refine MetFree.of_bodySF (plainFor_of_name pn_java_lang_String) hisR ?_
  intro p e s m args below meth c s₁ Bd hml0 hP hK
  obtain ⟨rfl, hZ, hh⟩ := hP
  have hx := Bd.exec
  have hby := Bd.bytes
  have hml : c.maxLocals = 3 := hml0
  have hown : s.vm.findClass "java/lang/String" = some m.cls := findClass_of_methodNamed Bd.named
  have hnm := (name_of_methodNamed Bd.named Bd.method).1
  have X0 : Stand p l e (own_R 2 0 0 32) s m #[(.ref a), (.int (32 : Int32)), (.int (0 : Int32))] below meth c s₁ [] 0 0 := Stand.of_body Bd
  have e0 : s₁.heap = h0 := by rw [← hh, Bd.state]; rfl
  have N0 := Fr.nil n0
  obtain ⟨t, k, Ea, Fc, Fv, Va, hcs⟩ := (id S)
  have lta := own_nlt (Ea.lt)
  have ltt := own_nlt (Va.lt)
  refine go_of (A := s₁.setTop (entryFrame m #[(.ref a), (.int (32 : Int32)), (.int (0 : Int32))] 3)) (B := s₁.setTop (mkF m 0 #[.val (.ref a), .val (.int (32 : Int32)), .val (.int (0 : Int32))] [])) (fun _ kk' => castTop (ef_v_si2_2_32 m a) kk') ?_
  refine go_of (B := (s₁.setTop (mkF m 1 #[.val (.ref a), .val (.int (32 : Int32)), .val (.int (0 : Int32))] [(.ref a)]))) (fun _ kk => XS.aloadN X0.here hx rfl (hb hby d7_0) rfl rfl kk) ?_
  obtain ⟨cq1, kq1, q1a, q1b, q1c⟩ := isOf hZ e0 Ea
  obtain ⟨_, _, ⟨T1, L1, k1, n1⟩, -, X1, ⟨Lc1, hQ1, l1, y1, z1⟩, st1⟩ := X0.virtualBack hx (y := MN18) (z := MN18) hown (mvT hZ (wd 41 rfl)) (mvT hZ (wd 42 rfl)) (notFace_of_selects (args := #[]) (mvT hZ (wd 44 rfl))) (mvT hZ (wd 44 rfl)) (mvT hZ (wd 43 rfl)) (by decide) (backOf (W := 0) (str_latin l Z a0 hw [] a gC h0 n0 (by omega) O SC hgC Fc) hZ (wd 45 rfl) (wd 7 rfl) (by decide) (by decide)) q1a q1c (g := (mkF m 1 #[.val (.ref a), .val (.int (32 : Int32)), .val (.int (0 : Int32))] [(.ref a)])) rfl (by rw [hml]; rfl) (Steps.refl _) (argsL := []) (rest := []) (lenOf pd___Z rfl) rfl (by show 2 * 0 + _ ≤ _; exact Nat.le_of_eq rfl) (hb hby d7_1) (fun _ _ => ⟨rfl, e0, (by decide : 0 + 0 ≤ _), (by decide : 0 + 0 ≤ _)⟩)
  dsimp only [Pt.U, Pt.locs, Pt.cells, Pt.slots] at X1 l1 y1 z1 st1 hQ1
  subst l1 y1 z1
  obtain ⟨rfl, N1q, e1⟩ := hQ1
  have N1 := Fr.app N0 N1q
  refine go_tr (B := (T1.setTop (mkF m 4 #[.val (.ref a), .val (.int (32 : Int32)), .val (.int (0 : Int32))] [(.int (1 : Int32))]))) (st1) ?_
  refine go_of (B := (T1.setTop (mkF m 8 #[.val (.ref a), .val (.int (32 : Int32)), .val (.int (0 : Int32))] [(.ref a)]))) (fun _ kk => XS.ifNo X1.here hx rfl (hb hby d7_4) rfl ((if0 _ _).trans (feq (by decide : ¬ ((1 : Int32) = (0 : Int32)))).1) (XS.aloadN X1.here hx rfl (hb hby d7_7) rfl rfl kk)) ?_
  obtain ⟨T2, X2, e2, st2⟩ := getF X1 hx hZ hown (host := "") (Or.inl (wd 25 rfl)) Via.refl e1 Fv (g := (mkF m 8 #[.val (.ref a), .val (.int (32 : Int32)), .val (.int (0 : Int32))] [(.ref a)])) rfl rfl (hb hby d7_8)
  refine go_of (B := (T2.setTop (mkF m 11 #[.val (.ref a), .val (.int (32 : Int32)), .val (.int (0 : Int32))] [(.ref t)]))) (st2) ?_
  refine go_of (B := (T2.setTop (mkF m 14 #[.val (.ref a), .val (.int (32 : Int32)), .val (.int (0 : Int32))] [(.ref a), (.int (0 : Int32)), (.int (32 : Int32)), (.ref t)]))) (fun _ kk => XS.iloadN X2.here hx rfl (hb hby d7_11) rfl (XS.iloadN X2.here hx rfl (hb hby d7_12) rfl (XS.aloadN X2.here hx rfl (hb hby d7_13) rfl rfl kk))) ?_
  obtain ⟨cq3, kq3, q3a, q3b, q3c⟩ := isOf hZ e2 Ea
  obtain ⟨_, _, ⟨T3, L3, k3, n3⟩, -, X3, ⟨Lc3, hQ3, l3, y3, z3⟩, st3⟩ := X2.virtualBack hx (y := MN19) (z := MN19) hown (mvT hZ (wd 47 rfl)) (mvT hZ (wd 48 rfl)) (notFace_of_selects (args := #[]) (mvT hZ (wd 50 rfl))) (mvT hZ (wd 50 rfl)) (mvT hZ (wd 49 rfl)) (by decide) (backOf (W := 3) (str_len_2 l Z a0 hw [] a c0 c1 gC h0 n0 (by omega) O SC hgC S) hZ (wd 51 rfl) (wd 7 rfl) (by decide) (by decide)) q3a q3c (g := (mkF m 14 #[.val (.ref a), .val (.int (32 : Int32)), .val (.int (0 : Int32))] [(.ref a), (.int (0 : Int32)), (.int (32 : Int32)), (.ref t)])) rfl (by rw [hml]; rfl) (Steps.refl _) (argsL := []) (rest := [(.int (0 : Int32)), (.int (32 : Int32)), (.ref t)]) (lenOf pd___I rfl) rfl (by show 2 * 0 + _ ≤ _; exact Nat.le_of_eq rfl) (hb hby d7_14) (fun _ _ => ⟨rfl, e2, (by decide : 0 + 0 ≤ _), (by decide : 0 + 0 ≤ _)⟩)
  dsimp only [Pt.U, Pt.locs, Pt.cells, Pt.slots] at X3 l3 y3 z3 st3 hQ3
  subst l3 y3 z3
  obtain ⟨rfl, N3q, e3⟩ := hQ3
  have N3 := Fr.app N1 N3q
  refine go_tr (B := (T3.setTop (mkF m 17 #[.val (.ref a), .val (.int (32 : Int32)), .val (.int (0 : Int32))] [(.int (2 : Int32)), (.int (0 : Int32)), (.int (32 : Int32)), (.ref t)]))) (st3) ?_
  obtain ⟨_, _, ⟨T4, L4, k4, n4⟩, -, X4, ⟨Lc4, hQ4, l4, y4, z4⟩, st4⟩ := Jvm.LawKit.callS X3 hx (y := MN24) hown (mvT hZ (wd 57 rfl)) (mvT hZ (wd 58 rfl)) (mvT hZ (wd 59 rfl)) (mvT hZ (wd 60 rfl)) (by decide) (backOf (W := 0) (v_lio_2_32 l Z a0 hw [] t (own_b8 c0) (own_b8 c1) k h0 n0 (by omega) Va) hZ (wd 60 rfl) (wd 59 rfl) (by decide) (by decide)) (g := (mkF m 17 #[.val (.ref a), .val (.int (32 : Int32)), .val (.int (0 : Int32))] [(.int (2 : Int32)), (.int (0 : Int32)), (.int (32 : Int32)), (.ref t)])) rfl (by rw [hml]; rfl) (argsL := [(.ref t), (.int (32 : Int32)), (.int (0 : Int32)), (.int (2 : Int32))]) (rest := []) (lenOf pd___BIII_I rfl) rfl (by show 2 * 0 + _ ≤ _; exact Nat.le_of_eq rfl) (hb hby d7_17) (fun _ _ => ⟨rfl, e3, (by decide : 0 + 0 ≤ _), (by decide : 0 + 0 ≤ _)⟩)
  dsimp only [Pt.U, Pt.locs, Pt.cells, Pt.slots] at X4 l4 y4 z4 st4 hQ4
  subst l4 y4 z4
  obtain ⟨r4, rfl, hr4, N4q, e4⟩ := hQ4
  have N4 := Fr.app N3 N4q
  refine go_of (B := (T4.setTop (mkF m 20 #[.val (.ref a), .val (.int (32 : Int32)), .val (.int (0 : Int32))] [(.int r4)]))) (st4) ?_
  refine go_of (B := (T4.setTop (mkF m 36 #[.val (.ref a), .val (.int (32 : Int32)), .val (.int (0 : Int32))] [(.int r4)]))) (fun _ kk => XS.goto X4.here hx rfl (pc0 := 20) (pc' := 36) rfl (hb hby d7_20) (by decide) (by decide) kk) ?_
  refine go_end X4 (v := some (.int r4)) (fun h => by rw [Bd.returns] at h; cases h) Bd.notSynchronized (by decide) (by decide) (Q := (Q_v_si2_2_32 Z a c0 c1 gC h0 n0)) ?_ (fun fs hr => own_retI X4 hx Bd.returns (hb hby d7_36) hr)
  unfold Q_v_si2_2_32
  try rw [e4]
  exact ⟨_, rfl, hr4.trans (iff_of_eq (congrArg (fun b => b = false) (own_hsb (32 : Int32) (by decide) [c0, c1] hcs))), N4, rfl⟩
def Q_v_si_2_32 (Z : State) (a : Addr) (c0 : Int32) (c1 : Int32) (gC : Int32) (h0 : Heap) (n0 : Nat) (v : Option Value) (h : Heap) (L : List Loc) : Prop := ∃ r : Int32, v = some (.int r) ∧ (r < 0 ↔ own_hs (32 : Int32) [c0, c1] = false) ∧ Fr n0 L ∧ h = h0
theorem ef_v_si_2_32 (m : MethodId) (a : Addr)  : entryFrame m #[(.ref a), (.int (32 : Int32))] 2 = mkF m 0 #[.val (.ref a), .val (.int (32 : Int32))] [] := by first | (simp [entryFrame, mkF, argsToLocals, Value.category]; done) | rfl
theorem v_si_2_32 (l : Launch) (Z : State) (a0 : Array Value) (hw : TW a0 Z) (ws : List Jvm.Cond) (a : Addr) (c0 : Int32) (c1 : Int32) (gC : Int32) (h0 : Heap) (n0 : Nat) (Z0 : n0 ≤ h0.size) (O : Old Z n0 h0) (SC : Sta Z Z.heap "java/lang/String" "COMPACT_STRINGS" "Z" (.int gC)) (hgC : ¬ gC = (0 : Int32)) (S : Str Z h0 a 2 [c0, c1]) :
    own_MF l Z MN16 jdk_42_method_79_code 2 (some .int) ws (own_R 3 0 0 46) #[(.ref a), (.int (32 : Int32))] h0 (Q_v_si_2_32 Z a c0 c1 gC h0 n0) := by
  have wd := @own_wd _ _ hw
  refine MetFree.of_bodySF (plainFor_of_name pn_java_lang_String) hisR ?_
  intro p e s m args below meth c s₁ Bd hml0 hP hK
  obtain ⟨rfl, hZ, hh⟩ := hP
  have hx := Bd.exec
  have hby := Bd.bytes
  have hml : c.maxLocals = 2 := hml0
  have hown : s.vm.findClass "java/lang/String" = some m.cls := findClass_of_methodNamed Bd.named
  have hnm := (name_of_methodNamed Bd.named Bd.method).1
  have X0 : Stand p l e (own_R 3 0 0 46) s m #[(.ref a), (.int (32 : Int32))] below meth c s₁ [] 0 0 := Stand.of_body Bd
  have e0 : s₁.heap = h0 := by rw [← hh, Bd.state]; rfl
  have N0 := Fr.nil n0
  refine go_of (A := s₁.setTop (entryFrame m #[(.ref a), (.int (32 : Int32))] 2)) (B := s₁.setTop (mkF m 0 #[.val (.ref a), .val (.int (32 : Int32))] [])) (fun _ kk' => castTop (ef_v_si_2_32 m a) kk') ?_
  refine go_of (B := (s₁.setTop (mkF m 3 #[.val (.ref a), .val (.int (32 : Int32))] [(.int (0 : Int32)), (.int (32 : Int32)), (.ref a)]))) (fun _ kk => XS.aloadN X0.here hx rfl (hb hby d6_0) rfl rfl (XS.iloadN X0.here hx rfl (hb hby d6_1) rfl (XS.iconst X0.here hx rfl (hb hby d6_2) kk))) ?_
  obtain ⟨cq1, kq1, q1a, q1b, q1c⟩ := isOf hZ e0 S.exa
  obtain ⟨_, _, ⟨T1, L1, k1, n1⟩, -, X1, ⟨Lc1, hQ1, l1, y1, z1⟩, st1⟩ := X0.virtualBack hx (y := MN17) (z := MN17) hown (mvT hZ (wd 36 rfl)) (mvT hZ (wd 37 rfl)) (notFace_of_selects (args := #[]) (mvT hZ (wd 39 rfl))) (mvT hZ (wd 39 rfl)) (mvT hZ (wd 38 rfl)) (by decide) (backOf (W := 0) (v_si2_2_32 l Z a0 hw [] a c0 c1 gC h0 n0 (by omega) O SC hgC S) hZ (wd 40 rfl) (wd 7 rfl) (by decide) (by decide)) q1a q1c (g := (mkF m 3 #[.val (.ref a), .val (.int (32 : Int32))] [(.int (0 : Int32)), (.int (32 : Int32)), (.ref a)])) rfl (by rw [hml]; rfl) (Steps.refl _) (argsL := [(.int (32 : Int32)), (.int (0 : Int32))]) (rest := []) (lenOf pd__II_I rfl) rfl (by show 2 * 0 + _ ≤ _; exact Nat.le_of_eq rfl) (hb hby d6_3) (fun _ _ => ⟨rfl, e0, (by decide : 0 + 0 ≤ _), (by decide : 0 + 0 ≤ _)⟩)
  dsimp only [Pt.U, Pt.locs, Pt.cells, Pt.slots] at X1 l1 y1 z1 st1 hQ1
  subst l1 y1 z1
  obtain ⟨r1, rfl, hr1, N1q, e1⟩ := hQ1
  have N1 := Fr.app N0 N1q
  refine go_tr (B := (T1.setTop (mkF m 6 #[.val (.ref a), .val (.int (32 : Int32))] [(.int r1)]))) (st1) ?_
  refine go_end X1 (v := some (.int r1)) (fun h => by rw [Bd.returns] at h; cases h) Bd.notSynchronized (by decide) (by decide) (Q := (Q_v_si_2_32 Z a c0 c1 gC h0 n0)) ?_ (fun fs hr => own_retI X1 hx Bd.returns (hb hby d6_6) hr)
  unfold Q_v_si_2_32
  try rw [e1]
  exact ⟨_, rfl, hr1, N1, rfl⟩
def Q_no_2 (Z : State) (a : Addr) (c0 : Int32) (c1 : Int32) (gC : Int32) (h0 : Heap) (n0 : Nat) (v : Option Value) (h : Heap) (L : List Loc) : Prop := v = some (.int (own_no [c0, c1])) ∧ Fr n0 L ∧ h = h0
theorem ef_no_2 (m : MethodId) (a : Addr)  : entryFrame m #[(.ref a)] 1 = mkF m 0 #[.val (.ref a)] [] := by first | (simp [entryFrame, mkF, argsToLocals, Value.category]; done) | rfl
theorem no_2 (l : Launch) (Z : State) (a0 : Array Value) (hw : TW a0 Z) (ws : List Jvm.Cond) (a : Addr) (c0 : Int32) (c1 : Int32) (gC : Int32) (h0 : Heap) (n0 : Nat) (Z0 : n0 ≤ h0.size) (O : Old Z n0 h0) (SC : Sta Z Z.heap "java/lang/String" "COMPACT_STRINGS" "Z" (.int gC)) (hgC : ¬ gC = (0 : Int32)) (S : Str Z h0 a 2 [c0, c1]) :
    own_MF l Z MN2 prog_10_method_13_code 1 (some .boolean) ws (own_R 4 0 0 59) #[(.ref a)] h0 (Q_no_2 Z a c0 c1 gC h0 n0) := by
  have wd := @own_wd _ _ hw
  refine MetFree.of_bodySF (plainFor_of_name pn_com_example_holdfast_holdfast_HoldfastLock_Exclusive) hisR ?_
  intro p e s m args below meth c s₁ Bd hml0 hP hK
  obtain ⟨rfl, hZ, hh⟩ := hP
  have hx := Bd.exec
  have hby := Bd.bytes
  have hml : c.maxLocals = 1 := hml0
  have hown : s.vm.findClass "com/example/holdfast/holdfast/HoldfastLock$Exclusive" = some m.cls := findClass_of_methodNamed Bd.named
  have hnm := (name_of_methodNamed Bd.named Bd.method).1
  have X0 : Stand p l e (own_R 4 0 0 59) s m #[(.ref a)] below meth c s₁ [] 0 0 := Stand.of_body Bd
  have e0 : s₁.heap = h0 := by rw [← hh, Bd.state]; rfl
  have N0 := Fr.nil n0
  refine go_of (A := s₁.setTop (entryFrame m #[(.ref a)] 1)) (B := s₁.setTop (mkF m 0 #[.val (.ref a)] [])) (fun _ kk' => castTop (ef_no_2 m a) kk') ?_
  refine go_of (B := (s₁.setTop (mkF m 3 #[.val (.ref a)] [(.int (32 : Int32)), (.ref a)]))) (fun _ kk => XS.aloadN X0.here hx rfl (hb hby d5_0) rfl rfl (XS.bipush X0.here hx rfl (hb hby d5_1) kk)) ?_
  obtain ⟨cq1, kq1, q1a, q1b, q1c⟩ := isOf hZ e0 S.exa
  obtain ⟨_, _, ⟨T1, L1, k1, n1⟩, -, X1, ⟨Lc1, hQ1, l1, y1, z1⟩, st1⟩ := X0.virtualBack hx (y := MN16) (z := MN16) hown (mvT hZ (wd 31 rfl)) (mvT hZ (wd 32 rfl)) (notFace_of_selects (args := #[]) (mvT hZ (wd 34 rfl))) (mvT hZ (wd 34 rfl)) (mvT hZ (wd 33 rfl)) (by decide) (backOf (W := 0) (v_si_2_32 l Z a0 hw [] a c0 c1 gC h0 n0 (by omega) O SC hgC S) hZ (wd 35 rfl) (wd 7 rfl) (by decide) (by decide)) q1a q1c (g := (mkF m 3 #[.val (.ref a)] [(.int (32 : Int32)), (.ref a)])) rfl (by rw [hml]; rfl) (Steps.refl _) (argsL := [(.int (32 : Int32))]) (rest := []) (lenOf pd__I_I rfl) rfl (by show 2 * 0 + _ ≤ _; exact Nat.le_of_eq rfl) (hb hby d5_3) (fun _ _ => ⟨rfl, e0, (by decide : 0 + 0 ≤ _), (by decide : 0 + 0 ≤ _)⟩)
  dsimp only [Pt.U, Pt.locs, Pt.cells, Pt.slots] at X1 l1 y1 z1 st1 hQ1
  subst l1 y1 z1
  obtain ⟨r1, rfl, hr1, N1q, e1⟩ := hQ1
  have N1 := Fr.app N0 N1q
  refine go_tr (B := (T1.setTop (mkF m 6 #[.val (.ref a)] [(.int r1)]))) (st1) ?_
  by_cases hcc2 : r1 < (0 : Int32)
  · refine go_of (B := (T1.setTop (mkF m 14 #[.val (.ref a)] [(.int (0 : Int32))]))) (fun _ kk => XS.ifYes X1.here hx rfl (pc0 := 6) (pc' := 13) rfl (hb hby d5_6) rfl ((if0 _ _).trans (tlt hcc2).1) (by decide) (by decide) (XS.iconst X1.here hx rfl (hb hby d5_13) kk)) ?_
    refine go_end X1 (v := some (.int (nar .boolean (0 : Int32)))) (fun h => by rw [Bd.returns] at h; cases h) Bd.notSynchronized (by decide) (by decide) (Q := (Q_no_2 Z a c0 c1 gC h0 n0)) ?_ (fun fs hr => retN X1 hx (t := .boolean) Bd.returns (by simp) (hb hby d5_14) hr)
    unfold Q_no_2
    try rw [e1]
    refine ⟨?_, N1, rfl⟩
    have hq := hr1.mp hcc2
    rw [own_no, hq]; rfl
  · refine go_of (B := (T1.setTop (mkF m 14 #[.val (.ref a)] [(.int (1 : Int32))]))) (fun _ kk => XS.ifNo X1.here hx rfl (hb hby d5_6) rfl ((if0 _ _).trans (flt hcc2).1) (XS.iconst X1.here hx rfl (hb hby d5_9) (XS.goto X1.here hx rfl (pc0 := 10) (pc' := 14) rfl (hb hby d5_10) (by decide) (by decide) kk))) ?_
    refine go_end X1 (v := some (.int (nar .boolean (1 : Int32)))) (fun h => by rw [Bd.returns] at h; cases h) Bd.notSynchronized (by decide) (by decide) (Q := (Q_no_2 Z a c0 c1 gC h0 n0)) ?_ (fun fs hr => retN X1 hx (t := .boolean) Bd.returns (by simp) (hb hby d5_14) hr)
    unfold Q_no_2
    try rw [e1]
    refine ⟨?_, N1, rfl⟩
    have hq := own_bt (fun q => hcc2 (hr1.mpr q))
    rw [own_no, hq]; rfl
def Q_v_ioc_3_32 (Z : State) (t : Addr) (w0 : Int32) (w1 : Int32) (w2 : Int32) (k : ClassId) (h0 : Heap) (n0 : Nat) (v : Option Value) (h : Heap) (L : List Loc) : Prop := ∃ r : Int32, v = some (.int r) ∧ (r < 0 ↔ own_hs (32 : Int32) [w0, w1, w2] = false) ∧ Fr n0 L ∧ h = h0
theorem ef_v_ioc_3_32 (m : MethodId) (t : Addr)  : entryFrame m #[(.ref t), (.int (32 : Int32)), (.int (0 : Int32)), (.int (3 : Int32))] 6 = mkF m 0 #[.val (.ref t), .val (.int (32 : Int32)), .val (.int (0 : Int32)), .val (.int (3 : Int32)), .unset, .unset] [] := by first | (simp [entryFrame, mkF, argsToLocals, Value.category]; done) | rfl
theorem v_ioc_3_32 (l : Launch) (Z : State) (a0 : Array Value) (hw : TW a0 Z) (ws : List Jvm.Cond) (t : Addr) (w0 : Int32) (w1 : Int32) (w2 : Int32) (k : ClassId) (h0 : Heap) (n0 : Nat) (Z0 : n0 ≤ h0.size) (V : Arv Z h0 t k .byte 3 [(.int w0), (.int w1), (.int w2)] (.int 0)) :
    own_MF l Z MN25 jdk_43_method_23_code 6 (some .int) ws (own_R 0 0 0 0) #[(.ref t), (.int (32 : Int32)), (.int (0 : Int32)), (.int (3 : Int32))] h0 (Q_v_ioc_3_32 Z t w0 w1 w2 k h0 n0) := by
  have wd := @own_wd _ _ hw
  refine MetFree.of_bodySF (plainFor_of_name pn_java_lang_StringLatin1) hisR ?_
  intro p e s m args below meth c s₁ Bd hml0 hP hK
  obtain ⟨rfl, hZ, hh⟩ := hP
  have hx := Bd.exec
  have hby := Bd.bytes
  have hml : c.maxLocals = 6 := hml0
  have hown : s.vm.findClass "java/lang/StringLatin1" = some m.cls := findClass_of_methodNamed Bd.named
  have hnm := (name_of_methodNamed Bd.named Bd.method).1
  have X0 : Stand p l e (own_R 0 0 0 0) s m #[(.ref t), (.int (32 : Int32)), (.int (0 : Int32)), (.int (3 : Int32))] below meth c s₁ [] 0 0 := Stand.of_body Bd
  have e0 : s₁.heap = h0 := by rw [← hh, Bd.state]; rfl
  have N0 := Fr.nil n0
  refine go_of (A := s₁.setTop (entryFrame m #[(.ref t), (.int (32 : Int32)), (.int (0 : Int32)), (.int (3 : Int32))] 6)) (B := s₁.setTop (mkF m 0 #[.val (.ref t), .val (.int (32 : Int32)), .val (.int (0 : Int32)), .val (.int (3 : Int32)), .unset, .unset] [])) (fun _ kk' => castTop (ef_v_ioc_3_32 m t) kk') ?_
  refine go_of (B := (s₁.setTop (mkF m 9 #[.val (.ref t), .val (.int (32 : Int32)), .val (.int (0 : Int32)), .val (.int (3 : Int32)), .val (.int (32 : Int32)), .val (.int (0 : Int32))] [(.int (0 : Int32))]))) (fun _ kk => XS.iloadN X0.here hx rfl (hb hby d38_0) rfl (XS.i2b X0.here hx rfl (hb hby d38_1) rfl (XS.istore X0.here hx rfl (hb hby d38_2) rfl rfl (XS.iloadN X0.here hx rfl (hb hby d38_4) rfl (XS.istore X0.here hx rfl (hb hby d38_5) rfl rfl (XS.iload X0.here hx rfl (hb hby d38_7) rfl kk)))))) ?_
  refine go_of (B := (s₁.setTop (mkF m 16 #[.val (.ref t), .val (.int (32 : Int32)), .val (.int (0 : Int32)), .val (.int (3 : Int32)), .val (.int (32 : Int32)), .val (.int (0 : Int32))] [(.int (0 : Int32)), (.ref t)]))) (fun _ kk => XS.iloadN X0.here hx rfl (hb hby d38_9) rfl (XS.icmpNo X0.here hx rfl (hb hby d38_10) rfl (tlt (by decide : (0 : Int32) < (3 : Int32))).2.1 (XS.aloadN X0.here hx rfl (hb hby d38_13) rfl rfl (XS.iload X0.here hx rfl (hb hby d38_14) rfl kk)))) ?_
  obtain ⟨cl1, Ar1, q1, Sz1, Nn1, Hh1, G1⟩ := id (V)
  refine go_of (B := (s₁.setTop (mkF m 19 #[.val (.ref t), .val (.int (32 : Int32)), .val (.int (0 : Int32)), .val (.int (3 : Int32)), .val (.int (32 : Int32)), .val (.int (0 : Int32))] [(.int (32 : Int32)), (.int w0)]))) (fun _ kk => X0.baloadBytes hx (j := (0 : Int32)) (v := (.int w0)) (by rw [e0]; exact Ar1.1) (State.isArrayOf_alike hZ.alike Ar1.2.1) Ar1.2.2 (inb_of Sz1 ⟨by decide, by decide⟩) (Hh1.at (inb_of Sz1 ⟨by decide, by decide⟩) rfl) (g := (mkF m 16 #[.val (.ref t), .val (.int (32 : Int32)), .val (.int (0 : Int32)), .val (.int (3 : Int32)), .val (.int (32 : Int32)), .val (.int (0 : Int32))] [(.int (0 : Int32)), (.ref t)])) rfl rfl (hb hby d38_16) _ (XS.iload X0.here hx rfl (hb hby d38_17) rfl kk)) ?_
  by_cases hcc2 : w0 = (32 : Int32)
  · refine go_of (B := (s₁.setTop (mkF m 24 #[.val (.ref t), .val (.int (32 : Int32)), .val (.int (0 : Int32)), .val (.int (3 : Int32)), .val (.int (32 : Int32)), .val (.int (0 : Int32))] [(.int (0 : Int32))]))) (fun _ kk => XS.icmpNo X0.here hx rfl (hb hby d38_19) rfl (teq hcc2).2 (XS.iload X0.here hx rfl (hb hby d38_22) rfl kk)) ?_
    refine go_end X0 (v := some (.int (0 : Int32))) (fun h => by rw [Bd.returns] at h; cases h) Bd.notSynchronized (by decide) (by decide) (Q := (Q_v_ioc_3_32 Z t w0 w1 w2 k h0 n0)) ?_ (fun fs hr => own_retI X0 hx Bd.returns (hb hby d38_24) hr)
    unfold Q_v_ioc_3_32
    try rw [e0]
    exact ⟨_, rfl, iff_of_false (by decide) (by simp [own_hs, hcc2]), N0, rfl⟩
  · refine go_of (B := (s₁.setTop (mkF m 13 #[.val (.ref t), .val (.int (32 : Int32)), .val (.int (0 : Int32)), .val (.int (3 : Int32)), .val (.int (32 : Int32)), .val (.int (1 : Int32))] []))) (fun _ kk => XS.icmpYes X0.here hx rfl (pc0 := 19) (pc' := 25) rfl (hb hby d38_19) rfl (feq hcc2).2 (by decide) (by decide) (XS.iinc X0.here hx rfl (hb hby d38_25) rfl rfl (XS.goto X0.here hx rfl (pc0 := 28) (pc' := 7) rfl (hb hby d38_28) (by decide) (by decide) (XS.iload X0.here hx rfl (hb hby d38_7) rfl (XS.iloadN X0.here hx rfl (hb hby d38_9) rfl (XS.icmpNo X0.here hx rfl (hb hby d38_10) rfl (tlt (by decide : (1 : Int32) < (3 : Int32))).2.1 kk)))))) ?_
    refine go_of (B := (s₁.setTop (mkF m 16 #[.val (.ref t), .val (.int (32 : Int32)), .val (.int (0 : Int32)), .val (.int (3 : Int32)), .val (.int (32 : Int32)), .val (.int (1 : Int32))] [(.int (1 : Int32)), (.ref t)]))) (fun _ kk => XS.aloadN X0.here hx rfl (hb hby d38_13) rfl rfl (XS.iload X0.here hx rfl (hb hby d38_14) rfl kk)) ?_
    obtain ⟨cl3, Ar3, q3, Sz3, Nn3, Hh3, G3⟩ := id (V)
    refine go_of (B := (s₁.setTop (mkF m 19 #[.val (.ref t), .val (.int (32 : Int32)), .val (.int (0 : Int32)), .val (.int (3 : Int32)), .val (.int (32 : Int32)), .val (.int (1 : Int32))] [(.int (32 : Int32)), (.int w1)]))) (fun _ kk => X0.baloadBytes hx (j := (1 : Int32)) (v := (.int w1)) (by rw [e0]; exact Ar3.1) (State.isArrayOf_alike hZ.alike Ar3.2.1) Ar3.2.2 (inb_of Sz3 ⟨by decide, by decide⟩) (Hh3.at (inb_of Sz3 ⟨by decide, by decide⟩) rfl) (g := (mkF m 16 #[.val (.ref t), .val (.int (32 : Int32)), .val (.int (0 : Int32)), .val (.int (3 : Int32)), .val (.int (32 : Int32)), .val (.int (1 : Int32))] [(.int (1 : Int32)), (.ref t)])) rfl rfl (hb hby d38_16) _ (XS.iload X0.here hx rfl (hb hby d38_17) rfl kk)) ?_
    by_cases hcc4 : w1 = (32 : Int32)
    · refine go_of (B := (s₁.setTop (mkF m 24 #[.val (.ref t), .val (.int (32 : Int32)), .val (.int (0 : Int32)), .val (.int (3 : Int32)), .val (.int (32 : Int32)), .val (.int (1 : Int32))] [(.int (1 : Int32))]))) (fun _ kk => XS.icmpNo X0.here hx rfl (hb hby d38_19) rfl (teq hcc4).2 (XS.iload X0.here hx rfl (hb hby d38_22) rfl kk)) ?_
      refine go_end X0 (v := some (.int (1 : Int32))) (fun h => by rw [Bd.returns] at h; cases h) Bd.notSynchronized (by decide) (by decide) (Q := (Q_v_ioc_3_32 Z t w0 w1 w2 k h0 n0)) ?_ (fun fs hr => own_retI X0 hx Bd.returns (hb hby d38_24) hr)
      unfold Q_v_ioc_3_32
      try rw [e0]
      exact ⟨_, rfl, iff_of_false (by decide) (by simp [own_hs, hcc2, hcc4]), N0, rfl⟩
    · refine go_of (B := (s₁.setTop (mkF m 13 #[.val (.ref t), .val (.int (32 : Int32)), .val (.int (0 : Int32)), .val (.int (3 : Int32)), .val (.int (32 : Int32)), .val (.int (2 : Int32))] []))) (fun _ kk => XS.icmpYes X0.here hx rfl (pc0 := 19) (pc' := 25) rfl (hb hby d38_19) rfl (feq hcc4).2 (by decide) (by decide) (XS.iinc X0.here hx rfl (hb hby d38_25) rfl rfl (XS.goto X0.here hx rfl (pc0 := 28) (pc' := 7) rfl (hb hby d38_28) (by decide) (by decide) (XS.iload X0.here hx rfl (hb hby d38_7) rfl (XS.iloadN X0.here hx rfl (hb hby d38_9) rfl (XS.icmpNo X0.here hx rfl (hb hby d38_10) rfl (tlt (by decide : (2 : Int32) < (3 : Int32))).2.1 kk)))))) ?_
      refine go_of (B := (s₁.setTop (mkF m 16 #[.val (.ref t), .val (.int (32 : Int32)), .val (.int (0 : Int32)), .val (.int (3 : Int32)), .val (.int (32 : Int32)), .val (.int (2 : Int32))] [(.int (2 : Int32)), (.ref t)]))) (fun _ kk => XS.aloadN X0.here hx rfl (hb hby d38_13) rfl rfl (XS.iload X0.here hx rfl (hb hby d38_14) rfl kk)) ?_
      obtain ⟨cl5, Ar5, q5, Sz5, Nn5, Hh5, G5⟩ := id (V)
      refine go_of (B := (s₁.setTop (mkF m 19 #[.val (.ref t), .val (.int (32 : Int32)), .val (.int (0 : Int32)), .val (.int (3 : Int32)), .val (.int (32 : Int32)), .val (.int (2 : Int32))] [(.int (32 : Int32)), (.int w2)]))) (fun _ kk => X0.baloadBytes hx (j := (2 : Int32)) (v := (.int w2)) (by rw [e0]; exact Ar5.1) (State.isArrayOf_alike hZ.alike Ar5.2.1) Ar5.2.2 (inb_of Sz5 ⟨by decide, by decide⟩) (Hh5.at (inb_of Sz5 ⟨by decide, by decide⟩) rfl) (g := (mkF m 16 #[.val (.ref t), .val (.int (32 : Int32)), .val (.int (0 : Int32)), .val (.int (3 : Int32)), .val (.int (32 : Int32)), .val (.int (2 : Int32))] [(.int (2 : Int32)), (.ref t)])) rfl rfl (hb hby d38_16) _ (XS.iload X0.here hx rfl (hb hby d38_17) rfl kk)) ?_
      by_cases hcc6 : w2 = (32 : Int32)
      · refine go_of (B := (s₁.setTop (mkF m 24 #[.val (.ref t), .val (.int (32 : Int32)), .val (.int (0 : Int32)), .val (.int (3 : Int32)), .val (.int (32 : Int32)), .val (.int (2 : Int32))] [(.int (2 : Int32))]))) (fun _ kk => XS.icmpNo X0.here hx rfl (hb hby d38_19) rfl (teq hcc6).2 (XS.iload X0.here hx rfl (hb hby d38_22) rfl kk)) ?_
        refine go_end X0 (v := some (.int (2 : Int32))) (fun h => by rw [Bd.returns] at h; cases h) Bd.notSynchronized (by decide) (by decide) (Q := (Q_v_ioc_3_32 Z t w0 w1 w2 k h0 n0)) ?_ (fun fs hr => own_retI X0 hx Bd.returns (hb hby d38_24) hr)
        unfold Q_v_ioc_3_32
        try rw [e0]
        exact ⟨_, rfl, iff_of_false (by decide) (by simp [own_hs, hcc2, hcc4, hcc6]), N0, rfl⟩
      · refine go_of (B := (s₁.setTop (mkF m 31 #[.val (.ref t), .val (.int (32 : Int32)), .val (.int (0 : Int32)), .val (.int (3 : Int32)), .val (.int (32 : Int32)), .val (.int (3 : Int32))] []))) (fun _ kk => XS.icmpYes X0.here hx rfl (pc0 := 19) (pc' := 25) rfl (hb hby d38_19) rfl (feq hcc6).2 (by decide) (by decide) (XS.iinc X0.here hx rfl (hb hby d38_25) rfl rfl (XS.goto X0.here hx rfl (pc0 := 28) (pc' := 7) rfl (hb hby d38_28) (by decide) (by decide) (XS.iload X0.here hx rfl (hb hby d38_7) rfl (XS.iloadN X0.here hx rfl (hb hby d38_9) rfl (XS.icmpYes X0.here hx rfl (pc0 := 10) (pc' := 31) rfl (hb hby d38_10) rfl (flt (by decide : ¬ ((3 : Int32) < (3 : Int32)))).2.1 (by decide) (by decide) kk)))))) ?_
        refine go_of (B := (s₁.setTop (mkF m 32 #[.val (.ref t), .val (.int (32 : Int32)), .val (.int (0 : Int32)), .val (.int (3 : Int32)), .val (.int (32 : Int32)), .val (.int (3 : Int32))] [(.int (-1 : Int32))]))) (fun _ kk => XS.iconst X0.here hx rfl (hb hby d38_31) kk) ?_
        refine go_end X0 (v := some (.int (-1 : Int32))) (fun h => by rw [Bd.returns] at h; cases h) Bd.notSynchronized (by decide) (by decide) (Q := (Q_v_ioc_3_32 Z t w0 w1 w2 k h0 n0)) ?_ (fun fs hr => own_retI X0 hx Bd.returns (hb hby d38_32) hr)
        unfold Q_v_ioc_3_32
        try rw [e0]
        exact ⟨_, rfl, iff_of_true (by decide) (by simp [own_hs, hcc2, hcc4, hcc6]), N0, rfl⟩
def Q_v_lio_3_32 (Z : State) (t : Addr) (w0 : Int32) (w1 : Int32) (w2 : Int32) (k : ClassId) (h0 : Heap) (n0 : Nat) (v : Option Value) (h : Heap) (L : List Loc) : Prop := ∃ r : Int32, v = some (.int r) ∧ (r < 0 ↔ own_hs (32 : Int32) [w0, w1, w2] = false) ∧ Fr n0 L ∧ h = h0
theorem ef_v_lio_3_32 (m : MethodId) (t : Addr)  : entryFrame m #[(.ref t), (.int (32 : Int32)), (.int (0 : Int32)), (.int (3 : Int32))] 4 = mkF m 0 #[.val (.ref t), .val (.int (32 : Int32)), .val (.int (0 : Int32)), .val (.int (3 : Int32))] [] := by first | (simp [entryFrame, mkF, argsToLocals, Value.category]; done) | rfl
theorem v_lio_3_32 (l : Launch) (Z : State) (a0 : Array Value) (hw : TW a0 Z) (ws : List Jvm.Cond) (t : Addr) (w0 : Int32) (w1 : Int32) (w2 : Int32) (k : ClassId) (h0 : Heap) (n0 : Nat) (Z0 : n0 ≤ h0.size) (V : Arv Z h0 t k .byte 3 [(.int w0), (.int w1), (.int w2)] (.int 0)) :
    own_MF l Z MN24 jdk_43_method_22_code 4 (some .int) ws (own_R 1 0 0 17) #[(.ref t), (.int (32 : Int32)), (.int (0 : Int32)), (.int (3 : Int32))] h0 (Q_v_lio_3_32 Z t w0 w1 w2 k h0 n0) := by
  have wd := @own_wd _ _ hw
  refine MetFree.of_bodySF (plainFor_of_name pn_java_lang_StringLatin1) hisR ?_
  intro p e s m args below meth c s₁ Bd hml0 hP hK
  obtain ⟨rfl, hZ, hh⟩ := hP
  have hx := Bd.exec
  have hby := Bd.bytes
  have hml : c.maxLocals = 4 := hml0
  have hown : s.vm.findClass "java/lang/StringLatin1" = some m.cls := findClass_of_methodNamed Bd.named
  have hnm := (name_of_methodNamed Bd.named Bd.method).1
  have X0 : Stand p l e (own_R 1 0 0 17) s m #[(.ref t), (.int (32 : Int32)), (.int (0 : Int32)), (.int (3 : Int32))] below meth c s₁ [] 0 0 := Stand.of_body Bd
  have e0 : s₁.heap = h0 := by rw [← hh, Bd.state]; rfl
  have N0 := Fr.nil n0
  refine go_of (A := s₁.setTop (entryFrame m #[(.ref t), (.int (32 : Int32)), (.int (0 : Int32)), (.int (3 : Int32))] 4)) (B := s₁.setTop (mkF m 0 #[.val (.ref t), .val (.int (32 : Int32)), .val (.int (0 : Int32)), .val (.int (3 : Int32))] [])) (fun _ kk' => castTop (ef_v_lio_3_32 m t) kk') ?_
  refine go_of (B := (s₁.setTop (mkF m 1 #[.val (.ref t), .val (.int (32 : Int32)), .val (.int (0 : Int32)), .val (.int (3 : Int32))] [(.int (32 : Int32))]))) (fun _ kk => XS.iloadN X0.here hx rfl (hb hby d11_0) rfl kk) ?_
  obtain ⟨_, _, ⟨T1, L1, k1, n1⟩, -, X1, ⟨Lc1, hQ1, l1, y1, z1⟩, st1⟩ := Jvm.LawKit.callS X0 hx (y := MN23) hown (mvT hZ (wd 61 rfl)) (mvT hZ (wd 62 rfl)) (mvT hZ (wd 59 rfl)) (mvT hZ (wd 63 rfl)) (by decide) (backOf (W := 0) (v_cani32 l Z a0 hw [] h0 n0 (by omega)) hZ (wd 63 rfl) (wd 59 rfl) (by decide) (by decide)) (g := (mkF m 1 #[.val (.ref t), .val (.int (32 : Int32)), .val (.int (0 : Int32)), .val (.int (3 : Int32))] [(.int (32 : Int32))])) rfl (by rw [hml]; rfl) (argsL := [(.int (32 : Int32))]) (rest := []) (lenOf pd__I_Z rfl) rfl (by show 2 * 0 + _ ≤ _; exact Nat.le_of_eq rfl) (hb hby d11_1) (fun _ _ => ⟨rfl, e0, (by decide : 0 + 0 ≤ _), (by decide : 0 + 0 ≤ _)⟩)
  dsimp only [Pt.U, Pt.locs, Pt.cells, Pt.slots] at X1 l1 y1 z1 st1 hQ1
  subst l1 y1 z1
  obtain ⟨rfl, N1q, e1⟩ := hQ1
  have N1 := Fr.app N0 N1q
  refine go_of (B := (T1.setTop (mkF m 4 #[.val (.ref t), .val (.int (32 : Int32)), .val (.int (0 : Int32)), .val (.int (3 : Int32))] [(.int (1 : Int32))]))) (st1) ?_
  refine go_of (B := (T1.setTop (mkF m 11 #[.val (.ref t), .val (.int (32 : Int32)), .val (.int (0 : Int32)), .val (.int (3 : Int32))] [(.int (0 : Int32)), (.int (0 : Int32))]))) (fun _ kk => XS.ifYes X1.here hx rfl (pc0 := 4) (pc' := 9) rfl (hb hby d11_4) rfl ((if0 _ _).trans (feq (by decide : ¬ ((1 : Int32) = (0 : Int32)))).2) (by decide) (by decide) (XS.iloadN X1.here hx rfl (hb hby d11_9) rfl (XS.iconst X1.here hx rfl (hb hby d11_10) kk))) ?_
  obtain ⟨_, _, ⟨T2, L2, k2, n2⟩, -, X2, ⟨Lc2, hQ2, l2, y2, z2⟩, st2⟩ := Jvm.LawKit.callS X1 hx (y := MN10) hown (mvT hZ (wd 64 rfl)) (mvT hZ (wd 65 rfl)) (mvT hZ (wd 66 rfl)) (mvT hZ (wd 67 rfl)) (by decide) (backOf (W := 0) (v_max l Z a0 hw [] (0 : Int32) (0 : Int32) (0 : Int32) h0 n0 (by omega) (by decide)) hZ (wd 67 rfl) (wd 66 rfl) (by decide) (by decide)) (g := (mkF m 11 #[.val (.ref t), .val (.int (32 : Int32)), .val (.int (0 : Int32)), .val (.int (3 : Int32))] [(.int (0 : Int32)), (.int (0 : Int32))])) rfl (by rw [hml]; rfl) (argsL := [(.int (0 : Int32)), (.int (0 : Int32))]) (rest := []) (lenOf pd__II_I rfl) rfl (by show 2 * 0 + _ ≤ _; exact Nat.le_of_eq rfl) (hb hby d11_11) (fun _ _ => ⟨rfl, e1, (by decide : 0 + 0 ≤ _), (by decide : 0 + 0 ≤ _)⟩)
  dsimp only [Pt.U, Pt.locs, Pt.cells, Pt.slots] at X2 l2 y2 z2 st2 hQ2
  subst l2 y2 z2
  obtain ⟨rfl, N2q, e2⟩ := hQ2
  have N2 := Fr.app N1 N2q
  refine go_of (B := (T2.setTop (mkF m 14 #[.val (.ref t), .val (.int (32 : Int32)), .val (.int (0 : Int32)), .val (.int (3 : Int32))] [(.int (0 : Int32))]))) (st2) ?_
  refine go_of (B := (T2.setTop (mkF m 17 #[.val (.ref t), .val (.int (32 : Int32)), .val (.int (0 : Int32)), .val (.int (3 : Int32))] [(.ref t), (.int (3 : Int32))]))) (fun _ kk => XS.istoreN X2.here hx rfl (hb hby d11_14) rfl rfl (XS.iloadN X2.here hx rfl (hb hby d11_15) rfl (XS.aloadN X2.here hx rfl (hb hby d11_16) rfl rfl kk))) ?_
  obtain ⟨cl3, Ar3, q3, Sz3, Nn3, Hh3, G3⟩ := id (V)
  have ln3 := len_of Sz3 Nn3
  refine go_of (B := (T2.setTop (mkF m 18 #[.val (.ref t), .val (.int (32 : Int32)), .val (.int (0 : Int32)), .val (.int (3 : Int32))] [(.int (3 : Int32)), (.int (3 : Int32))]))) (fun _ kk => X2.arraylength hx (by rw [e2]; exact Ar3.1) (State.isArrayOf_alike hZ.alike Ar3.2.1) (g := (mkF m 17 #[.val (.ref t), .val (.int (32 : Int32)), .val (.int (0 : Int32)), .val (.int (3 : Int32))] [(.ref t), (.int (3 : Int32))])) rfl rfl (hb hby d11_17) _ (by rw [ln3]; exact kk)) ?_
  obtain ⟨_, _, ⟨T4, L4, k4, n4⟩, -, X4, ⟨Lc4, hQ4, l4, y4, z4⟩, st4⟩ := Jvm.LawKit.callS X2 hx (y := MN11) hown (mvT hZ (wd 68 rfl)) (mvT hZ (wd 69 rfl)) (mvT hZ (wd 66 rfl)) (mvT hZ (wd 70 rfl)) (by decide) (backOf (W := 0) (v_min l Z a0 hw [] (3 : Int32) (3 : Int32) (3 : Int32) h0 n0 (by omega) (by decide)) hZ (wd 70 rfl) (wd 66 rfl) (by decide) (by decide)) (g := (mkF m 18 #[.val (.ref t), .val (.int (32 : Int32)), .val (.int (0 : Int32)), .val (.int (3 : Int32))] [(.int (3 : Int32)), (.int (3 : Int32))])) rfl (by rw [hml]; rfl) (argsL := [(.int (3 : Int32)), (.int (3 : Int32))]) (rest := []) (lenOf pd__II_I rfl) rfl (by show 2 * 0 + _ ≤ _; exact Nat.le_of_eq rfl) (hb hby d11_18) (fun _ _ => ⟨rfl, e2, (by decide : 0 + 0 ≤ _), (by decide : 0 + 0 ≤ _)⟩)
  dsimp only [Pt.U, Pt.locs, Pt.cells, Pt.slots] at X4 l4 y4 z4 st4 hQ4
  subst l4 y4 z4
  obtain ⟨rfl, N4q, e4⟩ := hQ4
  have N4 := Fr.app N2 N4q
  refine go_of (B := (T4.setTop (mkF m 21 #[.val (.ref t), .val (.int (32 : Int32)), .val (.int (0 : Int32)), .val (.int (3 : Int32))] [(.int (3 : Int32))]))) (st4) ?_
  refine go_of (B := (T4.setTop (mkF m 31 #[.val (.ref t), .val (.int (32 : Int32)), .val (.int (0 : Int32)), .val (.int (3 : Int32))] [(.int (32 : Int32)), (.ref t)]))) (fun _ kk => XS.istoreN X4.here hx rfl (hb hby d11_21) rfl rfl (XS.iloadN X4.here hx rfl (hb hby d11_22) rfl (XS.iloadN X4.here hx rfl (hb hby d11_23) rfl (XS.icmpYes X4.here hx rfl (pc0 := 24) (pc' := 29) rfl (hb hby d11_24) rfl (tlt (by decide : (0 : Int32) < (3 : Int32))).1 (by decide) (by decide) (XS.aloadN X4.here hx rfl (hb hby d11_29) rfl rfl (XS.iloadN X4.here hx rfl (hb hby d11_30) rfl kk)))))) ?_
  refine go_of (B := (T4.setTop (mkF m 33 #[.val (.ref t), .val (.int (32 : Int32)), .val (.int (0 : Int32)), .val (.int (3 : Int32))] [(.int (3 : Int32)), (.int (0 : Int32)), (.int (32 : Int32)), (.ref t)]))) (fun _ kk => XS.iloadN X4.here hx rfl (hb hby d11_31) rfl (XS.iloadN X4.here hx rfl (hb hby d11_32) rfl kk)) ?_
  obtain ⟨_, _, ⟨T5, L5, k5, n5⟩, -, X5, ⟨Lc5, hQ5, l5, y5, z5⟩, st5⟩ := Jvm.LawKit.callS X4 hx (y := MN25) hown (mvT hZ (wd 186 rfl)) (mvT hZ (wd 187 rfl)) (mvT hZ (wd 59 rfl)) (mvT hZ (wd 188 rfl)) (by decide) (backOf (W := 0) (v_ioc_3_32 l Z a0 hw [] t w0 w1 w2 k h0 n0 (by omega) V) hZ (wd 188 rfl) (wd 59 rfl) (by decide) (by decide)) (g := (mkF m 33 #[.val (.ref t), .val (.int (32 : Int32)), .val (.int (0 : Int32)), .val (.int (3 : Int32))] [(.int (3 : Int32)), (.int (0 : Int32)), (.int (32 : Int32)), (.ref t)])) rfl (by rw [hml]; rfl) (argsL := [(.ref t), (.int (32 : Int32)), (.int (0 : Int32)), (.int (3 : Int32))]) (rest := []) (lenOf pd___BIII_I rfl) rfl (by show 2 * 0 + _ ≤ _; exact Nat.le_of_eq rfl) (hb hby d11_33) (fun _ _ => ⟨rfl, e4, (by decide : 0 + 0 ≤ _), (by decide : 0 + 0 ≤ _)⟩)
  dsimp only [Pt.U, Pt.locs, Pt.cells, Pt.slots] at X5 l5 y5 z5 st5 hQ5
  subst l5 y5 z5
  obtain ⟨r5, rfl, hr5, N5q, e5⟩ := hQ5
  have N5 := Fr.app N4 N5q
  refine go_of (B := (T5.setTop (mkF m 36 #[.val (.ref t), .val (.int (32 : Int32)), .val (.int (0 : Int32)), .val (.int (3 : Int32))] [(.int r5)]))) (st5) ?_
  refine go_end X5 (v := some (.int r5)) (fun h => by rw [Bd.returns] at h; cases h) Bd.notSynchronized (by decide) (by decide) (Q := (Q_v_lio_3_32 Z t w0 w1 w2 k h0 n0)) ?_ (fun fs hr => own_retI X5 hx Bd.returns (hb hby d11_36) hr)
  unfold Q_v_lio_3_32
  try rw [e5]
  exact ⟨_, rfl, hr5, N5, rfl⟩
def Q_str_len_3 (Z : State) (a : Addr) (c0 : Int32) (c1 : Int32) (c2 : Int32) (gC : Int32) (h0 : Heap) (n0 : Nat) (v : Option Value) (h : Heap) (L : List Loc) : Prop := v = some (.int 3) ∧ Fr n0 L ∧ h = h0
theorem ef_str_len_3 (m : MethodId) (a : Addr)  : entryFrame m #[(.ref a)] 1 = mkF m 0 #[.val (.ref a)] [] := by first | (simp [entryFrame, mkF, argsToLocals, Value.category]; done) | rfl
theorem str_len_3 (l : Launch) (Z : State) (a0 : Array Value) (hw : TW a0 Z) (ws : List Jvm.Cond) (a : Addr) (c0 : Int32) (c1 : Int32) (c2 : Int32) (gC : Int32) (h0 : Heap) (n0 : Nat) (Z0 : n0 ≤ h0.size) (O : Old Z n0 h0) (SC : Sta Z Z.heap "java/lang/String" "COMPACT_STRINGS" "Z" (.int gC)) (hgC : ¬ gC = (0 : Int32)) (S : Str Z h0 a 3 [c0, c1, c2]) :
    own_MF l Z MN19 jdk_42_method_54_code 1 (some .int) ws (own_R 1 0 0 13) #[(.ref a)] h0 (Q_str_len_3 Z a c0 c1 c2 gC h0 n0) := by
  have wd := @own_wd _ _ hw
  refine MetFree.of_bodySF (plainFor_of_name pn_java_lang_String) hisR ?_
  intro p e s m args below meth c s₁ Bd hml0 hP hK
  obtain ⟨rfl, hZ, hh⟩ := hP
  have hx := Bd.exec
  have hby := Bd.bytes
  have hml : c.maxLocals = 1 := hml0
  have hown : s.vm.findClass "java/lang/String" = some m.cls := findClass_of_methodNamed Bd.named
  have hnm := (name_of_methodNamed Bd.named Bd.method).1
  have X0 : Stand p l e (own_R 1 0 0 13) s m #[(.ref a)] below meth c s₁ [] 0 0 := Stand.of_body Bd
  have e0 : s₁.heap = h0 := by rw [← hh, Bd.state]; rfl
  have N0 := Fr.nil n0
  obtain ⟨t, k, Ea, Fc, Fv, Va, hcs⟩ := S
  have lta := own_nlt (Ea.lt)
  have ltt := own_nlt (Va.lt)
  refine go_of (A := s₁.setTop (entryFrame m #[(.ref a)] 1)) (B := s₁.setTop (mkF m 0 #[.val (.ref a)] [])) (fun _ kk' => castTop (ef_str_len_3 m a) kk') ?_
  refine go_of (B := (s₁.setTop (mkF m 1 #[.val (.ref a)] [(.ref a)]))) (fun _ kk => XS.aloadN X0.here hx rfl (hb hby d9_0) rfl rfl kk) ?_
  obtain ⟨T1, X1, e1, st1⟩ := getF X0 hx hZ hown (host := "") (Or.inl (wd 25 rfl)) Via.refl e0 Fv (g := (mkF m 1 #[.val (.ref a)] [(.ref a)])) rfl rfl (hb hby d9_1)
  refine go_of (B := (T1.setTop (mkF m 4 #[.val (.ref a)] [(.ref t)]))) (st1) ?_
  obtain ⟨cl2, Ar2, q2, Sz2, Nn2, Hh2, G2⟩ := id (Va)
  have ln2 := len_of Sz2 Nn2
  refine go_of (B := (T1.setTop (mkF m 5 #[.val (.ref a)] [(.int (3 : Int32))]))) (fun _ kk => X1.arraylength hx (by rw [e1]; exact Ar2.1) (State.isArrayOf_alike hZ.alike Ar2.2.1) (g := (mkF m 4 #[.val (.ref a)] [(.ref t)])) rfl rfl (hb hby d9_4) _ (by rw [ln2]; exact kk)) ?_
  refine go_of (B := (T1.setTop (mkF m 6 #[.val (.ref a)] [(.ref a), (.int (3 : Int32))]))) (fun _ kk => XS.aloadN X1.here hx rfl (hb hby d9_5) rfl rfl kk) ?_
  obtain ⟨cq3, kq3, q3a, q3b, q3c⟩ := isOf hZ e1 Ea
  obtain ⟨_, _, ⟨T3, L3, k3, n3⟩, -, X3, ⟨Lc3, hQ3, l3, y3, z3⟩, st3⟩ := X1.virtualBack hx (y := MN14) (z := MN14) hown (mvT hZ (wd 52 rfl)) (mvT hZ (wd 53 rfl)) (notFace_of_selects (args := #[]) (mvT hZ (wd 55 rfl))) (mvT hZ (wd 55 rfl)) (mvT hZ (wd 54 rfl)) (by decide) (backOf (W := 1) (str_coder l Z a0 hw [] a gC h0 n0 Z0 O SC hgC Fc) hZ (wd 56 rfl) (wd 7 rfl) (by decide) (by decide)) q3a q3c (g := (mkF m 6 #[.val (.ref a)] [(.ref a), (.int (3 : Int32))])) rfl (by rw [hml]; rfl) (Steps.refl _) (argsL := []) (rest := [(.int (3 : Int32))]) (lenOf pd___B rfl) rfl (by show 2 * 0 + _ ≤ _; exact Nat.le_of_eq rfl) (hb hby d9_6) (fun _ _ => ⟨rfl, e1, (by decide : 0 + 0 ≤ _), (by decide : 0 + 0 ≤ _)⟩)
  dsimp only [Pt.U, Pt.locs, Pt.cells, Pt.slots] at X3 l3 y3 z3 st3 hQ3
  subst l3 y3 z3
  obtain ⟨rfl, N3q, e3⟩ := hQ3
  have N3 := Fr.app N0 N3q
  refine go_tr (B := (T3.setTop (mkF m 9 #[.val (.ref a)] [(.int (0 : Int32)), (.int (3 : Int32))]))) (st3) ?_
  refine go_of (B := (T3.setTop (mkF m 10 #[.val (.ref a)] [(.int (3 : Int32))]))) (fun _ kk => XS.ishr X3.here hx rfl (hb hby d9_9) rfl kk) ?_
  refine go_end X3 (v := some (.int (3 : Int32))) (fun h => by rw [Bd.returns] at h; cases h) Bd.notSynchronized (by decide) (by decide) (Q := (Q_str_len_3 Z a c0 c1 c2 gC h0 n0)) ?_ (fun fs hr => own_retI X3 hx Bd.returns (hb hby d9_10) hr)
  unfold Q_str_len_3
  try rw [e3]
  exact ⟨rfl, N3, rfl⟩
def Q_v_si2_3_32 (Z : State) (a : Addr) (c0 : Int32) (c1 : Int32) (c2 : Int32) (gC : Int32) (h0 : Heap) (n0 : Nat) (v : Option Value) (h : Heap) (L : List Loc) : Prop := ∃ r : Int32, v = some (.int r) ∧ (r < 0 ↔ own_hs (32 : Int32) [c0, c1, c2] = false) ∧ Fr n0 L ∧ h = h0
theorem ef_v_si2_3_32 (m : MethodId) (a : Addr)  : entryFrame m #[(.ref a), (.int (32 : Int32)), (.int (0 : Int32))] 3 = mkF m 0 #[.val (.ref a), .val (.int (32 : Int32)), .val (.int (0 : Int32))] [] := by first | (simp [entryFrame, mkF, argsToLocals, Value.category]; done) | rfl
theorem v_si2_3_32 (l : Launch) (Z : State) (a0 : Array Value) (hw : TW a0 Z) (ws : List Jvm.Cond) (a : Addr) (c0 : Int32) (c1 : Int32) (c2 : Int32) (gC : Int32) (h0 : Heap) (n0 : Nat) (Z0 : n0 ≤ h0.size) (O : Old Z n0 h0) (SC : Sta Z Z.heap "java/lang/String" "COMPACT_STRINGS" "Z" (.int gC)) (hgC : ¬ gC = (0 : Int32)) (S : Str Z h0 a 3 [c0, c1, c2]) :
    own_MF l Z MN17 jdk_42_method_80_code 3 (some .int) ws (own_R 2 0 0 32) #[(.ref a), (.int (32 : Int32)), (.int (0 : Int32))] h0 (Q_v_si2_3_32 Z a c0 c1 c2 gC h0 n0) := by
  have wd := @own_wd _ _ hw
  refine MetFree.of_bodySF (plainFor_of_name pn_java_lang_String) hisR ?_
  intro p e s m args below meth c s₁ Bd hml0 hP hK
  obtain ⟨rfl, hZ, hh⟩ := hP
  have hx := Bd.exec
  have hby := Bd.bytes
  have hml : c.maxLocals = 3 := hml0
  have hown : s.vm.findClass "java/lang/String" = some m.cls := findClass_of_methodNamed Bd.named
  have hnm := (name_of_methodNamed Bd.named Bd.method).1
  have X0 : Stand p l e (own_R 2 0 0 32) s m #[(.ref a), (.int (32 : Int32)), (.int (0 : Int32))] below meth c s₁ [] 0 0 := Stand.of_body Bd
  have e0 : s₁.heap = h0 := by rw [← hh, Bd.state]; rfl
  have N0 := Fr.nil n0
  obtain ⟨t, k, Ea, Fc, Fv, Va, hcs⟩ := (id S)
  have lta := own_nlt (Ea.lt)
  have ltt := own_nlt (Va.lt)
  refine go_of (A := s₁.setTop (entryFrame m #[(.ref a), (.int (32 : Int32)), (.int (0 : Int32))] 3)) (B := s₁.setTop (mkF m 0 #[.val (.ref a), .val (.int (32 : Int32)), .val (.int (0 : Int32))] [])) (fun _ kk' => castTop (ef_v_si2_3_32 m a) kk') ?_
  refine go_of (B := (s₁.setTop (mkF m 1 #[.val (.ref a), .val (.int (32 : Int32)), .val (.int (0 : Int32))] [(.ref a)]))) (fun _ kk => XS.aloadN X0.here hx rfl (hb hby d7_0) rfl rfl kk) ?_
  obtain ⟨cq1, kq1, q1a, q1b, q1c⟩ := isOf hZ e0 Ea
  obtain ⟨_, _, ⟨T1, L1, k1, n1⟩, -, X1, ⟨Lc1, hQ1, l1, y1, z1⟩, st1⟩ := X0.virtualBack hx (y := MN18) (z := MN18) hown (mvT hZ (wd 41 rfl)) (mvT hZ (wd 42 rfl)) (notFace_of_selects (args := #[]) (mvT hZ (wd 44 rfl))) (mvT hZ (wd 44 rfl)) (mvT hZ (wd 43 rfl)) (by decide) (backOf (W := 0) (str_latin l Z a0 hw [] a gC h0 n0 (by omega) O SC hgC Fc) hZ (wd 45 rfl) (wd 7 rfl) (by decide) (by decide)) q1a q1c (g := (mkF m 1 #[.val (.ref a), .val (.int (32 : Int32)), .val (.int (0 : Int32))] [(.ref a)])) rfl (by rw [hml]; rfl) (Steps.refl _) (argsL := []) (rest := []) (lenOf pd___Z rfl) rfl (by show 2 * 0 + _ ≤ _; exact Nat.le_of_eq rfl) (hb hby d7_1) (fun _ _ => ⟨rfl, e0, (by decide : 0 + 0 ≤ _), (by decide : 0 + 0 ≤ _)⟩)
  dsimp only [Pt.U, Pt.locs, Pt.cells, Pt.slots] at X1 l1 y1 z1 st1 hQ1
  subst l1 y1 z1
  obtain ⟨rfl, N1q, e1⟩ := hQ1
  have N1 := Fr.app N0 N1q
  refine go_tr (B := (T1.setTop (mkF m 4 #[.val (.ref a), .val (.int (32 : Int32)), .val (.int (0 : Int32))] [(.int (1 : Int32))]))) (st1) ?_
  refine go_of (B := (T1.setTop (mkF m 8 #[.val (.ref a), .val (.int (32 : Int32)), .val (.int (0 : Int32))] [(.ref a)]))) (fun _ kk => XS.ifNo X1.here hx rfl (hb hby d7_4) rfl ((if0 _ _).trans (feq (by decide : ¬ ((1 : Int32) = (0 : Int32)))).1) (XS.aloadN X1.here hx rfl (hb hby d7_7) rfl rfl kk)) ?_
  obtain ⟨T2, X2, e2, st2⟩ := getF X1 hx hZ hown (host := "") (Or.inl (wd 25 rfl)) Via.refl e1 Fv (g := (mkF m 8 #[.val (.ref a), .val (.int (32 : Int32)), .val (.int (0 : Int32))] [(.ref a)])) rfl rfl (hb hby d7_8)
  refine go_of (B := (T2.setTop (mkF m 11 #[.val (.ref a), .val (.int (32 : Int32)), .val (.int (0 : Int32))] [(.ref t)]))) (st2) ?_
  refine go_of (B := (T2.setTop (mkF m 14 #[.val (.ref a), .val (.int (32 : Int32)), .val (.int (0 : Int32))] [(.ref a), (.int (0 : Int32)), (.int (32 : Int32)), (.ref t)]))) (fun _ kk => XS.iloadN X2.here hx rfl (hb hby d7_11) rfl (XS.iloadN X2.here hx rfl (hb hby d7_12) rfl (XS.aloadN X2.here hx rfl (hb hby d7_13) rfl rfl kk))) ?_
  obtain ⟨cq3, kq3, q3a, q3b, q3c⟩ := isOf hZ e2 Ea
  obtain ⟨_, _, ⟨T3, L3, k3, n3⟩, -, X3, ⟨Lc3, hQ3, l3, y3, z3⟩, st3⟩ := X2.virtualBack hx (y := MN19) (z := MN19) hown (mvT hZ (wd 47 rfl)) (mvT hZ (wd 48 rfl)) (notFace_of_selects (args := #[]) (mvT hZ (wd 50 rfl))) (mvT hZ (wd 50 rfl)) (mvT hZ (wd 49 rfl)) (by decide) (backOf (W := 3) (str_len_3 l Z a0 hw [] a c0 c1 c2 gC h0 n0 (by omega) O SC hgC S) hZ (wd 51 rfl) (wd 7 rfl) (by decide) (by decide)) q3a q3c (g := (mkF m 14 #[.val (.ref a), .val (.int (32 : Int32)), .val (.int (0 : Int32))] [(.ref a), (.int (0 : Int32)), (.int (32 : Int32)), (.ref t)])) rfl (by rw [hml]; rfl) (Steps.refl _) (argsL := []) (rest := [(.int (0 : Int32)), (.int (32 : Int32)), (.ref t)]) (lenOf pd___I rfl) rfl (by show 2 * 0 + _ ≤ _; exact Nat.le_of_eq rfl) (hb hby d7_14) (fun _ _ => ⟨rfl, e2, (by decide : 0 + 0 ≤ _), (by decide : 0 + 0 ≤ _)⟩)
  dsimp only [Pt.U, Pt.locs, Pt.cells, Pt.slots] at X3 l3 y3 z3 st3 hQ3
  subst l3 y3 z3
  obtain ⟨rfl, N3q, e3⟩ := hQ3
  have N3 := Fr.app N1 N3q
  refine go_tr (B := (T3.setTop (mkF m 17 #[.val (.ref a), .val (.int (32 : Int32)), .val (.int (0 : Int32))] [(.int (3 : Int32)), (.int (0 : Int32)), (.int (32 : Int32)), (.ref t)]))) (st3) ?_
  obtain ⟨_, _, ⟨T4, L4, k4, n4⟩, -, X4, ⟨Lc4, hQ4, l4, y4, z4⟩, st4⟩ := Jvm.LawKit.callS X3 hx (y := MN24) hown (mvT hZ (wd 57 rfl)) (mvT hZ (wd 58 rfl)) (mvT hZ (wd 59 rfl)) (mvT hZ (wd 60 rfl)) (by decide) (backOf (W := 0) (v_lio_3_32 l Z a0 hw [] t (own_b8 c0) (own_b8 c1) (own_b8 c2) k h0 n0 (by omega) Va) hZ (wd 60 rfl) (wd 59 rfl) (by decide) (by decide)) (g := (mkF m 17 #[.val (.ref a), .val (.int (32 : Int32)), .val (.int (0 : Int32))] [(.int (3 : Int32)), (.int (0 : Int32)), (.int (32 : Int32)), (.ref t)])) rfl (by rw [hml]; rfl) (argsL := [(.ref t), (.int (32 : Int32)), (.int (0 : Int32)), (.int (3 : Int32))]) (rest := []) (lenOf pd___BIII_I rfl) rfl (by show 2 * 0 + _ ≤ _; exact Nat.le_of_eq rfl) (hb hby d7_17) (fun _ _ => ⟨rfl, e3, (by decide : 0 + 0 ≤ _), (by decide : 0 + 0 ≤ _)⟩)
  dsimp only [Pt.U, Pt.locs, Pt.cells, Pt.slots] at X4 l4 y4 z4 st4 hQ4
  subst l4 y4 z4
  obtain ⟨r4, rfl, hr4, N4q, e4⟩ := hQ4
  have N4 := Fr.app N3 N4q
  refine go_of (B := (T4.setTop (mkF m 20 #[.val (.ref a), .val (.int (32 : Int32)), .val (.int (0 : Int32))] [(.int r4)]))) (st4) ?_
  refine go_of (B := (T4.setTop (mkF m 36 #[.val (.ref a), .val (.int (32 : Int32)), .val (.int (0 : Int32))] [(.int r4)]))) (fun _ kk => XS.goto X4.here hx rfl (pc0 := 20) (pc' := 36) rfl (hb hby d7_20) (by decide) (by decide) kk) ?_
  refine go_end X4 (v := some (.int r4)) (fun h => by rw [Bd.returns] at h; cases h) Bd.notSynchronized (by decide) (by decide) (Q := (Q_v_si2_3_32 Z a c0 c1 c2 gC h0 n0)) ?_ (fun fs hr => own_retI X4 hx Bd.returns (hb hby d7_36) hr)
  unfold Q_v_si2_3_32
  try rw [e4]
  exact ⟨_, rfl, hr4.trans (iff_of_eq (congrArg (fun b => b = false) (own_hsb (32 : Int32) (by decide) [c0, c1, c2] hcs))), N4, rfl⟩
def Q_v_si_3_32 (Z : State) (a : Addr) (c0 : Int32) (c1 : Int32) (c2 : Int32) (gC : Int32) (h0 : Heap) (n0 : Nat) (v : Option Value) (h : Heap) (L : List Loc) : Prop := ∃ r : Int32, v = some (.int r) ∧ (r < 0 ↔ own_hs (32 : Int32) [c0, c1, c2] = false) ∧ Fr n0 L ∧ h = h0
theorem ef_v_si_3_32 (m : MethodId) (a : Addr)  : entryFrame m #[(.ref a), (.int (32 : Int32))] 2 = mkF m 0 #[.val (.ref a), .val (.int (32 : Int32))] [] := by first | (simp [entryFrame, mkF, argsToLocals, Value.category]; done) | rfl
theorem v_si_3_32 (l : Launch) (Z : State) (a0 : Array Value) (hw : TW a0 Z) (ws : List Jvm.Cond) (a : Addr) (c0 : Int32) (c1 : Int32) (c2 : Int32) (gC : Int32) (h0 : Heap) (n0 : Nat) (Z0 : n0 ≤ h0.size) (O : Old Z n0 h0) (SC : Sta Z Z.heap "java/lang/String" "COMPACT_STRINGS" "Z" (.int gC)) (hgC : ¬ gC = (0 : Int32)) (S : Str Z h0 a 3 [c0, c1, c2]) :
    own_MF l Z MN16 jdk_42_method_79_code 2 (some .int) ws (own_R 3 0 0 46) #[(.ref a), (.int (32 : Int32))] h0 (Q_v_si_3_32 Z a c0 c1 c2 gC h0 n0) := by
  have wd := @own_wd _ _ hw
  refine MetFree.of_bodySF (plainFor_of_name pn_java_lang_String) hisR ?_
  intro p e s m args below meth c s₁ Bd hml0 hP hK
  obtain ⟨rfl, hZ, hh⟩ := hP
  have hx := Bd.exec
  have hby := Bd.bytes
  have hml : c.maxLocals = 2 := hml0
  have hown : s.vm.findClass "java/lang/String" = some m.cls := findClass_of_methodNamed Bd.named
  have hnm := (name_of_methodNamed Bd.named Bd.method).1
  have X0 : Stand p l e (own_R 3 0 0 46) s m #[(.ref a), (.int (32 : Int32))] below meth c s₁ [] 0 0 := Stand.of_body Bd
  have e0 : s₁.heap = h0 := by rw [← hh, Bd.state]; rfl
  have N0 := Fr.nil n0
  refine go_of (A := s₁.setTop (entryFrame m #[(.ref a), (.int (32 : Int32))] 2)) (B := s₁.setTop (mkF m 0 #[.val (.ref a), .val (.int (32 : Int32))] [])) (fun _ kk' => castTop (ef_v_si_3_32 m a) kk') ?_
  refine go_of (B := (s₁.setTop (mkF m 3 #[.val (.ref a), .val (.int (32 : Int32))] [(.int (0 : Int32)), (.int (32 : Int32)), (.ref a)]))) (fun _ kk => XS.aloadN X0.here hx rfl (hb hby d6_0) rfl rfl (XS.iloadN X0.here hx rfl (hb hby d6_1) rfl (XS.iconst X0.here hx rfl (hb hby d6_2) kk))) ?_
  obtain ⟨cq1, kq1, q1a, q1b, q1c⟩ := isOf hZ e0 S.exa
  obtain ⟨_, _, ⟨T1, L1, k1, n1⟩, -, X1, ⟨Lc1, hQ1, l1, y1, z1⟩, st1⟩ := X0.virtualBack hx (y := MN17) (z := MN17) hown (mvT hZ (wd 36 rfl)) (mvT hZ (wd 37 rfl)) (notFace_of_selects (args := #[]) (mvT hZ (wd 39 rfl))) (mvT hZ (wd 39 rfl)) (mvT hZ (wd 38 rfl)) (by decide) (backOf (W := 0) (v_si2_3_32 l Z a0 hw [] a c0 c1 c2 gC h0 n0 (by omega) O SC hgC S) hZ (wd 40 rfl) (wd 7 rfl) (by decide) (by decide)) q1a q1c (g := (mkF m 3 #[.val (.ref a), .val (.int (32 : Int32))] [(.int (0 : Int32)), (.int (32 : Int32)), (.ref a)])) rfl (by rw [hml]; rfl) (Steps.refl _) (argsL := [(.int (32 : Int32)), (.int (0 : Int32))]) (rest := []) (lenOf pd__II_I rfl) rfl (by show 2 * 0 + _ ≤ _; exact Nat.le_of_eq rfl) (hb hby d6_3) (fun _ _ => ⟨rfl, e0, (by decide : 0 + 0 ≤ _), (by decide : 0 + 0 ≤ _)⟩)
  dsimp only [Pt.U, Pt.locs, Pt.cells, Pt.slots] at X1 l1 y1 z1 st1 hQ1
  subst l1 y1 z1
  obtain ⟨r1, rfl, hr1, N1q, e1⟩ := hQ1
  have N1 := Fr.app N0 N1q
  refine go_tr (B := (T1.setTop (mkF m 6 #[.val (.ref a), .val (.int (32 : Int32))] [(.int r1)]))) (st1) ?_
  refine go_end X1 (v := some (.int r1)) (fun h => by rw [Bd.returns] at h; cases h) Bd.notSynchronized (by decide) (by decide) (Q := (Q_v_si_3_32 Z a c0 c1 c2 gC h0 n0)) ?_ (fun fs hr => own_retI X1 hx Bd.returns (hb hby d6_6) hr)
  unfold Q_v_si_3_32
  try rw [e1]
  exact ⟨_, rfl, hr1, N1, rfl⟩
def Q_no_3 (Z : State) (a : Addr) (c0 : Int32) (c1 : Int32) (c2 : Int32) (gC : Int32) (h0 : Heap) (n0 : Nat) (v : Option Value) (h : Heap) (L : List Loc) : Prop := v = some (.int (own_no [c0, c1, c2])) ∧ Fr n0 L ∧ h = h0
theorem ef_no_3 (m : MethodId) (a : Addr)  : entryFrame m #[(.ref a)] 1 = mkF m 0 #[.val (.ref a)] [] := by first | (simp [entryFrame, mkF, argsToLocals, Value.category]; done) | rfl
theorem no_3 (l : Launch) (Z : State) (a0 : Array Value) (hw : TW a0 Z) (ws : List Jvm.Cond) (a : Addr) (c0 : Int32) (c1 : Int32) (c2 : Int32) (gC : Int32) (h0 : Heap) (n0 : Nat) (Z0 : n0 ≤ h0.size) (O : Old Z n0 h0) (SC : Sta Z Z.heap "java/lang/String" "COMPACT_STRINGS" "Z" (.int gC)) (hgC : ¬ gC = (0 : Int32)) (S : Str Z h0 a 3 [c0, c1, c2]) :
    own_MF l Z MN2 prog_10_method_13_code 1 (some .boolean) ws (own_R 4 0 0 59) #[(.ref a)] h0 (Q_no_3 Z a c0 c1 c2 gC h0 n0) := by
  have wd := @own_wd _ _ hw
  refine MetFree.of_bodySF (plainFor_of_name pn_com_example_holdfast_holdfast_HoldfastLock_Exclusive) hisR ?_
  intro p e s m args below meth c s₁ Bd hml0 hP hK
  obtain ⟨rfl, hZ, hh⟩ := hP
  have hx := Bd.exec
  have hby := Bd.bytes
  have hml : c.maxLocals = 1 := hml0
  have hown : s.vm.findClass "com/example/holdfast/holdfast/HoldfastLock$Exclusive" = some m.cls := findClass_of_methodNamed Bd.named
  have hnm := (name_of_methodNamed Bd.named Bd.method).1
  have X0 : Stand p l e (own_R 4 0 0 59) s m #[(.ref a)] below meth c s₁ [] 0 0 := Stand.of_body Bd
  have e0 : s₁.heap = h0 := by rw [← hh, Bd.state]; rfl
  have N0 := Fr.nil n0
  refine go_of (A := s₁.setTop (entryFrame m #[(.ref a)] 1)) (B := s₁.setTop (mkF m 0 #[.val (.ref a)] [])) (fun _ kk' => castTop (ef_no_3 m a) kk') ?_
  refine go_of (B := (s₁.setTop (mkF m 3 #[.val (.ref a)] [(.int (32 : Int32)), (.ref a)]))) (fun _ kk => XS.aloadN X0.here hx rfl (hb hby d5_0) rfl rfl (XS.bipush X0.here hx rfl (hb hby d5_1) kk)) ?_
  obtain ⟨cq1, kq1, q1a, q1b, q1c⟩ := isOf hZ e0 S.exa
  obtain ⟨_, _, ⟨T1, L1, k1, n1⟩, -, X1, ⟨Lc1, hQ1, l1, y1, z1⟩, st1⟩ := X0.virtualBack hx (y := MN16) (z := MN16) hown (mvT hZ (wd 31 rfl)) (mvT hZ (wd 32 rfl)) (notFace_of_selects (args := #[]) (mvT hZ (wd 34 rfl))) (mvT hZ (wd 34 rfl)) (mvT hZ (wd 33 rfl)) (by decide) (backOf (W := 0) (v_si_3_32 l Z a0 hw [] a c0 c1 c2 gC h0 n0 (by omega) O SC hgC S) hZ (wd 35 rfl) (wd 7 rfl) (by decide) (by decide)) q1a q1c (g := (mkF m 3 #[.val (.ref a)] [(.int (32 : Int32)), (.ref a)])) rfl (by rw [hml]; rfl) (Steps.refl _) (argsL := [(.int (32 : Int32))]) (rest := []) (lenOf pd__I_I rfl) rfl (by show 2 * 0 + _ ≤ _; exact Nat.le_of_eq rfl) (hb hby d5_3) (fun _ _ => ⟨rfl, e0, (by decide : 0 + 0 ≤ _), (by decide : 0 + 0 ≤ _)⟩)
  dsimp only [Pt.U, Pt.locs, Pt.cells, Pt.slots] at X1 l1 y1 z1 st1 hQ1
  subst l1 y1 z1
  obtain ⟨r1, rfl, hr1, N1q, e1⟩ := hQ1
  have N1 := Fr.app N0 N1q
  refine go_tr (B := (T1.setTop (mkF m 6 #[.val (.ref a)] [(.int r1)]))) (st1) ?_
  by_cases hcc2 : r1 < (0 : Int32)
  · refine go_of (B := (T1.setTop (mkF m 14 #[.val (.ref a)] [(.int (0 : Int32))]))) (fun _ kk => XS.ifYes X1.here hx rfl (pc0 := 6) (pc' := 13) rfl (hb hby d5_6) rfl ((if0 _ _).trans (tlt hcc2).1) (by decide) (by decide) (XS.iconst X1.here hx rfl (hb hby d5_13) kk)) ?_
    refine go_end X1 (v := some (.int (nar .boolean (0 : Int32)))) (fun h => by rw [Bd.returns] at h; cases h) Bd.notSynchronized (by decide) (by decide) (Q := (Q_no_3 Z a c0 c1 c2 gC h0 n0)) ?_ (fun fs hr => retN X1 hx (t := .boolean) Bd.returns (by simp) (hb hby d5_14) hr)
    unfold Q_no_3
    try rw [e1]
    refine ⟨?_, N1, rfl⟩
    have hq := hr1.mp hcc2
    rw [own_no, hq]; rfl
  · refine go_of (B := (T1.setTop (mkF m 14 #[.val (.ref a)] [(.int (1 : Int32))]))) (fun _ kk => XS.ifNo X1.here hx rfl (hb hby d5_6) rfl ((if0 _ _).trans (flt hcc2).1) (XS.iconst X1.here hx rfl (hb hby d5_9) (XS.goto X1.here hx rfl (pc0 := 10) (pc' := 14) rfl (hb hby d5_10) (by decide) (by decide) kk))) ?_
    refine go_end X1 (v := some (.int (nar .boolean (1 : Int32)))) (fun h => by rw [Bd.returns] at h; cases h) Bd.notSynchronized (by decide) (by decide) (Q := (Q_no_3 Z a c0 c1 c2 gC h0 n0)) ?_ (fun fs hr => retN X1 hx (t := .boolean) Bd.returns (by simp) (hb hby d5_14) hr)
    unfold Q_no_3
    try rw [e1]
    refine ⟨?_, N1, rfl⟩
    have hq := own_bt (fun q => hcc2 (hr1.mpr q))
    rw [own_no, hq]; rfl
def Q_v_ioc_4_32 (Z : State) (t : Addr) (w0 : Int32) (w1 : Int32) (w2 : Int32) (w3 : Int32) (k : ClassId) (h0 : Heap) (n0 : Nat) (v : Option Value) (h : Heap) (L : List Loc) : Prop := ∃ r : Int32, v = some (.int r) ∧ (r < 0 ↔ own_hs (32 : Int32) [w0, w1, w2, w3] = false) ∧ Fr n0 L ∧ h = h0
theorem ef_v_ioc_4_32 (m : MethodId) (t : Addr)  : entryFrame m #[(.ref t), (.int (32 : Int32)), (.int (0 : Int32)), (.int (4 : Int32))] 6 = mkF m 0 #[.val (.ref t), .val (.int (32 : Int32)), .val (.int (0 : Int32)), .val (.int (4 : Int32)), .unset, .unset] [] := by first | (simp [entryFrame, mkF, argsToLocals, Value.category]; done) | rfl
theorem v_ioc_4_32 (l : Launch) (Z : State) (a0 : Array Value) (hw : TW a0 Z) (ws : List Jvm.Cond) (t : Addr) (w0 : Int32) (w1 : Int32) (w2 : Int32) (w3 : Int32) (k : ClassId) (h0 : Heap) (n0 : Nat) (Z0 : n0 ≤ h0.size) (V : Arv Z h0 t k .byte 4 [(.int w0), (.int w1), (.int w2), (.int w3)] (.int 0)) :
    own_MF l Z MN25 jdk_43_method_23_code 6 (some .int) ws (own_R 0 0 0 0) #[(.ref t), (.int (32 : Int32)), (.int (0 : Int32)), (.int (4 : Int32))] h0 (Q_v_ioc_4_32 Z t w0 w1 w2 w3 k h0 n0) := by
  have wd := @own_wd _ _ hw
  refine MetFree.of_bodySF (plainFor_of_name pn_java_lang_StringLatin1) hisR ?_
  intro p e s m args below meth c s₁ Bd hml0 hP hK
  obtain ⟨rfl, hZ, hh⟩ := hP
  have hx := Bd.exec
  have hby := Bd.bytes
  have hml : c.maxLocals = 6 := hml0
  have hown : s.vm.findClass "java/lang/StringLatin1" = some m.cls := findClass_of_methodNamed Bd.named
  have hnm := (name_of_methodNamed Bd.named Bd.method).1
  have X0 : Stand p l e (own_R 0 0 0 0) s m #[(.ref t), (.int (32 : Int32)), (.int (0 : Int32)), (.int (4 : Int32))] below meth c s₁ [] 0 0 := Stand.of_body Bd
  have e0 : s₁.heap = h0 := by rw [← hh, Bd.state]; rfl
  have N0 := Fr.nil n0
  refine go_of (A := s₁.setTop (entryFrame m #[(.ref t), (.int (32 : Int32)), (.int (0 : Int32)), (.int (4 : Int32))] 6)) (B := s₁.setTop (mkF m 0 #[.val (.ref t), .val (.int (32 : Int32)), .val (.int (0 : Int32)), .val (.int (4 : Int32)), .unset, .unset] [])) (fun _ kk' => castTop (ef_v_ioc_4_32 m t) kk') ?_
  refine go_of (B := (s₁.setTop (mkF m 9 #[.val (.ref t), .val (.int (32 : Int32)), .val (.int (0 : Int32)), .val (.int (4 : Int32)), .val (.int (32 : Int32)), .val (.int (0 : Int32))] [(.int (0 : Int32))]))) (fun _ kk => XS.iloadN X0.here hx rfl (hb hby d38_0) rfl (XS.i2b X0.here hx rfl (hb hby d38_1) rfl (XS.istore X0.here hx rfl (hb hby d38_2) rfl rfl (XS.iloadN X0.here hx rfl (hb hby d38_4) rfl (XS.istore X0.here hx rfl (hb hby d38_5) rfl rfl (XS.iload X0.here hx rfl (hb hby d38_7) rfl kk)))))) ?_
  refine go_of (B := (s₁.setTop (mkF m 16 #[.val (.ref t), .val (.int (32 : Int32)), .val (.int (0 : Int32)), .val (.int (4 : Int32)), .val (.int (32 : Int32)), .val (.int (0 : Int32))] [(.int (0 : Int32)), (.ref t)]))) (fun _ kk => XS.iloadN X0.here hx rfl (hb hby d38_9) rfl (XS.icmpNo X0.here hx rfl (hb hby d38_10) rfl (tlt (by decide : (0 : Int32) < (4 : Int32))).2.1 (XS.aloadN X0.here hx rfl (hb hby d38_13) rfl rfl (XS.iload X0.here hx rfl (hb hby d38_14) rfl kk)))) ?_
  obtain ⟨cl1, Ar1, q1, Sz1, Nn1, Hh1, G1⟩ := id (V)
  refine go_of (B := (s₁.setTop (mkF m 19 #[.val (.ref t), .val (.int (32 : Int32)), .val (.int (0 : Int32)), .val (.int (4 : Int32)), .val (.int (32 : Int32)), .val (.int (0 : Int32))] [(.int (32 : Int32)), (.int w0)]))) (fun _ kk => X0.baloadBytes hx (j := (0 : Int32)) (v := (.int w0)) (by rw [e0]; exact Ar1.1) (State.isArrayOf_alike hZ.alike Ar1.2.1) Ar1.2.2 (inb_of Sz1 ⟨by decide, by decide⟩) (Hh1.at (inb_of Sz1 ⟨by decide, by decide⟩) rfl) (g := (mkF m 16 #[.val (.ref t), .val (.int (32 : Int32)), .val (.int (0 : Int32)), .val (.int (4 : Int32)), .val (.int (32 : Int32)), .val (.int (0 : Int32))] [(.int (0 : Int32)), (.ref t)])) rfl rfl (hb hby d38_16) _ (XS.iload X0.here hx rfl (hb hby d38_17) rfl kk)) ?_
  by_cases hcc2 : w0 = (32 : Int32)
  · refine go_of (B := (s₁.setTop (mkF m 24 #[.val (.ref t), .val (.int (32 : Int32)), .val (.int (0 : Int32)), .val (.int (4 : Int32)), .val (.int (32 : Int32)), .val (.int (0 : Int32))] [(.int (0 : Int32))]))) (fun _ kk => XS.icmpNo X0.here hx rfl (hb hby d38_19) rfl (teq hcc2).2 (XS.iload X0.here hx rfl (hb hby d38_22) rfl kk)) ?_
    refine go_end X0 (v := some (.int (0 : Int32))) (fun h => by rw [Bd.returns] at h; cases h) Bd.notSynchronized (by decide) (by decide) (Q := (Q_v_ioc_4_32 Z t w0 w1 w2 w3 k h0 n0)) ?_ (fun fs hr => own_retI X0 hx Bd.returns (hb hby d38_24) hr)
    unfold Q_v_ioc_4_32
    try rw [e0]
    exact ⟨_, rfl, iff_of_false (by decide) (by simp [own_hs, hcc2]), N0, rfl⟩
  · refine go_of (B := (s₁.setTop (mkF m 13 #[.val (.ref t), .val (.int (32 : Int32)), .val (.int (0 : Int32)), .val (.int (4 : Int32)), .val (.int (32 : Int32)), .val (.int (1 : Int32))] []))) (fun _ kk => XS.icmpYes X0.here hx rfl (pc0 := 19) (pc' := 25) rfl (hb hby d38_19) rfl (feq hcc2).2 (by decide) (by decide) (XS.iinc X0.here hx rfl (hb hby d38_25) rfl rfl (XS.goto X0.here hx rfl (pc0 := 28) (pc' := 7) rfl (hb hby d38_28) (by decide) (by decide) (XS.iload X0.here hx rfl (hb hby d38_7) rfl (XS.iloadN X0.here hx rfl (hb hby d38_9) rfl (XS.icmpNo X0.here hx rfl (hb hby d38_10) rfl (tlt (by decide : (1 : Int32) < (4 : Int32))).2.1 kk)))))) ?_
    refine go_of (B := (s₁.setTop (mkF m 16 #[.val (.ref t), .val (.int (32 : Int32)), .val (.int (0 : Int32)), .val (.int (4 : Int32)), .val (.int (32 : Int32)), .val (.int (1 : Int32))] [(.int (1 : Int32)), (.ref t)]))) (fun _ kk => XS.aloadN X0.here hx rfl (hb hby d38_13) rfl rfl (XS.iload X0.here hx rfl (hb hby d38_14) rfl kk)) ?_
    obtain ⟨cl3, Ar3, q3, Sz3, Nn3, Hh3, G3⟩ := id (V)
    refine go_of (B := (s₁.setTop (mkF m 19 #[.val (.ref t), .val (.int (32 : Int32)), .val (.int (0 : Int32)), .val (.int (4 : Int32)), .val (.int (32 : Int32)), .val (.int (1 : Int32))] [(.int (32 : Int32)), (.int w1)]))) (fun _ kk => X0.baloadBytes hx (j := (1 : Int32)) (v := (.int w1)) (by rw [e0]; exact Ar3.1) (State.isArrayOf_alike hZ.alike Ar3.2.1) Ar3.2.2 (inb_of Sz3 ⟨by decide, by decide⟩) (Hh3.at (inb_of Sz3 ⟨by decide, by decide⟩) rfl) (g := (mkF m 16 #[.val (.ref t), .val (.int (32 : Int32)), .val (.int (0 : Int32)), .val (.int (4 : Int32)), .val (.int (32 : Int32)), .val (.int (1 : Int32))] [(.int (1 : Int32)), (.ref t)])) rfl rfl (hb hby d38_16) _ (XS.iload X0.here hx rfl (hb hby d38_17) rfl kk)) ?_
    by_cases hcc4 : w1 = (32 : Int32)
    · refine go_of (B := (s₁.setTop (mkF m 24 #[.val (.ref t), .val (.int (32 : Int32)), .val (.int (0 : Int32)), .val (.int (4 : Int32)), .val (.int (32 : Int32)), .val (.int (1 : Int32))] [(.int (1 : Int32))]))) (fun _ kk => XS.icmpNo X0.here hx rfl (hb hby d38_19) rfl (teq hcc4).2 (XS.iload X0.here hx rfl (hb hby d38_22) rfl kk)) ?_
      refine go_end X0 (v := some (.int (1 : Int32))) (fun h => by rw [Bd.returns] at h; cases h) Bd.notSynchronized (by decide) (by decide) (Q := (Q_v_ioc_4_32 Z t w0 w1 w2 w3 k h0 n0)) ?_ (fun fs hr => own_retI X0 hx Bd.returns (hb hby d38_24) hr)
      unfold Q_v_ioc_4_32
      try rw [e0]
      exact ⟨_, rfl, iff_of_false (by decide) (by simp [own_hs, hcc2, hcc4]), N0, rfl⟩
    · refine go_of (B := (s₁.setTop (mkF m 13 #[.val (.ref t), .val (.int (32 : Int32)), .val (.int (0 : Int32)), .val (.int (4 : Int32)), .val (.int (32 : Int32)), .val (.int (2 : Int32))] []))) (fun _ kk => XS.icmpYes X0.here hx rfl (pc0 := 19) (pc' := 25) rfl (hb hby d38_19) rfl (feq hcc4).2 (by decide) (by decide) (XS.iinc X0.here hx rfl (hb hby d38_25) rfl rfl (XS.goto X0.here hx rfl (pc0 := 28) (pc' := 7) rfl (hb hby d38_28) (by decide) (by decide) (XS.iload X0.here hx rfl (hb hby d38_7) rfl (XS.iloadN X0.here hx rfl (hb hby d38_9) rfl (XS.icmpNo X0.here hx rfl (hb hby d38_10) rfl (tlt (by decide : (2 : Int32) < (4 : Int32))).2.1 kk)))))) ?_
      refine go_of (B := (s₁.setTop (mkF m 16 #[.val (.ref t), .val (.int (32 : Int32)), .val (.int (0 : Int32)), .val (.int (4 : Int32)), .val (.int (32 : Int32)), .val (.int (2 : Int32))] [(.int (2 : Int32)), (.ref t)]))) (fun _ kk => XS.aloadN X0.here hx rfl (hb hby d38_13) rfl rfl (XS.iload X0.here hx rfl (hb hby d38_14) rfl kk)) ?_
      obtain ⟨cl5, Ar5, q5, Sz5, Nn5, Hh5, G5⟩ := id (V)
      refine go_of (B := (s₁.setTop (mkF m 19 #[.val (.ref t), .val (.int (32 : Int32)), .val (.int (0 : Int32)), .val (.int (4 : Int32)), .val (.int (32 : Int32)), .val (.int (2 : Int32))] [(.int (32 : Int32)), (.int w2)]))) (fun _ kk => X0.baloadBytes hx (j := (2 : Int32)) (v := (.int w2)) (by rw [e0]; exact Ar5.1) (State.isArrayOf_alike hZ.alike Ar5.2.1) Ar5.2.2 (inb_of Sz5 ⟨by decide, by decide⟩) (Hh5.at (inb_of Sz5 ⟨by decide, by decide⟩) rfl) (g := (mkF m 16 #[.val (.ref t), .val (.int (32 : Int32)), .val (.int (0 : Int32)), .val (.int (4 : Int32)), .val (.int (32 : Int32)), .val (.int (2 : Int32))] [(.int (2 : Int32)), (.ref t)])) rfl rfl (hb hby d38_16) _ (XS.iload X0.here hx rfl (hb hby d38_17) rfl kk)) ?_
      by_cases hcc6 : w2 = (32 : Int32)
      · refine go_of (B := (s₁.setTop (mkF m 24 #[.val (.ref t), .val (.int (32 : Int32)), .val (.int (0 : Int32)), .val (.int (4 : Int32)), .val (.int (32 : Int32)), .val (.int (2 : Int32))] [(.int (2 : Int32))]))) (fun _ kk => XS.icmpNo X0.here hx rfl (hb hby d38_19) rfl (teq hcc6).2 (XS.iload X0.here hx rfl (hb hby d38_22) rfl kk)) ?_
        refine go_end X0 (v := some (.int (2 : Int32))) (fun h => by rw [Bd.returns] at h; cases h) Bd.notSynchronized (by decide) (by decide) (Q := (Q_v_ioc_4_32 Z t w0 w1 w2 w3 k h0 n0)) ?_ (fun fs hr => own_retI X0 hx Bd.returns (hb hby d38_24) hr)
        unfold Q_v_ioc_4_32
        try rw [e0]
        exact ⟨_, rfl, iff_of_false (by decide) (by simp [own_hs, hcc2, hcc4, hcc6]), N0, rfl⟩
      · refine go_of (B := (s₁.setTop (mkF m 13 #[.val (.ref t), .val (.int (32 : Int32)), .val (.int (0 : Int32)), .val (.int (4 : Int32)), .val (.int (32 : Int32)), .val (.int (3 : Int32))] []))) (fun _ kk => XS.icmpYes X0.here hx rfl (pc0 := 19) (pc' := 25) rfl (hb hby d38_19) rfl (feq hcc6).2 (by decide) (by decide) (XS.iinc X0.here hx rfl (hb hby d38_25) rfl rfl (XS.goto X0.here hx rfl (pc0 := 28) (pc' := 7) rfl (hb hby d38_28) (by decide) (by decide) (XS.iload X0.here hx rfl (hb hby d38_7) rfl (XS.iloadN X0.here hx rfl (hb hby d38_9) rfl (XS.icmpNo X0.here hx rfl (hb hby d38_10) rfl (tlt (by decide : (3 : Int32) < (4 : Int32))).2.1 kk)))))) ?_
        refine go_of (B := (s₁.setTop (mkF m 16 #[.val (.ref t), .val (.int (32 : Int32)), .val (.int (0 : Int32)), .val (.int (4 : Int32)), .val (.int (32 : Int32)), .val (.int (3 : Int32))] [(.int (3 : Int32)), (.ref t)]))) (fun _ kk => XS.aloadN X0.here hx rfl (hb hby d38_13) rfl rfl (XS.iload X0.here hx rfl (hb hby d38_14) rfl kk)) ?_
        obtain ⟨cl7, Ar7, q7, Sz7, Nn7, Hh7, G7⟩ := id (V)
        refine go_of (B := (s₁.setTop (mkF m 19 #[.val (.ref t), .val (.int (32 : Int32)), .val (.int (0 : Int32)), .val (.int (4 : Int32)), .val (.int (32 : Int32)), .val (.int (3 : Int32))] [(.int (32 : Int32)), (.int w3)]))) (fun _ kk => X0.baloadBytes hx (j := (3 : Int32)) (v := (.int w3)) (by rw [e0]; exact Ar7.1) (State.isArrayOf_alike hZ.alike Ar7.2.1) Ar7.2.2 (inb_of Sz7 ⟨by decide, by decide⟩) (Hh7.at (inb_of Sz7 ⟨by decide, by decide⟩) rfl) (g := (mkF m 16 #[.val (.ref t), .val (.int (32 : Int32)), .val (.int (0 : Int32)), .val (.int (4 : Int32)), .val (.int (32 : Int32)), .val (.int (3 : Int32))] [(.int (3 : Int32)), (.ref t)])) rfl rfl (hb hby d38_16) _ (XS.iload X0.here hx rfl (hb hby d38_17) rfl kk)) ?_
        by_cases hcc8 : w3 = (32 : Int32)
        · refine go_of (B := (s₁.setTop (mkF m 24 #[.val (.ref t), .val (.int (32 : Int32)), .val (.int (0 : Int32)), .val (.int (4 : Int32)), .val (.int (32 : Int32)), .val (.int (3 : Int32))] [(.int (3 : Int32))]))) (fun _ kk => XS.icmpNo X0.here hx rfl (hb hby d38_19) rfl (teq hcc8).2 (XS.iload X0.here hx rfl (hb hby d38_22) rfl kk)) ?_
          refine go_end X0 (v := some (.int (3 : Int32))) (fun h => by rw [Bd.returns] at h; cases h) Bd.notSynchronized (by decide) (by decide) (Q := (Q_v_ioc_4_32 Z t w0 w1 w2 w3 k h0 n0)) ?_ (fun fs hr => own_retI X0 hx Bd.returns (hb hby d38_24) hr)
          unfold Q_v_ioc_4_32
          try rw [e0]
          exact ⟨_, rfl, iff_of_false (by decide) (by simp [own_hs, hcc2, hcc4, hcc6, hcc8]), N0, rfl⟩
        · refine go_of (B := (s₁.setTop (mkF m 31 #[.val (.ref t), .val (.int (32 : Int32)), .val (.int (0 : Int32)), .val (.int (4 : Int32)), .val (.int (32 : Int32)), .val (.int (4 : Int32))] []))) (fun _ kk => XS.icmpYes X0.here hx rfl (pc0 := 19) (pc' := 25) rfl (hb hby d38_19) rfl (feq hcc8).2 (by decide) (by decide) (XS.iinc X0.here hx rfl (hb hby d38_25) rfl rfl (XS.goto X0.here hx rfl (pc0 := 28) (pc' := 7) rfl (hb hby d38_28) (by decide) (by decide) (XS.iload X0.here hx rfl (hb hby d38_7) rfl (XS.iloadN X0.here hx rfl (hb hby d38_9) rfl (XS.icmpYes X0.here hx rfl (pc0 := 10) (pc' := 31) rfl (hb hby d38_10) rfl (flt (by decide : ¬ ((4 : Int32) < (4 : Int32)))).2.1 (by decide) (by decide) kk)))))) ?_
          refine go_of (B := (s₁.setTop (mkF m 32 #[.val (.ref t), .val (.int (32 : Int32)), .val (.int (0 : Int32)), .val (.int (4 : Int32)), .val (.int (32 : Int32)), .val (.int (4 : Int32))] [(.int (-1 : Int32))]))) (fun _ kk => XS.iconst X0.here hx rfl (hb hby d38_31) kk) ?_
          refine go_end X0 (v := some (.int (-1 : Int32))) (fun h => by rw [Bd.returns] at h; cases h) Bd.notSynchronized (by decide) (by decide) (Q := (Q_v_ioc_4_32 Z t w0 w1 w2 w3 k h0 n0)) ?_ (fun fs hr => own_retI X0 hx Bd.returns (hb hby d38_32) hr)
          unfold Q_v_ioc_4_32
          try rw [e0]
          exact ⟨_, rfl, iff_of_true (by decide) (by simp [own_hs, hcc2, hcc4, hcc6, hcc8]), N0, rfl⟩
def Q_v_lio_4_32 (Z : State) (t : Addr) (w0 : Int32) (w1 : Int32) (w2 : Int32) (w3 : Int32) (k : ClassId) (h0 : Heap) (n0 : Nat) (v : Option Value) (h : Heap) (L : List Loc) : Prop := ∃ r : Int32, v = some (.int r) ∧ (r < 0 ↔ own_hs (32 : Int32) [w0, w1, w2, w3] = false) ∧ Fr n0 L ∧ h = h0
theorem ef_v_lio_4_32 (m : MethodId) (t : Addr)  : entryFrame m #[(.ref t), (.int (32 : Int32)), (.int (0 : Int32)), (.int (4 : Int32))] 4 = mkF m 0 #[.val (.ref t), .val (.int (32 : Int32)), .val (.int (0 : Int32)), .val (.int (4 : Int32))] [] := by first | (simp [entryFrame, mkF, argsToLocals, Value.category]; done) | rfl
theorem v_lio_4_32 (l : Launch) (Z : State) (a0 : Array Value) (hw : TW a0 Z) (ws : List Jvm.Cond) (t : Addr) (w0 : Int32) (w1 : Int32) (w2 : Int32) (w3 : Int32) (k : ClassId) (h0 : Heap) (n0 : Nat) (Z0 : n0 ≤ h0.size) (V : Arv Z h0 t k .byte 4 [(.int w0), (.int w1), (.int w2), (.int w3)] (.int 0)) :
    own_MF l Z MN24 jdk_43_method_22_code 4 (some .int) ws (own_R 1 0 0 17) #[(.ref t), (.int (32 : Int32)), (.int (0 : Int32)), (.int (4 : Int32))] h0 (Q_v_lio_4_32 Z t w0 w1 w2 w3 k h0 n0) := by
  have wd := @own_wd _ _ hw
  refine MetFree.of_bodySF (plainFor_of_name pn_java_lang_StringLatin1) hisR ?_
  intro p e s m args below meth c s₁ Bd hml0 hP hK
  obtain ⟨rfl, hZ, hh⟩ := hP
  have hx := Bd.exec
  have hby := Bd.bytes
  have hml : c.maxLocals = 4 := hml0
  have hown : s.vm.findClass "java/lang/StringLatin1" = some m.cls := findClass_of_methodNamed Bd.named
  have hnm := (name_of_methodNamed Bd.named Bd.method).1
  have X0 : Stand p l e (own_R 1 0 0 17) s m #[(.ref t), (.int (32 : Int32)), (.int (0 : Int32)), (.int (4 : Int32))] below meth c s₁ [] 0 0 := Stand.of_body Bd
  have e0 : s₁.heap = h0 := by rw [← hh, Bd.state]; rfl
  have N0 := Fr.nil n0
  refine go_of (A := s₁.setTop (entryFrame m #[(.ref t), (.int (32 : Int32)), (.int (0 : Int32)), (.int (4 : Int32))] 4)) (B := s₁.setTop (mkF m 0 #[.val (.ref t), .val (.int (32 : Int32)), .val (.int (0 : Int32)), .val (.int (4 : Int32))] [])) (fun _ kk' => castTop (ef_v_lio_4_32 m t) kk') ?_
  refine go_of (B := (s₁.setTop (mkF m 1 #[.val (.ref t), .val (.int (32 : Int32)), .val (.int (0 : Int32)), .val (.int (4 : Int32))] [(.int (32 : Int32))]))) (fun _ kk => XS.iloadN X0.here hx rfl (hb hby d11_0) rfl kk) ?_
  obtain ⟨_, _, ⟨T1, L1, k1, n1⟩, -, X1, ⟨Lc1, hQ1, l1, y1, z1⟩, st1⟩ := Jvm.LawKit.callS X0 hx (y := MN23) hown (mvT hZ (wd 61 rfl)) (mvT hZ (wd 62 rfl)) (mvT hZ (wd 59 rfl)) (mvT hZ (wd 63 rfl)) (by decide) (backOf (W := 0) (v_cani32 l Z a0 hw [] h0 n0 (by omega)) hZ (wd 63 rfl) (wd 59 rfl) (by decide) (by decide)) (g := (mkF m 1 #[.val (.ref t), .val (.int (32 : Int32)), .val (.int (0 : Int32)), .val (.int (4 : Int32))] [(.int (32 : Int32))])) rfl (by rw [hml]; rfl) (argsL := [(.int (32 : Int32))]) (rest := []) (lenOf pd__I_Z rfl) rfl (by show 2 * 0 + _ ≤ _; exact Nat.le_of_eq rfl) (hb hby d11_1) (fun _ _ => ⟨rfl, e0, (by decide : 0 + 0 ≤ _), (by decide : 0 + 0 ≤ _)⟩)
  dsimp only [Pt.U, Pt.locs, Pt.cells, Pt.slots] at X1 l1 y1 z1 st1 hQ1
  subst l1 y1 z1
  obtain ⟨rfl, N1q, e1⟩ := hQ1
  have N1 := Fr.app N0 N1q
  refine go_of (B := (T1.setTop (mkF m 4 #[.val (.ref t), .val (.int (32 : Int32)), .val (.int (0 : Int32)), .val (.int (4 : Int32))] [(.int (1 : Int32))]))) (st1) ?_
  refine go_of (B := (T1.setTop (mkF m 11 #[.val (.ref t), .val (.int (32 : Int32)), .val (.int (0 : Int32)), .val (.int (4 : Int32))] [(.int (0 : Int32)), (.int (0 : Int32))]))) (fun _ kk => XS.ifYes X1.here hx rfl (pc0 := 4) (pc' := 9) rfl (hb hby d11_4) rfl ((if0 _ _).trans (feq (by decide : ¬ ((1 : Int32) = (0 : Int32)))).2) (by decide) (by decide) (XS.iloadN X1.here hx rfl (hb hby d11_9) rfl (XS.iconst X1.here hx rfl (hb hby d11_10) kk))) ?_
  obtain ⟨_, _, ⟨T2, L2, k2, n2⟩, -, X2, ⟨Lc2, hQ2, l2, y2, z2⟩, st2⟩ := Jvm.LawKit.callS X1 hx (y := MN10) hown (mvT hZ (wd 64 rfl)) (mvT hZ (wd 65 rfl)) (mvT hZ (wd 66 rfl)) (mvT hZ (wd 67 rfl)) (by decide) (backOf (W := 0) (v_max l Z a0 hw [] (0 : Int32) (0 : Int32) (0 : Int32) h0 n0 (by omega) (by decide)) hZ (wd 67 rfl) (wd 66 rfl) (by decide) (by decide)) (g := (mkF m 11 #[.val (.ref t), .val (.int (32 : Int32)), .val (.int (0 : Int32)), .val (.int (4 : Int32))] [(.int (0 : Int32)), (.int (0 : Int32))])) rfl (by rw [hml]; rfl) (argsL := [(.int (0 : Int32)), (.int (0 : Int32))]) (rest := []) (lenOf pd__II_I rfl) rfl (by show 2 * 0 + _ ≤ _; exact Nat.le_of_eq rfl) (hb hby d11_11) (fun _ _ => ⟨rfl, e1, (by decide : 0 + 0 ≤ _), (by decide : 0 + 0 ≤ _)⟩)
  dsimp only [Pt.U, Pt.locs, Pt.cells, Pt.slots] at X2 l2 y2 z2 st2 hQ2
  subst l2 y2 z2
  obtain ⟨rfl, N2q, e2⟩ := hQ2
  have N2 := Fr.app N1 N2q
  refine go_of (B := (T2.setTop (mkF m 14 #[.val (.ref t), .val (.int (32 : Int32)), .val (.int (0 : Int32)), .val (.int (4 : Int32))] [(.int (0 : Int32))]))) (st2) ?_
  refine go_of (B := (T2.setTop (mkF m 17 #[.val (.ref t), .val (.int (32 : Int32)), .val (.int (0 : Int32)), .val (.int (4 : Int32))] [(.ref t), (.int (4 : Int32))]))) (fun _ kk => XS.istoreN X2.here hx rfl (hb hby d11_14) rfl rfl (XS.iloadN X2.here hx rfl (hb hby d11_15) rfl (XS.aloadN X2.here hx rfl (hb hby d11_16) rfl rfl kk))) ?_
  obtain ⟨cl3, Ar3, q3, Sz3, Nn3, Hh3, G3⟩ := id (V)
  have ln3 := len_of Sz3 Nn3
  refine go_of (B := (T2.setTop (mkF m 18 #[.val (.ref t), .val (.int (32 : Int32)), .val (.int (0 : Int32)), .val (.int (4 : Int32))] [(.int (4 : Int32)), (.int (4 : Int32))]))) (fun _ kk => X2.arraylength hx (by rw [e2]; exact Ar3.1) (State.isArrayOf_alike hZ.alike Ar3.2.1) (g := (mkF m 17 #[.val (.ref t), .val (.int (32 : Int32)), .val (.int (0 : Int32)), .val (.int (4 : Int32))] [(.ref t), (.int (4 : Int32))])) rfl rfl (hb hby d11_17) _ (by rw [ln3]; exact kk)) ?_
  obtain ⟨_, _, ⟨T4, L4, k4, n4⟩, -, X4, ⟨Lc4, hQ4, l4, y4, z4⟩, st4⟩ := Jvm.LawKit.callS X2 hx (y := MN11) hown (mvT hZ (wd 68 rfl)) (mvT hZ (wd 69 rfl)) (mvT hZ (wd 66 rfl)) (mvT hZ (wd 70 rfl)) (by decide) (backOf (W := 0) (v_min l Z a0 hw [] (4 : Int32) (4 : Int32) (4 : Int32) h0 n0 (by omega) (by decide)) hZ (wd 70 rfl) (wd 66 rfl) (by decide) (by decide)) (g := (mkF m 18 #[.val (.ref t), .val (.int (32 : Int32)), .val (.int (0 : Int32)), .val (.int (4 : Int32))] [(.int (4 : Int32)), (.int (4 : Int32))])) rfl (by rw [hml]; rfl) (argsL := [(.int (4 : Int32)), (.int (4 : Int32))]) (rest := []) (lenOf pd__II_I rfl) rfl (by show 2 * 0 + _ ≤ _; exact Nat.le_of_eq rfl) (hb hby d11_18) (fun _ _ => ⟨rfl, e2, (by decide : 0 + 0 ≤ _), (by decide : 0 + 0 ≤ _)⟩)
  dsimp only [Pt.U, Pt.locs, Pt.cells, Pt.slots] at X4 l4 y4 z4 st4 hQ4
  subst l4 y4 z4
  obtain ⟨rfl, N4q, e4⟩ := hQ4
  have N4 := Fr.app N2 N4q
  refine go_of (B := (T4.setTop (mkF m 21 #[.val (.ref t), .val (.int (32 : Int32)), .val (.int (0 : Int32)), .val (.int (4 : Int32))] [(.int (4 : Int32))]))) (st4) ?_
  refine go_of (B := (T4.setTop (mkF m 31 #[.val (.ref t), .val (.int (32 : Int32)), .val (.int (0 : Int32)), .val (.int (4 : Int32))] [(.int (32 : Int32)), (.ref t)]))) (fun _ kk => XS.istoreN X4.here hx rfl (hb hby d11_21) rfl rfl (XS.iloadN X4.here hx rfl (hb hby d11_22) rfl (XS.iloadN X4.here hx rfl (hb hby d11_23) rfl (XS.icmpYes X4.here hx rfl (pc0 := 24) (pc' := 29) rfl (hb hby d11_24) rfl (tlt (by decide : (0 : Int32) < (4 : Int32))).1 (by decide) (by decide) (XS.aloadN X4.here hx rfl (hb hby d11_29) rfl rfl (XS.iloadN X4.here hx rfl (hb hby d11_30) rfl kk)))))) ?_
  refine go_of (B := (T4.setTop (mkF m 33 #[.val (.ref t), .val (.int (32 : Int32)), .val (.int (0 : Int32)), .val (.int (4 : Int32))] [(.int (4 : Int32)), (.int (0 : Int32)), (.int (32 : Int32)), (.ref t)]))) (fun _ kk => XS.iloadN X4.here hx rfl (hb hby d11_31) rfl (XS.iloadN X4.here hx rfl (hb hby d11_32) rfl kk)) ?_
  obtain ⟨_, _, ⟨T5, L5, k5, n5⟩, -, X5, ⟨Lc5, hQ5, l5, y5, z5⟩, st5⟩ := Jvm.LawKit.callS X4 hx (y := MN25) hown (mvT hZ (wd 186 rfl)) (mvT hZ (wd 187 rfl)) (mvT hZ (wd 59 rfl)) (mvT hZ (wd 188 rfl)) (by decide) (backOf (W := 0) (v_ioc_4_32 l Z a0 hw [] t w0 w1 w2 w3 k h0 n0 (by omega) V) hZ (wd 188 rfl) (wd 59 rfl) (by decide) (by decide)) (g := (mkF m 33 #[.val (.ref t), .val (.int (32 : Int32)), .val (.int (0 : Int32)), .val (.int (4 : Int32))] [(.int (4 : Int32)), (.int (0 : Int32)), (.int (32 : Int32)), (.ref t)])) rfl (by rw [hml]; rfl) (argsL := [(.ref t), (.int (32 : Int32)), (.int (0 : Int32)), (.int (4 : Int32))]) (rest := []) (lenOf pd___BIII_I rfl) rfl (by show 2 * 0 + _ ≤ _; exact Nat.le_of_eq rfl) (hb hby d11_33) (fun _ _ => ⟨rfl, e4, (by decide : 0 + 0 ≤ _), (by decide : 0 + 0 ≤ _)⟩)
  dsimp only [Pt.U, Pt.locs, Pt.cells, Pt.slots] at X5 l5 y5 z5 st5 hQ5
  subst l5 y5 z5
  obtain ⟨r5, rfl, hr5, N5q, e5⟩ := hQ5
  have N5 := Fr.app N4 N5q
  refine go_of (B := (T5.setTop (mkF m 36 #[.val (.ref t), .val (.int (32 : Int32)), .val (.int (0 : Int32)), .val (.int (4 : Int32))] [(.int r5)]))) (st5) ?_
  refine go_end X5 (v := some (.int r5)) (fun h => by rw [Bd.returns] at h; cases h) Bd.notSynchronized (by decide) (by decide) (Q := (Q_v_lio_4_32 Z t w0 w1 w2 w3 k h0 n0)) ?_ (fun fs hr => own_retI X5 hx Bd.returns (hb hby d11_36) hr)
  unfold Q_v_lio_4_32
  try rw [e5]
  exact ⟨_, rfl, hr5, N5, rfl⟩
def Q_str_len_4 (Z : State) (a : Addr) (c0 : Int32) (c1 : Int32) (c2 : Int32) (c3 : Int32) (gC : Int32) (h0 : Heap) (n0 : Nat) (v : Option Value) (h : Heap) (L : List Loc) : Prop := v = some (.int 4) ∧ Fr n0 L ∧ h = h0
theorem ef_str_len_4 (m : MethodId) (a : Addr)  : entryFrame m #[(.ref a)] 1 = mkF m 0 #[.val (.ref a)] [] := by first | (simp [entryFrame, mkF, argsToLocals, Value.category]; done) | rfl
theorem str_len_4 (l : Launch) (Z : State) (a0 : Array Value) (hw : TW a0 Z) (ws : List Jvm.Cond) (a : Addr) (c0 : Int32) (c1 : Int32) (c2 : Int32) (c3 : Int32) (gC : Int32) (h0 : Heap) (n0 : Nat) (Z0 : n0 ≤ h0.size) (O : Old Z n0 h0) (SC : Sta Z Z.heap "java/lang/String" "COMPACT_STRINGS" "Z" (.int gC)) (hgC : ¬ gC = (0 : Int32)) (S : Str Z h0 a 4 [c0, c1, c2, c3]) :
    own_MF l Z MN19 jdk_42_method_54_code 1 (some .int) ws (own_R 1 0 0 13) #[(.ref a)] h0 (Q_str_len_4 Z a c0 c1 c2 c3 gC h0 n0) := by
  have wd := @own_wd _ _ hw
  refine MetFree.of_bodySF (plainFor_of_name pn_java_lang_String) hisR ?_
  intro p e s m args below meth c s₁ Bd hml0 hP hK
  obtain ⟨rfl, hZ, hh⟩ := hP
  have hx := Bd.exec
  have hby := Bd.bytes
  have hml : c.maxLocals = 1 := hml0
  have hown : s.vm.findClass "java/lang/String" = some m.cls := findClass_of_methodNamed Bd.named
  have hnm := (name_of_methodNamed Bd.named Bd.method).1
  have X0 : Stand p l e (own_R 1 0 0 13) s m #[(.ref a)] below meth c s₁ [] 0 0 := Stand.of_body Bd
  have e0 : s₁.heap = h0 := by rw [← hh, Bd.state]; rfl
  have N0 := Fr.nil n0
  obtain ⟨t, k, Ea, Fc, Fv, Va, hcs⟩ := S
  have lta := own_nlt (Ea.lt)
  have ltt := own_nlt (Va.lt)
  refine go_of (A := s₁.setTop (entryFrame m #[(.ref a)] 1)) (B := s₁.setTop (mkF m 0 #[.val (.ref a)] [])) (fun _ kk' => castTop (ef_str_len_4 m a) kk') ?_
  refine go_of (B := (s₁.setTop (mkF m 1 #[.val (.ref a)] [(.ref a)]))) (fun _ kk => XS.aloadN X0.here hx rfl (hb hby d9_0) rfl rfl kk) ?_
  obtain ⟨T1, X1, e1, st1⟩ := getF X0 hx hZ hown (host := "") (Or.inl (wd 25 rfl)) Via.refl e0 Fv (g := (mkF m 1 #[.val (.ref a)] [(.ref a)])) rfl rfl (hb hby d9_1)
  refine go_of (B := (T1.setTop (mkF m 4 #[.val (.ref a)] [(.ref t)]))) (st1) ?_
  obtain ⟨cl2, Ar2, q2, Sz2, Nn2, Hh2, G2⟩ := id (Va)
  have ln2 := len_of Sz2 Nn2
  refine go_of (B := (T1.setTop (mkF m 5 #[.val (.ref a)] [(.int (4 : Int32))]))) (fun _ kk => X1.arraylength hx (by rw [e1]; exact Ar2.1) (State.isArrayOf_alike hZ.alike Ar2.2.1) (g := (mkF m 4 #[.val (.ref a)] [(.ref t)])) rfl rfl (hb hby d9_4) _ (by rw [ln2]; exact kk)) ?_
  refine go_of (B := (T1.setTop (mkF m 6 #[.val (.ref a)] [(.ref a), (.int (4 : Int32))]))) (fun _ kk => XS.aloadN X1.here hx rfl (hb hby d9_5) rfl rfl kk) ?_
  obtain ⟨cq3, kq3, q3a, q3b, q3c⟩ := isOf hZ e1 Ea
  obtain ⟨_, _, ⟨T3, L3, k3, n3⟩, -, X3, ⟨Lc3, hQ3, l3, y3, z3⟩, st3⟩ := X1.virtualBack hx (y := MN14) (z := MN14) hown (mvT hZ (wd 52 rfl)) (mvT hZ (wd 53 rfl)) (notFace_of_selects (args := #[]) (mvT hZ (wd 55 rfl))) (mvT hZ (wd 55 rfl)) (mvT hZ (wd 54 rfl)) (by decide) (backOf (W := 1) (str_coder l Z a0 hw [] a gC h0 n0 Z0 O SC hgC Fc) hZ (wd 56 rfl) (wd 7 rfl) (by decide) (by decide)) q3a q3c (g := (mkF m 6 #[.val (.ref a)] [(.ref a), (.int (4 : Int32))])) rfl (by rw [hml]; rfl) (Steps.refl _) (argsL := []) (rest := [(.int (4 : Int32))]) (lenOf pd___B rfl) rfl (by show 2 * 0 + _ ≤ _; exact Nat.le_of_eq rfl) (hb hby d9_6) (fun _ _ => ⟨rfl, e1, (by decide : 0 + 0 ≤ _), (by decide : 0 + 0 ≤ _)⟩)
  dsimp only [Pt.U, Pt.locs, Pt.cells, Pt.slots] at X3 l3 y3 z3 st3 hQ3
  subst l3 y3 z3
  obtain ⟨rfl, N3q, e3⟩ := hQ3
  have N3 := Fr.app N0 N3q
  refine go_tr (B := (T3.setTop (mkF m 9 #[.val (.ref a)] [(.int (0 : Int32)), (.int (4 : Int32))]))) (st3) ?_
  refine go_of (B := (T3.setTop (mkF m 10 #[.val (.ref a)] [(.int (4 : Int32))]))) (fun _ kk => XS.ishr X3.here hx rfl (hb hby d9_9) rfl kk) ?_
  refine go_end X3 (v := some (.int (4 : Int32))) (fun h => by rw [Bd.returns] at h; cases h) Bd.notSynchronized (by decide) (by decide) (Q := (Q_str_len_4 Z a c0 c1 c2 c3 gC h0 n0)) ?_ (fun fs hr => own_retI X3 hx Bd.returns (hb hby d9_10) hr)
  unfold Q_str_len_4
  try rw [e3]
  exact ⟨rfl, N3, rfl⟩
def Q_v_si2_4_32 (Z : State) (a : Addr) (c0 : Int32) (c1 : Int32) (c2 : Int32) (c3 : Int32) (gC : Int32) (h0 : Heap) (n0 : Nat) (v : Option Value) (h : Heap) (L : List Loc) : Prop := ∃ r : Int32, v = some (.int r) ∧ (r < 0 ↔ own_hs (32 : Int32) [c0, c1, c2, c3] = false) ∧ Fr n0 L ∧ h = h0
theorem ef_v_si2_4_32 (m : MethodId) (a : Addr)  : entryFrame m #[(.ref a), (.int (32 : Int32)), (.int (0 : Int32))] 3 = mkF m 0 #[.val (.ref a), .val (.int (32 : Int32)), .val (.int (0 : Int32))] [] := by first | (simp [entryFrame, mkF, argsToLocals, Value.category]; done) | rfl
theorem v_si2_4_32 (l : Launch) (Z : State) (a0 : Array Value) (hw : TW a0 Z) (ws : List Jvm.Cond) (a : Addr) (c0 : Int32) (c1 : Int32) (c2 : Int32) (c3 : Int32) (gC : Int32) (h0 : Heap) (n0 : Nat) (Z0 : n0 ≤ h0.size) (O : Old Z n0 h0) (SC : Sta Z Z.heap "java/lang/String" "COMPACT_STRINGS" "Z" (.int gC)) (hgC : ¬ gC = (0 : Int32)) (S : Str Z h0 a 4 [c0, c1, c2, c3]) :
    own_MF l Z MN17 jdk_42_method_80_code 3 (some .int) ws (own_R 2 0 0 32) #[(.ref a), (.int (32 : Int32)), (.int (0 : Int32))] h0 (Q_v_si2_4_32 Z a c0 c1 c2 c3 gC h0 n0) := by
  have wd := @own_wd _ _ hw
  refine MetFree.of_bodySF (plainFor_of_name pn_java_lang_String) hisR ?_
  intro p e s m args below meth c s₁ Bd hml0 hP hK
  obtain ⟨rfl, hZ, hh⟩ := hP
  have hx := Bd.exec
  have hby := Bd.bytes
  have hml : c.maxLocals = 3 := hml0
  have hown : s.vm.findClass "java/lang/String" = some m.cls := findClass_of_methodNamed Bd.named
  have hnm := (name_of_methodNamed Bd.named Bd.method).1
  have X0 : Stand p l e (own_R 2 0 0 32) s m #[(.ref a), (.int (32 : Int32)), (.int (0 : Int32))] below meth c s₁ [] 0 0 := Stand.of_body Bd
  have e0 : s₁.heap = h0 := by rw [← hh, Bd.state]; rfl
  have N0 := Fr.nil n0
  obtain ⟨t, k, Ea, Fc, Fv, Va, hcs⟩ := (id S)
  have lta := own_nlt (Ea.lt)
  have ltt := own_nlt (Va.lt)
  refine go_of (A := s₁.setTop (entryFrame m #[(.ref a), (.int (32 : Int32)), (.int (0 : Int32))] 3)) (B := s₁.setTop (mkF m 0 #[.val (.ref a), .val (.int (32 : Int32)), .val (.int (0 : Int32))] [])) (fun _ kk' => castTop (ef_v_si2_4_32 m a) kk') ?_
  refine go_of (B := (s₁.setTop (mkF m 1 #[.val (.ref a), .val (.int (32 : Int32)), .val (.int (0 : Int32))] [(.ref a)]))) (fun _ kk => XS.aloadN X0.here hx rfl (hb hby d7_0) rfl rfl kk) ?_
  obtain ⟨cq1, kq1, q1a, q1b, q1c⟩ := isOf hZ e0 Ea
  obtain ⟨_, _, ⟨T1, L1, k1, n1⟩, -, X1, ⟨Lc1, hQ1, l1, y1, z1⟩, st1⟩ := X0.virtualBack hx (y := MN18) (z := MN18) hown (mvT hZ (wd 41 rfl)) (mvT hZ (wd 42 rfl)) (notFace_of_selects (args := #[]) (mvT hZ (wd 44 rfl))) (mvT hZ (wd 44 rfl)) (mvT hZ (wd 43 rfl)) (by decide) (backOf (W := 0) (str_latin l Z a0 hw [] a gC h0 n0 (by omega) O SC hgC Fc) hZ (wd 45 rfl) (wd 7 rfl) (by decide) (by decide)) q1a q1c (g := (mkF m 1 #[.val (.ref a), .val (.int (32 : Int32)), .val (.int (0 : Int32))] [(.ref a)])) rfl (by rw [hml]; rfl) (Steps.refl _) (argsL := []) (rest := []) (lenOf pd___Z rfl) rfl (by show 2 * 0 + _ ≤ _; exact Nat.le_of_eq rfl) (hb hby d7_1) (fun _ _ => ⟨rfl, e0, (by decide : 0 + 0 ≤ _), (by decide : 0 + 0 ≤ _)⟩)
  dsimp only [Pt.U, Pt.locs, Pt.cells, Pt.slots] at X1 l1 y1 z1 st1 hQ1
  subst l1 y1 z1
  obtain ⟨rfl, N1q, e1⟩ := hQ1
  have N1 := Fr.app N0 N1q
  refine go_tr (B := (T1.setTop (mkF m 4 #[.val (.ref a), .val (.int (32 : Int32)), .val (.int (0 : Int32))] [(.int (1 : Int32))]))) (st1) ?_
  refine go_of (B := (T1.setTop (mkF m 8 #[.val (.ref a), .val (.int (32 : Int32)), .val (.int (0 : Int32))] [(.ref a)]))) (fun _ kk => XS.ifNo X1.here hx rfl (hb hby d7_4) rfl ((if0 _ _).trans (feq (by decide : ¬ ((1 : Int32) = (0 : Int32)))).1) (XS.aloadN X1.here hx rfl (hb hby d7_7) rfl rfl kk)) ?_
  obtain ⟨T2, X2, e2, st2⟩ := getF X1 hx hZ hown (host := "") (Or.inl (wd 25 rfl)) Via.refl e1 Fv (g := (mkF m 8 #[.val (.ref a), .val (.int (32 : Int32)), .val (.int (0 : Int32))] [(.ref a)])) rfl rfl (hb hby d7_8)
  refine go_of (B := (T2.setTop (mkF m 11 #[.val (.ref a), .val (.int (32 : Int32)), .val (.int (0 : Int32))] [(.ref t)]))) (st2) ?_
  refine go_of (B := (T2.setTop (mkF m 14 #[.val (.ref a), .val (.int (32 : Int32)), .val (.int (0 : Int32))] [(.ref a), (.int (0 : Int32)), (.int (32 : Int32)), (.ref t)]))) (fun _ kk => XS.iloadN X2.here hx rfl (hb hby d7_11) rfl (XS.iloadN X2.here hx rfl (hb hby d7_12) rfl (XS.aloadN X2.here hx rfl (hb hby d7_13) rfl rfl kk))) ?_
  obtain ⟨cq3, kq3, q3a, q3b, q3c⟩ := isOf hZ e2 Ea
  obtain ⟨_, _, ⟨T3, L3, k3, n3⟩, -, X3, ⟨Lc3, hQ3, l3, y3, z3⟩, st3⟩ := X2.virtualBack hx (y := MN19) (z := MN19) hown (mvT hZ (wd 47 rfl)) (mvT hZ (wd 48 rfl)) (notFace_of_selects (args := #[]) (mvT hZ (wd 50 rfl))) (mvT hZ (wd 50 rfl)) (mvT hZ (wd 49 rfl)) (by decide) (backOf (W := 3) (str_len_4 l Z a0 hw [] a c0 c1 c2 c3 gC h0 n0 (by omega) O SC hgC S) hZ (wd 51 rfl) (wd 7 rfl) (by decide) (by decide)) q3a q3c (g := (mkF m 14 #[.val (.ref a), .val (.int (32 : Int32)), .val (.int (0 : Int32))] [(.ref a), (.int (0 : Int32)), (.int (32 : Int32)), (.ref t)])) rfl (by rw [hml]; rfl) (Steps.refl _) (argsL := []) (rest := [(.int (0 : Int32)), (.int (32 : Int32)), (.ref t)]) (lenOf pd___I rfl) rfl (by show 2 * 0 + _ ≤ _; exact Nat.le_of_eq rfl) (hb hby d7_14) (fun _ _ => ⟨rfl, e2, (by decide : 0 + 0 ≤ _), (by decide : 0 + 0 ≤ _)⟩)
  dsimp only [Pt.U, Pt.locs, Pt.cells, Pt.slots] at X3 l3 y3 z3 st3 hQ3
  subst l3 y3 z3
  obtain ⟨rfl, N3q, e3⟩ := hQ3
  have N3 := Fr.app N1 N3q
  refine go_tr (B := (T3.setTop (mkF m 17 #[.val (.ref a), .val (.int (32 : Int32)), .val (.int (0 : Int32))] [(.int (4 : Int32)), (.int (0 : Int32)), (.int (32 : Int32)), (.ref t)]))) (st3) ?_
  obtain ⟨_, _, ⟨T4, L4, k4, n4⟩, -, X4, ⟨Lc4, hQ4, l4, y4, z4⟩, st4⟩ := Jvm.LawKit.callS X3 hx (y := MN24) hown (mvT hZ (wd 57 rfl)) (mvT hZ (wd 58 rfl)) (mvT hZ (wd 59 rfl)) (mvT hZ (wd 60 rfl)) (by decide) (backOf (W := 0) (v_lio_4_32 l Z a0 hw [] t (own_b8 c0) (own_b8 c1) (own_b8 c2) (own_b8 c3) k h0 n0 (by omega) Va) hZ (wd 60 rfl) (wd 59 rfl) (by decide) (by decide)) (g := (mkF m 17 #[.val (.ref a), .val (.int (32 : Int32)), .val (.int (0 : Int32))] [(.int (4 : Int32)), (.int (0 : Int32)), (.int (32 : Int32)), (.ref t)])) rfl (by rw [hml]; rfl) (argsL := [(.ref t), (.int (32 : Int32)), (.int (0 : Int32)), (.int (4 : Int32))]) (rest := []) (lenOf pd___BIII_I rfl) rfl (by show 2 * 0 + _ ≤ _; exact Nat.le_of_eq rfl) (hb hby d7_17) (fun _ _ => ⟨rfl, e3, (by decide : 0 + 0 ≤ _), (by decide : 0 + 0 ≤ _)⟩)
  dsimp only [Pt.U, Pt.locs, Pt.cells, Pt.slots] at X4 l4 y4 z4 st4 hQ4
  subst l4 y4 z4
  obtain ⟨r4, rfl, hr4, N4q, e4⟩ := hQ4
  have N4 := Fr.app N3 N4q
  refine go_of (B := (T4.setTop (mkF m 20 #[.val (.ref a), .val (.int (32 : Int32)), .val (.int (0 : Int32))] [(.int r4)]))) (st4) ?_
  refine go_of (B := (T4.setTop (mkF m 36 #[.val (.ref a), .val (.int (32 : Int32)), .val (.int (0 : Int32))] [(.int r4)]))) (fun _ kk => XS.goto X4.here hx rfl (pc0 := 20) (pc' := 36) rfl (hb hby d7_20) (by decide) (by decide) kk) ?_
  refine go_end X4 (v := some (.int r4)) (fun h => by rw [Bd.returns] at h; cases h) Bd.notSynchronized (by decide) (by decide) (Q := (Q_v_si2_4_32 Z a c0 c1 c2 c3 gC h0 n0)) ?_ (fun fs hr => own_retI X4 hx Bd.returns (hb hby d7_36) hr)
  unfold Q_v_si2_4_32
  try rw [e4]
  exact ⟨_, rfl, hr4.trans (iff_of_eq (congrArg (fun b => b = false) (own_hsb (32 : Int32) (by decide) [c0, c1, c2, c3] hcs))), N4, rfl⟩
def Q_v_si_4_32 (Z : State) (a : Addr) (c0 : Int32) (c1 : Int32) (c2 : Int32) (c3 : Int32) (gC : Int32) (h0 : Heap) (n0 : Nat) (v : Option Value) (h : Heap) (L : List Loc) : Prop := ∃ r : Int32, v = some (.int r) ∧ (r < 0 ↔ own_hs (32 : Int32) [c0, c1, c2, c3] = false) ∧ Fr n0 L ∧ h = h0
theorem ef_v_si_4_32 (m : MethodId) (a : Addr)  : entryFrame m #[(.ref a), (.int (32 : Int32))] 2 = mkF m 0 #[.val (.ref a), .val (.int (32 : Int32))] [] := by first | (simp [entryFrame, mkF, argsToLocals, Value.category]; done) | rfl
theorem v_si_4_32 (l : Launch) (Z : State) (a0 : Array Value) (hw : TW a0 Z) (ws : List Jvm.Cond) (a : Addr) (c0 : Int32) (c1 : Int32) (c2 : Int32) (c3 : Int32) (gC : Int32) (h0 : Heap) (n0 : Nat) (Z0 : n0 ≤ h0.size) (O : Old Z n0 h0) (SC : Sta Z Z.heap "java/lang/String" "COMPACT_STRINGS" "Z" (.int gC)) (hgC : ¬ gC = (0 : Int32)) (S : Str Z h0 a 4 [c0, c1, c2, c3]) :
    own_MF l Z MN16 jdk_42_method_79_code 2 (some .int) ws (own_R 3 0 0 46) #[(.ref a), (.int (32 : Int32))] h0 (Q_v_si_4_32 Z a c0 c1 c2 c3 gC h0 n0) := by
  have wd := @own_wd _ _ hw
  refine MetFree.of_bodySF (plainFor_of_name pn_java_lang_String) hisR ?_
  intro p e s m args below meth c s₁ Bd hml0 hP hK
  obtain ⟨rfl, hZ, hh⟩ := hP
  have hx := Bd.exec
  have hby := Bd.bytes
  have hml : c.maxLocals = 2 := hml0
  have hown : s.vm.findClass "java/lang/String" = some m.cls := findClass_of_methodNamed Bd.named
  have hnm := (name_of_methodNamed Bd.named Bd.method).1
  have X0 : Stand p l e (own_R 3 0 0 46) s m #[(.ref a), (.int (32 : Int32))] below meth c s₁ [] 0 0 := Stand.of_body Bd
  have e0 : s₁.heap = h0 := by rw [← hh, Bd.state]; rfl
  have N0 := Fr.nil n0
  refine go_of (A := s₁.setTop (entryFrame m #[(.ref a), (.int (32 : Int32))] 2)) (B := s₁.setTop (mkF m 0 #[.val (.ref a), .val (.int (32 : Int32))] [])) (fun _ kk' => castTop (ef_v_si_4_32 m a) kk') ?_
  refine go_of (B := (s₁.setTop (mkF m 3 #[.val (.ref a), .val (.int (32 : Int32))] [(.int (0 : Int32)), (.int (32 : Int32)), (.ref a)]))) (fun _ kk => XS.aloadN X0.here hx rfl (hb hby d6_0) rfl rfl (XS.iloadN X0.here hx rfl (hb hby d6_1) rfl (XS.iconst X0.here hx rfl (hb hby d6_2) kk))) ?_
  obtain ⟨cq1, kq1, q1a, q1b, q1c⟩ := isOf hZ e0 S.exa
  obtain ⟨_, _, ⟨T1, L1, k1, n1⟩, -, X1, ⟨Lc1, hQ1, l1, y1, z1⟩, st1⟩ := X0.virtualBack hx (y := MN17) (z := MN17) hown (mvT hZ (wd 36 rfl)) (mvT hZ (wd 37 rfl)) (notFace_of_selects (args := #[]) (mvT hZ (wd 39 rfl))) (mvT hZ (wd 39 rfl)) (mvT hZ (wd 38 rfl)) (by decide) (backOf (W := 0) (v_si2_4_32 l Z a0 hw [] a c0 c1 c2 c3 gC h0 n0 (by omega) O SC hgC S) hZ (wd 40 rfl) (wd 7 rfl) (by decide) (by decide)) q1a q1c (g := (mkF m 3 #[.val (.ref a), .val (.int (32 : Int32))] [(.int (0 : Int32)), (.int (32 : Int32)), (.ref a)])) rfl (by rw [hml]; rfl) (Steps.refl _) (argsL := [(.int (32 : Int32)), (.int (0 : Int32))]) (rest := []) (lenOf pd__II_I rfl) rfl (by show 2 * 0 + _ ≤ _; exact Nat.le_of_eq rfl) (hb hby d6_3) (fun _ _ => ⟨rfl, e0, (by decide : 0 + 0 ≤ _), (by decide : 0 + 0 ≤ _)⟩)
  dsimp only [Pt.U, Pt.locs, Pt.cells, Pt.slots] at X1 l1 y1 z1 st1 hQ1
  subst l1 y1 z1
  obtain ⟨r1, rfl, hr1, N1q, e1⟩ := hQ1
  have N1 := Fr.app N0 N1q
  refine go_tr (B := (T1.setTop (mkF m 6 #[.val (.ref a), .val (.int (32 : Int32))] [(.int r1)]))) (st1) ?_
  refine go_end X1 (v := some (.int r1)) (fun h => by rw [Bd.returns] at h; cases h) Bd.notSynchronized (by decide) (by decide) (Q := (Q_v_si_4_32 Z a c0 c1 c2 c3 gC h0 n0)) ?_ (fun fs hr => own_retI X1 hx Bd.returns (hb hby d6_6) hr)
  unfold Q_v_si_4_32
  try rw [e1]
  exact ⟨_, rfl, hr1, N1, rfl⟩
def Q_no_4 (Z : State) (a : Addr) (c0 : Int32) (c1 : Int32) (c2 : Int32) (c3 : Int32) (gC : Int32) (h0 : Heap) (n0 : Nat) (v : Option Value) (h : Heap) (L : List Loc) : Prop := v = some (.int (own_no [c0, c1, c2, c3])) ∧ Fr n0 L ∧ h = h0
theorem ef_no_4 (m : MethodId) (a : Addr)  : entryFrame m #[(.ref a)] 1 = mkF m 0 #[.val (.ref a)] [] := by first | (simp [entryFrame, mkF, argsToLocals, Value.category]; done) | rfl
theorem no_4 (l : Launch) (Z : State) (a0 : Array Value) (hw : TW a0 Z) (ws : List Jvm.Cond) (a : Addr) (c0 : Int32) (c1 : Int32) (c2 : Int32) (c3 : Int32) (gC : Int32) (h0 : Heap) (n0 : Nat) (Z0 : n0 ≤ h0.size) (O : Old Z n0 h0) (SC : Sta Z Z.heap "java/lang/String" "COMPACT_STRINGS" "Z" (.int gC)) (hgC : ¬ gC = (0 : Int32)) (S : Str Z h0 a 4 [c0, c1, c2, c3]) :
    own_MF l Z MN2 prog_10_method_13_code 1 (some .boolean) ws (own_R 4 0 0 59) #[(.ref a)] h0 (Q_no_4 Z a c0 c1 c2 c3 gC h0 n0) := by
  have wd := @own_wd _ _ hw
  refine MetFree.of_bodySF (plainFor_of_name pn_com_example_holdfast_holdfast_HoldfastLock_Exclusive) hisR ?_
  intro p e s m args below meth c s₁ Bd hml0 hP hK
  obtain ⟨rfl, hZ, hh⟩ := hP
  have hx := Bd.exec
  have hby := Bd.bytes
  have hml : c.maxLocals = 1 := hml0
  have hown : s.vm.findClass "com/example/holdfast/holdfast/HoldfastLock$Exclusive" = some m.cls := findClass_of_methodNamed Bd.named
  have hnm := (name_of_methodNamed Bd.named Bd.method).1
  have X0 : Stand p l e (own_R 4 0 0 59) s m #[(.ref a)] below meth c s₁ [] 0 0 := Stand.of_body Bd
  have e0 : s₁.heap = h0 := by rw [← hh, Bd.state]; rfl
  have N0 := Fr.nil n0
  refine go_of (A := s₁.setTop (entryFrame m #[(.ref a)] 1)) (B := s₁.setTop (mkF m 0 #[.val (.ref a)] [])) (fun _ kk' => castTop (ef_no_4 m a) kk') ?_
  refine go_of (B := (s₁.setTop (mkF m 3 #[.val (.ref a)] [(.int (32 : Int32)), (.ref a)]))) (fun _ kk => XS.aloadN X0.here hx rfl (hb hby d5_0) rfl rfl (XS.bipush X0.here hx rfl (hb hby d5_1) kk)) ?_
  obtain ⟨cq1, kq1, q1a, q1b, q1c⟩ := isOf hZ e0 S.exa
  obtain ⟨_, _, ⟨T1, L1, k1, n1⟩, -, X1, ⟨Lc1, hQ1, l1, y1, z1⟩, st1⟩ := X0.virtualBack hx (y := MN16) (z := MN16) hown (mvT hZ (wd 31 rfl)) (mvT hZ (wd 32 rfl)) (notFace_of_selects (args := #[]) (mvT hZ (wd 34 rfl))) (mvT hZ (wd 34 rfl)) (mvT hZ (wd 33 rfl)) (by decide) (backOf (W := 0) (v_si_4_32 l Z a0 hw [] a c0 c1 c2 c3 gC h0 n0 (by omega) O SC hgC S) hZ (wd 35 rfl) (wd 7 rfl) (by decide) (by decide)) q1a q1c (g := (mkF m 3 #[.val (.ref a)] [(.int (32 : Int32)), (.ref a)])) rfl (by rw [hml]; rfl) (Steps.refl _) (argsL := [(.int (32 : Int32))]) (rest := []) (lenOf pd__I_I rfl) rfl (by show 2 * 0 + _ ≤ _; exact Nat.le_of_eq rfl) (hb hby d5_3) (fun _ _ => ⟨rfl, e0, (by decide : 0 + 0 ≤ _), (by decide : 0 + 0 ≤ _)⟩)
  dsimp only [Pt.U, Pt.locs, Pt.cells, Pt.slots] at X1 l1 y1 z1 st1 hQ1
  subst l1 y1 z1
  obtain ⟨r1, rfl, hr1, N1q, e1⟩ := hQ1
  have N1 := Fr.app N0 N1q
  refine go_tr (B := (T1.setTop (mkF m 6 #[.val (.ref a)] [(.int r1)]))) (st1) ?_
  by_cases hcc2 : r1 < (0 : Int32)
  · refine go_of (B := (T1.setTop (mkF m 14 #[.val (.ref a)] [(.int (0 : Int32))]))) (fun _ kk => XS.ifYes X1.here hx rfl (pc0 := 6) (pc' := 13) rfl (hb hby d5_6) rfl ((if0 _ _).trans (tlt hcc2).1) (by decide) (by decide) (XS.iconst X1.here hx rfl (hb hby d5_13) kk)) ?_
    refine go_end X1 (v := some (.int (nar .boolean (0 : Int32)))) (fun h => by rw [Bd.returns] at h; cases h) Bd.notSynchronized (by decide) (by decide) (Q := (Q_no_4 Z a c0 c1 c2 c3 gC h0 n0)) ?_ (fun fs hr => retN X1 hx (t := .boolean) Bd.returns (by simp) (hb hby d5_14) hr)
    unfold Q_no_4
    try rw [e1]
    refine ⟨?_, N1, rfl⟩
    have hq := hr1.mp hcc2
    rw [own_no, hq]; rfl
  · refine go_of (B := (T1.setTop (mkF m 14 #[.val (.ref a)] [(.int (1 : Int32))]))) (fun _ kk => XS.ifNo X1.here hx rfl (hb hby d5_6) rfl ((if0 _ _).trans (flt hcc2).1) (XS.iconst X1.here hx rfl (hb hby d5_9) (XS.goto X1.here hx rfl (pc0 := 10) (pc' := 14) rfl (hb hby d5_10) (by decide) (by decide) kk))) ?_
    refine go_end X1 (v := some (.int (nar .boolean (1 : Int32)))) (fun h => by rw [Bd.returns] at h; cases h) Bd.notSynchronized (by decide) (by decide) (Q := (Q_no_4 Z a c0 c1 c2 c3 gC h0 n0)) ?_ (fun fs hr => retN X1 hx (t := .boolean) Bd.returns (by simp) (hb hby d5_14) hr)
    unfold Q_no_4
    try rw [e1]
    refine ⟨?_, N1, rfl⟩
    have hq := own_bt (fun q => hcc2 (hr1.mpr q))
    rw [own_no, hq]; rfl
theorem d21_0 : decode jdk_68_method_2_code 0 = .ok (.aload_n 0, 1) := by decide +kernel
theorem d21_1 : decode jdk_68_method_2_code 1 = .ok (.invokespecial 3, 3) := by decide +kernel
theorem d21_4 : decode jdk_68_method_2_code 4 = .ok (.getstatic 18, 3) := by decide +kernel
theorem d21_7 : decode jdk_68_method_2_code 7 = .ok (.ifCond .eq 18, 3) := by decide +kernel
theorem d21_10 : decode jdk_68_method_2_code 10 = .ok (.aload_n 0, 1) := by decide +kernel
theorem d21_11 : decode jdk_68_method_2_code 11 = .ok (.iload_n 1, 1) := by decide +kernel
theorem d21_12 : decode jdk_68_method_2_code 12 = .ok (.newarray .byte, 2) := by decide +kernel
theorem d21_14 : decode jdk_68_method_2_code 14 = .ok (.putfield 15, 3) := by decide +kernel
theorem d21_17 : decode jdk_68_method_2_code 17 = .ok (.aload_n 0, 1) := by decide +kernel
theorem d21_18 : decode jdk_68_method_2_code 18 = .ok (.iconst 0, 1) := by decide +kernel
theorem d21_19 : decode jdk_68_method_2_code 19 = .ok (.putfield 22, 3) := by decide +kernel
theorem d21_22 : decode jdk_68_method_2_code 22 = .ok (.goto 16, 3) := by decide +kernel
theorem d21_38 : decode jdk_68_method_2_code 38 = .ok (.return_, 1) := by decide +kernel
def Q_asbi (Z : State) (a : Addr) (vv : Value) (vc : Value) (gC : Int32) (h0 : Heap) (n0 : Nat) (v : Option Value) (h : Heap) (L : List Loc) : Prop := ∃ (d : Addr) (kd : ClassId), v = none ∧ Fr n0 L ∧ h0.size ≤ d ∧ Keep h0 h [a] ∧ SB Z h a d kd 0 [o_, o_, o_, o_, o_, o_, o_, o_, o_, o_, o_, o_, o_, o_, o_, o_]
theorem pn_java_lang_AbstractStringBuilder : plainName "java/lang/AbstractStringBuilder" = true := by first | (simp [plainName, overriddenIn]; done) | decide +kernel
theorem ef_asbi (m : MethodId) (a : Addr)  : entryFrame m #[(.ref a), (.int (16 : Int32))] 2 = mkF m 0 #[.val (.ref a), .val (.int (16 : Int32))] [] := by first | (simp [entryFrame, mkF, argsToLocals, Value.category]; done) | rfl
theorem asbi (l : Launch) (Z : State) (a0 : Array Value) (hw : TW a0 Z) (ws : List Jvm.Cond) (a : Addr) (vv : Value) (vc : Value) (gC : Int32) (h0 : Heap) (n0 : Nat) (Z0 : n0 ≤ h0.size) (O : Old Z n0 h0) (SC : Sta Z Z.heap "java/lang/String" "COMPACT_STRINGS" "Z" (.int gC)) (hgC : ¬ gC = (0 : Int32)) (Ea : Exa Z h0 a "java/lang/StringBuilder") (Fv_ : Fld Z h0 a "java/lang/AbstractStringBuilder" "value" "[B" vv) (Fc_ : Fld Z h0 a "java/lang/AbstractStringBuilder" "coder" "B" vc) (Fk_ : Fld Z h0 a "java/lang/AbstractStringBuilder" "count" "I" (.int 0)) (g : n0 ≤ a) :
    own_MF l Z (⟨"java/lang/AbstractStringBuilder", "<init>", "(I)V"⟩ : MethodName) jdk_68_method_2_code 2 none ws (own_R 1 1 16 12) #[(.ref a), (.int (16 : Int32))] h0 (Q_asbi Z a vv vc gC h0 n0) := by
  have wd := @own_wd _ _ hw
  refine MetFree.of_bodySF (plainFor_of_name pn_java_lang_AbstractStringBuilder) hisR ?_
  intro p e s m args below meth c s₁ Bd hml0 hP hK
  obtain ⟨rfl, hZ, hh⟩ := hP
  have hx := Bd.exec
  have hby := Bd.bytes
  have hml : c.maxLocals = 2 := hml0
  have hown : s.vm.findClass "java/lang/AbstractStringBuilder" = some m.cls := findClass_of_methodNamed Bd.named
  have hnm := (name_of_methodNamed Bd.named Bd.method).1
  have X0 : Stand p l e (own_R 1 1 16 12) s m #[(.ref a), (.int (16 : Int32))] below meth c s₁ [] 0 0 := Stand.of_body Bd
  have e0 : s₁.heap = h0 := by rw [← hh, Bd.state]; rfl
  have N0 := Fr.nil n0
  have lta := own_nlt (Ea.lt)
  refine go_of (A := s₁.setTop (entryFrame m #[(.ref a), (.int (16 : Int32))] 2)) (B := s₁.setTop (mkF m 0 #[.val (.ref a), .val (.int (16 : Int32))] [])) (fun _ kk' => castTop (ef_asbi m a) kk') ?_
  refine go_of (B := (s₁.setTop (mkF m 1 #[.val (.ref a), .val (.int (16 : Int32))] [(.ref a)]))) (fun _ kk => XS.aloadN X0.here hx rfl (hb hby d21_0) rfl rfl kk) ?_
  obtain ⟨T1, X1, e1, st1⟩ := initO X0 hx hZ hown (wd 99 rfl) (wd 17 rfl) (wd 18 rfl) e0 (g := (mkF m 1 #[.val (.ref a), .val (.int (16 : Int32))] [(.ref a)])) rfl (by rw [hml]; rfl) rfl (hb hby d21_1) (by decide) (W := 0) (by show 2 * 0 + _ ≤ _; exact Nat.le_of_eq rfl) (by decide)
  refine go_of (B := (T1.setTop (mkF m 4 #[.val (.ref a), .val (.int (16 : Int32))] []))) (st1) ?_
  obtain ⟨T2, X2, e2, st2⟩ := getS2 X1 hx hZ hown (host := "") (Or.inl (wd 100 rfl)) Via.refl e1 (SC.ext O.2) (g := (mkF m 4 #[.val (.ref a), .val (.int (16 : Int32))] [])) rfl (hb hby d21_4)
  refine go_of (B := (T2.setTop (mkF m 7 #[.val (.ref a), .val (.int (16 : Int32))] [(.int gC)]))) (st2) ?_
  refine go_of (B := (T2.setTop (mkF m 12 #[.val (.ref a), .val (.int (16 : Int32))] [(.int (16 : Int32)), (.ref a)]))) (fun _ kk => XS.ifNo X2.here hx rfl (hb hby d21_7) rfl ((if0 _ _).trans (feq hgC).1) (XS.aloadN X2.here hx rfl (hb hby d21_10) rfl rfl (XS.iloadN X2.here hx rfl (hb hby d21_11) rfl kk))) ?_
  obtain ⟨T3, h3, k3, X3, e3, E3, A3, st3⟩ := newP X2 hx hZ (wd 20 rfl) e2 (g := (mkF m 12 #[.val (.ref a), .val (.int (16 : Int32))] [(.int (16 : Int32)), (.ref a)])) rfl (hb hby d21_12) rfl (by decide) (cap := 16) (by decide) (by decide) (by decide) (by decide)
  obtain ⟨b3, g3⟩ : ∃ z, z = h0.size := ⟨_, rfl⟩
  rw [← g3] at A3 st3
  have hi3 := own_nlt A3.lt
  have sz3 := E3.1
  have V3 : Arv Z h3 b3 k3 .byte (16 : Int32) [(.int (0 : Int32)), (.int (0 : Int32)), (.int (0 : Int32)), (.int (0 : Int32)), (.int (0 : Int32)), (.int (0 : Int32)), (.int (0 : Int32)), (.int (0 : Int32)), (.int (0 : Int32)), (.int (0 : Int32)), (.int (0 : Int32)), (.int (0 : Int32)), (.int (0 : Int32)), (.int (0 : Int32)), (.int (0 : Int32)), (.int (0 : Int32))] (.int (0 : Int32)) := (Arv.new A3 (by decide)).pad (pad_rep [] (.int (0 : Int32)) 16)
  refine go_of (B := (T3.setTop (mkF m 14 #[.val (.ref a), .val (.int (16 : Int32))] [(.ref b3), (.ref a)]))) (st3) ?_
  have cf_4 := (Ea.ext E3)
  have cf_5 := (Fv_.ext E3)
  obtain ⟨T6, h6, X6, e6, W6, st6⟩ := putF X3 hx hZ hown (host := "") (Or.inl (wd 101 rfl)) Via.refl e3 cf_5 cf_4 (Or.inl (wd 102 rfl)) (wd 88 rfl) (ty := (.array .byte)) (by decide) rfl rfl (g := (mkF m 14 #[.val (.ref a), .val (.int (16 : Int32))] [(.ref b3), (.ref a)])) rfl rfl (hb hby d21_14)
  have sz6 := W6.size
  have Fw6 := cf_5.same W6
  have N6 := Fr.snoc X6 N0 (g : n0 ≤ a)
  refine go_of (B := (T6.setTop (mkF m 17 #[.val (.ref a), .val (.int (16 : Int32))] []))) (st6) ?_
  refine go_of (B := (T6.setTop (mkF m 19 #[.val (.ref a), .val (.int (16 : Int32))] [(.int (0 : Int32)), (.ref a)]))) (fun _ kk => XS.aloadN X6.here hx rfl (hb hby d21_17) rfl rfl (XS.iconst X6.here hx rfl (hb hby d21_18) kk)) ?_
  have cf_7 := (cf_4.wr W6)
  have cf_8 := ((Fc_.ext E3).other W6 (Or.inr (slot_ne (Or.inl (wd 104 rfl)) (Or.inl (wd 102 rfl)) (by decide) (t := .byte) (t' := (.array .byte)) (by decide) (by decide))))
  obtain ⟨T9, h9, X9, e9, W9, st9⟩ := putFN X6 hx hZ hown (wd 103 rfl) Via.refl e6 cf_8 cf_7 (Or.inl (wd 104 rfl)) (wd 88 rfl) (ty := .byte) (v' := (.int (nar .byte (0 : Int32)))) (by decide) rfl (fits_nar_byte _) (g := (mkF m 19 #[.val (.ref a), .val (.int (16 : Int32))] [(.int (0 : Int32)), (.ref a)])) rfl rfl (hb hby d21_19)
  have sz9 := W9.size
  have Fw9 := cf_8.same W9
  have N9 := Fr.snoc X9 N6 (g : n0 ≤ a)
  refine go_of (B := (T9.setTop (mkF m 22 #[.val (.ref a), .val (.int (16 : Int32))] []))) (st9) ?_
  refine go_of (B := (T9.setTop (mkF m 38 #[.val (.ref a), .val (.int (16 : Int32))] []))) (fun _ kk => XS.goto X9.here hx rfl (pc0 := 22) (pc' := 38) rfl (hb hby d21_22) (by decide) (by decide) kk) ?_
  have cf_10 := (cf_7.wr W9)
  have cf_11 := (Fw6.other W9 (Or.inr (slot_ne (Or.inl (wd 102 rfl)) (Or.inl (wd 104 rfl)) (by decide) (t := (.array .byte)) (t' := .byte) (by decide) (by decide))))
  have cf_12 := (((Fk_.ext E3).other W6 (Or.inr (slot_ne (Or.inl (wd 117 rfl)) (Or.inl (wd 102 rfl)) (by decide) (t := .int) (t' := (.array .byte)) (by decide) (by decide)))).other W9 (Or.inr (slot_ne (Or.inl (wd 117 rfl)) (Or.inl (wd 104 rfl)) (by decide) (t := .int) (t' := .byte) (by decide) (by decide))))
  have cf_13 := ((V3.other W6 (by first | omega | exact own_ne (by omega) | exact own_le (by omega) | exact own_lt (by omega))).other W9 (by first | omega | exact own_ne (by omega) | exact own_le (by omega) | exact own_lt (by omega)))
  refine go_end X9 (v := none) (fun _ => rfl) Bd.notSynchronized (by decide) (by decide) (Q := (Q_asbi Z a vv vc gC h0 n0)) ?_ (fun fs hr => X9.returnOut hx Bd.returns (hb hby d21_38) hr)
  unfold Q_asbi
  try rw [e9]
  exact ⟨b3, k3, rfl, N9, by omega, ((((Keep.refl h0 [a]).ext E3).wr W6 (Or.inl (List.mem_of_getElem? (i := 0) rfl))).wr W9 (Or.inl (List.mem_of_getElem? (i := 0) rfl))), ⟨cf_10, cf_11, Fw9, cf_12, cf_13⟩⟩
theorem d20_0 : decode jdk_67_method_1_code 0 = .ok (.aload_n 0, 1) := by decide +kernel
theorem d20_1 : decode jdk_67_method_1_code 1 = .ok (.bipush 16, 2) := by decide +kernel
theorem d20_3 : decode jdk_67_method_1_code 3 = .ok (.invokespecial 1, 3) := by decide +kernel
theorem pd__I_V : parseMethodDescriptor "(I)V" = some ⟨[.int], none⟩ := by decide +kernel
theorem d20_6 : decode jdk_67_method_1_code 6 = .ok (.return_, 1) := by decide +kernel
def Q_sbi (Z : State) (a : Addr) (vv : Value) (vc : Value) (gC : Int32) (h0 : Heap) (n0 : Nat) (v : Option Value) (h : Heap) (L : List Loc) : Prop := ∃ (d : Addr) (kd : ClassId), v = none ∧ Fr n0 L ∧ h0.size ≤ d ∧ Keep h0 h [a] ∧ SB Z h a d kd 0 [o_, o_, o_, o_, o_, o_, o_, o_, o_, o_, o_, o_, o_, o_, o_, o_]
theorem pn_java_lang_StringBuilder : plainName "java/lang/StringBuilder" = true := by first | (simp [plainName, overriddenIn]; done) | decide +kernel
theorem ef_sbi (m : MethodId) (a : Addr)  : entryFrame m #[(.ref a)] 1 = mkF m 0 #[.val (.ref a)] [] := by first | (simp [entryFrame, mkF, argsToLocals, Value.category]; done) | rfl
theorem sbi (l : Launch) (Z : State) (a0 : Array Value) (hw : TW a0 Z) (ws : List Jvm.Cond) (a : Addr) (vv : Value) (vc : Value) (gC : Int32) (h0 : Heap) (n0 : Nat) (Z0 : n0 ≤ h0.size) (O : Old Z n0 h0) (SC : Sta Z Z.heap "java/lang/String" "COMPACT_STRINGS" "Z" (.int gC)) (hgC : ¬ gC = (0 : Int32)) (Ea : Exa Z h0 a "java/lang/StringBuilder") (Fv_ : Fld Z h0 a "java/lang/AbstractStringBuilder" "value" "[B" vv) (Fc_ : Fld Z h0 a "java/lang/AbstractStringBuilder" "coder" "B" vc) (Fk_ : Fld Z h0 a "java/lang/AbstractStringBuilder" "count" "I" (.int 0)) (g : n0 ≤ a) :
    own_MF l Z (⟨"java/lang/StringBuilder", "<init>", "()V"⟩ : MethodName) jdk_67_method_1_code 1 none ws (own_R 2 1 16 25) #[(.ref a)] h0 (Q_sbi Z a vv vc gC h0 n0) := by
  have wd := @own_wd _ _ hw
  refine MetFree.of_bodySF (plainFor_of_name pn_java_lang_StringBuilder) hisR ?_
  intro p e s m args below meth c s₁ Bd hml0 hP hK
  obtain ⟨rfl, hZ, hh⟩ := hP
  have hx := Bd.exec
  have hby := Bd.bytes
  have hml : c.maxLocals = 1 := hml0
  have hown : s.vm.findClass "java/lang/StringBuilder" = some m.cls := findClass_of_methodNamed Bd.named
  have hnm := (name_of_methodNamed Bd.named Bd.method).1
  have X0 : Stand p l e (own_R 2 1 16 25) s m #[(.ref a)] below meth c s₁ [] 0 0 := Stand.of_body Bd
  have e0 : s₁.heap = h0 := by rw [← hh, Bd.state]; rfl
  have N0 := Fr.nil n0
  have lta := own_nlt (Ea.lt)
  refine go_of (A := s₁.setTop (entryFrame m #[(.ref a)] 1)) (B := s₁.setTop (mkF m 0 #[.val (.ref a)] [])) (fun _ kk' => castTop (ef_sbi m a) kk') ?_
  refine go_of (B := (s₁.setTop (mkF m 3 #[.val (.ref a)] [(.int (16 : Int32)), (.ref a)]))) (fun _ kk => XS.aloadN X0.here hx rfl (hb hby d20_0) rfl rfl (XS.bipush X0.here hx rfl (hb hby d20_1) kk)) ?_
  obtain ⟨_, _, ⟨T1, L1, k1, n1⟩, -, X1, ⟨Lc1, hQ1, l1, y1, z1⟩, st1⟩ := X0.specialBack hx (y := (⟨"java/lang/AbstractStringBuilder", "<init>", "(I)V"⟩ : MethodName)) rfl hown (mvT hZ (wd 93 rfl)) (mvT hZ (wd 94 rfl)) (mvT hZ (wd 98 rfl)) (by decide) (backOf (W := 0) (asbi l Z a0 hw [] a vv vc gC h0 n0 (by omega) O SC hgC Ea Fv_ Fc_ Fk_ g) hZ (wd 98 rfl) (wd 97 rfl) (by decide) (by decide)) (g := (mkF m 3 #[.val (.ref a)] [(.int (16 : Int32)), (.ref a)])) rfl (by rw [hml]; rfl) (Steps.refl _) (a := a) (argsL := [(.int (16 : Int32))]) (rest := []) (lenOf pd__I_V rfl) rfl (by show 2 * 0 + _ ≤ _; exact Nat.le_of_eq rfl) (hb hby d20_3) (fun _ _ => ⟨rfl, e0, (by decide : 0 + 1 ≤ _), (by decide : 0 + 16 ≤ _)⟩)
  dsimp only [Pt.U, Pt.locs, Pt.cells, Pt.slots] at X1 l1 y1 z1 st1 hQ1
  subst l1 y1 z1
  obtain ⟨b1, k1, rfl, N1q, lo1, K1, A1⟩ := hQ1
  have lo1 := own_nle lo1
  have N1 := Fr.app N0 N1q
  have hi1 := own_nlt (A1.2.2.2.2.lt)
  have sz1 := K1.1
  refine go_tr (B := (T1.setTop (mkF m 6 #[.val (.ref a)] []))) (st1) ?_
  refine go_end X1 (v := none) (fun _ => rfl) Bd.notSynchronized (by decide) (by decide) (Q := (Q_sbi Z a vv vc gC h0 n0)) ?_ (fun fs hr => X1.returnOut hx Bd.returns (hb hby d20_6) hr)
  unfold Q_sbi
  exact ⟨b1, k1, rfl, N1, by omega, ((Keep.refl h0 [a]).trans K1 (allS (Or.inl (List.mem_of_getElem? (i := 0) rfl)) all0)), ⟨A1.1, A1.2.1, A1.2.2.1, A1.2.2.2.1, A1.2.2.2.2⟩⟩
theorem d24_0 : decode jdk_68_method_9_code 0 = .ok (.aload_n 0, 1) := by decide +kernel
theorem d24_1 : decode jdk_68_method_9_code 1 = .ok (.getfield 15, 3) := by decide +kernel
theorem d24_4 : decode jdk_68_method_9_code 4 = .ok (.arraylength, 1) := by decide +kernel
theorem d24_5 : decode jdk_68_method_9_code 5 = .ok (.aload_n 0, 1) := by decide +kernel
theorem d24_6 : decode jdk_68_method_9_code 6 = .ok (.getfield 22, 3) := by decide +kernel
theorem d24_9 : decode jdk_68_method_9_code 9 = .ok (.ishr, 1) := by decide +kernel
theorem d24_10 : decode jdk_68_method_9_code 10 = .ok (.istore_n 2, 1) := by decide +kernel
theorem d24_11 : decode jdk_68_method_9_code 11 = .ok (.iload_n 1, 1) := by decide +kernel
theorem d24_12 : decode jdk_68_method_9_code 12 = .ok (.iload_n 2, 1) := by decide +kernel
theorem d24_13 : decode jdk_68_method_9_code 13 = .ok (.isub, 1) := by decide +kernel
theorem d24_14 : decode jdk_68_method_9_code 14 = .ok (.ifCond .le 24, 3) := by decide +kernel
theorem d24_38 : decode jdk_68_method_9_code 38 = .ok (.return_, 1) := by decide +kernel
def Q_ens_1 (Z : State) (a : Addr) (d : Addr) (kd : ClassId) (bs : List Value) (h0 : Heap) (n0 : Nat) (v : Option Value) (h : Heap) (L : List Loc) : Prop := v = none ∧ Fr n0 L ∧ h = h0
theorem ef_ens_1 (m : MethodId) (a : Addr)  : entryFrame m #[(.ref a), (.int (1 : Int32))] 3 = mkF m 0 #[.val (.ref a), .val (.int (1 : Int32)), .unset] [] := by first | (simp [entryFrame, mkF, argsToLocals, Value.category]; done) | rfl
theorem ens_1 (l : Launch) (Z : State) (a0 : Array Value) (hw : TW a0 Z) (ws : List Jvm.Cond) (a : Addr) (d : Addr) (kd : ClassId) (bs : List Value) (h0 : Heap) (n0 : Nat) (Z0 : n0 ≤ h0.size) (Fv_ : Fld Z h0 a "java/lang/AbstractStringBuilder" "value" "[B" (.ref d)) (Fc_ : Fld Z h0 a "java/lang/AbstractStringBuilder" "coder" "B" (.int 0)) (V : Arv Z h0 d kd .byte 16 bs (.int 0)) :
    own_MF l Z MN4 jdk_68_method_9_code 3 none ws (own_R 0 0 0 0) #[(.ref a), (.int (1 : Int32))] h0 (Q_ens_1 Z a d kd bs h0 n0) := by
  have wd := @own_wd _ _ hw
  refine MetFree.of_bodySF (plainFor_of_name pn_java_lang_AbstractStringBuilder) hisR ?_
  intro p e s m args below meth c s₁ Bd hml0 hP hK
  obtain ⟨rfl, hZ, hh⟩ := hP
  have hx := Bd.exec
  have hby := Bd.bytes
  have hml : c.maxLocals = 3 := hml0
  have hown : s.vm.findClass "java/lang/AbstractStringBuilder" = some m.cls := findClass_of_methodNamed Bd.named
  have hnm := (name_of_methodNamed Bd.named Bd.method).1
  have X0 : Stand p l e (own_R 0 0 0 0) s m #[(.ref a), (.int (1 : Int32))] below meth c s₁ [] 0 0 := Stand.of_body Bd
  have e0 : s₁.heap = h0 := by rw [← hh, Bd.state]; rfl
  have N0 := Fr.nil n0
  refine go_of (A := s₁.setTop (entryFrame m #[(.ref a), (.int (1 : Int32))] 3)) (B := s₁.setTop (mkF m 0 #[.val (.ref a), .val (.int (1 : Int32)), .unset] [])) (fun _ kk' => castTop (ef_ens_1 m a) kk') ?_
  refine go_of (B := (s₁.setTop (mkF m 1 #[.val (.ref a), .val (.int (1 : Int32)), .unset] [(.ref a)]))) (fun _ kk => XS.aloadN X0.here hx rfl (hb hby d24_0) rfl rfl kk) ?_
  obtain ⟨T1, X1, e1, st1⟩ := getF X0 hx hZ hown (host := "") (Or.inl (wd 101 rfl)) Via.refl e0 Fv_ (g := (mkF m 1 #[.val (.ref a), .val (.int (1 : Int32)), .unset] [(.ref a)])) rfl rfl (hb hby d24_1)
  refine go_of (B := (T1.setTop (mkF m 4 #[.val (.ref a), .val (.int (1 : Int32)), .unset] [(.ref d)]))) (st1) ?_
  obtain ⟨cl2, Ar2, q2, Sz2, Nn2, Hh2, G2⟩ := id (V)
  have ln2 := len_of Sz2 Nn2
  refine go_of (B := (T1.setTop (mkF m 5 #[.val (.ref a), .val (.int (1 : Int32)), .unset] [(.int (16 : Int32))]))) (fun _ kk => X1.arraylength hx (by rw [e1]; exact Ar2.1) (State.isArrayOf_alike hZ.alike Ar2.2.1) (g := (mkF m 4 #[.val (.ref a), .val (.int (1 : Int32)), .unset] [(.ref d)])) rfl rfl (hb hby d24_4) _ (by rw [ln2]; exact kk)) ?_
  refine go_of (B := (T1.setTop (mkF m 6 #[.val (.ref a), .val (.int (1 : Int32)), .unset] [(.ref a), (.int (16 : Int32))]))) (fun _ kk => XS.aloadN X1.here hx rfl (hb hby d24_5) rfl rfl kk) ?_
  obtain ⟨T3, X3, e3, st3⟩ := getF X1 hx hZ hown (host := "") (Or.inl (wd 103 rfl)) Via.refl e1 Fc_ (g := (mkF m 6 #[.val (.ref a), .val (.int (1 : Int32)), .unset] [(.ref a), (.int (16 : Int32))])) rfl rfl (hb hby d24_6)
  refine go_of (B := (T3.setTop (mkF m 9 #[.val (.ref a), .val (.int (1 : Int32)), .unset] [(.int (0 : Int32)), (.int (16 : Int32))]))) (st3) ?_
  refine go_of (B := (T3.setTop (mkF m 38 #[.val (.ref a), .val (.int (1 : Int32)), .val (.int (16 : Int32))] []))) (fun _ kk => XS.ishr X3.here hx rfl (hb hby d24_9) rfl (XS.istoreN X3.here hx rfl (hb hby d24_10) rfl rfl (XS.iloadN X3.here hx rfl (hb hby d24_11) rfl (XS.iloadN X3.here hx rfl (hb hby d24_12) rfl (XS.isub X3.here hx rfl (hb hby d24_13) rfl (XS.ifYes X3.here hx rfl (pc0 := 14) (pc' := 38) rfl (hb hby d24_14) rfl ((if0 _ _).trans (flt (by decide : ¬ ((0 : Int32) < (-15 : Int32)))).2.2.2) (by decide) (by decide) kk)))))) ?_
  refine go_end X3 (v := none) (fun _ => rfl) Bd.notSynchronized (by decide) (by decide) (Q := (Q_ens_1 Z a d kd bs h0 n0)) ?_ (fun fs hr => X3.returnOut hx Bd.returns (hb hby d24_38) hr)
  unfold Q_ens_1
  try rw [e3]
  exact ⟨rfl, N0, rfl⟩
def Q_ens_2 (Z : State) (a : Addr) (d : Addr) (kd : ClassId) (bs : List Value) (h0 : Heap) (n0 : Nat) (v : Option Value) (h : Heap) (L : List Loc) : Prop := v = none ∧ Fr n0 L ∧ h = h0
theorem ef_ens_2 (m : MethodId) (a : Addr)  : entryFrame m #[(.ref a), (.int (2 : Int32))] 3 = mkF m 0 #[.val (.ref a), .val (.int (2 : Int32)), .unset] [] := by first | (simp [entryFrame, mkF, argsToLocals, Value.category]; done) | rfl
theorem ens_2 (l : Launch) (Z : State) (a0 : Array Value) (hw : TW a0 Z) (ws : List Jvm.Cond) (a : Addr) (d : Addr) (kd : ClassId) (bs : List Value) (h0 : Heap) (n0 : Nat) (Z0 : n0 ≤ h0.size) (Fv_ : Fld Z h0 a "java/lang/AbstractStringBuilder" "value" "[B" (.ref d)) (Fc_ : Fld Z h0 a "java/lang/AbstractStringBuilder" "coder" "B" (.int 0)) (V : Arv Z h0 d kd .byte 16 bs (.int 0)) :
    own_MF l Z MN4 jdk_68_method_9_code 3 none ws (own_R 0 0 0 0) #[(.ref a), (.int (2 : Int32))] h0 (Q_ens_2 Z a d kd bs h0 n0) := by
  have wd := @own_wd _ _ hw
  refine MetFree.of_bodySF (plainFor_of_name pn_java_lang_AbstractStringBuilder) hisR ?_
  intro p e s m args below meth c s₁ Bd hml0 hP hK
  obtain ⟨rfl, hZ, hh⟩ := hP
  have hx := Bd.exec
  have hby := Bd.bytes
  have hml : c.maxLocals = 3 := hml0
  have hown : s.vm.findClass "java/lang/AbstractStringBuilder" = some m.cls := findClass_of_methodNamed Bd.named
  have hnm := (name_of_methodNamed Bd.named Bd.method).1
  have X0 : Stand p l e (own_R 0 0 0 0) s m #[(.ref a), (.int (2 : Int32))] below meth c s₁ [] 0 0 := Stand.of_body Bd
  have e0 : s₁.heap = h0 := by rw [← hh, Bd.state]; rfl
  have N0 := Fr.nil n0
  refine go_of (A := s₁.setTop (entryFrame m #[(.ref a), (.int (2 : Int32))] 3)) (B := s₁.setTop (mkF m 0 #[.val (.ref a), .val (.int (2 : Int32)), .unset] [])) (fun _ kk' => castTop (ef_ens_2 m a) kk') ?_
  refine go_of (B := (s₁.setTop (mkF m 1 #[.val (.ref a), .val (.int (2 : Int32)), .unset] [(.ref a)]))) (fun _ kk => XS.aloadN X0.here hx rfl (hb hby d24_0) rfl rfl kk) ?_
  obtain ⟨T1, X1, e1, st1⟩ := getF X0 hx hZ hown (host := "") (Or.inl (wd 101 rfl)) Via.refl e0 Fv_ (g := (mkF m 1 #[.val (.ref a), .val (.int (2 : Int32)), .unset] [(.ref a)])) rfl rfl (hb hby d24_1)
  refine go_of (B := (T1.setTop (mkF m 4 #[.val (.ref a), .val (.int (2 : Int32)), .unset] [(.ref d)]))) (st1) ?_
  obtain ⟨cl2, Ar2, q2, Sz2, Nn2, Hh2, G2⟩ := id (V)
  have ln2 := len_of Sz2 Nn2
  refine go_of (B := (T1.setTop (mkF m 5 #[.val (.ref a), .val (.int (2 : Int32)), .unset] [(.int (16 : Int32))]))) (fun _ kk => X1.arraylength hx (by rw [e1]; exact Ar2.1) (State.isArrayOf_alike hZ.alike Ar2.2.1) (g := (mkF m 4 #[.val (.ref a), .val (.int (2 : Int32)), .unset] [(.ref d)])) rfl rfl (hb hby d24_4) _ (by rw [ln2]; exact kk)) ?_
  refine go_of (B := (T1.setTop (mkF m 6 #[.val (.ref a), .val (.int (2 : Int32)), .unset] [(.ref a), (.int (16 : Int32))]))) (fun _ kk => XS.aloadN X1.here hx rfl (hb hby d24_5) rfl rfl kk) ?_
  obtain ⟨T3, X3, e3, st3⟩ := getF X1 hx hZ hown (host := "") (Or.inl (wd 103 rfl)) Via.refl e1 Fc_ (g := (mkF m 6 #[.val (.ref a), .val (.int (2 : Int32)), .unset] [(.ref a), (.int (16 : Int32))])) rfl rfl (hb hby d24_6)
  refine go_of (B := (T3.setTop (mkF m 9 #[.val (.ref a), .val (.int (2 : Int32)), .unset] [(.int (0 : Int32)), (.int (16 : Int32))]))) (st3) ?_
  refine go_of (B := (T3.setTop (mkF m 38 #[.val (.ref a), .val (.int (2 : Int32)), .val (.int (16 : Int32))] []))) (fun _ kk => XS.ishr X3.here hx rfl (hb hby d24_9) rfl (XS.istoreN X3.here hx rfl (hb hby d24_10) rfl rfl (XS.iloadN X3.here hx rfl (hb hby d24_11) rfl (XS.iloadN X3.here hx rfl (hb hby d24_12) rfl (XS.isub X3.here hx rfl (hb hby d24_13) rfl (XS.ifYes X3.here hx rfl (pc0 := 14) (pc' := 38) rfl (hb hby d24_14) rfl ((if0 _ _).trans (flt (by decide : ¬ ((0 : Int32) < (-14 : Int32)))).2.2.2) (by decide) (by decide) kk)))))) ?_
  refine go_end X3 (v := none) (fun _ => rfl) Bd.notSynchronized (by decide) (by decide) (Q := (Q_ens_2 Z a d kd bs h0 n0)) ?_ (fun fs hr => X3.returnOut hx Bd.returns (hb hby d24_38) hr)
  unfold Q_ens_2
  try rw [e3]
  exact ⟨rfl, N0, rfl⟩
def Q_ens_3 (Z : State) (a : Addr) (d : Addr) (kd : ClassId) (bs : List Value) (h0 : Heap) (n0 : Nat) (v : Option Value) (h : Heap) (L : List Loc) : Prop := v = none ∧ Fr n0 L ∧ h = h0
theorem ef_ens_3 (m : MethodId) (a : Addr)  : entryFrame m #[(.ref a), (.int (3 : Int32))] 3 = mkF m 0 #[.val (.ref a), .val (.int (3 : Int32)), .unset] [] := by first | (simp [entryFrame, mkF, argsToLocals, Value.category]; done) | rfl
theorem ens_3 (l : Launch) (Z : State) (a0 : Array Value) (hw : TW a0 Z) (ws : List Jvm.Cond) (a : Addr) (d : Addr) (kd : ClassId) (bs : List Value) (h0 : Heap) (n0 : Nat) (Z0 : n0 ≤ h0.size) (Fv_ : Fld Z h0 a "java/lang/AbstractStringBuilder" "value" "[B" (.ref d)) (Fc_ : Fld Z h0 a "java/lang/AbstractStringBuilder" "coder" "B" (.int 0)) (V : Arv Z h0 d kd .byte 16 bs (.int 0)) :
    own_MF l Z MN4 jdk_68_method_9_code 3 none ws (own_R 0 0 0 0) #[(.ref a), (.int (3 : Int32))] h0 (Q_ens_3 Z a d kd bs h0 n0) := by
  have wd := @own_wd _ _ hw
  refine MetFree.of_bodySF (plainFor_of_name pn_java_lang_AbstractStringBuilder) hisR ?_
  intro p e s m args below meth c s₁ Bd hml0 hP hK
  obtain ⟨rfl, hZ, hh⟩ := hP
  have hx := Bd.exec
  have hby := Bd.bytes
  have hml : c.maxLocals = 3 := hml0
  have hown : s.vm.findClass "java/lang/AbstractStringBuilder" = some m.cls := findClass_of_methodNamed Bd.named
  have hnm := (name_of_methodNamed Bd.named Bd.method).1
  have X0 : Stand p l e (own_R 0 0 0 0) s m #[(.ref a), (.int (3 : Int32))] below meth c s₁ [] 0 0 := Stand.of_body Bd
  have e0 : s₁.heap = h0 := by rw [← hh, Bd.state]; rfl
  have N0 := Fr.nil n0
  refine go_of (A := s₁.setTop (entryFrame m #[(.ref a), (.int (3 : Int32))] 3)) (B := s₁.setTop (mkF m 0 #[.val (.ref a), .val (.int (3 : Int32)), .unset] [])) (fun _ kk' => castTop (ef_ens_3 m a) kk') ?_
  refine go_of (B := (s₁.setTop (mkF m 1 #[.val (.ref a), .val (.int (3 : Int32)), .unset] [(.ref a)]))) (fun _ kk => XS.aloadN X0.here hx rfl (hb hby d24_0) rfl rfl kk) ?_
  obtain ⟨T1, X1, e1, st1⟩ := getF X0 hx hZ hown (host := "") (Or.inl (wd 101 rfl)) Via.refl e0 Fv_ (g := (mkF m 1 #[.val (.ref a), .val (.int (3 : Int32)), .unset] [(.ref a)])) rfl rfl (hb hby d24_1)
  refine go_of (B := (T1.setTop (mkF m 4 #[.val (.ref a), .val (.int (3 : Int32)), .unset] [(.ref d)]))) (st1) ?_
  obtain ⟨cl2, Ar2, q2, Sz2, Nn2, Hh2, G2⟩ := id (V)
  have ln2 := len_of Sz2 Nn2
  refine go_of (B := (T1.setTop (mkF m 5 #[.val (.ref a), .val (.int (3 : Int32)), .unset] [(.int (16 : Int32))]))) (fun _ kk => X1.arraylength hx (by rw [e1]; exact Ar2.1) (State.isArrayOf_alike hZ.alike Ar2.2.1) (g := (mkF m 4 #[.val (.ref a), .val (.int (3 : Int32)), .unset] [(.ref d)])) rfl rfl (hb hby d24_4) _ (by rw [ln2]; exact kk)) ?_
  refine go_of (B := (T1.setTop (mkF m 6 #[.val (.ref a), .val (.int (3 : Int32)), .unset] [(.ref a), (.int (16 : Int32))]))) (fun _ kk => XS.aloadN X1.here hx rfl (hb hby d24_5) rfl rfl kk) ?_
  obtain ⟨T3, X3, e3, st3⟩ := getF X1 hx hZ hown (host := "") (Or.inl (wd 103 rfl)) Via.refl e1 Fc_ (g := (mkF m 6 #[.val (.ref a), .val (.int (3 : Int32)), .unset] [(.ref a), (.int (16 : Int32))])) rfl rfl (hb hby d24_6)
  refine go_of (B := (T3.setTop (mkF m 9 #[.val (.ref a), .val (.int (3 : Int32)), .unset] [(.int (0 : Int32)), (.int (16 : Int32))]))) (st3) ?_
  refine go_of (B := (T3.setTop (mkF m 38 #[.val (.ref a), .val (.int (3 : Int32)), .val (.int (16 : Int32))] []))) (fun _ kk => XS.ishr X3.here hx rfl (hb hby d24_9) rfl (XS.istoreN X3.here hx rfl (hb hby d24_10) rfl rfl (XS.iloadN X3.here hx rfl (hb hby d24_11) rfl (XS.iloadN X3.here hx rfl (hb hby d24_12) rfl (XS.isub X3.here hx rfl (hb hby d24_13) rfl (XS.ifYes X3.here hx rfl (pc0 := 14) (pc' := 38) rfl (hb hby d24_14) rfl ((if0 _ _).trans (flt (by decide : ¬ ((0 : Int32) < (-13 : Int32)))).2.2.2) (by decide) (by decide) kk)))))) ?_
  refine go_end X3 (v := none) (fun _ => rfl) Bd.notSynchronized (by decide) (by decide) (Q := (Q_ens_3 Z a d kd bs h0 n0)) ?_ (fun fs hr => X3.returnOut hx Bd.returns (hb hby d24_38) hr)
  unfold Q_ens_3
  try rw [e3]
  exact ⟨rfl, N0, rfl⟩
def Q_ens_4 (Z : State) (a : Addr) (d : Addr) (kd : ClassId) (bs : List Value) (h0 : Heap) (n0 : Nat) (v : Option Value) (h : Heap) (L : List Loc) : Prop := v = none ∧ Fr n0 L ∧ h = h0
theorem ef_ens_4 (m : MethodId) (a : Addr)  : entryFrame m #[(.ref a), (.int (4 : Int32))] 3 = mkF m 0 #[.val (.ref a), .val (.int (4 : Int32)), .unset] [] := by first | (simp [entryFrame, mkF, argsToLocals, Value.category]; done) | rfl
theorem ens_4 (l : Launch) (Z : State) (a0 : Array Value) (hw : TW a0 Z) (ws : List Jvm.Cond) (a : Addr) (d : Addr) (kd : ClassId) (bs : List Value) (h0 : Heap) (n0 : Nat) (Z0 : n0 ≤ h0.size) (Fv_ : Fld Z h0 a "java/lang/AbstractStringBuilder" "value" "[B" (.ref d)) (Fc_ : Fld Z h0 a "java/lang/AbstractStringBuilder" "coder" "B" (.int 0)) (V : Arv Z h0 d kd .byte 16 bs (.int 0)) :
    own_MF l Z MN4 jdk_68_method_9_code 3 none ws (own_R 0 0 0 0) #[(.ref a), (.int (4 : Int32))] h0 (Q_ens_4 Z a d kd bs h0 n0) := by
  have wd := @own_wd _ _ hw
  refine MetFree.of_bodySF (plainFor_of_name pn_java_lang_AbstractStringBuilder) hisR ?_
  intro p e s m args below meth c s₁ Bd hml0 hP hK
  obtain ⟨rfl, hZ, hh⟩ := hP
  have hx := Bd.exec
  have hby := Bd.bytes
  have hml : c.maxLocals = 3 := hml0
  have hown : s.vm.findClass "java/lang/AbstractStringBuilder" = some m.cls := findClass_of_methodNamed Bd.named
  have hnm := (name_of_methodNamed Bd.named Bd.method).1
  have X0 : Stand p l e (own_R 0 0 0 0) s m #[(.ref a), (.int (4 : Int32))] below meth c s₁ [] 0 0 := Stand.of_body Bd
  have e0 : s₁.heap = h0 := by rw [← hh, Bd.state]; rfl
  have N0 := Fr.nil n0
  refine go_of (A := s₁.setTop (entryFrame m #[(.ref a), (.int (4 : Int32))] 3)) (B := s₁.setTop (mkF m 0 #[.val (.ref a), .val (.int (4 : Int32)), .unset] [])) (fun _ kk' => castTop (ef_ens_4 m a) kk') ?_
  refine go_of (B := (s₁.setTop (mkF m 1 #[.val (.ref a), .val (.int (4 : Int32)), .unset] [(.ref a)]))) (fun _ kk => XS.aloadN X0.here hx rfl (hb hby d24_0) rfl rfl kk) ?_
  obtain ⟨T1, X1, e1, st1⟩ := getF X0 hx hZ hown (host := "") (Or.inl (wd 101 rfl)) Via.refl e0 Fv_ (g := (mkF m 1 #[.val (.ref a), .val (.int (4 : Int32)), .unset] [(.ref a)])) rfl rfl (hb hby d24_1)
  refine go_of (B := (T1.setTop (mkF m 4 #[.val (.ref a), .val (.int (4 : Int32)), .unset] [(.ref d)]))) (st1) ?_
  obtain ⟨cl2, Ar2, q2, Sz2, Nn2, Hh2, G2⟩ := id (V)
  have ln2 := len_of Sz2 Nn2
  refine go_of (B := (T1.setTop (mkF m 5 #[.val (.ref a), .val (.int (4 : Int32)), .unset] [(.int (16 : Int32))]))) (fun _ kk => X1.arraylength hx (by rw [e1]; exact Ar2.1) (State.isArrayOf_alike hZ.alike Ar2.2.1) (g := (mkF m 4 #[.val (.ref a), .val (.int (4 : Int32)), .unset] [(.ref d)])) rfl rfl (hb hby d24_4) _ (by rw [ln2]; exact kk)) ?_
  refine go_of (B := (T1.setTop (mkF m 6 #[.val (.ref a), .val (.int (4 : Int32)), .unset] [(.ref a), (.int (16 : Int32))]))) (fun _ kk => XS.aloadN X1.here hx rfl (hb hby d24_5) rfl rfl kk) ?_
  obtain ⟨T3, X3, e3, st3⟩ := getF X1 hx hZ hown (host := "") (Or.inl (wd 103 rfl)) Via.refl e1 Fc_ (g := (mkF m 6 #[.val (.ref a), .val (.int (4 : Int32)), .unset] [(.ref a), (.int (16 : Int32))])) rfl rfl (hb hby d24_6)
  refine go_of (B := (T3.setTop (mkF m 9 #[.val (.ref a), .val (.int (4 : Int32)), .unset] [(.int (0 : Int32)), (.int (16 : Int32))]))) (st3) ?_
  refine go_of (B := (T3.setTop (mkF m 38 #[.val (.ref a), .val (.int (4 : Int32)), .val (.int (16 : Int32))] []))) (fun _ kk => XS.ishr X3.here hx rfl (hb hby d24_9) rfl (XS.istoreN X3.here hx rfl (hb hby d24_10) rfl rfl (XS.iloadN X3.here hx rfl (hb hby d24_11) rfl (XS.iloadN X3.here hx rfl (hb hby d24_12) rfl (XS.isub X3.here hx rfl (hb hby d24_13) rfl (XS.ifYes X3.here hx rfl (pc0 := 14) (pc' := 38) rfl (hb hby d24_14) rfl ((if0 _ _).trans (flt (by decide : ¬ ((0 : Int32) < (-12 : Int32)))).2.2.2) (by decide) (by decide) kk)))))) ?_
  refine go_end X3 (v := none) (fun _ => rfl) Bd.notSynchronized (by decide) (by decide) (Q := (Q_ens_4 Z a d kd bs h0 n0)) ?_ (fun fs hr => X3.returnOut hx Bd.returns (hb hby d24_38) hr)
  unfold Q_ens_4
  try rw [e3]
  exact ⟨rfl, N0, rfl⟩
def Q_ens_5 (Z : State) (a : Addr) (d : Addr) (kd : ClassId) (bs : List Value) (h0 : Heap) (n0 : Nat) (v : Option Value) (h : Heap) (L : List Loc) : Prop := v = none ∧ Fr n0 L ∧ h = h0
theorem ef_ens_5 (m : MethodId) (a : Addr)  : entryFrame m #[(.ref a), (.int (5 : Int32))] 3 = mkF m 0 #[.val (.ref a), .val (.int (5 : Int32)), .unset] [] := by first | (simp [entryFrame, mkF, argsToLocals, Value.category]; done) | rfl
theorem ens_5 (l : Launch) (Z : State) (a0 : Array Value) (hw : TW a0 Z) (ws : List Jvm.Cond) (a : Addr) (d : Addr) (kd : ClassId) (bs : List Value) (h0 : Heap) (n0 : Nat) (Z0 : n0 ≤ h0.size) (Fv_ : Fld Z h0 a "java/lang/AbstractStringBuilder" "value" "[B" (.ref d)) (Fc_ : Fld Z h0 a "java/lang/AbstractStringBuilder" "coder" "B" (.int 0)) (V : Arv Z h0 d kd .byte 16 bs (.int 0)) :
    own_MF l Z MN4 jdk_68_method_9_code 3 none ws (own_R 0 0 0 0) #[(.ref a), (.int (5 : Int32))] h0 (Q_ens_5 Z a d kd bs h0 n0) := by
  have wd := @own_wd _ _ hw
  refine MetFree.of_bodySF (plainFor_of_name pn_java_lang_AbstractStringBuilder) hisR ?_
  intro p e s m args below meth c s₁ Bd hml0 hP hK
  obtain ⟨rfl, hZ, hh⟩ := hP
  have hx := Bd.exec
  have hby := Bd.bytes
  have hml : c.maxLocals = 3 := hml0
  have hown : s.vm.findClass "java/lang/AbstractStringBuilder" = some m.cls := findClass_of_methodNamed Bd.named
  have hnm := (name_of_methodNamed Bd.named Bd.method).1
  have X0 : Stand p l e (own_R 0 0 0 0) s m #[(.ref a), (.int (5 : Int32))] below meth c s₁ [] 0 0 := Stand.of_body Bd
  have e0 : s₁.heap = h0 := by rw [← hh, Bd.state]; rfl
  have N0 := Fr.nil n0
  refine go_of (A := s₁.setTop (entryFrame m #[(.ref a), (.int (5 : Int32))] 3)) (B := s₁.setTop (mkF m 0 #[.val (.ref a), .val (.int (5 : Int32)), .unset] [])) (fun _ kk' => castTop (ef_ens_5 m a) kk') ?_
  refine go_of (B := (s₁.setTop (mkF m 1 #[.val (.ref a), .val (.int (5 : Int32)), .unset] [(.ref a)]))) (fun _ kk => XS.aloadN X0.here hx rfl (hb hby d24_0) rfl rfl kk) ?_
  obtain ⟨T1, X1, e1, st1⟩ := getF X0 hx hZ hown (host := "") (Or.inl (wd 101 rfl)) Via.refl e0 Fv_ (g := (mkF m 1 #[.val (.ref a), .val (.int (5 : Int32)), .unset] [(.ref a)])) rfl rfl (hb hby d24_1)
  refine go_of (B := (T1.setTop (mkF m 4 #[.val (.ref a), .val (.int (5 : Int32)), .unset] [(.ref d)]))) (st1) ?_
  obtain ⟨cl2, Ar2, q2, Sz2, Nn2, Hh2, G2⟩ := id (V)
  have ln2 := len_of Sz2 Nn2
  refine go_of (B := (T1.setTop (mkF m 5 #[.val (.ref a), .val (.int (5 : Int32)), .unset] [(.int (16 : Int32))]))) (fun _ kk => X1.arraylength hx (by rw [e1]; exact Ar2.1) (State.isArrayOf_alike hZ.alike Ar2.2.1) (g := (mkF m 4 #[.val (.ref a), .val (.int (5 : Int32)), .unset] [(.ref d)])) rfl rfl (hb hby d24_4) _ (by rw [ln2]; exact kk)) ?_
  refine go_of (B := (T1.setTop (mkF m 6 #[.val (.ref a), .val (.int (5 : Int32)), .unset] [(.ref a), (.int (16 : Int32))]))) (fun _ kk => XS.aloadN X1.here hx rfl (hb hby d24_5) rfl rfl kk) ?_
  obtain ⟨T3, X3, e3, st3⟩ := getF X1 hx hZ hown (host := "") (Or.inl (wd 103 rfl)) Via.refl e1 Fc_ (g := (mkF m 6 #[.val (.ref a), .val (.int (5 : Int32)), .unset] [(.ref a), (.int (16 : Int32))])) rfl rfl (hb hby d24_6)
  refine go_of (B := (T3.setTop (mkF m 9 #[.val (.ref a), .val (.int (5 : Int32)), .unset] [(.int (0 : Int32)), (.int (16 : Int32))]))) (st3) ?_
  refine go_of (B := (T3.setTop (mkF m 38 #[.val (.ref a), .val (.int (5 : Int32)), .val (.int (16 : Int32))] []))) (fun _ kk => XS.ishr X3.here hx rfl (hb hby d24_9) rfl (XS.istoreN X3.here hx rfl (hb hby d24_10) rfl rfl (XS.iloadN X3.here hx rfl (hb hby d24_11) rfl (XS.iloadN X3.here hx rfl (hb hby d24_12) rfl (XS.isub X3.here hx rfl (hb hby d24_13) rfl (XS.ifYes X3.here hx rfl (pc0 := 14) (pc' := 38) rfl (hb hby d24_14) rfl ((if0 _ _).trans (flt (by decide : ¬ ((0 : Int32) < (-11 : Int32)))).2.2.2) (by decide) (by decide) kk)))))) ?_
  refine go_end X3 (v := none) (fun _ => rfl) Bd.notSynchronized (by decide) (by decide) (Q := (Q_ens_5 Z a d kd bs h0 n0)) ?_ (fun fs hr => X3.returnOut hx Bd.returns (hb hby d24_38) hr)
  unfold Q_ens_5
  try rw [e3]
  exact ⟨rfl, N0, rfl⟩
def Q_ens_6 (Z : State) (a : Addr) (d : Addr) (kd : ClassId) (bs : List Value) (h0 : Heap) (n0 : Nat) (v : Option Value) (h : Heap) (L : List Loc) : Prop := v = none ∧ Fr n0 L ∧ h = h0
theorem ef_ens_6 (m : MethodId) (a : Addr)  : entryFrame m #[(.ref a), (.int (6 : Int32))] 3 = mkF m 0 #[.val (.ref a), .val (.int (6 : Int32)), .unset] [] := by first | (simp [entryFrame, mkF, argsToLocals, Value.category]; done) | rfl
theorem ens_6 (l : Launch) (Z : State) (a0 : Array Value) (hw : TW a0 Z) (ws : List Jvm.Cond) (a : Addr) (d : Addr) (kd : ClassId) (bs : List Value) (h0 : Heap) (n0 : Nat) (Z0 : n0 ≤ h0.size) (Fv_ : Fld Z h0 a "java/lang/AbstractStringBuilder" "value" "[B" (.ref d)) (Fc_ : Fld Z h0 a "java/lang/AbstractStringBuilder" "coder" "B" (.int 0)) (V : Arv Z h0 d kd .byte 16 bs (.int 0)) :
    own_MF l Z MN4 jdk_68_method_9_code 3 none ws (own_R 0 0 0 0) #[(.ref a), (.int (6 : Int32))] h0 (Q_ens_6 Z a d kd bs h0 n0) := by
  have wd := @own_wd _ _ hw
  refine MetFree.of_bodySF (plainFor_of_name pn_java_lang_AbstractStringBuilder) hisR ?_
  intro p e s m args below meth c s₁ Bd hml0 hP hK
  obtain ⟨rfl, hZ, hh⟩ := hP
  have hx := Bd.exec
  have hby := Bd.bytes
  have hml : c.maxLocals = 3 := hml0
  have hown : s.vm.findClass "java/lang/AbstractStringBuilder" = some m.cls := findClass_of_methodNamed Bd.named
  have hnm := (name_of_methodNamed Bd.named Bd.method).1
  have X0 : Stand p l e (own_R 0 0 0 0) s m #[(.ref a), (.int (6 : Int32))] below meth c s₁ [] 0 0 := Stand.of_body Bd
  have e0 : s₁.heap = h0 := by rw [← hh, Bd.state]; rfl
  have N0 := Fr.nil n0
  refine go_of (A := s₁.setTop (entryFrame m #[(.ref a), (.int (6 : Int32))] 3)) (B := s₁.setTop (mkF m 0 #[.val (.ref a), .val (.int (6 : Int32)), .unset] [])) (fun _ kk' => castTop (ef_ens_6 m a) kk') ?_
  refine go_of (B := (s₁.setTop (mkF m 1 #[.val (.ref a), .val (.int (6 : Int32)), .unset] [(.ref a)]))) (fun _ kk => XS.aloadN X0.here hx rfl (hb hby d24_0) rfl rfl kk) ?_
  obtain ⟨T1, X1, e1, st1⟩ := getF X0 hx hZ hown (host := "") (Or.inl (wd 101 rfl)) Via.refl e0 Fv_ (g := (mkF m 1 #[.val (.ref a), .val (.int (6 : Int32)), .unset] [(.ref a)])) rfl rfl (hb hby d24_1)
  refine go_of (B := (T1.setTop (mkF m 4 #[.val (.ref a), .val (.int (6 : Int32)), .unset] [(.ref d)]))) (st1) ?_
  obtain ⟨cl2, Ar2, q2, Sz2, Nn2, Hh2, G2⟩ := id (V)
  have ln2 := len_of Sz2 Nn2
  refine go_of (B := (T1.setTop (mkF m 5 #[.val (.ref a), .val (.int (6 : Int32)), .unset] [(.int (16 : Int32))]))) (fun _ kk => X1.arraylength hx (by rw [e1]; exact Ar2.1) (State.isArrayOf_alike hZ.alike Ar2.2.1) (g := (mkF m 4 #[.val (.ref a), .val (.int (6 : Int32)), .unset] [(.ref d)])) rfl rfl (hb hby d24_4) _ (by rw [ln2]; exact kk)) ?_
  refine go_of (B := (T1.setTop (mkF m 6 #[.val (.ref a), .val (.int (6 : Int32)), .unset] [(.ref a), (.int (16 : Int32))]))) (fun _ kk => XS.aloadN X1.here hx rfl (hb hby d24_5) rfl rfl kk) ?_
  obtain ⟨T3, X3, e3, st3⟩ := getF X1 hx hZ hown (host := "") (Or.inl (wd 103 rfl)) Via.refl e1 Fc_ (g := (mkF m 6 #[.val (.ref a), .val (.int (6 : Int32)), .unset] [(.ref a), (.int (16 : Int32))])) rfl rfl (hb hby d24_6)
  refine go_of (B := (T3.setTop (mkF m 9 #[.val (.ref a), .val (.int (6 : Int32)), .unset] [(.int (0 : Int32)), (.int (16 : Int32))]))) (st3) ?_
  refine go_of (B := (T3.setTop (mkF m 38 #[.val (.ref a), .val (.int (6 : Int32)), .val (.int (16 : Int32))] []))) (fun _ kk => XS.ishr X3.here hx rfl (hb hby d24_9) rfl (XS.istoreN X3.here hx rfl (hb hby d24_10) rfl rfl (XS.iloadN X3.here hx rfl (hb hby d24_11) rfl (XS.iloadN X3.here hx rfl (hb hby d24_12) rfl (XS.isub X3.here hx rfl (hb hby d24_13) rfl (XS.ifYes X3.here hx rfl (pc0 := 14) (pc' := 38) rfl (hb hby d24_14) rfl ((if0 _ _).trans (flt (by decide : ¬ ((0 : Int32) < (-10 : Int32)))).2.2.2) (by decide) (by decide) kk)))))) ?_
  refine go_end X3 (v := none) (fun _ => rfl) Bd.notSynchronized (by decide) (by decide) (Q := (Q_ens_6 Z a d kd bs h0 n0)) ?_ (fun fs hr => X3.returnOut hx Bd.returns (hb hby d24_38) hr)
  unfold Q_ens_6
  try rw [e3]
  exact ⟨rfl, N0, rfl⟩
theorem d26_0 : decode jdk_68_method_71_code 0 = .ok (.getstatic 18, 3) := by decide +kernel
theorem d26_3 : decode jdk_68_method_71_code 3 = .ok (.ifCond .eq 18, 3) := by decide +kernel
theorem d26_6 : decode jdk_68_method_71_code 6 = .ok (.aload_n 0, 1) := by decide +kernel
theorem d26_7 : decode jdk_68_method_71_code 7 = .ok (.getfield 22, 3) := by decide +kernel
theorem d26_10 : decode jdk_68_method_71_code 10 = .ok (.aload_n 1, 1) := by decide +kernel
theorem d26_11 : decode jdk_68_method_71_code 11 = .ok (.invokevirtual 40, 3) := by decide +kernel
theorem d26_14 : decode jdk_68_method_71_code 14 = .ok (.if_icmp .eq 7, 3) := by decide +kernel
theorem d26_21 : decode jdk_68_method_71_code 21 = .ok (.return_, 1) := by decide +kernel
def Q_infl (Z : State) (a : Addr) (sy : Addr) (gC : Int32) (h0 : Heap) (n0 : Nat) (v : Option Value) (h : Heap) (L : List Loc) : Prop := v = none ∧ Fr n0 L ∧ h = h0
theorem ef_infl (m : MethodId) (a : Addr) (sy : Addr)  : entryFrame m #[(.ref a), (.ref sy)] 2 = mkF m 0 #[.val (.ref a), .val (.ref sy)] [] := by first | (simp [entryFrame, mkF, argsToLocals, Value.category]; done) | rfl
theorem infl (l : Launch) (Z : State) (a0 : Array Value) (hw : TW a0 Z) (ws : List Jvm.Cond) (a : Addr) (sy : Addr) (gC : Int32) (h0 : Heap) (n0 : Nat) (Z0 : n0 ≤ h0.size) (O : Old Z n0 h0) (SC : Sta Z Z.heap "java/lang/String" "COMPACT_STRINGS" "Z" (.int gC)) (hgC : ¬ gC = (0 : Int32)) (Fc_ : Fld Z h0 a "java/lang/AbstractStringBuilder" "coder" "B" (.int 0)) (Ey : Exa Z h0 sy "java/lang/String") (Fcy : Fld Z h0 sy "java/lang/String" "coder" "B" (.int 0)) :
    own_MF l Z MN6 jdk_68_method_71_code 2 none ws (own_R 1 0 0 13) #[(.ref a), (.ref sy)] h0 (Q_infl Z a sy gC h0 n0) := by
  have wd := @own_wd _ _ hw
  refine MetFree.of_bodySF (plainFor_of_name pn_java_lang_AbstractStringBuilder) hisR ?_
  intro p e s m args below meth c s₁ Bd hml0 hP hK
  obtain ⟨rfl, hZ, hh⟩ := hP
  have hx := Bd.exec
  have hby := Bd.bytes
  have hml : c.maxLocals = 2 := hml0
  have hown : s.vm.findClass "java/lang/AbstractStringBuilder" = some m.cls := findClass_of_methodNamed Bd.named
  have hnm := (name_of_methodNamed Bd.named Bd.method).1
  have X0 : Stand p l e (own_R 1 0 0 13) s m #[(.ref a), (.ref sy)] below meth c s₁ [] 0 0 := Stand.of_body Bd
  have e0 : s₁.heap = h0 := by rw [← hh, Bd.state]; rfl
  have N0 := Fr.nil n0
  refine go_of (A := s₁.setTop (entryFrame m #[(.ref a), (.ref sy)] 2)) (B := s₁.setTop (mkF m 0 #[.val (.ref a), .val (.ref sy)] [])) (fun _ kk' => castTop (ef_infl m a sy) kk') ?_
  obtain ⟨T1, X1, e1, st1⟩ := getS2 X0 hx hZ hown (host := "") (Or.inl (wd 100 rfl)) Via.refl e0 (SC.ext O.2) (g := (mkF m 0 #[.val (.ref a), .val (.ref sy)] [])) rfl (hb hby d26_0)
  refine go_of (B := (T1.setTop (mkF m 3 #[.val (.ref a), .val (.ref sy)] [(.int gC)]))) (st1) ?_
  refine go_of (B := (T1.setTop (mkF m 7 #[.val (.ref a), .val (.ref sy)] [(.ref a)]))) (fun _ kk => XS.ifNo X1.here hx rfl (hb hby d26_3) rfl ((if0 _ _).trans (feq hgC).1) (XS.aloadN X1.here hx rfl (hb hby d26_6) rfl rfl kk)) ?_
  obtain ⟨T2, X2, e2, st2⟩ := getF X1 hx hZ hown (host := "") (Or.inl (wd 103 rfl)) Via.refl e1 Fc_ (g := (mkF m 7 #[.val (.ref a), .val (.ref sy)] [(.ref a)])) rfl rfl (hb hby d26_7)
  refine go_of (B := (T2.setTop (mkF m 10 #[.val (.ref a), .val (.ref sy)] [(.int (0 : Int32))]))) (st2) ?_
  refine go_of (B := (T2.setTop (mkF m 11 #[.val (.ref a), .val (.ref sy)] [(.ref sy), (.int (0 : Int32))]))) (fun _ kk => XS.aloadN X2.here hx rfl (hb hby d26_10) rfl rfl kk) ?_
  obtain ⟨cq3, kq3, q3a, q3b, q3c⟩ := isOf hZ e2 Ey
  obtain ⟨_, _, ⟨T3, L3, k3, n3⟩, -, X3, ⟨Lc3, hQ3, l3, y3, z3⟩, st3⟩ := X2.virtualBack hx (y := MN14) (z := MN14) hown (mvT hZ (wd 133 rfl)) (mvT hZ (wd 53 rfl)) (notFace_of_selects (args := #[]) (mvT hZ (wd 55 rfl))) (mvT hZ (wd 55 rfl)) (mvT hZ (wd 54 rfl)) (by decide) (backOf (W := 1) (str_coder l Z a0 hw [] sy gC h0 n0 (by omega) O SC hgC Fcy) hZ (wd 56 rfl) (wd 7 rfl) (by decide) (by decide)) q3a q3c (g := (mkF m 11 #[.val (.ref a), .val (.ref sy)] [(.ref sy), (.int (0 : Int32))])) rfl (by rw [hml]; rfl) (Steps.refl _) (argsL := []) (rest := [(.int (0 : Int32))]) (lenOf pd___B rfl) rfl (by show 2 * 0 + _ ≤ _; exact Nat.le_of_eq rfl) (hb hby d26_11) (fun _ _ => ⟨rfl, e2, (by decide : 0 + 0 ≤ _), (by decide : 0 + 0 ≤ _)⟩)
  dsimp only [Pt.U, Pt.locs, Pt.cells, Pt.slots] at X3 l3 y3 z3 st3 hQ3
  subst l3 y3 z3
  obtain ⟨rfl, N3q, e3⟩ := hQ3
  have N3 := Fr.app N0 N3q
  refine go_tr (B := (T3.setTop (mkF m 14 #[.val (.ref a), .val (.ref sy)] [(.int (0 : Int32)), (.int (0 : Int32))]))) (st3) ?_
  refine go_of (B := (T3.setTop (mkF m 21 #[.val (.ref a), .val (.ref sy)] []))) (fun _ kk => XS.icmpYes X3.here hx rfl (pc0 := 14) (pc' := 21) rfl (hb hby d26_14) rfl (teq (by decide : (0 : Int32) = (0 : Int32))).1 (by decide) (by decide) kk) ?_
  refine go_end X3 (v := none) (fun _ => rfl) Bd.notSynchronized (by decide) (by decide) (Q := (Q_infl Z a sy gC h0 n0)) ?_ (fun fs hr => X3.returnOut hx Bd.returns (hb hby d26_21) hr)
  unfold Q_infl
  try rw [e3]
  exact ⟨rfl, N3, rfl⟩
theorem d27_0 : decode jdk_42_method_147_code 0 = .ok (.aload_n 0, 1) := by decide +kernel
theorem d27_1 : decode jdk_42_method_147_code 1 = .ok (.invokevirtual 335, 3) := by decide +kernel
theorem d27_4 : decode jdk_42_method_147_code 4 = .ok (.iload_n 3, 1) := by decide +kernel
theorem d27_5 : decode jdk_42_method_147_code 5 = .ok (.if_icmp .ne 23, 3) := by decide +kernel
theorem d27_8 : decode jdk_42_method_147_code 8 = .ok (.aload_n 0, 1) := by decide +kernel
theorem d27_9 : decode jdk_42_method_147_code 9 = .ok (.getfield 9, 3) := by decide +kernel
theorem d27_12 : decode jdk_42_method_147_code 12 = .ok (.iconst 0, 1) := by decide +kernel
theorem d27_13 : decode jdk_42_method_147_code 13 = .ok (.aload_n 1, 1) := by decide +kernel
theorem d27_14 : decode jdk_42_method_147_code 14 = .ok (.iload_n 2, 1) := by decide +kernel
theorem d27_15 : decode jdk_42_method_147_code 15 = .ok (.iload_n 3, 1) := by decide +kernel
theorem d27_16 : decode jdk_42_method_147_code 16 = .ok (.ishl, 1) := by decide +kernel
theorem d27_17 : decode jdk_42_method_147_code 17 = .ok (.aload_n 0, 1) := by decide +kernel
theorem d27_18 : decode jdk_42_method_147_code 18 = .ok (.getfield 9, 3) := by decide +kernel
theorem d27_21 : decode jdk_42_method_147_code 21 = .ok (.arraylength, 1) := by decide +kernel
theorem d27_22 : decode jdk_42_method_147_code 22 = .ok (.invokestatic 212, 3) := by decide +kernel
theorem d27_25 : decode jdk_42_method_147_code 25 = .ok (.goto 18, 3) := by decide +kernel
theorem d27_43 : decode jdk_42_method_147_code 43 = .ok (.return_, 1) := by decide +kernel
def Q_gb_0_1 (Z : State) (a : Addr) (d : Addr) (c0 : Int32) (gC : Int32) (kd : ClassId) (h0 : Heap) (n0 : Nat) (v : Option Value) (h : Heap) (L : List Loc) : Prop := v = none ∧ Fr n0 L ∧ Keep h0 h [d] ∧ Arv Z h d kd .byte 16 [(.int (own_b8 c0)), o_, o_, o_, o_, o_, o_, o_, o_, o_, o_, o_, o_, o_, o_, o_] (.int 0)
theorem ef_gb_0_1 (m : MethodId) (a : Addr) (d : Addr)  : entryFrame m #[(.ref a), (.ref d), (.int (0 : Int32)), (.int (0 : Int32))] 4 = mkF m 0 #[.val (.ref a), .val (.ref d), .val (.int (0 : Int32)), .val (.int (0 : Int32))] [] := by first | (simp [entryFrame, mkF, argsToLocals, Value.category]; done) | rfl
theorem gb_0_1 (l : Launch) (Z : State) (a0 : Array Value) (hw : TW a0 Z) (ws : List Jvm.Cond) (a : Addr) (d : Addr) (c0 : Int32) (gC : Int32) (kd : ClassId) (h0 : Heap) (n0 : Nat) (Z0 : n0 ≤ h0.size) (O : Old Z n0 h0) (SC : Sta Z Z.heap "java/lang/String" "COMPACT_STRINGS" "Z" (.int gC)) (hgC : ¬ gC = (0 : Int32)) (S : Str Z h0 a 1 [c0]) (VD : Arv Z h0 d kd .byte 16 [o_, o_, o_, o_, o_, o_, o_, o_, o_, o_, o_, o_, o_, o_, o_, o_] (.int 0)) (gd : n0 ≤ d) :
    own_MF l Z MN15 jdk_42_method_147_code 4 none ws (own_R 1 0 0 18) #[(.ref a), (.ref d), (.int (0 : Int32)), (.int (0 : Int32))] h0 (Q_gb_0_1 Z a d c0 gC kd h0 n0) := by
  have wd := @own_wd _ _ hw
  refine MetFree.of_bodySF (plainFor_of_name pn_java_lang_String) hisR ?_
  intro p e s m args below meth c s₁ Bd hml0 hP hK
  obtain ⟨rfl, hZ, hh⟩ := hP
  have hx := Bd.exec
  have hby := Bd.bytes
  have hml : c.maxLocals = 4 := hml0
  have hown : s.vm.findClass "java/lang/String" = some m.cls := findClass_of_methodNamed Bd.named
  have hnm := (name_of_methodNamed Bd.named Bd.method).1
  have X0 : Stand p l e (own_R 1 0 0 18) s m #[(.ref a), (.ref d), (.int (0 : Int32)), (.int (0 : Int32))] below meth c s₁ [] 0 0 := Stand.of_body Bd
  have e0 : s₁.heap = h0 := by rw [← hh, Bd.state]; rfl
  have N0 := Fr.nil n0
  obtain ⟨t, k, Ea, Fc, Fv, Va, hcs⟩ := S
  have lta := own_nlt (Ea.lt)
  have ltt := own_nlt (Va.lt)
  have ltd := own_nlt (VD.lt)
  refine go_of (A := s₁.setTop (entryFrame m #[(.ref a), (.ref d), (.int (0 : Int32)), (.int (0 : Int32))] 4)) (B := s₁.setTop (mkF m 0 #[.val (.ref a), .val (.ref d), .val (.int (0 : Int32)), .val (.int (0 : Int32))] [])) (fun _ kk' => castTop (ef_gb_0_1 m a d) kk') ?_
  refine go_of (B := (s₁.setTop (mkF m 1 #[.val (.ref a), .val (.ref d), .val (.int (0 : Int32)), .val (.int (0 : Int32))] [(.ref a)]))) (fun _ kk => XS.aloadN X0.here hx rfl (hb hby d27_0) rfl rfl kk) ?_
  obtain ⟨cq1, kq1, q1a, q1b, q1c⟩ := isOf hZ e0 Ea
  obtain ⟨_, _, ⟨T1, L1, k1, n1⟩, -, X1, ⟨Lc1, hQ1, l1, y1, z1⟩, st1⟩ := X0.virtualBack hx (y := MN14) (z := MN14) hown (mvT hZ (wd 52 rfl)) (mvT hZ (wd 53 rfl)) (notFace_of_selects (args := #[]) (mvT hZ (wd 55 rfl))) (mvT hZ (wd 55 rfl)) (mvT hZ (wd 54 rfl)) (by decide) (backOf (W := 0) (str_coder l Z a0 hw [] a gC h0 n0 (by omega) O SC hgC Fc) hZ (wd 56 rfl) (wd 7 rfl) (by decide) (by decide)) q1a q1c (g := (mkF m 1 #[.val (.ref a), .val (.ref d), .val (.int (0 : Int32)), .val (.int (0 : Int32))] [(.ref a)])) rfl (by rw [hml]; rfl) (Steps.refl _) (argsL := []) (rest := []) (lenOf pd___B rfl) rfl (by show 2 * 0 + _ ≤ _; exact Nat.le_of_eq rfl) (hb hby d27_1) (fun _ _ => ⟨rfl, e0, (by decide : 0 + 0 ≤ _), (by decide : 0 + 0 ≤ _)⟩)
  dsimp only [Pt.U, Pt.locs, Pt.cells, Pt.slots] at X1 l1 y1 z1 st1 hQ1
  subst l1 y1 z1
  obtain ⟨rfl, N1q, e1⟩ := hQ1
  have N1 := Fr.app N0 N1q
  refine go_tr (B := (T1.setTop (mkF m 4 #[.val (.ref a), .val (.ref d), .val (.int (0 : Int32)), .val (.int (0 : Int32))] [(.int (0 : Int32))]))) (st1) ?_
  refine go_of (B := (T1.setTop (mkF m 9 #[.val (.ref a), .val (.ref d), .val (.int (0 : Int32)), .val (.int (0 : Int32))] [(.ref a)]))) (fun _ kk => XS.iloadN X1.here hx rfl (hb hby d27_4) rfl (XS.icmpNo X1.here hx rfl (hb hby d27_5) rfl (teq (by decide : (0 : Int32) = (0 : Int32))).2 (XS.aloadN X1.here hx rfl (hb hby d27_8) rfl rfl kk))) ?_
  obtain ⟨T2, X2, e2, st2⟩ := getF X1 hx hZ hown (host := "") (Or.inl (wd 25 rfl)) Via.refl e1 Fv (g := (mkF m 9 #[.val (.ref a), .val (.ref d), .val (.int (0 : Int32)), .val (.int (0 : Int32))] [(.ref a)])) rfl rfl (hb hby d27_9)
  refine go_of (B := (T2.setTop (mkF m 12 #[.val (.ref a), .val (.ref d), .val (.int (0 : Int32)), .val (.int (0 : Int32))] [(.ref t)]))) (st2) ?_
  refine go_of (B := (T2.setTop (mkF m 18 #[.val (.ref a), .val (.ref d), .val (.int (0 : Int32)), .val (.int (0 : Int32))] [(.ref a), (.int (0 : Int32)), (.ref d), (.int (0 : Int32)), (.ref t)]))) (fun _ kk => XS.iconst X2.here hx rfl (hb hby d27_12) (XS.aloadN X2.here hx rfl (hb hby d27_13) rfl rfl (XS.iloadN X2.here hx rfl (hb hby d27_14) rfl (XS.iloadN X2.here hx rfl (hb hby d27_15) rfl (XS.ishl X2.here hx rfl (hb hby d27_16) rfl (XS.aloadN X2.here hx rfl (hb hby d27_17) rfl rfl kk)))))) ?_
  obtain ⟨T3, X3, e3, st3⟩ := getF X2 hx hZ hown (host := "") (Or.inl (wd 25 rfl)) Via.refl e2 Fv (g := (mkF m 18 #[.val (.ref a), .val (.ref d), .val (.int (0 : Int32)), .val (.int (0 : Int32))] [(.ref a), (.int (0 : Int32)), (.ref d), (.int (0 : Int32)), (.ref t)])) rfl rfl (hb hby d27_18)
  refine go_of (B := (T3.setTop (mkF m 21 #[.val (.ref a), .val (.ref d), .val (.int (0 : Int32)), .val (.int (0 : Int32))] [(.ref t), (.int (0 : Int32)), (.ref d), (.int (0 : Int32)), (.ref t)]))) (st3) ?_
  obtain ⟨cl4, Ar4, q4, Sz4, Nn4, Hh4, G4⟩ := id (Va)
  have ln4 := len_of Sz4 Nn4
  refine go_of (B := (T3.setTop (mkF m 22 #[.val (.ref a), .val (.ref d), .val (.int (0 : Int32)), .val (.int (0 : Int32))] [(.int (1 : Int32)), (.int (0 : Int32)), (.ref d), (.int (0 : Int32)), (.ref t)]))) (fun _ kk => X3.arraylength hx (by rw [e3]; exact Ar4.1) (State.isArrayOf_alike hZ.alike Ar4.2.1) (g := (mkF m 21 #[.val (.ref a), .val (.ref d), .val (.int (0 : Int32)), .val (.int (0 : Int32))] [(.ref t), (.int (0 : Int32)), (.ref d), (.int (0 : Int32)), (.ref t)])) rfl rfl (hb hby d27_21) _ (by rw [ln4]; exact kk)) ?_
  obtain ⟨T5, h5, L5, X5, e5, N5, K5, Vq5, st5⟩ := cpA X3 hx hZ hown (wd 139 rfl) (wd 142 rfl) (wd 140 rfl) (wd 141 rfl) e3 Va VD (us := [(.int (own_b8 c0))]) (Or.inl ⟨rfl, rfl⟩) (by decide) (by decide) (by decide) (by decide) (by decide) rfl (Nat.le_of_ble_eq_true rfl) N1 (gd : n0 ≤ d) (g := (mkF m 22 #[.val (.ref a), .val (.ref d), .val (.int (0 : Int32)), .val (.int (0 : Int32))] [(.int (1 : Int32)), (.int (0 : Int32)), (.ref d), (.int (0 : Int32)), (.ref t)])) rfl (by rw [hml]; rfl) rfl (hb hby d27_22) (by decide) (W := 0) (by show 2 * 0 + _ ≤ _; exact Nat.le_of_eq rfl) (by decide)
  have V5 : Arv Z h5 d kd .byte (16 : Int32) [(.int (own_b8 c0)), o_, o_, o_, o_, o_, o_, o_, o_, o_, o_, o_, o_, o_, o_, o_] o_ := Vq5
  have sz5 := K5.1
  refine go_of (B := (T5.setTop (mkF m 25 #[.val (.ref a), .val (.ref d), .val (.int (0 : Int32)), .val (.int (0 : Int32))] []))) (st5) ?_
  refine go_of (B := (T5.setTop (mkF m 43 #[.val (.ref a), .val (.ref d), .val (.int (0 : Int32)), .val (.int (0 : Int32))] []))) (fun _ kk => XS.goto X5.here hx rfl (pc0 := 25) (pc' := 43) rfl (hb hby d27_25) (by decide) (by decide) kk) ?_
  refine go_end X5 (v := none) (fun _ => rfl) Bd.notSynchronized (by decide) (by decide) (Q := (Q_gb_0_1 Z a d c0 gC kd h0 n0)) ?_ (fun fs hr => X5.returnOut hx Bd.returns (hb hby d27_43) hr)
  unfold Q_gb_0_1
  try rw [e5]
  exact ⟨rfl, N5, ((Keep.refl h0 [d]).trans K5 (allS (Or.inl (List.mem_of_getElem? (i := 0) rfl)) all0)), V5⟩
theorem d25_0 : decode jdk_68_method_73_code 0 = .ok (.aload_n 0, 1) := by decide +kernel
theorem d25_1 : decode jdk_68_method_73_code 1 = .ok (.aload_n 2, 1) := by decide +kernel
theorem d25_2 : decode jdk_68_method_73_code 2 = .ok (.invokevirtual 397, 3) := by decide +kernel
theorem pd__Ljava_lang_String__V : parseMethodDescriptor "(Ljava/lang/String;)V" = some ⟨[(.object "java/lang/String")], none⟩ := by decide +kernel
theorem d25_5 : decode jdk_68_method_73_code 5 = .ok (.aload_n 2, 1) := by decide +kernel
theorem d25_6 : decode jdk_68_method_73_code 6 = .ok (.aload_n 0, 1) := by decide +kernel
theorem d25_7 : decode jdk_68_method_73_code 7 = .ok (.getfield 15, 3) := by decide +kernel
theorem d25_10 : decode jdk_68_method_73_code 10 = .ok (.iload_n 1, 1) := by decide +kernel
theorem d25_11 : decode jdk_68_method_73_code 11 = .ok (.aload_n 0, 1) := by decide +kernel
theorem d25_12 : decode jdk_68_method_73_code 12 = .ok (.getfield 22, 3) := by decide +kernel
theorem d25_15 : decode jdk_68_method_73_code 15 = .ok (.invokevirtual 399, 3) := by decide +kernel
theorem pd___BIB_V : parseMethodDescriptor "([BIB)V" = some ⟨[(.array .byte), .int, .byte], none⟩ := by decide +kernel
theorem d25_18 : decode jdk_68_method_73_code 18 = .ok (.return_, 1) := by decide +kernel
def Q_psa_0_1 (Z : State) (a : Addr) (sy : Addr) (d : Addr) (kd : ClassId) (c0 : Int32) (gC : Int32) (h0 : Heap) (n0 : Nat) (v : Option Value) (h : Heap) (L : List Loc) : Prop := v = none ∧ Fr n0 L ∧ Keep h0 h [d] ∧ Arv Z h d kd .byte 16 [(.int (own_b8 c0)), o_, o_, o_, o_, o_, o_, o_, o_, o_, o_, o_, o_, o_, o_, o_] (.int 0)
theorem ef_psa_0_1 (m : MethodId) (a : Addr) (sy : Addr)  : entryFrame m #[(.ref a), (.int (0 : Int32)), (.ref sy)] 3 = mkF m 0 #[.val (.ref a), .val (.int (0 : Int32)), .val (.ref sy)] [] := by first | (simp [entryFrame, mkF, argsToLocals, Value.category]; done) | rfl
theorem psa_0_1 (l : Launch) (Z : State) (a0 : Array Value) (hw : TW a0 Z) (ws : List Jvm.Cond) (a : Addr) (sy : Addr) (d : Addr) (kd : ClassId) (c0 : Int32) (gC : Int32) (h0 : Heap) (n0 : Nat) (Z0 : n0 ≤ h0.size) (O : Old Z n0 h0) (SC : Sta Z Z.heap "java/lang/String" "COMPACT_STRINGS" "Z" (.int gC)) (hgC : ¬ gC = (0 : Int32)) (A : SB Z h0 a d kd 0 [o_, o_, o_, o_, o_, o_, o_, o_, o_, o_, o_, o_, o_, o_, o_, o_]) (Sy : Str Z h0 sy 1 [c0]) (g : n0 ≤ a) (gd : n0 ≤ d) (nad : @Ne Nat a d) :
    own_MF l Z MN9 jdk_68_method_73_code 3 none ws (own_R 2 0 0 33) #[(.ref a), (.int (0 : Int32)), (.ref sy)] h0 (Q_psa_0_1 Z a sy d kd c0 gC h0 n0) := by
  have wd := @own_wd _ _ hw
  refine MetFree.of_bodySF (plainFor_of_name pn_java_lang_AbstractStringBuilder) hisR ?_
  intro p e s m args below meth c s₁ Bd hml0 hP hK
  obtain ⟨rfl, hZ, hh⟩ := hP
  have hx := Bd.exec
  have hby := Bd.bytes
  have hml : c.maxLocals = 3 := hml0
  have hown : s.vm.findClass "java/lang/AbstractStringBuilder" = some m.cls := findClass_of_methodNamed Bd.named
  have hnm := (name_of_methodNamed Bd.named Bd.method).1
  have X0 : Stand p l e (own_R 2 0 0 33) s m #[(.ref a), (.int (0 : Int32)), (.ref sy)] below meth c s₁ [] 0 0 := Stand.of_body Bd
  have e0 : s₁.heap = h0 := by rw [← hh, Bd.state]; rfl
  have N0 := Fr.nil n0
  obtain ⟨ty, ky, Ey, Fcy, Fvy, Vy, hcy⟩ := id Sy
  have lta := own_nlt (A.1.lt)
  have ltd := own_nlt (A.2.2.2.2.lt)
  refine go_of (A := s₁.setTop (entryFrame m #[(.ref a), (.int (0 : Int32)), (.ref sy)] 3)) (B := s₁.setTop (mkF m 0 #[.val (.ref a), .val (.int (0 : Int32)), .val (.ref sy)] [])) (fun _ kk' => castTop (ef_psa_0_1 m a sy) kk') ?_
  refine go_of (B := (s₁.setTop (mkF m 2 #[.val (.ref a), .val (.int (0 : Int32)), .val (.ref sy)] [(.ref sy), (.ref a)]))) (fun _ kk => XS.aloadN X0.here hx rfl (hb hby d25_0) rfl rfl (XS.aloadN X0.here hx rfl (hb hby d25_1) rfl rfl kk)) ?_
  obtain ⟨cq1, q1, q1'⟩ := A.1.cell
  obtain ⟨_, _, ⟨T1, L1, k1, n1⟩, -, X1, ⟨Lc1, hQ1, l1, y1, z1⟩, st1⟩ := X0.privateBack hx (y := MN6) hown (mvT hZ (wd 128 rfl)) (mvT hZ (wd 129 rfl)) (mvT hZ (own_selp (wd 131 rfl) (wd 130 rfl) (wd 129 rfl) (by decide))) (Cond.privateMethod_at (mvP hZ (wd 130 rfl) (args := #[]))) (mvT hZ (wd 132 rfl)) (by decide) (backOf (W := 0) (infl l Z a0 hw [] a sy gC h0 n0 (by omega) O SC hgC A.2.2.1 Ey Fcy) hZ (wd 132 rfl) (wd 97 rfl) (by decide) (by decide)) (g := (mkF m 2 #[.val (.ref a), .val (.int (0 : Int32)), .val (.ref sy)] [(.ref sy), (.ref a)])) rfl (by rw [hml]; rfl) (Steps.refl _) (a := a) (by rw [e0]; exact q1) q1' (argsL := [(.ref sy)]) (rest := []) (lenOf pd__Ljava_lang_String__V rfl) rfl (by show 2 * 0 + _ ≤ _; exact Nat.le_of_eq rfl) (hb hby d25_2) (fun _ _ => ⟨rfl, e0, (by decide : 0 + 0 ≤ _), (by decide : 0 + 0 ≤ _)⟩)
  dsimp only [Pt.U, Pt.locs, Pt.cells, Pt.slots] at X1 l1 y1 z1 st1 hQ1
  subst l1 y1 z1
  obtain ⟨rfl, N1q, e1⟩ := hQ1
  have N1 := Fr.app N0 N1q
  refine go_tr (B := (T1.setTop (mkF m 5 #[.val (.ref a), .val (.int (0 : Int32)), .val (.ref sy)] []))) (st1) ?_
  refine go_of (B := (T1.setTop (mkF m 7 #[.val (.ref a), .val (.int (0 : Int32)), .val (.ref sy)] [(.ref a), (.ref sy)]))) (fun _ kk => XS.aloadN X1.here hx rfl (hb hby d25_5) rfl rfl (XS.aloadN X1.here hx rfl (hb hby d25_6) rfl rfl kk)) ?_
  obtain ⟨T2, X2, e2, st2⟩ := getF X1 hx hZ hown (host := "") (Or.inl (wd 101 rfl)) Via.refl e1 A.2.1 (g := (mkF m 7 #[.val (.ref a), .val (.int (0 : Int32)), .val (.ref sy)] [(.ref a), (.ref sy)])) rfl rfl (hb hby d25_7)
  refine go_of (B := (T2.setTop (mkF m 10 #[.val (.ref a), .val (.int (0 : Int32)), .val (.ref sy)] [(.ref d), (.ref sy)]))) (st2) ?_
  refine go_of (B := (T2.setTop (mkF m 12 #[.val (.ref a), .val (.int (0 : Int32)), .val (.ref sy)] [(.ref a), (.int (0 : Int32)), (.ref d), (.ref sy)]))) (fun _ kk => XS.iloadN X2.here hx rfl (hb hby d25_10) rfl (XS.aloadN X2.here hx rfl (hb hby d25_11) rfl rfl kk)) ?_
  obtain ⟨T3, X3, e3, st3⟩ := getF X2 hx hZ hown (host := "") (Or.inl (wd 103 rfl)) Via.refl e2 A.2.2.1 (g := (mkF m 12 #[.val (.ref a), .val (.int (0 : Int32)), .val (.ref sy)] [(.ref a), (.int (0 : Int32)), (.ref d), (.ref sy)])) rfl rfl (hb hby d25_12)
  refine go_of (B := (T3.setTop (mkF m 15 #[.val (.ref a), .val (.int (0 : Int32)), .val (.ref sy)] [(.int (0 : Int32)), (.int (0 : Int32)), (.ref d), (.ref sy)]))) (st3) ?_
  obtain ⟨cq4, kq4, q4a, q4b, q4c⟩ := isOf hZ e3 Ey
  obtain ⟨_, _, ⟨T4, L4, k4, n4⟩, -, X4, ⟨Lc4, hQ4, l4, y4, z4⟩, st4⟩ := X3.virtualBack hx (y := MN15) (z := MN15) hown (mvT hZ (wd 134 rfl)) (mvT hZ (wd 135 rfl)) (notFace_of_selects (args := #[]) (mvT hZ (wd 137 rfl))) (mvT hZ (wd 137 rfl)) (mvT hZ (wd 136 rfl)) (by decide) (backOf (W := 0) (gb_0_1 l Z a0 hw [] sy d c0 gC  kd h0 n0 (by omega) O SC hgC Sy A.2.2.2.2 gd) hZ (wd 138 rfl) (wd 7 rfl) (by decide) (by decide)) q4a q4c (g := (mkF m 15 #[.val (.ref a), .val (.int (0 : Int32)), .val (.ref sy)] [(.int (0 : Int32)), (.int (0 : Int32)), (.ref d), (.ref sy)])) rfl (by rw [hml]; rfl) (Steps.refl _) (argsL := [(.ref d), (.int (0 : Int32)), (.int (0 : Int32))]) (rest := []) (lenOf pd___BIB_V rfl) rfl (by show 2 * 0 + _ ≤ _; exact Nat.le_of_eq rfl) (hb hby d25_15) (fun _ _ => ⟨rfl, e3, (by decide : 0 + 0 ≤ _), (by decide : 0 + 0 ≤ _)⟩)
  dsimp only [Pt.U, Pt.locs, Pt.cells, Pt.slots] at X4 l4 y4 z4 st4 hQ4
  subst l4 y4 z4
  obtain ⟨rfl, N4q, K4, V4⟩ := hQ4
  have N4 := Fr.app N1 N4q
  have sz4 := K4.1
  refine go_tr (B := (T4.setTop (mkF m 18 #[.val (.ref a), .val (.int (0 : Int32)), .val (.ref sy)] []))) (st4) ?_
  refine go_end X4 (v := none) (fun _ => rfl) Bd.notSynchronized (by decide) (by decide) (Q := (Q_psa_0_1 Z a sy d kd c0 gC h0 n0)) ?_ (fun fs hr => X4.returnOut hx Bd.returns (hb hby d25_18) hr)
  unfold Q_psa_0_1
  exact ⟨rfl, N4, ((Keep.refl h0 [d]).trans K4 (allS (Or.inl (List.mem_of_getElem? (i := 0) rfl)) all0)), V4⟩
theorem d23_0 : decode jdk_68_method_22_code 0 = .ok (.aload_n 1, 1) := by decide +kernel
theorem d23_1 : decode jdk_68_method_22_code 1 = .ok (.ifnonnull 8, 3) := by decide +kernel
theorem d23_9 : decode jdk_68_method_22_code 9 = .ok (.aload_n 1, 1) := by decide +kernel
theorem d23_10 : decode jdk_68_method_22_code 10 = .ok (.invokevirtual 32, 3) := by decide +kernel
theorem d23_13 : decode jdk_68_method_22_code 13 = .ok (.istore_n 2, 1) := by decide +kernel
theorem d23_14 : decode jdk_68_method_22_code 14 = .ok (.aload_n 0, 1) := by decide +kernel
theorem d23_15 : decode jdk_68_method_22_code 15 = .ok (.aload_n 0, 1) := by decide +kernel
theorem d23_16 : decode jdk_68_method_22_code 16 = .ok (.getfield 79, 3) := by decide +kernel
theorem d23_19 : decode jdk_68_method_22_code 19 = .ok (.iload_n 2, 1) := by decide +kernel
theorem d23_20 : decode jdk_68_method_22_code 20 = .ok (.iadd, 1) := by decide +kernel
theorem d23_21 : decode jdk_68_method_22_code 21 = .ok (.invokevirtual 100, 3) := by decide +kernel
theorem d23_24 : decode jdk_68_method_22_code 24 = .ok (.aload_n 0, 1) := by decide +kernel
theorem d23_25 : decode jdk_68_method_22_code 25 = .ok (.aload_n 0, 1) := by decide +kernel
theorem d23_26 : decode jdk_68_method_22_code 26 = .ok (.getfield 79, 3) := by decide +kernel
theorem d23_29 : decode jdk_68_method_22_code 29 = .ok (.aload_n 1, 1) := by decide +kernel
theorem d23_30 : decode jdk_68_method_22_code 30 = .ok (.invokevirtual 208, 3) := by decide +kernel
theorem pd__ILjava_lang_String__V : parseMethodDescriptor "(ILjava/lang/String;)V" = some ⟨[.int, (.object "java/lang/String")], none⟩ := by decide +kernel
theorem d23_33 : decode jdk_68_method_22_code 33 = .ok (.aload_n 0, 1) := by decide +kernel
theorem d23_34 : decode jdk_68_method_22_code 34 = .ok (.dup, 1) := by decide +kernel
theorem d23_35 : decode jdk_68_method_22_code 35 = .ok (.getfield 79, 3) := by decide +kernel
theorem d23_38 : decode jdk_68_method_22_code 38 = .ok (.iload_n 2, 1) := by decide +kernel
theorem d23_39 : decode jdk_68_method_22_code 39 = .ok (.iadd, 1) := by decide +kernel
theorem d23_40 : decode jdk_68_method_22_code 40 = .ok (.putfield 79, 3) := by decide +kernel
theorem d23_43 : decode jdk_68_method_22_code 43 = .ok (.aload_n 0, 1) := by decide +kernel
theorem d23_44 : decode jdk_68_method_22_code 44 = .ok (.areturn, 1) := by decide +kernel
def Q_apa_0_1 (Z : State) (a : Addr) (sy : Addr) (d : Addr) (kd : ClassId) (c0 : Int32) (gC : Int32) (h0 : Heap) (n0 : Nat) (v : Option Value) (h : Heap) (L : List Loc) : Prop := v = some (.ref a) ∧ Fr n0 L ∧ Keep h0 h [a, d] ∧ SB Z h a d kd 1 [(.int (own_b8 c0)), o_, o_, o_, o_, o_, o_, o_, o_, o_, o_, o_, o_, o_, o_, o_]
theorem ef_apa_0_1 (m : MethodId) (a : Addr) (sy : Addr)  : entryFrame m #[(.ref a), (.ref sy)] 3 = mkF m 0 #[.val (.ref a), .val (.ref sy), .unset] [] := by first | (simp [entryFrame, mkF, argsToLocals, Value.category]; done) | rfl
theorem apa_0_1 (l : Launch) (Z : State) (a0 : Array Value) (hw : TW a0 Z) (ws : List Jvm.Cond) (a : Addr) (sy : Addr) (d : Addr) (kd : ClassId) (c0 : Int32) (gC : Int32) (h0 : Heap) (n0 : Nat) (Z0 : n0 ≤ h0.size) (O : Old Z n0 h0) (SC : Sta Z Z.heap "java/lang/String" "COMPACT_STRINGS" "Z" (.int gC)) (hgC : ¬ gC = (0 : Int32)) (A : SB Z h0 a d kd 0 [o_, o_, o_, o_, o_, o_, o_, o_, o_, o_, o_, o_, o_, o_, o_, o_]) (Sy : Str Z h0 sy 1 [c0]) (g : n0 ≤ a) (gd : n0 ≤ d) (nad : @Ne Nat a d) :
    own_MF l Z MN3 jdk_68_method_22_code 3 (some (.object "java/lang/AbstractStringBuilder")) ws (own_R 3 0 0 47) #[(.ref a), (.ref sy)] h0 (Q_apa_0_1 Z a sy d kd c0 gC h0 n0) := by
  have wd := @own_wd _ _ hw
  refine MetFree.of_bodySF (plainFor_of_name pn_java_lang_AbstractStringBuilder) hisR ?_
  intro p e s m args below meth c s₁ Bd hml0 hP hK
  obtain ⟨rfl, hZ, hh⟩ := hP
  have hx := Bd.exec
  have hby := Bd.bytes
  have hml : c.maxLocals = 3 := hml0
  have hown : s.vm.findClass "java/lang/AbstractStringBuilder" = some m.cls := findClass_of_methodNamed Bd.named
  have hnm := (name_of_methodNamed Bd.named Bd.method).1
  have X0 : Stand p l e (own_R 3 0 0 47) s m #[(.ref a), (.ref sy)] below meth c s₁ [] 0 0 := Stand.of_body Bd
  have e0 : s₁.heap = h0 := by rw [← hh, Bd.state]; rfl
  have N0 := Fr.nil n0
  obtain ⟨ty, ky, Ey, Fcy, Fvy, Vy, hcy⟩ := id Sy
  have lta := own_nlt (A.1.lt)
  have ltd := own_nlt (A.2.2.2.2.lt)
  refine go_of (A := s₁.setTop (entryFrame m #[(.ref a), (.ref sy)] 3)) (B := s₁.setTop (mkF m 0 #[.val (.ref a), .val (.ref sy), .unset] [])) (fun _ kk' => castTop (ef_apa_0_1 m a sy) kk') ?_
  refine go_of (B := (s₁.setTop (mkF m 10 #[.val (.ref a), .val (.ref sy), .unset] [(.ref sy)]))) (fun _ kk => XS.aloadN X0.here hx rfl (hb hby d23_0) rfl rfl (XS.ifnonnullYes X0.here hx rfl (pc0 := 1) (pc' := 9) rfl (hb hby d23_1) rfl (by decide) (by decide) (XS.aloadN X0.here hx rfl (hb hby d23_9) rfl rfl kk))) ?_
  obtain ⟨cq1, kq1, q1a, q1b, q1c⟩ := isOf hZ e0 Ey
  obtain ⟨_, _, ⟨T1, L1, k1, n1⟩, -, X1, ⟨Lc1, hQ1, l1, y1, z1⟩, st1⟩ := X0.virtualBack hx (y := MN19) (z := MN19) hown (mvT hZ (wd 115 rfl)) (mvT hZ (wd 48 rfl)) (notFace_of_selects (args := #[]) (mvT hZ (wd 50 rfl))) (mvT hZ (wd 50 rfl)) (mvT hZ (wd 49 rfl)) (by decide) (backOf (W := 0) (str_len_1 l Z a0 hw [] sy c0 gC h0 n0 (by omega) O SC hgC Sy) hZ (wd 51 rfl) (wd 7 rfl) (by decide) (by decide)) q1a q1c (g := (mkF m 10 #[.val (.ref a), .val (.ref sy), .unset] [(.ref sy)])) rfl (by rw [hml]; rfl) (Steps.refl _) (argsL := []) (rest := []) (lenOf pd___I rfl) rfl (by show 2 * 0 + _ ≤ _; exact Nat.le_of_eq rfl) (hb hby d23_10) (fun _ _ => ⟨rfl, e0, (by decide : 0 + 0 ≤ _), (by decide : 0 + 0 ≤ _)⟩)
  dsimp only [Pt.U, Pt.locs, Pt.cells, Pt.slots] at X1 l1 y1 z1 st1 hQ1
  subst l1 y1 z1
  obtain ⟨rfl, N1q, e1⟩ := hQ1
  have N1 := Fr.app N0 N1q
  refine go_tr (B := (T1.setTop (mkF m 13 #[.val (.ref a), .val (.ref sy), .unset] [(.int (1 : Int32))]))) (st1) ?_
  refine go_of (B := (T1.setTop (mkF m 16 #[.val (.ref a), .val (.ref sy), .val (.int (1 : Int32))] [(.ref a), (.ref a)]))) (fun _ kk => XS.istoreN X1.here hx rfl (hb hby d23_13) rfl rfl (XS.aloadN X1.here hx rfl (hb hby d23_14) rfl rfl (XS.aloadN X1.here hx rfl (hb hby d23_15) rfl rfl kk))) ?_
  obtain ⟨T2, X2, e2, st2⟩ := getF X1 hx hZ hown (host := "") (Or.inl (wd 116 rfl)) Via.refl e1 A.2.2.2.1 (g := (mkF m 16 #[.val (.ref a), .val (.ref sy), .val (.int (1 : Int32))] [(.ref a), (.ref a)])) rfl rfl (hb hby d23_16)
  refine go_of (B := (T2.setTop (mkF m 19 #[.val (.ref a), .val (.ref sy), .val (.int (1 : Int32))] [(.int (0 : Int32)), (.ref a)]))) (st2) ?_
  refine go_of (B := (T2.setTop (mkF m 21 #[.val (.ref a), .val (.ref sy), .val (.int (1 : Int32))] [(.int (1 : Int32)), (.ref a)]))) (fun _ kk => XS.iloadN X2.here hx rfl (hb hby d23_19) rfl (XS.iadd X2.here hx rfl (hb hby d23_20) rfl kk)) ?_
  obtain ⟨cq3, q3, q3'⟩ := A.1.cell
  obtain ⟨_, _, ⟨T3, L3, k3, n3⟩, -, X3, ⟨Lc3, hQ3, l3, y3, z3⟩, st3⟩ := X2.privateBack hx (y := MN4) hown (mvT hZ (wd 118 rfl)) (mvT hZ (wd 119 rfl)) (mvT hZ (own_selp (wd 121 rfl) (wd 120 rfl) (wd 119 rfl) (by decide))) (Cond.privateMethod_at (mvP hZ (wd 120 rfl) (args := #[]))) (mvT hZ (wd 122 rfl)) (by decide) (backOf (W := 0) (ens_1 l Z a0 hw [] a d kd _ h0 n0 (by omega) A.2.1 A.2.2.1 A.2.2.2.2) hZ (wd 122 rfl) (wd 97 rfl) (by decide) (by decide)) (g := (mkF m 21 #[.val (.ref a), .val (.ref sy), .val (.int (1 : Int32))] [(.int (1 : Int32)), (.ref a)])) rfl (by rw [hml]; rfl) (Steps.refl _) (a := a) (by rw [e2]; exact q3) q3' (argsL := [(.int (1 : Int32))]) (rest := []) (lenOf pd__I_V rfl) rfl (by show 2 * 0 + _ ≤ _; exact Nat.le_of_eq rfl) (hb hby d23_21) (fun _ _ => ⟨rfl, e2, (by decide : 0 + 0 ≤ _), (by decide : 0 + 0 ≤ _)⟩)
  dsimp only [Pt.U, Pt.locs, Pt.cells, Pt.slots] at X3 l3 y3 z3 st3 hQ3
  subst l3 y3 z3
  obtain ⟨rfl, N3q, e3⟩ := hQ3
  have N3 := Fr.app N1 N3q
  refine go_tr (B := (T3.setTop (mkF m 24 #[.val (.ref a), .val (.ref sy), .val (.int (1 : Int32))] []))) (st3) ?_
  refine go_of (B := (T3.setTop (mkF m 26 #[.val (.ref a), .val (.ref sy), .val (.int (1 : Int32))] [(.ref a), (.ref a)]))) (fun _ kk => XS.aloadN X3.here hx rfl (hb hby d23_24) rfl rfl (XS.aloadN X3.here hx rfl (hb hby d23_25) rfl rfl kk)) ?_
  obtain ⟨T4, X4, e4, st4⟩ := getF X3 hx hZ hown (host := "") (Or.inl (wd 116 rfl)) Via.refl e3 A.2.2.2.1 (g := (mkF m 26 #[.val (.ref a), .val (.ref sy), .val (.int (1 : Int32))] [(.ref a), (.ref a)])) rfl rfl (hb hby d23_26)
  refine go_of (B := (T4.setTop (mkF m 29 #[.val (.ref a), .val (.ref sy), .val (.int (1 : Int32))] [(.int (0 : Int32)), (.ref a)]))) (st4) ?_
  refine go_of (B := (T4.setTop (mkF m 30 #[.val (.ref a), .val (.ref sy), .val (.int (1 : Int32))] [(.ref sy), (.int (0 : Int32)), (.ref a)]))) (fun _ kk => XS.aloadN X4.here hx rfl (hb hby d23_29) rfl rfl kk) ?_
  obtain ⟨cq5, q5, q5'⟩ := A.1.cell
  obtain ⟨_, _, ⟨T5, L5, k5, n5⟩, -, X5, ⟨Lc5, hQ5, l5, y5, z5⟩, st5⟩ := X4.privateBack hx (y := MN9) hown (mvT hZ (wd 123 rfl)) (mvT hZ (wd 124 rfl)) (mvT hZ (own_selp (wd 126 rfl) (wd 125 rfl) (wd 124 rfl) (by decide))) (Cond.privateMethod_at (mvP hZ (wd 125 rfl) (args := #[]))) (mvT hZ (wd 127 rfl)) (by decide) (backOf (W := 0) (psa_0_1 l Z a0 hw [] a sy d kd c0 gC h0 n0 (by omega) O SC hgC A Sy g gd nad) hZ (wd 127 rfl) (wd 97 rfl) (by decide) (by decide)) (g := (mkF m 30 #[.val (.ref a), .val (.ref sy), .val (.int (1 : Int32))] [(.ref sy), (.int (0 : Int32)), (.ref a)])) rfl (by rw [hml]; rfl) (Steps.refl _) (a := a) (by rw [e4]; exact q5) q5' (argsL := [(.int (0 : Int32)), (.ref sy)]) (rest := []) (lenOf pd__ILjava_lang_String__V rfl) rfl (by show 2 * 0 + _ ≤ _; exact Nat.le_of_eq rfl) (hb hby d23_30) (fun _ _ => ⟨rfl, e4, (by decide : 0 + 0 ≤ _), (by decide : 0 + 0 ≤ _)⟩)
  dsimp only [Pt.U, Pt.locs, Pt.cells, Pt.slots] at X5 l5 y5 z5 st5 hQ5
  subst l5 y5 z5
  obtain ⟨rfl, N5q, K5, V5⟩ := hQ5
  have N5 := Fr.app N3 N5q
  have sz5 := K5.1
  refine go_tr (B := (T5.setTop (mkF m 33 #[.val (.ref a), .val (.ref sy), .val (.int (1 : Int32))] []))) (st5) ?_
  refine go_of (B := (T5.setTop (mkF m 35 #[.val (.ref a), .val (.ref sy), .val (.int (1 : Int32))] [(.ref a), (.ref a)]))) (fun _ kk => XS.aloadN X5.here hx rfl (hb hby d23_33) rfl rfl (XS.dup X5.here hx rfl (hb hby d23_34) rfl rfl kk)) ?_
  have cf_6 := (A.2.2.2.1.keep K5 (ninS (by first | omega | exact own_ne (by omega) | exact own_le (by omega) | exact own_lt (by omega)) nin0))
  obtain ⟨T7, X7, e7, st7⟩ := getF X5 hx hZ hown (host := "") (Or.inl (wd 116 rfl)) Via.refl rfl cf_6 (g := (mkF m 35 #[.val (.ref a), .val (.ref sy), .val (.int (1 : Int32))] [(.ref a), (.ref a)])) rfl rfl (hb hby d23_35)
  refine go_of (B := (T7.setTop (mkF m 38 #[.val (.ref a), .val (.ref sy), .val (.int (1 : Int32))] [(.int (0 : Int32)), (.ref a)]))) (st7) ?_
  refine go_of (B := (T7.setTop (mkF m 40 #[.val (.ref a), .val (.ref sy), .val (.int (1 : Int32))] [(.int (1 : Int32)), (.ref a)]))) (fun _ kk => XS.iloadN X7.here hx rfl (hb hby d23_38) rfl (XS.iadd X7.here hx rfl (hb hby d23_39) rfl kk)) ?_
  have cf_8 := (A.1.keep K5)
  obtain ⟨T9, h9, X9, e9, W9, st9⟩ := putF X7 hx hZ hown (host := "") (Or.inl (wd 116 rfl)) Via.refl e7 cf_6 cf_8 (Or.inl (wd 117 rfl)) (wd 88 rfl) (ty := .int) (by decide) rfl rfl (g := (mkF m 40 #[.val (.ref a), .val (.ref sy), .val (.int (1 : Int32))] [(.int (1 : Int32)), (.ref a)])) rfl rfl (hb hby d23_40)
  have sz9 := W9.size
  have Fw9 := cf_6.same W9
  have N9 := Fr.snoc X9 N5 (g : n0 ≤ a)
  refine go_of (B := (T9.setTop (mkF m 43 #[.val (.ref a), .val (.ref sy), .val (.int (1 : Int32))] []))) (st9) ?_
  refine go_of (B := (T9.setTop (mkF m 44 #[.val (.ref a), .val (.ref sy), .val (.int (1 : Int32))] [(.ref a)]))) (fun _ kk => XS.aloadN X9.here hx rfl (hb hby d23_43) rfl rfl kk) ?_
  have cf_10 := (cf_8.wr W9)
  have cf_11 := ((A.2.1.keep K5 (ninS (by first | omega | exact own_ne (by omega) | exact own_le (by omega) | exact own_lt (by omega)) nin0)).other W9 (Or.inr (slot_ne (Or.inl (wd 102 rfl)) (Or.inl (wd 117 rfl)) (by decide) (t := (.array .byte)) (t' := .int) (by decide) (by decide))))
  have cf_12 := ((A.2.2.1.keep K5 (ninS (by first | omega | exact own_ne (by omega) | exact own_le (by omega) | exact own_lt (by omega)) nin0)).other W9 (Or.inr (slot_ne (Or.inl (wd 104 rfl)) (Or.inl (wd 117 rfl)) (by decide) (t := .byte) (t' := .int) (by decide) (by decide))))
  have cf_13 := (V5.other W9 (by first | omega | exact own_ne (by omega) | exact own_le (by omega) | exact own_lt (by omega)))
  refine go_end X9 (v := some (.ref a)) (fun h => by rw [Bd.returns] at h; cases h) Bd.notSynchronized (by decide) (by decide) (Q := (Q_apa_0_1 Z a sy d kd c0 gC h0 n0)) ?_ (fun fs hr => own_retA X9 hx Bd.returns rfl rfl (hb hby d23_44) hr)
  unfold Q_apa_0_1
  try rw [e9]
  exact ⟨rfl, N9, (((Keep.refl h0 [a, d]).trans K5 (allS (Or.inl (List.mem_of_getElem? (i := 1) rfl)) all0)).wr W9 (Or.inl (List.mem_of_getElem? (i := 0) rfl))), ⟨cf_10, cf_11, cf_12, Fw9, cf_13⟩⟩
theorem d22_0 : decode jdk_67_method_7_code 0 = .ok (.aload_n 0, 1) := by decide +kernel
theorem d22_1 : decode jdk_67_method_7_code 1 = .ok (.aload_n 1, 1) := by decide +kernel
theorem d22_2 : decode jdk_67_method_7_code 2 = .ok (.invokespecial 29, 3) := by decide +kernel
theorem pd__Ljava_lang_String__Ljava_lang_AbstractStringBuilder_ : parseMethodDescriptor "(Ljava/lang/String;)Ljava/lang/AbstractStringBuilder;" = some ⟨[(.object "java/lang/String")], some (.object "java/lang/AbstractStringBuilder")⟩ := by decide +kernel
theorem d22_5 : decode jdk_67_method_7_code 5 = .ok (.pop, 1) := by decide +kernel
theorem d22_6 : decode jdk_67_method_7_code 6 = .ok (.aload_n 0, 1) := by decide +kernel
theorem d22_7 : decode jdk_67_method_7_code 7 = .ok (.areturn, 1) := by decide +kernel
def Q_aps_0_1 (Z : State) (a : Addr) (sy : Addr) (d : Addr) (kd : ClassId) (c0 : Int32) (gC : Int32) (h0 : Heap) (n0 : Nat) (v : Option Value) (h : Heap) (L : List Loc) : Prop := v = some (.ref a) ∧ Fr n0 L ∧ Keep h0 h [a, d] ∧ SB Z h a d kd 1 [(.int (own_b8 c0)), o_, o_, o_, o_, o_, o_, o_, o_, o_, o_, o_, o_, o_, o_, o_]
theorem ef_aps_0_1 (m : MethodId) (a : Addr) (sy : Addr)  : entryFrame m #[(.ref a), (.ref sy)] 2 = mkF m 0 #[.val (.ref a), .val (.ref sy)] [] := by first | (simp [entryFrame, mkF, argsToLocals, Value.category]; done) | rfl
theorem aps_0_1 (l : Launch) (Z : State) (a0 : Array Value) (hw : TW a0 Z) (ws : List Jvm.Cond) (a : Addr) (sy : Addr) (d : Addr) (kd : ClassId) (c0 : Int32) (gC : Int32) (h0 : Heap) (n0 : Nat) (Z0 : n0 ≤ h0.size) (O : Old Z n0 h0) (SC : Sta Z Z.heap "java/lang/String" "COMPACT_STRINGS" "Z" (.int gC)) (hgC : ¬ gC = (0 : Int32)) (A : SB Z h0 a d kd 0 [o_, o_, o_, o_, o_, o_, o_, o_, o_, o_, o_, o_, o_, o_, o_, o_]) (Sy : Str Z h0 sy 1 [c0]) (g : n0 ≤ a) (gd : n0 ≤ d) (nad : @Ne Nat a d) :
    own_MF l Z MN21 jdk_67_method_7_code 2 (some (.object "java/lang/StringBuilder")) ws (own_R 4 0 0 61) #[(.ref a), (.ref sy)] h0 (Q_aps_0_1 Z a sy d kd c0 gC h0 n0) := by
  have wd := @own_wd _ _ hw
  refine MetFree.of_bodySF (plainFor_of_name pn_java_lang_StringBuilder) hisR ?_
  intro p e s m args below meth c s₁ Bd hml0 hP hK
  obtain ⟨rfl, hZ, hh⟩ := hP
  have hx := Bd.exec
  have hby := Bd.bytes
  have hml : c.maxLocals = 2 := hml0
  have hown : s.vm.findClass "java/lang/StringBuilder" = some m.cls := findClass_of_methodNamed Bd.named
  have hnm := (name_of_methodNamed Bd.named Bd.method).1
  have X0 : Stand p l e (own_R 4 0 0 61) s m #[(.ref a), (.ref sy)] below meth c s₁ [] 0 0 := Stand.of_body Bd
  have e0 : s₁.heap = h0 := by rw [← hh, Bd.state]; rfl
  have N0 := Fr.nil n0
  refine go_of (A := s₁.setTop (entryFrame m #[(.ref a), (.ref sy)] 2)) (B := s₁.setTop (mkF m 0 #[.val (.ref a), .val (.ref sy)] [])) (fun _ kk' => castTop (ef_aps_0_1 m a sy) kk') ?_
  refine go_of (B := (s₁.setTop (mkF m 2 #[.val (.ref a), .val (.ref sy)] [(.ref sy), (.ref a)]))) (fun _ kk => XS.aloadN X0.here hx rfl (hb hby d22_0) rfl rfl (XS.aloadN X0.here hx rfl (hb hby d22_1) rfl rfl kk)) ?_
  obtain ⟨_, _, ⟨T1, L1, k1, n1⟩, -, X1, ⟨Lc1, hQ1, l1, y1, z1⟩, st1⟩ := superBack X0 hx hZ (y := MN3) hown (wd 110 rfl) (own_same (wd 111 rfl) (wd 121 rfl) rfl (by decide)) (wd 111 rfl) (wd 112 rfl) (by decide) (backOf (W := 0) (apa_0_1 l Z a0 hw [] a sy d kd c0 gC h0 n0 (by omega) O SC hgC A Sy g gd nad) hZ (wd 114 rfl) (wd 97 rfl) (by decide) (by decide)) e0 (Ins.self A.1) (g := (mkF m 2 #[.val (.ref a), .val (.ref sy)] [(.ref sy), (.ref a)])) rfl (by rw [hml]; rfl) (wd 114 rfl) (argsL := [(.ref sy)]) (rest := []) (lenOf pd__Ljava_lang_String__Ljava_lang_AbstractStringBuilder_ rfl) rfl (by show 2 * 0 + _ ≤ _; exact Nat.le_of_eq rfl) (hb hby d22_2) (fun _ _ => ⟨rfl, e0, (by decide : 0 + 0 ≤ _), (by decide : 0 + 0 ≤ _)⟩)
  dsimp only [Pt.U, Pt.locs, Pt.cells, Pt.slots] at X1 l1 y1 z1 st1 hQ1
  subst l1 y1 z1
  obtain ⟨rfl, N1q, K1, A1⟩ := hQ1
  have N1 := Fr.app N0 N1q
  have sz1 := K1.1
  refine go_tr (B := (T1.setTop (mkF m 5 #[.val (.ref a), .val (.ref sy)] [(.ref a)]))) (st1) ?_
  refine go_of (B := (T1.setTop (mkF m 7 #[.val (.ref a), .val (.ref sy)] [(.ref a)]))) (fun _ kk => XS.pop X1.here hx rfl (hb hby d22_5) rfl rfl (XS.aloadN X1.here hx rfl (hb hby d22_6) rfl rfl kk)) ?_
  refine go_end X1 (v := some (.ref a)) (fun h => by rw [Bd.returns] at h; cases h) Bd.notSynchronized (by decide) (by decide) (Q := (Q_aps_0_1 Z a sy d kd c0 gC h0 n0)) ?_ (fun fs hr => own_retA X1 hx Bd.returns rfl rfl (hb hby d22_7) hr)
  unfold Q_aps_0_1
  exact ⟨rfl, N1, ((Keep.refl h0 [a, d]).trans K1 (allS (Or.inl (List.mem_of_getElem? (i := 0) rfl)) (allS (Or.inl (List.mem_of_getElem? (i := 1) rfl)) all0))), A1⟩
def Q_gb_1_1 (Z : State) (a : Addr) (d : Addr) (c0 : Int32) (gC : Int32) (w0 : Int32) (kd : ClassId) (h0 : Heap) (n0 : Nat) (v : Option Value) (h : Heap) (L : List Loc) : Prop := v = none ∧ Fr n0 L ∧ Keep h0 h [d] ∧ Arv Z h d kd .byte 16 [(.int (own_b8 w0)), (.int (own_b8 c0)), o_, o_, o_, o_, o_, o_, o_, o_, o_, o_, o_, o_, o_, o_] (.int 0)
theorem ef_gb_1_1 (m : MethodId) (a : Addr) (d : Addr)  : entryFrame m #[(.ref a), (.ref d), (.int (1 : Int32)), (.int (0 : Int32))] 4 = mkF m 0 #[.val (.ref a), .val (.ref d), .val (.int (1 : Int32)), .val (.int (0 : Int32))] [] := by first | (simp [entryFrame, mkF, argsToLocals, Value.category]; done) | rfl
theorem gb_1_1 (l : Launch) (Z : State) (a0 : Array Value) (hw : TW a0 Z) (ws : List Jvm.Cond) (a : Addr) (d : Addr) (c0 : Int32) (gC : Int32) (w0 : Int32) (kd : ClassId) (h0 : Heap) (n0 : Nat) (Z0 : n0 ≤ h0.size) (O : Old Z n0 h0) (SC : Sta Z Z.heap "java/lang/String" "COMPACT_STRINGS" "Z" (.int gC)) (hgC : ¬ gC = (0 : Int32)) (S : Str Z h0 a 1 [c0]) (VD : Arv Z h0 d kd .byte 16 [(.int (own_b8 w0)), o_, o_, o_, o_, o_, o_, o_, o_, o_, o_, o_, o_, o_, o_, o_] (.int 0)) (gd : n0 ≤ d) :
    own_MF l Z MN15 jdk_42_method_147_code 4 none ws (own_R 1 0 0 18) #[(.ref a), (.ref d), (.int (1 : Int32)), (.int (0 : Int32))] h0 (Q_gb_1_1 Z a d c0 gC w0 kd h0 n0) := by
  have wd := @own_wd _ _ hw
  refine MetFree.of_bodySF (plainFor_of_name pn_java_lang_String) hisR ?_
  intro p e s m args below meth c s₁ Bd hml0 hP hK
  obtain ⟨rfl, hZ, hh⟩ := hP
  have hx := Bd.exec
  have hby := Bd.bytes
  have hml : c.maxLocals = 4 := hml0
  have hown : s.vm.findClass "java/lang/String" = some m.cls := findClass_of_methodNamed Bd.named
  have hnm := (name_of_methodNamed Bd.named Bd.method).1
  have X0 : Stand p l e (own_R 1 0 0 18) s m #[(.ref a), (.ref d), (.int (1 : Int32)), (.int (0 : Int32))] below meth c s₁ [] 0 0 := Stand.of_body Bd
  have e0 : s₁.heap = h0 := by rw [← hh, Bd.state]; rfl
  have N0 := Fr.nil n0
  obtain ⟨t, k, Ea, Fc, Fv, Va, hcs⟩ := S
  have lta := own_nlt (Ea.lt)
  have ltt := own_nlt (Va.lt)
  have ltd := own_nlt (VD.lt)
  refine go_of (A := s₁.setTop (entryFrame m #[(.ref a), (.ref d), (.int (1 : Int32)), (.int (0 : Int32))] 4)) (B := s₁.setTop (mkF m 0 #[.val (.ref a), .val (.ref d), .val (.int (1 : Int32)), .val (.int (0 : Int32))] [])) (fun _ kk' => castTop (ef_gb_1_1 m a d) kk') ?_
  refine go_of (B := (s₁.setTop (mkF m 1 #[.val (.ref a), .val (.ref d), .val (.int (1 : Int32)), .val (.int (0 : Int32))] [(.ref a)]))) (fun _ kk => XS.aloadN X0.here hx rfl (hb hby d27_0) rfl rfl kk) ?_
  obtain ⟨cq1, kq1, q1a, q1b, q1c⟩ := isOf hZ e0 Ea
  obtain ⟨_, _, ⟨T1, L1, k1, n1⟩, -, X1, ⟨Lc1, hQ1, l1, y1, z1⟩, st1⟩ := X0.virtualBack hx (y := MN14) (z := MN14) hown (mvT hZ (wd 52 rfl)) (mvT hZ (wd 53 rfl)) (notFace_of_selects (args := #[]) (mvT hZ (wd 55 rfl))) (mvT hZ (wd 55 rfl)) (mvT hZ (wd 54 rfl)) (by decide) (backOf (W := 0) (str_coder l Z a0 hw [] a gC h0 n0 (by omega) O SC hgC Fc) hZ (wd 56 rfl) (wd 7 rfl) (by decide) (by decide)) q1a q1c (g := (mkF m 1 #[.val (.ref a), .val (.ref d), .val (.int (1 : Int32)), .val (.int (0 : Int32))] [(.ref a)])) rfl (by rw [hml]; rfl) (Steps.refl _) (argsL := []) (rest := []) (lenOf pd___B rfl) rfl (by show 2 * 0 + _ ≤ _; exact Nat.le_of_eq rfl) (hb hby d27_1) (fun _ _ => ⟨rfl, e0, (by decide : 0 + 0 ≤ _), (by decide : 0 + 0 ≤ _)⟩)
  dsimp only [Pt.U, Pt.locs, Pt.cells, Pt.slots] at X1 l1 y1 z1 st1 hQ1
  subst l1 y1 z1
  obtain ⟨rfl, N1q, e1⟩ := hQ1
  have N1 := Fr.app N0 N1q
  refine go_tr (B := (T1.setTop (mkF m 4 #[.val (.ref a), .val (.ref d), .val (.int (1 : Int32)), .val (.int (0 : Int32))] [(.int (0 : Int32))]))) (st1) ?_
  refine go_of (B := (T1.setTop (mkF m 9 #[.val (.ref a), .val (.ref d), .val (.int (1 : Int32)), .val (.int (0 : Int32))] [(.ref a)]))) (fun _ kk => XS.iloadN X1.here hx rfl (hb hby d27_4) rfl (XS.icmpNo X1.here hx rfl (hb hby d27_5) rfl (teq (by decide : (0 : Int32) = (0 : Int32))).2 (XS.aloadN X1.here hx rfl (hb hby d27_8) rfl rfl kk))) ?_
  obtain ⟨T2, X2, e2, st2⟩ := getF X1 hx hZ hown (host := "") (Or.inl (wd 25 rfl)) Via.refl e1 Fv (g := (mkF m 9 #[.val (.ref a), .val (.ref d), .val (.int (1 : Int32)), .val (.int (0 : Int32))] [(.ref a)])) rfl rfl (hb hby d27_9)
  refine go_of (B := (T2.setTop (mkF m 12 #[.val (.ref a), .val (.ref d), .val (.int (1 : Int32)), .val (.int (0 : Int32))] [(.ref t)]))) (st2) ?_
  refine go_of (B := (T2.setTop (mkF m 18 #[.val (.ref a), .val (.ref d), .val (.int (1 : Int32)), .val (.int (0 : Int32))] [(.ref a), (.int (1 : Int32)), (.ref d), (.int (0 : Int32)), (.ref t)]))) (fun _ kk => XS.iconst X2.here hx rfl (hb hby d27_12) (XS.aloadN X2.here hx rfl (hb hby d27_13) rfl rfl (XS.iloadN X2.here hx rfl (hb hby d27_14) rfl (XS.iloadN X2.here hx rfl (hb hby d27_15) rfl (XS.ishl X2.here hx rfl (hb hby d27_16) rfl (XS.aloadN X2.here hx rfl (hb hby d27_17) rfl rfl kk)))))) ?_
  obtain ⟨T3, X3, e3, st3⟩ := getF X2 hx hZ hown (host := "") (Or.inl (wd 25 rfl)) Via.refl e2 Fv (g := (mkF m 18 #[.val (.ref a), .val (.ref d), .val (.int (1 : Int32)), .val (.int (0 : Int32))] [(.ref a), (.int (1 : Int32)), (.ref d), (.int (0 : Int32)), (.ref t)])) rfl rfl (hb hby d27_18)
  refine go_of (B := (T3.setTop (mkF m 21 #[.val (.ref a), .val (.ref d), .val (.int (1 : Int32)), .val (.int (0 : Int32))] [(.ref t), (.int (1 : Int32)), (.ref d), (.int (0 : Int32)), (.ref t)]))) (st3) ?_
  obtain ⟨cl4, Ar4, q4, Sz4, Nn4, Hh4, G4⟩ := id (Va)
  have ln4 := len_of Sz4 Nn4
  refine go_of (B := (T3.setTop (mkF m 22 #[.val (.ref a), .val (.ref d), .val (.int (1 : Int32)), .val (.int (0 : Int32))] [(.int (1 : Int32)), (.int (1 : Int32)), (.ref d), (.int (0 : Int32)), (.ref t)]))) (fun _ kk => X3.arraylength hx (by rw [e3]; exact Ar4.1) (State.isArrayOf_alike hZ.alike Ar4.2.1) (g := (mkF m 21 #[.val (.ref a), .val (.ref d), .val (.int (1 : Int32)), .val (.int (0 : Int32))] [(.ref t), (.int (1 : Int32)), (.ref d), (.int (0 : Int32)), (.ref t)])) rfl rfl (hb hby d27_21) _ (by rw [ln4]; exact kk)) ?_
  obtain ⟨T5, h5, L5, X5, e5, N5, K5, Vq5, st5⟩ := cpA X3 hx hZ hown (wd 139 rfl) (wd 142 rfl) (wd 140 rfl) (wd 141 rfl) e3 Va VD (us := [(.int (own_b8 c0))]) (Or.inl ⟨rfl, rfl⟩) (by decide) (by decide) (by decide) (by decide) (by decide) rfl (Nat.le_of_ble_eq_true rfl) N1 (gd : n0 ≤ d) (g := (mkF m 22 #[.val (.ref a), .val (.ref d), .val (.int (1 : Int32)), .val (.int (0 : Int32))] [(.int (1 : Int32)), (.int (1 : Int32)), (.ref d), (.int (0 : Int32)), (.ref t)])) rfl (by rw [hml]; rfl) rfl (hb hby d27_22) (by decide) (W := 0) (by show 2 * 0 + _ ≤ _; exact Nat.le_of_eq rfl) (by decide)
  have V5 : Arv Z h5 d kd .byte (16 : Int32) [(.int (own_b8 w0)), (.int (own_b8 c0)), o_, o_, o_, o_, o_, o_, o_, o_, o_, o_, o_, o_, o_, o_] o_ := Vq5
  have sz5 := K5.1
  refine go_of (B := (T5.setTop (mkF m 25 #[.val (.ref a), .val (.ref d), .val (.int (1 : Int32)), .val (.int (0 : Int32))] []))) (st5) ?_
  refine go_of (B := (T5.setTop (mkF m 43 #[.val (.ref a), .val (.ref d), .val (.int (1 : Int32)), .val (.int (0 : Int32))] []))) (fun _ kk => XS.goto X5.here hx rfl (pc0 := 25) (pc' := 43) rfl (hb hby d27_25) (by decide) (by decide) kk) ?_
  refine go_end X5 (v := none) (fun _ => rfl) Bd.notSynchronized (by decide) (by decide) (Q := (Q_gb_1_1 Z a d c0 gC w0 kd h0 n0)) ?_ (fun fs hr => X5.returnOut hx Bd.returns (hb hby d27_43) hr)
  unfold Q_gb_1_1
  try rw [e5]
  exact ⟨rfl, N5, ((Keep.refl h0 [d]).trans K5 (allS (Or.inl (List.mem_of_getElem? (i := 0) rfl)) all0)), V5⟩
def Q_psa_1_1 (Z : State) (a : Addr) (sy : Addr) (d : Addr) (kd : ClassId) (c0 : Int32) (w0 : Int32) (gC : Int32) (h0 : Heap) (n0 : Nat) (v : Option Value) (h : Heap) (L : List Loc) : Prop := v = none ∧ Fr n0 L ∧ Keep h0 h [d] ∧ Arv Z h d kd .byte 16 [(.int (own_b8 w0)), (.int (own_b8 c0)), o_, o_, o_, o_, o_, o_, o_, o_, o_, o_, o_, o_, o_, o_] (.int 0)
theorem ef_psa_1_1 (m : MethodId) (a : Addr) (sy : Addr)  : entryFrame m #[(.ref a), (.int (1 : Int32)), (.ref sy)] 3 = mkF m 0 #[.val (.ref a), .val (.int (1 : Int32)), .val (.ref sy)] [] := by first | (simp [entryFrame, mkF, argsToLocals, Value.category]; done) | rfl
theorem psa_1_1 (l : Launch) (Z : State) (a0 : Array Value) (hw : TW a0 Z) (ws : List Jvm.Cond) (a : Addr) (sy : Addr) (d : Addr) (kd : ClassId) (c0 : Int32) (w0 : Int32) (gC : Int32) (h0 : Heap) (n0 : Nat) (Z0 : n0 ≤ h0.size) (O : Old Z n0 h0) (SC : Sta Z Z.heap "java/lang/String" "COMPACT_STRINGS" "Z" (.int gC)) (hgC : ¬ gC = (0 : Int32)) (A : SB Z h0 a d kd 1 [(.int (own_b8 w0)), o_, o_, o_, o_, o_, o_, o_, o_, o_, o_, o_, o_, o_, o_, o_]) (Sy : Str Z h0 sy 1 [c0]) (g : n0 ≤ a) (gd : n0 ≤ d) (nad : @Ne Nat a d) :
    own_MF l Z MN9 jdk_68_method_73_code 3 none ws (own_R 2 0 0 33) #[(.ref a), (.int (1 : Int32)), (.ref sy)] h0 (Q_psa_1_1 Z a sy d kd c0 w0 gC h0 n0) := by
  have wd := @own_wd _ _ hw
  refine MetFree.of_bodySF (plainFor_of_name pn_java_lang_AbstractStringBuilder) hisR ?_
  intro p e s m args below meth c s₁ Bd hml0 hP hK
  obtain ⟨rfl, hZ, hh⟩ := hP
  have hx := Bd.exec
  have hby := Bd.bytes
  have hml : c.maxLocals = 3 := hml0
  have hown : s.vm.findClass "java/lang/AbstractStringBuilder" = some m.cls := findClass_of_methodNamed Bd.named
  have hnm := (name_of_methodNamed Bd.named Bd.method).1
  have X0 : Stand p l e (own_R 2 0 0 33) s m #[(.ref a), (.int (1 : Int32)), (.ref sy)] below meth c s₁ [] 0 0 := Stand.of_body Bd
  have e0 : s₁.heap = h0 := by rw [← hh, Bd.state]; rfl
  have N0 := Fr.nil n0
  obtain ⟨ty, ky, Ey, Fcy, Fvy, Vy, hcy⟩ := id Sy
  have lta := own_nlt (A.1.lt)
  have ltd := own_nlt (A.2.2.2.2.lt)
  refine go_of (A := s₁.setTop (entryFrame m #[(.ref a), (.int (1 : Int32)), (.ref sy)] 3)) (B := s₁.setTop (mkF m 0 #[.val (.ref a), .val (.int (1 : Int32)), .val (.ref sy)] [])) (fun _ kk' => castTop (ef_psa_1_1 m a sy) kk') ?_
  refine go_of (B := (s₁.setTop (mkF m 2 #[.val (.ref a), .val (.int (1 : Int32)), .val (.ref sy)] [(.ref sy), (.ref a)]))) (fun _ kk => XS.aloadN X0.here hx rfl (hb hby d25_0) rfl rfl (XS.aloadN X0.here hx rfl (hb hby d25_1) rfl rfl kk)) ?_
  obtain ⟨cq1, q1, q1'⟩ := A.1.cell
  obtain ⟨_, _, ⟨T1, L1, k1, n1⟩, -, X1, ⟨Lc1, hQ1, l1, y1, z1⟩, st1⟩ := X0.privateBack hx (y := MN6) hown (mvT hZ (wd 128 rfl)) (mvT hZ (wd 129 rfl)) (mvT hZ (own_selp (wd 131 rfl) (wd 130 rfl) (wd 129 rfl) (by decide))) (Cond.privateMethod_at (mvP hZ (wd 130 rfl) (args := #[]))) (mvT hZ (wd 132 rfl)) (by decide) (backOf (W := 0) (infl l Z a0 hw [] a sy gC h0 n0 (by omega) O SC hgC A.2.2.1 Ey Fcy) hZ (wd 132 rfl) (wd 97 rfl) (by decide) (by decide)) (g := (mkF m 2 #[.val (.ref a), .val (.int (1 : Int32)), .val (.ref sy)] [(.ref sy), (.ref a)])) rfl (by rw [hml]; rfl) (Steps.refl _) (a := a) (by rw [e0]; exact q1) q1' (argsL := [(.ref sy)]) (rest := []) (lenOf pd__Ljava_lang_String__V rfl) rfl (by show 2 * 0 + _ ≤ _; exact Nat.le_of_eq rfl) (hb hby d25_2) (fun _ _ => ⟨rfl, e0, (by decide : 0 + 0 ≤ _), (by decide : 0 + 0 ≤ _)⟩)
  dsimp only [Pt.U, Pt.locs, Pt.cells, Pt.slots] at X1 l1 y1 z1 st1 hQ1
  subst l1 y1 z1
  obtain ⟨rfl, N1q, e1⟩ := hQ1
  have N1 := Fr.app N0 N1q
  refine go_tr (B := (T1.setTop (mkF m 5 #[.val (.ref a), .val (.int (1 : Int32)), .val (.ref sy)] []))) (st1) ?_
  refine go_of (B := (T1.setTop (mkF m 7 #[.val (.ref a), .val (.int (1 : Int32)), .val (.ref sy)] [(.ref a), (.ref sy)]))) (fun _ kk => XS.aloadN X1.here hx rfl (hb hby d25_5) rfl rfl (XS.aloadN X1.here hx rfl (hb hby d25_6) rfl rfl kk)) ?_
  obtain ⟨T2, X2, e2, st2⟩ := getF X1 hx hZ hown (host := "") (Or.inl (wd 101 rfl)) Via.refl e1 A.2.1 (g := (mkF m 7 #[.val (.ref a), .val (.int (1 : Int32)), .val (.ref sy)] [(.ref a), (.ref sy)])) rfl rfl (hb hby d25_7)
  refine go_of (B := (T2.setTop (mkF m 10 #[.val (.ref a), .val (.int (1 : Int32)), .val (.ref sy)] [(.ref d), (.ref sy)]))) (st2) ?_
  refine go_of (B := (T2.setTop (mkF m 12 #[.val (.ref a), .val (.int (1 : Int32)), .val (.ref sy)] [(.ref a), (.int (1 : Int32)), (.ref d), (.ref sy)]))) (fun _ kk => XS.iloadN X2.here hx rfl (hb hby d25_10) rfl (XS.aloadN X2.here hx rfl (hb hby d25_11) rfl rfl kk)) ?_
  obtain ⟨T3, X3, e3, st3⟩ := getF X2 hx hZ hown (host := "") (Or.inl (wd 103 rfl)) Via.refl e2 A.2.2.1 (g := (mkF m 12 #[.val (.ref a), .val (.int (1 : Int32)), .val (.ref sy)] [(.ref a), (.int (1 : Int32)), (.ref d), (.ref sy)])) rfl rfl (hb hby d25_12)
  refine go_of (B := (T3.setTop (mkF m 15 #[.val (.ref a), .val (.int (1 : Int32)), .val (.ref sy)] [(.int (0 : Int32)), (.int (1 : Int32)), (.ref d), (.ref sy)]))) (st3) ?_
  obtain ⟨cq4, kq4, q4a, q4b, q4c⟩ := isOf hZ e3 Ey
  obtain ⟨_, _, ⟨T4, L4, k4, n4⟩, -, X4, ⟨Lc4, hQ4, l4, y4, z4⟩, st4⟩ := X3.virtualBack hx (y := MN15) (z := MN15) hown (mvT hZ (wd 134 rfl)) (mvT hZ (wd 135 rfl)) (notFace_of_selects (args := #[]) (mvT hZ (wd 137 rfl))) (mvT hZ (wd 137 rfl)) (mvT hZ (wd 136 rfl)) (by decide) (backOf (W := 0) (gb_1_1 l Z a0 hw [] sy d c0 gC w0 kd h0 n0 (by omega) O SC hgC Sy A.2.2.2.2 gd) hZ (wd 138 rfl) (wd 7 rfl) (by decide) (by decide)) q4a q4c (g := (mkF m 15 #[.val (.ref a), .val (.int (1 : Int32)), .val (.ref sy)] [(.int (0 : Int32)), (.int (1 : Int32)), (.ref d), (.ref sy)])) rfl (by rw [hml]; rfl) (Steps.refl _) (argsL := [(.ref d), (.int (1 : Int32)), (.int (0 : Int32))]) (rest := []) (lenOf pd___BIB_V rfl) rfl (by show 2 * 0 + _ ≤ _; exact Nat.le_of_eq rfl) (hb hby d25_15) (fun _ _ => ⟨rfl, e3, (by decide : 0 + 0 ≤ _), (by decide : 0 + 0 ≤ _)⟩)
  dsimp only [Pt.U, Pt.locs, Pt.cells, Pt.slots] at X4 l4 y4 z4 st4 hQ4
  subst l4 y4 z4
  obtain ⟨rfl, N4q, K4, V4⟩ := hQ4
  have N4 := Fr.app N1 N4q
  have sz4 := K4.1
  refine go_tr (B := (T4.setTop (mkF m 18 #[.val (.ref a), .val (.int (1 : Int32)), .val (.ref sy)] []))) (st4) ?_
  refine go_end X4 (v := none) (fun _ => rfl) Bd.notSynchronized (by decide) (by decide) (Q := (Q_psa_1_1 Z a sy d kd c0 w0 gC h0 n0)) ?_ (fun fs hr => X4.returnOut hx Bd.returns (hb hby d25_18) hr)
  unfold Q_psa_1_1
  exact ⟨rfl, N4, ((Keep.refl h0 [d]).trans K4 (allS (Or.inl (List.mem_of_getElem? (i := 0) rfl)) all0)), V4⟩
def Q_apa_1_1 (Z : State) (a : Addr) (sy : Addr) (d : Addr) (kd : ClassId) (c0 : Int32) (w0 : Int32) (gC : Int32) (h0 : Heap) (n0 : Nat) (v : Option Value) (h : Heap) (L : List Loc) : Prop := v = some (.ref a) ∧ Fr n0 L ∧ Keep h0 h [a, d] ∧ SB Z h a d kd 2 [(.int (own_b8 w0)), (.int (own_b8 c0)), o_, o_, o_, o_, o_, o_, o_, o_, o_, o_, o_, o_, o_, o_]
theorem ef_apa_1_1 (m : MethodId) (a : Addr) (sy : Addr)  : entryFrame m #[(.ref a), (.ref sy)] 3 = mkF m 0 #[.val (.ref a), .val (.ref sy), .unset] [] := by first | (simp [entryFrame, mkF, argsToLocals, Value.category]; done) | rfl
theorem apa_1_1 (l : Launch) (Z : State) (a0 : Array Value) (hw : TW a0 Z) (ws : List Jvm.Cond) (a : Addr) (sy : Addr) (d : Addr) (kd : ClassId) (c0 : Int32) (w0 : Int32) (gC : Int32) (h0 : Heap) (n0 : Nat) (Z0 : n0 ≤ h0.size) (O : Old Z n0 h0) (SC : Sta Z Z.heap "java/lang/String" "COMPACT_STRINGS" "Z" (.int gC)) (hgC : ¬ gC = (0 : Int32)) (A : SB Z h0 a d kd 1 [(.int (own_b8 w0)), o_, o_, o_, o_, o_, o_, o_, o_, o_, o_, o_, o_, o_, o_, o_]) (Sy : Str Z h0 sy 1 [c0]) (g : n0 ≤ a) (gd : n0 ≤ d) (nad : @Ne Nat a d) :
    own_MF l Z MN3 jdk_68_method_22_code 3 (some (.object "java/lang/AbstractStringBuilder")) ws (own_R 3 0 0 47) #[(.ref a), (.ref sy)] h0 (Q_apa_1_1 Z a sy d kd c0 w0 gC h0 n0) := by
  have wd := @own_wd _ _ hw
  refine MetFree.of_bodySF (plainFor_of_name pn_java_lang_AbstractStringBuilder) hisR ?_
  intro p e s m args below meth c s₁ Bd hml0 hP hK
  obtain ⟨rfl, hZ, hh⟩ := hP
  have hx := Bd.exec
  have hby := Bd.bytes
  have hml : c.maxLocals = 3 := hml0
  have hown : s.vm.findClass "java/lang/AbstractStringBuilder" = some m.cls := findClass_of_methodNamed Bd.named
  have hnm := (name_of_methodNamed Bd.named Bd.method).1
  have X0 : Stand p l e (own_R 3 0 0 47) s m #[(.ref a), (.ref sy)] below meth c s₁ [] 0 0 := Stand.of_body Bd
  have e0 : s₁.heap = h0 := by rw [← hh, Bd.state]; rfl
  have N0 := Fr.nil n0
  obtain ⟨ty, ky, Ey, Fcy, Fvy, Vy, hcy⟩ := id Sy
  have lta := own_nlt (A.1.lt)
  have ltd := own_nlt (A.2.2.2.2.lt)
  refine go_of (A := s₁.setTop (entryFrame m #[(.ref a), (.ref sy)] 3)) (B := s₁.setTop (mkF m 0 #[.val (.ref a), .val (.ref sy), .unset] [])) (fun _ kk' => castTop (ef_apa_1_1 m a sy) kk') ?_
  refine go_of (B := (s₁.setTop (mkF m 10 #[.val (.ref a), .val (.ref sy), .unset] [(.ref sy)]))) (fun _ kk => XS.aloadN X0.here hx rfl (hb hby d23_0) rfl rfl (XS.ifnonnullYes X0.here hx rfl (pc0 := 1) (pc' := 9) rfl (hb hby d23_1) rfl (by decide) (by decide) (XS.aloadN X0.here hx rfl (hb hby d23_9) rfl rfl kk))) ?_
  obtain ⟨cq1, kq1, q1a, q1b, q1c⟩ := isOf hZ e0 Ey
  obtain ⟨_, _, ⟨T1, L1, k1, n1⟩, -, X1, ⟨Lc1, hQ1, l1, y1, z1⟩, st1⟩ := X0.virtualBack hx (y := MN19) (z := MN19) hown (mvT hZ (wd 115 rfl)) (mvT hZ (wd 48 rfl)) (notFace_of_selects (args := #[]) (mvT hZ (wd 50 rfl))) (mvT hZ (wd 50 rfl)) (mvT hZ (wd 49 rfl)) (by decide) (backOf (W := 0) (str_len_1 l Z a0 hw [] sy c0 gC h0 n0 (by omega) O SC hgC Sy) hZ (wd 51 rfl) (wd 7 rfl) (by decide) (by decide)) q1a q1c (g := (mkF m 10 #[.val (.ref a), .val (.ref sy), .unset] [(.ref sy)])) rfl (by rw [hml]; rfl) (Steps.refl _) (argsL := []) (rest := []) (lenOf pd___I rfl) rfl (by show 2 * 0 + _ ≤ _; exact Nat.le_of_eq rfl) (hb hby d23_10) (fun _ _ => ⟨rfl, e0, (by decide : 0 + 0 ≤ _), (by decide : 0 + 0 ≤ _)⟩)
  dsimp only [Pt.U, Pt.locs, Pt.cells, Pt.slots] at X1 l1 y1 z1 st1 hQ1
  subst l1 y1 z1
  obtain ⟨rfl, N1q, e1⟩ := hQ1
  have N1 := Fr.app N0 N1q
  refine go_tr (B := (T1.setTop (mkF m 13 #[.val (.ref a), .val (.ref sy), .unset] [(.int (1 : Int32))]))) (st1) ?_
  refine go_of (B := (T1.setTop (mkF m 16 #[.val (.ref a), .val (.ref sy), .val (.int (1 : Int32))] [(.ref a), (.ref a)]))) (fun _ kk => XS.istoreN X1.here hx rfl (hb hby d23_13) rfl rfl (XS.aloadN X1.here hx rfl (hb hby d23_14) rfl rfl (XS.aloadN X1.here hx rfl (hb hby d23_15) rfl rfl kk))) ?_
  obtain ⟨T2, X2, e2, st2⟩ := getF X1 hx hZ hown (host := "") (Or.inl (wd 116 rfl)) Via.refl e1 A.2.2.2.1 (g := (mkF m 16 #[.val (.ref a), .val (.ref sy), .val (.int (1 : Int32))] [(.ref a), (.ref a)])) rfl rfl (hb hby d23_16)
  refine go_of (B := (T2.setTop (mkF m 19 #[.val (.ref a), .val (.ref sy), .val (.int (1 : Int32))] [(.int (1 : Int32)), (.ref a)]))) (st2) ?_
  refine go_of (B := (T2.setTop (mkF m 21 #[.val (.ref a), .val (.ref sy), .val (.int (1 : Int32))] [(.int (2 : Int32)), (.ref a)]))) (fun _ kk => XS.iloadN X2.here hx rfl (hb hby d23_19) rfl (XS.iadd X2.here hx rfl (hb hby d23_20) rfl kk)) ?_
  obtain ⟨cq3, q3, q3'⟩ := A.1.cell
  obtain ⟨_, _, ⟨T3, L3, k3, n3⟩, -, X3, ⟨Lc3, hQ3, l3, y3, z3⟩, st3⟩ := X2.privateBack hx (y := MN4) hown (mvT hZ (wd 118 rfl)) (mvT hZ (wd 119 rfl)) (mvT hZ (own_selp (wd 121 rfl) (wd 120 rfl) (wd 119 rfl) (by decide))) (Cond.privateMethod_at (mvP hZ (wd 120 rfl) (args := #[]))) (mvT hZ (wd 122 rfl)) (by decide) (backOf (W := 0) (ens_2 l Z a0 hw [] a d kd _ h0 n0 (by omega) A.2.1 A.2.2.1 A.2.2.2.2) hZ (wd 122 rfl) (wd 97 rfl) (by decide) (by decide)) (g := (mkF m 21 #[.val (.ref a), .val (.ref sy), .val (.int (1 : Int32))] [(.int (2 : Int32)), (.ref a)])) rfl (by rw [hml]; rfl) (Steps.refl _) (a := a) (by rw [e2]; exact q3) q3' (argsL := [(.int (2 : Int32))]) (rest := []) (lenOf pd__I_V rfl) rfl (by show 2 * 0 + _ ≤ _; exact Nat.le_of_eq rfl) (hb hby d23_21) (fun _ _ => ⟨rfl, e2, (by decide : 0 + 0 ≤ _), (by decide : 0 + 0 ≤ _)⟩)
  dsimp only [Pt.U, Pt.locs, Pt.cells, Pt.slots] at X3 l3 y3 z3 st3 hQ3
  subst l3 y3 z3
  obtain ⟨rfl, N3q, e3⟩ := hQ3
  have N3 := Fr.app N1 N3q
  refine go_tr (B := (T3.setTop (mkF m 24 #[.val (.ref a), .val (.ref sy), .val (.int (1 : Int32))] []))) (st3) ?_
  refine go_of (B := (T3.setTop (mkF m 26 #[.val (.ref a), .val (.ref sy), .val (.int (1 : Int32))] [(.ref a), (.ref a)]))) (fun _ kk => XS.aloadN X3.here hx rfl (hb hby d23_24) rfl rfl (XS.aloadN X3.here hx rfl (hb hby d23_25) rfl rfl kk)) ?_
  obtain ⟨T4, X4, e4, st4⟩ := getF X3 hx hZ hown (host := "") (Or.inl (wd 116 rfl)) Via.refl e3 A.2.2.2.1 (g := (mkF m 26 #[.val (.ref a), .val (.ref sy), .val (.int (1 : Int32))] [(.ref a), (.ref a)])) rfl rfl (hb hby d23_26)
  refine go_of (B := (T4.setTop (mkF m 29 #[.val (.ref a), .val (.ref sy), .val (.int (1 : Int32))] [(.int (1 : Int32)), (.ref a)]))) (st4) ?_
  refine go_of (B := (T4.setTop (mkF m 30 #[.val (.ref a), .val (.ref sy), .val (.int (1 : Int32))] [(.ref sy), (.int (1 : Int32)), (.ref a)]))) (fun _ kk => XS.aloadN X4.here hx rfl (hb hby d23_29) rfl rfl kk) ?_
  obtain ⟨cq5, q5, q5'⟩ := A.1.cell
  obtain ⟨_, _, ⟨T5, L5, k5, n5⟩, -, X5, ⟨Lc5, hQ5, l5, y5, z5⟩, st5⟩ := X4.privateBack hx (y := MN9) hown (mvT hZ (wd 123 rfl)) (mvT hZ (wd 124 rfl)) (mvT hZ (own_selp (wd 126 rfl) (wd 125 rfl) (wd 124 rfl) (by decide))) (Cond.privateMethod_at (mvP hZ (wd 125 rfl) (args := #[]))) (mvT hZ (wd 127 rfl)) (by decide) (backOf (W := 0) (psa_1_1 l Z a0 hw [] a sy d kd c0 w0 gC h0 n0 (by omega) O SC hgC A Sy g gd nad) hZ (wd 127 rfl) (wd 97 rfl) (by decide) (by decide)) (g := (mkF m 30 #[.val (.ref a), .val (.ref sy), .val (.int (1 : Int32))] [(.ref sy), (.int (1 : Int32)), (.ref a)])) rfl (by rw [hml]; rfl) (Steps.refl _) (a := a) (by rw [e4]; exact q5) q5' (argsL := [(.int (1 : Int32)), (.ref sy)]) (rest := []) (lenOf pd__ILjava_lang_String__V rfl) rfl (by show 2 * 0 + _ ≤ _; exact Nat.le_of_eq rfl) (hb hby d23_30) (fun _ _ => ⟨rfl, e4, (by decide : 0 + 0 ≤ _), (by decide : 0 + 0 ≤ _)⟩)
  dsimp only [Pt.U, Pt.locs, Pt.cells, Pt.slots] at X5 l5 y5 z5 st5 hQ5
  subst l5 y5 z5
  obtain ⟨rfl, N5q, K5, V5⟩ := hQ5
  have N5 := Fr.app N3 N5q
  have sz5 := K5.1
  refine go_tr (B := (T5.setTop (mkF m 33 #[.val (.ref a), .val (.ref sy), .val (.int (1 : Int32))] []))) (st5) ?_
  refine go_of (B := (T5.setTop (mkF m 35 #[.val (.ref a), .val (.ref sy), .val (.int (1 : Int32))] [(.ref a), (.ref a)]))) (fun _ kk => XS.aloadN X5.here hx rfl (hb hby d23_33) rfl rfl (XS.dup X5.here hx rfl (hb hby d23_34) rfl rfl kk)) ?_
  have cf_6 := (A.2.2.2.1.keep K5 (ninS (by first | omega | exact own_ne (by omega) | exact own_le (by omega) | exact own_lt (by omega)) nin0))
  obtain ⟨T7, X7, e7, st7⟩ := getF X5 hx hZ hown (host := "") (Or.inl (wd 116 rfl)) Via.refl rfl cf_6 (g := (mkF m 35 #[.val (.ref a), .val (.ref sy), .val (.int (1 : Int32))] [(.ref a), (.ref a)])) rfl rfl (hb hby d23_35)
  refine go_of (B := (T7.setTop (mkF m 38 #[.val (.ref a), .val (.ref sy), .val (.int (1 : Int32))] [(.int (1 : Int32)), (.ref a)]))) (st7) ?_
  refine go_of (B := (T7.setTop (mkF m 40 #[.val (.ref a), .val (.ref sy), .val (.int (1 : Int32))] [(.int (2 : Int32)), (.ref a)]))) (fun _ kk => XS.iloadN X7.here hx rfl (hb hby d23_38) rfl (XS.iadd X7.here hx rfl (hb hby d23_39) rfl kk)) ?_
  have cf_8 := (A.1.keep K5)
  obtain ⟨T9, h9, X9, e9, W9, st9⟩ := putF X7 hx hZ hown (host := "") (Or.inl (wd 116 rfl)) Via.refl e7 cf_6 cf_8 (Or.inl (wd 117 rfl)) (wd 88 rfl) (ty := .int) (by decide) rfl rfl (g := (mkF m 40 #[.val (.ref a), .val (.ref sy), .val (.int (1 : Int32))] [(.int (2 : Int32)), (.ref a)])) rfl rfl (hb hby d23_40)
  have sz9 := W9.size
  have Fw9 := cf_6.same W9
  have N9 := Fr.snoc X9 N5 (g : n0 ≤ a)
  refine go_of (B := (T9.setTop (mkF m 43 #[.val (.ref a), .val (.ref sy), .val (.int (1 : Int32))] []))) (st9) ?_
  refine go_of (B := (T9.setTop (mkF m 44 #[.val (.ref a), .val (.ref sy), .val (.int (1 : Int32))] [(.ref a)]))) (fun _ kk => XS.aloadN X9.here hx rfl (hb hby d23_43) rfl rfl kk) ?_
  have cf_10 := (cf_8.wr W9)
  have cf_11 := ((A.2.1.keep K5 (ninS (by first | omega | exact own_ne (by omega) | exact own_le (by omega) | exact own_lt (by omega)) nin0)).other W9 (Or.inr (slot_ne (Or.inl (wd 102 rfl)) (Or.inl (wd 117 rfl)) (by decide) (t := (.array .byte)) (t' := .int) (by decide) (by decide))))
  have cf_12 := ((A.2.2.1.keep K5 (ninS (by first | omega | exact own_ne (by omega) | exact own_le (by omega) | exact own_lt (by omega)) nin0)).other W9 (Or.inr (slot_ne (Or.inl (wd 104 rfl)) (Or.inl (wd 117 rfl)) (by decide) (t := .byte) (t' := .int) (by decide) (by decide))))
  have cf_13 := (V5.other W9 (by first | omega | exact own_ne (by omega) | exact own_le (by omega) | exact own_lt (by omega)))
  refine go_end X9 (v := some (.ref a)) (fun h => by rw [Bd.returns] at h; cases h) Bd.notSynchronized (by decide) (by decide) (Q := (Q_apa_1_1 Z a sy d kd c0 w0 gC h0 n0)) ?_ (fun fs hr => own_retA X9 hx Bd.returns rfl rfl (hb hby d23_44) hr)
  unfold Q_apa_1_1
  try rw [e9]
  exact ⟨rfl, N9, (((Keep.refl h0 [a, d]).trans K5 (allS (Or.inl (List.mem_of_getElem? (i := 1) rfl)) all0)).wr W9 (Or.inl (List.mem_of_getElem? (i := 0) rfl))), ⟨cf_10, cf_11, cf_12, Fw9, cf_13⟩⟩
def Q_aps_1_1 (Z : State) (a : Addr) (sy : Addr) (d : Addr) (kd : ClassId) (c0 : Int32) (w0 : Int32) (gC : Int32) (h0 : Heap) (n0 : Nat) (v : Option Value) (h : Heap) (L : List Loc) : Prop := v = some (.ref a) ∧ Fr n0 L ∧ Keep h0 h [a, d] ∧ SB Z h a d kd 2 [(.int (own_b8 w0)), (.int (own_b8 c0)), o_, o_, o_, o_, o_, o_, o_, o_, o_, o_, o_, o_, o_, o_]
theorem ef_aps_1_1 (m : MethodId) (a : Addr) (sy : Addr)  : entryFrame m #[(.ref a), (.ref sy)] 2 = mkF m 0 #[.val (.ref a), .val (.ref sy)] [] := by first | (simp [entryFrame, mkF, argsToLocals, Value.category]; done) | rfl
theorem aps_1_1 (l : Launch) (Z : State) (a0 : Array Value) (hw : TW a0 Z) (ws : List Jvm.Cond) (a : Addr) (sy : Addr) (d : Addr) (kd : ClassId) (c0 : Int32) (w0 : Int32) (gC : Int32) (h0 : Heap) (n0 : Nat) (Z0 : n0 ≤ h0.size) (O : Old Z n0 h0) (SC : Sta Z Z.heap "java/lang/String" "COMPACT_STRINGS" "Z" (.int gC)) (hgC : ¬ gC = (0 : Int32)) (A : SB Z h0 a d kd 1 [(.int (own_b8 w0)), o_, o_, o_, o_, o_, o_, o_, o_, o_, o_, o_, o_, o_, o_, o_]) (Sy : Str Z h0 sy 1 [c0]) (g : n0 ≤ a) (gd : n0 ≤ d) (nad : @Ne Nat a d) :
    own_MF l Z MN21 jdk_67_method_7_code 2 (some (.object "java/lang/StringBuilder")) ws (own_R 4 0 0 61) #[(.ref a), (.ref sy)] h0 (Q_aps_1_1 Z a sy d kd c0 w0 gC h0 n0) := by
  have wd := @own_wd _ _ hw
  refine MetFree.of_bodySF (plainFor_of_name pn_java_lang_StringBuilder) hisR ?_
  intro p e s m args below meth c s₁ Bd hml0 hP hK
  obtain ⟨rfl, hZ, hh⟩ := hP
  have hx := Bd.exec
  have hby := Bd.bytes
  have hml : c.maxLocals = 2 := hml0
  have hown : s.vm.findClass "java/lang/StringBuilder" = some m.cls := findClass_of_methodNamed Bd.named
  have hnm := (name_of_methodNamed Bd.named Bd.method).1
  have X0 : Stand p l e (own_R 4 0 0 61) s m #[(.ref a), (.ref sy)] below meth c s₁ [] 0 0 := Stand.of_body Bd
  have e0 : s₁.heap = h0 := by rw [← hh, Bd.state]; rfl
  have N0 := Fr.nil n0
  refine go_of (A := s₁.setTop (entryFrame m #[(.ref a), (.ref sy)] 2)) (B := s₁.setTop (mkF m 0 #[.val (.ref a), .val (.ref sy)] [])) (fun _ kk' => castTop (ef_aps_1_1 m a sy) kk') ?_
  refine go_of (B := (s₁.setTop (mkF m 2 #[.val (.ref a), .val (.ref sy)] [(.ref sy), (.ref a)]))) (fun _ kk => XS.aloadN X0.here hx rfl (hb hby d22_0) rfl rfl (XS.aloadN X0.here hx rfl (hb hby d22_1) rfl rfl kk)) ?_
  obtain ⟨_, _, ⟨T1, L1, k1, n1⟩, -, X1, ⟨Lc1, hQ1, l1, y1, z1⟩, st1⟩ := superBack X0 hx hZ (y := MN3) hown (wd 110 rfl) (own_same (wd 111 rfl) (wd 121 rfl) rfl (by decide)) (wd 111 rfl) (wd 112 rfl) (by decide) (backOf (W := 0) (apa_1_1 l Z a0 hw [] a sy d kd c0 w0 gC h0 n0 (by omega) O SC hgC A Sy g gd nad) hZ (wd 114 rfl) (wd 97 rfl) (by decide) (by decide)) e0 (Ins.self A.1) (g := (mkF m 2 #[.val (.ref a), .val (.ref sy)] [(.ref sy), (.ref a)])) rfl (by rw [hml]; rfl) (wd 114 rfl) (argsL := [(.ref sy)]) (rest := []) (lenOf pd__Ljava_lang_String__Ljava_lang_AbstractStringBuilder_ rfl) rfl (by show 2 * 0 + _ ≤ _; exact Nat.le_of_eq rfl) (hb hby d22_2) (fun _ _ => ⟨rfl, e0, (by decide : 0 + 0 ≤ _), (by decide : 0 + 0 ≤ _)⟩)
  dsimp only [Pt.U, Pt.locs, Pt.cells, Pt.slots] at X1 l1 y1 z1 st1 hQ1
  subst l1 y1 z1
  obtain ⟨rfl, N1q, K1, A1⟩ := hQ1
  have N1 := Fr.app N0 N1q
  have sz1 := K1.1
  refine go_tr (B := (T1.setTop (mkF m 5 #[.val (.ref a), .val (.ref sy)] [(.ref a)]))) (st1) ?_
  refine go_of (B := (T1.setTop (mkF m 7 #[.val (.ref a), .val (.ref sy)] [(.ref a)]))) (fun _ kk => XS.pop X1.here hx rfl (hb hby d22_5) rfl rfl (XS.aloadN X1.here hx rfl (hb hby d22_6) rfl rfl kk)) ?_
  refine go_end X1 (v := some (.ref a)) (fun h => by rw [Bd.returns] at h; cases h) Bd.notSynchronized (by decide) (by decide) (Q := (Q_aps_1_1 Z a sy d kd c0 w0 gC h0 n0)) ?_ (fun fs hr => own_retA X1 hx Bd.returns rfl rfl (hb hby d22_7) hr)
  unfold Q_aps_1_1
  exact ⟨rfl, N1, ((Keep.refl h0 [a, d]).trans K1 (allS (Or.inl (List.mem_of_getElem? (i := 0) rfl)) (allS (Or.inl (List.mem_of_getElem? (i := 1) rfl)) all0))), A1⟩
theorem d31_0 : decode jdk_68_method_64_code 0 = .ok (.aload_n 0, 1) := by decide +kernel
theorem d31_1 : decode jdk_68_method_64_code 1 = .ok (.getfield 15, 3) := by decide +kernel
theorem d31_4 : decode jdk_68_method_64_code 4 = .ok (.areturn, 1) := by decide +kernel
def Q_gval (Z : State) (a : Addr) (d : Addr) (h0 : Heap) (n0 : Nat) (v : Option Value) (h : Heap) (L : List Loc) : Prop := v = some (.ref d) ∧ Fr n0 L ∧ h = h0
theorem ef_gval (m : MethodId) (a : Addr)  : entryFrame m #[(.ref a)] 1 = mkF m 0 #[.val (.ref a)] [] := by first | (simp [entryFrame, mkF, argsToLocals, Value.category]; done) | rfl
theorem gval (l : Launch) (Z : State) (a0 : Array Value) (hw : TW a0 Z) (ws : List Jvm.Cond) (a : Addr) (d : Addr) (h0 : Heap) (n0 : Nat) (Z0 : n0 ≤ h0.size) (Fv_ : Fld Z h0 a "java/lang/AbstractStringBuilder" "value" "[B" (.ref d)) :
    own_MF l Z MN5 jdk_68_method_64_code 1 (some (.array .byte)) ws (own_R 0 0 0 0) #[(.ref a)] h0 (Q_gval Z a d h0 n0) := by
  have wd := @own_wd _ _ hw
  refine MetFree.of_bodySF (plainFor_of_name pn_java_lang_AbstractStringBuilder) hisR ?_
  intro p e s m args below meth c s₁ Bd hml0 hP hK
  obtain ⟨rfl, hZ, hh⟩ := hP
  have hx := Bd.exec
  have hby := Bd.bytes
  have hml : c.maxLocals = 1 := hml0
  have hown : s.vm.findClass "java/lang/AbstractStringBuilder" = some m.cls := findClass_of_methodNamed Bd.named
  have hnm := (name_of_methodNamed Bd.named Bd.method).1
  have X0 : Stand p l e (own_R 0 0 0 0) s m #[(.ref a)] below meth c s₁ [] 0 0 := Stand.of_body Bd
  have e0 : s₁.heap = h0 := by rw [← hh, Bd.state]; rfl
  have N0 := Fr.nil n0
  refine go_of (A := s₁.setTop (entryFrame m #[(.ref a)] 1)) (B := s₁.setTop (mkF m 0 #[.val (.ref a)] [])) (fun _ kk' => castTop (ef_gval m a) kk') ?_
  refine go_of (B := (s₁.setTop (mkF m 1 #[.val (.ref a)] [(.ref a)]))) (fun _ kk => XS.aloadN X0.here hx rfl (hb hby d31_0) rfl rfl kk) ?_
  obtain ⟨T1, X1, e1, st1⟩ := getF X0 hx hZ hown (host := "") (Or.inl (wd 101 rfl)) Via.refl e0 Fv_ (g := (mkF m 1 #[.val (.ref a)] [(.ref a)])) rfl rfl (hb hby d31_1)
  refine go_of (B := (T1.setTop (mkF m 4 #[.val (.ref a)] [(.ref d)]))) (st1) ?_
  refine go_end X1 (v := some (.ref d)) (fun h => by rw [Bd.returns] at h; cases h) Bd.notSynchronized (by decide) (by decide) (Q := (Q_gval Z a d h0 n0)) ?_ (fun fs hr => own_retA X1 hx Bd.returns rfl rfl (hb hby d31_4) hr)
  unfold Q_gval
  try rw [e1]
  exact ⟨rfl, N0, rfl⟩
theorem d33_0 : decode jdk_68_method_6_code 0 = .ok (.aload_n 0, 1) := by decide +kernel
theorem d33_1 : decode jdk_68_method_6_code 1 = .ok (.getfield 79, 3) := by decide +kernel
theorem d33_4 : decode jdk_68_method_6_code 4 = .ok (.ireturn, 1) := by decide +kernel
def Q_alen (Z : State) (a : Addr) (k : Int32) (h0 : Heap) (n0 : Nat) (v : Option Value) (h : Heap) (L : List Loc) : Prop := v = some (.int k) ∧ Fr n0 L ∧ h = h0
theorem ef_alen (m : MethodId) (a : Addr)  : entryFrame m #[(.ref a)] 1 = mkF m 0 #[.val (.ref a)] [] := by first | (simp [entryFrame, mkF, argsToLocals, Value.category]; done) | rfl
theorem alen (l : Launch) (Z : State) (a0 : Array Value) (hw : TW a0 Z) (ws : List Jvm.Cond) (a : Addr) (k : Int32) (h0 : Heap) (n0 : Nat) (Z0 : n0 ≤ h0.size) (Fk_ : Fld Z h0 a "java/lang/AbstractStringBuilder" "count" "I" (.int k)) :
    own_MF l Z MN8 jdk_68_method_6_code 1 (some .int) ws (own_R 0 0 0 0) #[(.ref a)] h0 (Q_alen Z a k h0 n0) := by
  have wd := @own_wd _ _ hw
  refine MetFree.of_bodySF (plainFor_of_name pn_java_lang_AbstractStringBuilder) hisR ?_
  intro p e s m args below meth c s₁ Bd hml0 hP hK
  obtain ⟨rfl, hZ, hh⟩ := hP
  have hx := Bd.exec
  have hby := Bd.bytes
  have hml : c.maxLocals = 1 := hml0
  have hown : s.vm.findClass "java/lang/AbstractStringBuilder" = some m.cls := findClass_of_methodNamed Bd.named
  have hnm := (name_of_methodNamed Bd.named Bd.method).1
  have X0 : Stand p l e (own_R 0 0 0 0) s m #[(.ref a)] below meth c s₁ [] 0 0 := Stand.of_body Bd
  have e0 : s₁.heap = h0 := by rw [← hh, Bd.state]; rfl
  have N0 := Fr.nil n0
  refine go_of (A := s₁.setTop (entryFrame m #[(.ref a)] 1)) (B := s₁.setTop (mkF m 0 #[.val (.ref a)] [])) (fun _ kk' => castTop (ef_alen m a) kk') ?_
  refine go_of (B := (s₁.setTop (mkF m 1 #[.val (.ref a)] [(.ref a)]))) (fun _ kk => XS.aloadN X0.here hx rfl (hb hby d33_0) rfl rfl kk) ?_
  obtain ⟨T1, X1, e1, st1⟩ := getF X0 hx hZ hown (host := "") (Or.inl (wd 116 rfl)) Via.refl e0 Fk_ (g := (mkF m 1 #[.val (.ref a)] [(.ref a)])) rfl rfl (hb hby d33_1)
  refine go_of (B := (T1.setTop (mkF m 4 #[.val (.ref a)] [(.int k)]))) (st1) ?_
  refine go_end X1 (v := some (.int k)) (fun h => by rw [Bd.returns] at h; cases h) Bd.notSynchronized (by decide) (by decide) (Q := (Q_alen Z a k h0 n0)) ?_ (fun fs hr => own_retI X1 hx Bd.returns (hb hby d33_4) hr)
  unfold Q_alen
  try rw [e1]
  exact ⟨rfl, N0, rfl⟩
theorem d32_0 : decode jdk_67_method_93_code 0 = .ok (.aload_n 0, 1) := by decide +kernel
theorem d32_1 : decode jdk_67_method_93_code 1 = .ok (.invokespecial 343, 3) := by decide +kernel
theorem d32_4 : decode jdk_67_method_93_code 4 = .ok (.ireturn, 1) := by decide +kernel
def Q_slen (Z : State) (a : Addr) (k : Int32) (h0 : Heap) (n0 : Nat) (v : Option Value) (h : Heap) (L : List Loc) : Prop := v = some (.int k) ∧ Fr n0 L ∧ h = h0
theorem ef_slen (m : MethodId) (a : Addr)  : entryFrame m #[(.ref a)] 1 = mkF m 0 #[.val (.ref a)] [] := by first | (simp [entryFrame, mkF, argsToLocals, Value.category]; done) | rfl
theorem slen (l : Launch) (Z : State) (a0 : Array Value) (hw : TW a0 Z) (ws : List Jvm.Cond) (a : Addr) (k : Int32) (h0 : Heap) (n0 : Nat) (Z0 : n0 ≤ h0.size) (Ea : Exa Z h0 a "java/lang/StringBuilder") (Fk_ : Fld Z h0 a "java/lang/AbstractStringBuilder" "count" "I" (.int k)) :
    own_MF l Z (⟨"java/lang/StringBuilder", "length", "()I"⟩ : MethodName) jdk_67_method_93_code 1 (some .int) ws (own_R 1 0 0 12) #[(.ref a)] h0 (Q_slen Z a k h0 n0) := by
  have wd := @own_wd _ _ hw
  refine MetFree.of_bodySF (plainFor_of_name pn_java_lang_StringBuilder) hisR ?_
  intro p e s m args below meth c s₁ Bd hml0 hP hK
  obtain ⟨rfl, hZ, hh⟩ := hP
  have hx := Bd.exec
  have hby := Bd.bytes
  have hml : c.maxLocals = 1 := hml0
  have hown : s.vm.findClass "java/lang/StringBuilder" = some m.cls := findClass_of_methodNamed Bd.named
  have hnm := (name_of_methodNamed Bd.named Bd.method).1
  have X0 : Stand p l e (own_R 1 0 0 12) s m #[(.ref a)] below meth c s₁ [] 0 0 := Stand.of_body Bd
  have e0 : s₁.heap = h0 := by rw [← hh, Bd.state]; rfl
  have N0 := Fr.nil n0
  refine go_of (A := s₁.setTop (entryFrame m #[(.ref a)] 1)) (B := s₁.setTop (mkF m 0 #[.val (.ref a)] [])) (fun _ kk' => castTop (ef_slen m a) kk') ?_
  refine go_of (B := (s₁.setTop (mkF m 1 #[.val (.ref a)] [(.ref a)]))) (fun _ kk => XS.aloadN X0.here hx rfl (hb hby d32_0) rfl rfl kk) ?_
  obtain ⟨_, _, ⟨T1, L1, k1, n1⟩, -, X1, ⟨Lc1, hQ1, l1, y1, z1⟩, st1⟩ := superBack X0 hx hZ (y := MN8) hown (wd 167 rfl) (own_same (wd 163 rfl) (wd 121 rfl) rfl (by decide)) (wd 163 rfl) (wd 112 rfl) (by decide) (backOf (W := 0) (alen l Z a0 hw [] a k h0 n0 (by omega) Fk_) hZ (wd 168 rfl) (wd 97 rfl) (by decide) (by decide)) e0 (Ins.self Ea) (g := (mkF m 1 #[.val (.ref a)] [(.ref a)])) rfl (by rw [hml]; rfl) (wd 168 rfl) (argsL := []) (rest := []) (lenOf pd___I rfl) rfl (by show 2 * 0 + _ ≤ _; exact Nat.le_of_eq rfl) (hb hby d32_1) (fun _ _ => ⟨rfl, e0, (by decide : 0 + 0 ≤ _), (by decide : 0 + 0 ≤ _)⟩)
  dsimp only [Pt.U, Pt.locs, Pt.cells, Pt.slots] at X1 l1 y1 z1 st1 hQ1
  subst l1 y1 z1
  obtain ⟨rfl, N1q, e1⟩ := hQ1
  have N1 := Fr.app N0 N1q
  refine go_tr (B := (T1.setTop (mkF m 4 #[.val (.ref a)] [(.int k)]))) (st1) ?_
  refine go_end X1 (v := some (.int k)) (fun h => by rw [Bd.returns] at h; cases h) Bd.notSynchronized (by decide) (by decide) (Q := (Q_slen Z a k h0 n0)) ?_ (fun fs hr => own_retI X1 hx Bd.returns (hb hby d32_4) hr)
  unfold Q_slen
  try rw [e1]
  exact ⟨rfl, N1, rfl⟩
theorem d34_0 : decode jdk_68_method_68_code 0 = .ok (.getstatic 18, 3) := by decide +kernel
theorem d34_3 : decode jdk_68_method_68_code 3 = .ok (.ifCond .eq 14, 3) := by decide +kernel
theorem d34_6 : decode jdk_68_method_68_code 6 = .ok (.aload_n 0, 1) := by decide +kernel
theorem d34_7 : decode jdk_68_method_68_code 7 = .ok (.getfield 22, 3) := by decide +kernel
theorem d34_10 : decode jdk_68_method_68_code 10 = .ok (.ifCond .ne 7, 3) := by decide +kernel
theorem d34_13 : decode jdk_68_method_68_code 13 = .ok (.iconst 1, 1) := by decide +kernel
theorem d34_14 : decode jdk_68_method_68_code 14 = .ok (.goto 4, 3) := by decide +kernel
theorem d34_18 : decode jdk_68_method_68_code 18 = .ok (.ireturn, 1) := by decide +kernel
def Q_alat (Z : State) (a : Addr) (gC : Int32) (h0 : Heap) (n0 : Nat) (v : Option Value) (h : Heap) (L : List Loc) : Prop := v = some (.int 1) ∧ Fr n0 L ∧ h = h0
theorem ef_alat (m : MethodId) (a : Addr)  : entryFrame m #[(.ref a)] 1 = mkF m 0 #[.val (.ref a)] [] := by first | (simp [entryFrame, mkF, argsToLocals, Value.category]; done) | rfl
theorem alat (l : Launch) (Z : State) (a0 : Array Value) (hw : TW a0 Z) (ws : List Jvm.Cond) (a : Addr) (gC : Int32) (h0 : Heap) (n0 : Nat) (Z0 : n0 ≤ h0.size) (O : Old Z n0 h0) (SC : Sta Z Z.heap "java/lang/String" "COMPACT_STRINGS" "Z" (.int gC)) (hgC : ¬ gC = (0 : Int32)) (Fc_ : Fld Z h0 a "java/lang/AbstractStringBuilder" "coder" "B" (.int 0)) :
    own_MF l Z MN7 jdk_68_method_68_code 1 (some .boolean) ws (own_R 0 0 0 0) #[(.ref a)] h0 (Q_alat Z a gC h0 n0) := by
  have wd := @own_wd _ _ hw
  refine MetFree.of_bodySF (plainFor_of_name pn_java_lang_AbstractStringBuilder) hisR ?_
  intro p e s m args below meth c s₁ Bd hml0 hP hK
  obtain ⟨rfl, hZ, hh⟩ := hP
  have hx := Bd.exec
  have hby := Bd.bytes
  have hml : c.maxLocals = 1 := hml0
  have hown : s.vm.findClass "java/lang/AbstractStringBuilder" = some m.cls := findClass_of_methodNamed Bd.named
  have hnm := (name_of_methodNamed Bd.named Bd.method).1
  have X0 : Stand p l e (own_R 0 0 0 0) s m #[(.ref a)] below meth c s₁ [] 0 0 := Stand.of_body Bd
  have e0 : s₁.heap = h0 := by rw [← hh, Bd.state]; rfl
  have N0 := Fr.nil n0
  refine go_of (A := s₁.setTop (entryFrame m #[(.ref a)] 1)) (B := s₁.setTop (mkF m 0 #[.val (.ref a)] [])) (fun _ kk' => castTop (ef_alat m a) kk') ?_
  obtain ⟨T1, X1, e1, st1⟩ := getS2 X0 hx hZ hown (host := "") (Or.inl (wd 100 rfl)) Via.refl e0 (SC.ext O.2) (g := (mkF m 0 #[.val (.ref a)] [])) rfl (hb hby d34_0)
  refine go_of (B := (T1.setTop (mkF m 3 #[.val (.ref a)] [(.int gC)]))) (st1) ?_
  refine go_of (B := (T1.setTop (mkF m 7 #[.val (.ref a)] [(.ref a)]))) (fun _ kk => XS.ifNo X1.here hx rfl (hb hby d34_3) rfl ((if0 _ _).trans (feq hgC).1) (XS.aloadN X1.here hx rfl (hb hby d34_6) rfl rfl kk)) ?_
  obtain ⟨T2, X2, e2, st2⟩ := getF X1 hx hZ hown (host := "") (Or.inl (wd 103 rfl)) Via.refl e1 Fc_ (g := (mkF m 7 #[.val (.ref a)] [(.ref a)])) rfl rfl (hb hby d34_7)
  refine go_of (B := (T2.setTop (mkF m 10 #[.val (.ref a)] [(.int (0 : Int32))]))) (st2) ?_
  refine go_of (B := (T2.setTop (mkF m 18 #[.val (.ref a)] [(.int (1 : Int32))]))) (fun _ kk => XS.ifNo X2.here hx rfl (hb hby d34_10) rfl ((if0 _ _).trans (teq (by decide : (0 : Int32) = (0 : Int32))).2) (XS.iconst X2.here hx rfl (hb hby d34_13) (XS.goto X2.here hx rfl (pc0 := 14) (pc' := 18) rfl (hb hby d34_14) (by decide) (by decide) kk))) ?_
  refine go_end X2 (v := some (.int (nar .boolean (1 : Int32)))) (fun h => by rw [Bd.returns] at h; cases h) Bd.notSynchronized (by decide) (by decide) (Q := (Q_alat Z a gC h0 n0)) ?_ (fun fs hr => retN X2 hx (t := .boolean) Bd.returns (by simp) (hb hby d34_18) hr)
  unfold Q_alat
  try rw [e2]
  exact ⟨rfl, N0, rfl⟩
def StrN (Z : State) (h : Heap) (a : Addr) (nn : Int32) : Prop := ∃ (t : Addr) (k : ClassId) (vs : List Value), Exa Z h a "java/lang/String" ∧ Fld Z h a "java/lang/String" "coder" "B" (.int 0) ∧ Fld Z h a "java/lang/String" "value" "[B" (.ref t) ∧ Arv Z h t k .byte nn vs (.int 0)
def StrH (Z : State) (h : Heap) (a : Addr) (mm f : Int32) : Prop := ∃ (t : Addr) (k : ClassId) (vs : List Value), Exa Z h a "java/lang/String" ∧ Fld Z h a "java/lang/String" "coder" "B" (.int 0) ∧ Fld Z h a "java/lang/String" "value" "[B" (.ref t) ∧ Arv Z h t k .byte mm (.int (own_b8 f) :: .int (own_b8 (32 : Int32)) :: vs) (.int 0)
theorem StrN.ext {Z : State} {h h' : Heap} {a : Addr} {nn : Int32} (F : StrN Z h a nn) (E : Ext h h') : StrN Z h' a nn := by
  obtain ⟨t, k, vs, f1, f2, f3, f4⟩ := F; exact ⟨t, k, vs, f1.ext E, f2.ext E, f3.ext E, f4.ext E⟩
theorem StrH.ext {Z : State} {h h' : Heap} {a : Addr} {nn f : Int32} (F : StrH Z h a nn f) (E : Ext h h') : StrH Z h' a nn f := by
  obtain ⟨t, k, vs, f1, f2, f3, f4⟩ := F; exact ⟨t, k, vs, f1.ext E, f2.ext E, f3.ext E, f4.ext E⟩
theorem StrH.exa {Z : State} {h : Heap} {a : Addr} {nn f : Int32} (F : StrH Z h a nn f) : Exa Z h a "java/lang/String" := by obtain ⟨t, k, vs, f1, -⟩ := F; exact f1
theorem StrN.of {Z : State} {h : Heap} {a : Addr} {nn : Int32} {cs : List Int32} (F : Str Z h a nn cs) : StrN Z h a nn := by obtain ⟨t, k, f1, f2, f3, f4, -⟩ := F; exact ⟨t, k, _, f1, f2, f3, f4⟩
def N5 (nn : Int32) : Prop := nn = 0 ∨ nn = 1 ∨ nn = 2 ∨ nn = 3 ∨ nn = 4
def M5 (mm : Int32) : Prop := mm = 2 ∨ mm = 3 ∨ mm = 4 ∨ mm = 5 ∨ mm = 6
theorem N5.m {nn : Int32} (h : N5 nn) : M5 ((2 : Int32) + nn) := by unfold M5; rcases h with rfl | rfl | rfl | rfl | rfl <;> decide
theorem N5.ge {nn : Int32} (h : N5 nn) : ¬ nn < 0 := by rcases h with rfl | rfl | rfl | rfl | rfl <;> decide
theorem N5.le {nn : Int32} (h : N5 nn) : (2 : Int32).toNatClampNeg + nn.toNatClampNeg ≤ (16 : Int32).toNatClampNeg := by rcases h with rfl | rfl | rfl | rfl | rfl <;> decide
theorem M5.ge {mm : Int32} (h : M5 mm) : ¬ mm < 0 := by rcases h with rfl | rfl | rfl | rfl | rfl <;> decide
theorem M5.cap {mm : Int32} (h : M5 mm) : (mm - (0 : Int32)).toNatClampNeg ≤ 6 := by rcases h with rfl | rfl | rfl | rfl | rfl <;> decide
theorem M5.neg {mm : Int32} (h : M5 mm) : ¬ (mm - (0 : Int32)) < 0 := by rcases h with rfl | rfl | rfl | rfl | rfl <;> decide
theorem M5.ens {mm : Int32} (h : M5 mm) : ¬ (0 : Int32) < (mm - (16 : Int32)) := by rcases h with rfl | rfl | rfl | rfl | rfl <;> decide
theorem M5.ne {mm : Int32} (h : M5 mm) : ¬ mm = (16 : Int32) := by rcases h with rfl | rfl | rfl | rfl | rfl <;> decide
theorem M5.min {mm : Int32} (h : M5 mm) : own_min (16 : Int32) (mm - (0 : Int32)) = mm := by rcases h with rfl | rfl | rfl | rfl | rfl <;> decide
theorem M5.p0 {mm : Int32} (h : M5 mm) : (0 : Int32) < mm := by rcases h with rfl | rfl | rfl | rfl | rfl <;> decide
theorem M5.p1 {mm : Int32} (h : M5 mm) : (1 : Int32) < mm := by rcases h with rfl | rfl | rfl | rfl | rfl <;> decide
theorem M5.h4 {mm : Int32} (h : M5 mm) : (0 : Int32).toNatClampNeg + mm.toNatClampNeg ≤ (16 : Int32).toNatClampNeg := by rcases h with rfl | rfl | rfl | rfl | rfl <;> decide
theorem M5.h5 {mm : Int32} (h : M5 mm) : (0 : Int32).toNatClampNeg + mm.toNatClampNeg ≤ (mm - (0 : Int32)).toNatClampNeg := by rcases h with rfl | rfl | rfl | rfl | rfl <;> decide
theorem M5.h6 {mm : Int32} (h : M5 mm) : (0 : Int32).toNatClampNeg + mm.toNatClampNeg ≤ 6 := by rcases h with rfl | rfl | rfl | rfl | rfl <;> decide
theorem own_sub0 (z : Int32) : z - (0 : Int32) = z := by simp
theorem own_shr0 (z : Int32) : z >>> ((0 : Int32) &&& 31) = z := by
  apply Int32.toInt_inj.mp; rw [c_ishr z 0 0 (by decide)]; simp
theorem own_minmm (z : Int32) : own_min z z = z := by unfold own_min; split <;> rfl
theorem own_two {Z : State} {h : Heap} {d : Addr} {kd : ClassId} {z mm : Int32} {A B : Value} {vs : List Value} (hm : M5 mm) (V : Arv Z h d kd .byte z (List.take (0 : Int32).toNatClampNeg ([] ++ List.replicate 6 (Value.int 0)) ++ (List.range mm.toNatClampNeg).map (fun i => (A :: B :: vs).getD ((0 : Int32).toNatClampNeg + i) (.int 0)) ++ List.drop ((0 : Int32).toNatClampNeg + mm.toNatClampNeg) ([] ++ List.replicate 6 (Value.int 0))) (.int 0)) : ∃ ws, Arv Z h d kd .byte z (A :: B :: ws) (.int 0) := by
  rcases hm with rfl | rfl | rfl | rfl | rfl <;> exact ⟨_, V⟩
def Q_lenN (Z : State) (a : Addr) (nn : Int32) (gC : Int32) (h0 : Heap) (n0 : Nat) (v : Option Value) (h : Heap) (L : List Loc) : Prop := v = some (.int nn) ∧ Fr n0 L ∧ h = h0
theorem ef_lenN (m : MethodId) (a : Addr)  : entryFrame m #[(.ref a)] 1 = mkF m 0 #[.val (.ref a)] [] := by first | (simp [entryFrame, mkF, argsToLocals, Value.category]; done) | rfl
theorem lenN (l : Launch) (Z : State) (a0 : Array Value) (hw : TW a0 Z) (ws : List Jvm.Cond) (a : Addr) (nn : Int32) (gC : Int32) (h0 : Heap) (n0 : Nat) (Z0 : n0 ≤ h0.size) (O : Old Z n0 h0) (SC : Sta Z Z.heap "java/lang/String" "COMPACT_STRINGS" "Z" (.int gC)) (hgC : ¬ gC = (0 : Int32)) (S : StrN Z h0 a nn) :
    own_MF l Z MN19 jdk_42_method_54_code 1 (some .int) ws (own_R 1 0 0 13) #[(.ref a)] h0 (Q_lenN Z a nn gC h0 n0) := by
  have wd := @own_wd _ _ hw
  refine MetFree.of_bodySF (plainFor_of_name pn_java_lang_String) hisR ?_
  intro p e s m args below meth c s₁ Bd hml0 hP hK
  obtain ⟨rfl, hZ, hh⟩ := hP
  have hx := Bd.exec
  have hby := Bd.bytes
  have hml : c.maxLocals = 1 := hml0
  have hown : s.vm.findClass "java/lang/String" = some m.cls := findClass_of_methodNamed Bd.named
  have hnm := (name_of_methodNamed Bd.named Bd.method).1
  have X0 : Stand p l e (own_R 1 0 0 13) s m #[(.ref a)] below meth c s₁ [] 0 0 := Stand.of_body Bd
  have e0 : s₁.heap = h0 := by rw [← hh, Bd.state]; rfl
  have N0 := Fr.nil n0
  obtain ⟨t, k, vs, Ea, Fc, Fv, Va⟩ := id S
  have lta := own_nlt (Ea.lt)
  have ltt := own_nlt (Va.lt)
  refine go_of (A := s₁.setTop (entryFrame m #[(.ref a)] 1)) (B := s₁.setTop (mkF m 0 #[.val (.ref a)] [])) (fun _ kk' => castTop (ef_lenN m a) kk') ?_
  refine go_of (B := (s₁.setTop (mkF m 1 #[.val (.ref a)] [(.ref a)]))) (fun _ kk => XS.aloadN X0.here hx rfl (hb hby d9_0) rfl rfl kk) ?_
  obtain ⟨T1, X1, e1, st1⟩ := getF X0 hx hZ hown (host := "") (Or.inl (wd 25 rfl)) Via.refl e0 Fv (g := (mkF m 1 #[.val (.ref a)] [(.ref a)])) rfl rfl (hb hby d9_1)
  refine go_of (B := (T1.setTop (mkF m 4 #[.val (.ref a)] [(.ref t)]))) (st1) ?_
  obtain ⟨cl2, Ar2, q2, Sz2, Nn2, Hh2, G2⟩ := id (Va)
  have ln2 := len_of Sz2 Nn2
  refine go_of (B := (T1.setTop (mkF m 5 #[.val (.ref a)] [(.int nn)]))) (fun _ kk => X1.arraylength hx (by rw [e1]; exact Ar2.1) (State.isArrayOf_alike hZ.alike Ar2.2.1) (g := (mkF m 4 #[.val (.ref a)] [(.ref t)])) rfl rfl (hb hby d9_4) _ (by rw [ln2]; exact kk)) ?_
  refine go_of (B := (T1.setTop (mkF m 6 #[.val (.ref a)] [(.ref a), (.int nn)]))) (fun _ kk => XS.aloadN X1.here hx rfl (hb hby d9_5) rfl rfl kk) ?_
  obtain ⟨cq3, kq3, q3a, q3b, q3c⟩ := isOf hZ e1 Ea
  obtain ⟨_, _, ⟨T3, L3, k3, n3⟩, -, X3, ⟨Lc3, hQ3, l3, y3, z3⟩, st3⟩ := X1.virtualBack hx (y := MN14) (z := MN14) hown (mvT hZ (wd 52 rfl)) (mvT hZ (wd 53 rfl)) (notFace_of_selects (args := #[]) (mvT hZ (wd 55 rfl))) (mvT hZ (wd 55 rfl)) (mvT hZ (wd 54 rfl)) (by decide) (backOf (W := 1) (str_coder l Z a0 hw [] a gC h0 n0 Z0 O SC hgC Fc) hZ (wd 56 rfl) (wd 7 rfl) (by decide) (by decide)) q3a q3c (g := (mkF m 6 #[.val (.ref a)] [(.ref a), (.int nn)])) rfl (by rw [hml]; rfl) (Steps.refl _) (argsL := []) (rest := [(.int nn)]) (lenOf pd___B rfl) rfl (by show 2 * 0 + _ ≤ _; exact Nat.le_of_eq rfl) (hb hby d9_6) (fun _ _ => ⟨rfl, e1, (by decide : 0 + 0 ≤ _), (by decide : 0 + 0 ≤ _)⟩)
  dsimp only [Pt.U, Pt.locs, Pt.cells, Pt.slots] at X3 l3 y3 z3 st3 hQ3
  subst l3 y3 z3
  obtain ⟨rfl, N3q, e3⟩ := hQ3
  have N3 := Fr.app N0 N3q
  refine go_tr (B := (T3.setTop (mkF m 9 #[.val (.ref a)] [(.int (0 : Int32)), (.int nn)]))) (st3) ?_
  refine go_of (B := (T3.setTop (mkF m 10 #[.val (.ref a)] [(.int (nn >>> ((0 : Int32) &&& 31)))]))) (fun _ kk => XS.ishr X3.here hx rfl (hb hby d9_9) rfl kk) ?_
  refine go_end X3 (v := some (.int (nn >>> ((0 : Int32) &&& 31)))) (fun h => by rw [Bd.returns] at h; cases h) Bd.notSynchronized (by decide) (by decide) (Q := (Q_lenN Z a nn gC h0 n0)) ?_ (fun fs hr => own_retI X3 hx Bd.returns (hb hby d9_10) hr)
  unfold Q_lenN
  try rw [e3]
  refine ⟨?_, N3, rfl⟩
  rw [own_shr0]
def Q_lenH (Z : State) (a : Addr) (mm : Int32) (f0 : Int32) (gC : Int32) (h0 : Heap) (n0 : Nat) (v : Option Value) (h : Heap) (L : List Loc) : Prop := v = some (.int mm) ∧ Fr n0 L ∧ h = h0
theorem ef_lenH (m : MethodId) (a : Addr)  : entryFrame m #[(.ref a)] 1 = mkF m 0 #[.val (.ref a)] [] := by first | (simp [entryFrame, mkF, argsToLocals, Value.category]; done) | rfl
theorem lenH (l : Launch) (Z : State) (a0 : Array Value) (hw : TW a0 Z) (ws : List Jvm.Cond) (a : Addr) (mm : Int32) (f0 : Int32) (gC : Int32) (h0 : Heap) (n0 : Nat) (Z0 : n0 ≤ h0.size) (O : Old Z n0 h0) (SC : Sta Z Z.heap "java/lang/String" "COMPACT_STRINGS" "Z" (.int gC)) (hgC : ¬ gC = (0 : Int32)) (S : StrH Z h0 a mm f0) :
    own_MF l Z MN19 jdk_42_method_54_code 1 (some .int) ws (own_R 1 0 0 13) #[(.ref a)] h0 (Q_lenH Z a mm f0 gC h0 n0) := by
  have wd := @own_wd _ _ hw
  refine MetFree.of_bodySF (plainFor_of_name pn_java_lang_String) hisR ?_
  intro p e s m args below meth c s₁ Bd hml0 hP hK
  obtain ⟨rfl, hZ, hh⟩ := hP
  have hx := Bd.exec
  have hby := Bd.bytes
  have hml : c.maxLocals = 1 := hml0
  have hown : s.vm.findClass "java/lang/String" = some m.cls := findClass_of_methodNamed Bd.named
  have hnm := (name_of_methodNamed Bd.named Bd.method).1
  have X0 : Stand p l e (own_R 1 0 0 13) s m #[(.ref a)] below meth c s₁ [] 0 0 := Stand.of_body Bd
  have e0 : s₁.heap = h0 := by rw [← hh, Bd.state]; rfl
  have N0 := Fr.nil n0
  obtain ⟨t, k, vs, Ea, Fc, Fv, Va⟩ := id S
  have lta := own_nlt (Ea.lt)
  have ltt := own_nlt (Va.lt)
  refine go_of (A := s₁.setTop (entryFrame m #[(.ref a)] 1)) (B := s₁.setTop (mkF m 0 #[.val (.ref a)] [])) (fun _ kk' => castTop (ef_lenH m a) kk') ?_
  refine go_of (B := (s₁.setTop (mkF m 1 #[.val (.ref a)] [(.ref a)]))) (fun _ kk => XS.aloadN X0.here hx rfl (hb hby d9_0) rfl rfl kk) ?_
  obtain ⟨T1, X1, e1, st1⟩ := getF X0 hx hZ hown (host := "") (Or.inl (wd 25 rfl)) Via.refl e0 Fv (g := (mkF m 1 #[.val (.ref a)] [(.ref a)])) rfl rfl (hb hby d9_1)
  refine go_of (B := (T1.setTop (mkF m 4 #[.val (.ref a)] [(.ref t)]))) (st1) ?_
  obtain ⟨cl2, Ar2, q2, Sz2, Nn2, Hh2, G2⟩ := id (Va)
  have ln2 := len_of Sz2 Nn2
  refine go_of (B := (T1.setTop (mkF m 5 #[.val (.ref a)] [(.int mm)]))) (fun _ kk => X1.arraylength hx (by rw [e1]; exact Ar2.1) (State.isArrayOf_alike hZ.alike Ar2.2.1) (g := (mkF m 4 #[.val (.ref a)] [(.ref t)])) rfl rfl (hb hby d9_4) _ (by rw [ln2]; exact kk)) ?_
  refine go_of (B := (T1.setTop (mkF m 6 #[.val (.ref a)] [(.ref a), (.int mm)]))) (fun _ kk => XS.aloadN X1.here hx rfl (hb hby d9_5) rfl rfl kk) ?_
  obtain ⟨cq3, kq3, q3a, q3b, q3c⟩ := isOf hZ e1 Ea
  obtain ⟨_, _, ⟨T3, L3, k3, n3⟩, -, X3, ⟨Lc3, hQ3, l3, y3, z3⟩, st3⟩ := X1.virtualBack hx (y := MN14) (z := MN14) hown (mvT hZ (wd 52 rfl)) (mvT hZ (wd 53 rfl)) (notFace_of_selects (args := #[]) (mvT hZ (wd 55 rfl))) (mvT hZ (wd 55 rfl)) (mvT hZ (wd 54 rfl)) (by decide) (backOf (W := 1) (str_coder l Z a0 hw [] a gC h0 n0 Z0 O SC hgC Fc) hZ (wd 56 rfl) (wd 7 rfl) (by decide) (by decide)) q3a q3c (g := (mkF m 6 #[.val (.ref a)] [(.ref a), (.int mm)])) rfl (by rw [hml]; rfl) (Steps.refl _) (argsL := []) (rest := [(.int mm)]) (lenOf pd___B rfl) rfl (by show 2 * 0 + _ ≤ _; exact Nat.le_of_eq rfl) (hb hby d9_6) (fun _ _ => ⟨rfl, e1, (by decide : 0 + 0 ≤ _), (by decide : 0 + 0 ≤ _)⟩)
  dsimp only [Pt.U, Pt.locs, Pt.cells, Pt.slots] at X3 l3 y3 z3 st3 hQ3
  subst l3 y3 z3
  obtain ⟨rfl, N3q, e3⟩ := hQ3
  have N3 := Fr.app N0 N3q
  refine go_tr (B := (T3.setTop (mkF m 9 #[.val (.ref a)] [(.int (0 : Int32)), (.int mm)]))) (st3) ?_
  refine go_of (B := (T3.setTop (mkF m 10 #[.val (.ref a)] [(.int (mm >>> ((0 : Int32) &&& 31)))]))) (fun _ kk => XS.ishr X3.here hx rfl (hb hby d9_9) rfl kk) ?_
  refine go_end X3 (v := some (.int (mm >>> ((0 : Int32) &&& 31)))) (fun h => by rw [Bd.returns] at h; cases h) Bd.notSynchronized (by decide) (by decide) (Q := (Q_lenH Z a mm f0 gC h0 n0)) ?_ (fun fs hr => own_retI X3 hx Bd.returns (hb hby d9_10) hr)
  unfold Q_lenH
  try rw [e3]
  refine ⟨?_, N3, rfl⟩
  rw [own_shr0]
def Q_gbN (Z : State) (a : Addr) (d : Addr) (nn : Int32) (w0 : Int32) (w1 : Int32) (kd : ClassId) (gC : Int32) (h0 : Heap) (n0 : Nat) (v : Option Value) (h : Heap) (L : List Loc) : Prop := v = none ∧ Fr n0 L ∧ Keep h0 h [d] ∧ ∃ vs, Arv Z h d kd .byte 16 ((.int (own_b8 w0)) :: (.int (own_b8 w1)) :: vs) (.int 0)
theorem ef_gbN (m : MethodId) (a : Addr) (d : Addr)  : entryFrame m #[(.ref a), (.ref d), (.int (2 : Int32)), (.int (0 : Int32))] 4 = mkF m 0 #[.val (.ref a), .val (.ref d), .val (.int (2 : Int32)), .val (.int (0 : Int32))] [] := by first | (simp [entryFrame, mkF, argsToLocals, Value.category]; done) | rfl
theorem gbN (l : Launch) (Z : State) (a0 : Array Value) (hw : TW a0 Z) (ws : List Jvm.Cond) (a : Addr) (d : Addr) (nn : Int32) (w0 : Int32) (w1 : Int32) (kd : ClassId) (gC : Int32) (h0 : Heap) (n0 : Nat) (Z0 : n0 ≤ h0.size) (O : Old Z n0 h0) (SC : Sta Z Z.heap "java/lang/String" "COMPACT_STRINGS" "Z" (.int gC)) (hgC : ¬ gC = (0 : Int32)) (S : StrN Z h0 a nn) (hn : N5 nn) (VD : Arv Z h0 d kd .byte 16 [(.int (own_b8 w0)), (.int (own_b8 w1)), o_, o_, o_, o_, o_, o_, o_, o_, o_, o_, o_, o_, o_, o_] (.int 0)) (gd : n0 ≤ d) :
    own_MF l Z MN15 jdk_42_method_147_code 4 none ws (own_R 1 0 0 18) #[(.ref a), (.ref d), (.int (2 : Int32)), (.int (0 : Int32))] h0 (Q_gbN Z a d nn w0 w1 kd gC h0 n0) := by
  have wd := @own_wd _ _ hw
  refine MetFree.of_bodySF (plainFor_of_name pn_java_lang_String) hisR ?_
  intro p e s m args below meth c s₁ Bd hml0 hP hK
  obtain ⟨rfl, hZ, hh⟩ := hP
  have hx := Bd.exec
  have hby := Bd.bytes
  have hml : c.maxLocals = 4 := hml0
  have hown : s.vm.findClass "java/lang/String" = some m.cls := findClass_of_methodNamed Bd.named
  have hnm := (name_of_methodNamed Bd.named Bd.method).1
  have X0 : Stand p l e (own_R 1 0 0 18) s m #[(.ref a), (.ref d), (.int (2 : Int32)), (.int (0 : Int32))] below meth c s₁ [] 0 0 := Stand.of_body Bd
  have e0 : s₁.heap = h0 := by rw [← hh, Bd.state]; rfl
  have N0 := Fr.nil n0
  obtain ⟨t, k, vs, Ea, Fc, Fv, Va⟩ := id S
  have lta := own_nlt (Ea.lt)
  have ltt := own_nlt (Va.lt)
  have ltd := own_nlt (VD.lt)
  refine go_of (A := s₁.setTop (entryFrame m #[(.ref a), (.ref d), (.int (2 : Int32)), (.int (0 : Int32))] 4)) (B := s₁.setTop (mkF m 0 #[.val (.ref a), .val (.ref d), .val (.int (2 : Int32)), .val (.int (0 : Int32))] [])) (fun _ kk' => castTop (ef_gbN m a d) kk') ?_
  refine go_of (B := (s₁.setTop (mkF m 1 #[.val (.ref a), .val (.ref d), .val (.int (2 : Int32)), .val (.int (0 : Int32))] [(.ref a)]))) (fun _ kk => XS.aloadN X0.here hx rfl (hb hby d27_0) rfl rfl kk) ?_
  obtain ⟨cq1, kq1, q1a, q1b, q1c⟩ := isOf hZ e0 Ea
  obtain ⟨_, _, ⟨T1, L1, k1, n1⟩, -, X1, ⟨Lc1, hQ1, l1, y1, z1⟩, st1⟩ := X0.virtualBack hx (y := MN14) (z := MN14) hown (mvT hZ (wd 52 rfl)) (mvT hZ (wd 53 rfl)) (notFace_of_selects (args := #[]) (mvT hZ (wd 55 rfl))) (mvT hZ (wd 55 rfl)) (mvT hZ (wd 54 rfl)) (by decide) (backOf (W := 0) (str_coder l Z a0 hw [] a gC h0 n0 (by omega) O SC hgC Fc) hZ (wd 56 rfl) (wd 7 rfl) (by decide) (by decide)) q1a q1c (g := (mkF m 1 #[.val (.ref a), .val (.ref d), .val (.int (2 : Int32)), .val (.int (0 : Int32))] [(.ref a)])) rfl (by rw [hml]; rfl) (Steps.refl _) (argsL := []) (rest := []) (lenOf pd___B rfl) rfl (by show 2 * 0 + _ ≤ _; exact Nat.le_of_eq rfl) (hb hby d27_1) (fun _ _ => ⟨rfl, e0, (by decide : 0 + 0 ≤ _), (by decide : 0 + 0 ≤ _)⟩)
  dsimp only [Pt.U, Pt.locs, Pt.cells, Pt.slots] at X1 l1 y1 z1 st1 hQ1
  subst l1 y1 z1
  obtain ⟨rfl, N1q, e1⟩ := hQ1
  have N1 := Fr.app N0 N1q
  refine go_tr (B := (T1.setTop (mkF m 4 #[.val (.ref a), .val (.ref d), .val (.int (2 : Int32)), .val (.int (0 : Int32))] [(.int (0 : Int32))]))) (st1) ?_
  refine go_of (B := (T1.setTop (mkF m 9 #[.val (.ref a), .val (.ref d), .val (.int (2 : Int32)), .val (.int (0 : Int32))] [(.ref a)]))) (fun _ kk => XS.iloadN X1.here hx rfl (hb hby d27_4) rfl (XS.icmpNo X1.here hx rfl (hb hby d27_5) rfl (teq (by decide : (0 : Int32) = (0 : Int32))).2 (XS.aloadN X1.here hx rfl (hb hby d27_8) rfl rfl kk))) ?_
  obtain ⟨T2, X2, e2, st2⟩ := getF X1 hx hZ hown (host := "") (Or.inl (wd 25 rfl)) Via.refl e1 Fv (g := (mkF m 9 #[.val (.ref a), .val (.ref d), .val (.int (2 : Int32)), .val (.int (0 : Int32))] [(.ref a)])) rfl rfl (hb hby d27_9)
  refine go_of (B := (T2.setTop (mkF m 12 #[.val (.ref a), .val (.ref d), .val (.int (2 : Int32)), .val (.int (0 : Int32))] [(.ref t)]))) (st2) ?_
  refine go_of (B := (T2.setTop (mkF m 18 #[.val (.ref a), .val (.ref d), .val (.int (2 : Int32)), .val (.int (0 : Int32))] [(.ref a), (.int (2 : Int32)), (.ref d), (.int (0 : Int32)), (.ref t)]))) (fun _ kk => XS.iconst X2.here hx rfl (hb hby d27_12) (XS.aloadN X2.here hx rfl (hb hby d27_13) rfl rfl (XS.iloadN X2.here hx rfl (hb hby d27_14) rfl (XS.iloadN X2.here hx rfl (hb hby d27_15) rfl (XS.ishl X2.here hx rfl (hb hby d27_16) rfl (XS.aloadN X2.here hx rfl (hb hby d27_17) rfl rfl kk)))))) ?_
  obtain ⟨T3, X3, e3, st3⟩ := getF X2 hx hZ hown (host := "") (Or.inl (wd 25 rfl)) Via.refl e2 Fv (g := (mkF m 18 #[.val (.ref a), .val (.ref d), .val (.int (2 : Int32)), .val (.int (0 : Int32))] [(.ref a), (.int (2 : Int32)), (.ref d), (.int (0 : Int32)), (.ref t)])) rfl rfl (hb hby d27_18)
  refine go_of (B := (T3.setTop (mkF m 21 #[.val (.ref a), .val (.ref d), .val (.int (2 : Int32)), .val (.int (0 : Int32))] [(.ref t), (.int (2 : Int32)), (.ref d), (.int (0 : Int32)), (.ref t)]))) (st3) ?_
  obtain ⟨cl4, Ar4, q4, Sz4, Nn4, Hh4, G4⟩ := id (Va)
  have ln4 := len_of Sz4 Nn4
  refine go_of (B := (T3.setTop (mkF m 22 #[.val (.ref a), .val (.ref d), .val (.int (2 : Int32)), .val (.int (0 : Int32))] [(.int nn), (.int (2 : Int32)), (.ref d), (.int (0 : Int32)), (.ref t)]))) (fun _ kk => X3.arraylength hx (by rw [e3]; exact Ar4.1) (State.isArrayOf_alike hZ.alike Ar4.2.1) (g := (mkF m 21 #[.val (.ref a), .val (.ref d), .val (.int (2 : Int32)), .val (.int (0 : Int32))] [(.ref t), (.int (2 : Int32)), (.ref d), (.int (0 : Int32)), (.ref t)])) rfl rfl (hb hby d27_21) _ (by rw [ln4]; exact kk)) ?_
  obtain ⟨T5, h5, L5, X5, e5, N5, K5, Vq5, st5⟩ := cpA X3 hx hZ hown (wd 139 rfl) (wd 142 rfl) (wd 140 rfl) (wd 141 rfl) e3 Va VD (Or.inl ⟨rfl, rfl⟩) (sp := (0 : Int32)) (dp := (2 : Int32)) (nn := nn) (by decide) (by decide) hn.ge (Nat.le_of_eq (Nat.zero_add _)) hn.le rfl hn.le N1 (gd : n0 ≤ d) (g := (mkF m 22 #[.val (.ref a), .val (.ref d), .val (.int (2 : Int32)), .val (.int (0 : Int32))] [(.int nn), (.int (2 : Int32)), (.ref d), (.int (0 : Int32)), (.ref t)])) rfl (by rw [hml]; rfl) rfl (hb hby d27_22) (by decide) (W := 0) (by show 2 * 0 + _ ≤ _; exact Nat.le_of_eq rfl) (by decide)
  have sz5 := K5.1
  have Vz5 : ∃ vs, Arv Z h5 d kd .byte 16 ((.int (own_b8 w0)) :: (.int (own_b8 w1)) :: vs) (.int 0) := ⟨_, Vq5⟩
  refine go_of (B := (T5.setTop (mkF m 25 #[.val (.ref a), .val (.ref d), .val (.int (2 : Int32)), .val (.int (0 : Int32))] []))) (st5) ?_
  refine go_of (B := (T5.setTop (mkF m 43 #[.val (.ref a), .val (.ref d), .val (.int (2 : Int32)), .val (.int (0 : Int32))] []))) (fun _ kk => XS.goto X5.here hx rfl (pc0 := 25) (pc' := 43) rfl (hb hby d27_25) (by decide) (by decide) kk) ?_
  refine go_end X5 (v := none) (fun _ => rfl) Bd.notSynchronized (by decide) (by decide) (Q := (Q_gbN Z a d nn w0 w1 kd gC h0 n0)) ?_ (fun fs hr => X5.returnOut hx Bd.returns (hb hby d27_43) hr)
  unfold Q_gbN
  try rw [e5]
  exact ⟨rfl, N5, ((Keep.refl h0 [d]).trans K5 (allS (Or.inl (List.mem_of_getElem? (i := 0) rfl)) all0)), Vz5⟩
def Q_psaN (Z : State) (a : Addr) (sy : Addr) (d : Addr) (kd : ClassId) (nn : Int32) (w0 : Int32) (w1 : Int32) (gC : Int32) (h0 : Heap) (n0 : Nat) (v : Option Value) (h : Heap) (L : List Loc) : Prop := v = none ∧ Fr n0 L ∧ Keep h0 h [d] ∧ ∃ vs, Arv Z h d kd .byte 16 ((.int (own_b8 w0)) :: (.int (own_b8 w1)) :: vs) (.int 0)
theorem ef_psaN (m : MethodId) (a : Addr) (sy : Addr)  : entryFrame m #[(.ref a), (.int (2 : Int32)), (.ref sy)] 3 = mkF m 0 #[.val (.ref a), .val (.int (2 : Int32)), .val (.ref sy)] [] := by first | (simp [entryFrame, mkF, argsToLocals, Value.category]; done) | rfl
theorem psaN (l : Launch) (Z : State) (a0 : Array Value) (hw : TW a0 Z) (ws : List Jvm.Cond) (a : Addr) (sy : Addr) (d : Addr) (kd : ClassId) (nn : Int32) (w0 : Int32) (w1 : Int32) (gC : Int32) (h0 : Heap) (n0 : Nat) (Z0 : n0 ≤ h0.size) (O : Old Z n0 h0) (SC : Sta Z Z.heap "java/lang/String" "COMPACT_STRINGS" "Z" (.int gC)) (hgC : ¬ gC = (0 : Int32)) (A : SB Z h0 a d kd 2 [(.int (own_b8 w0)), (.int (own_b8 w1)), o_, o_, o_, o_, o_, o_, o_, o_, o_, o_, o_, o_, o_, o_]) (Sy : StrN Z h0 sy nn) (hn : N5 nn) (g : n0 ≤ a) (gd : n0 ≤ d) (nad : @Ne Nat a d) :
    own_MF l Z MN9 jdk_68_method_73_code 3 none ws (own_R 2 0 0 33) #[(.ref a), (.int (2 : Int32)), (.ref sy)] h0 (Q_psaN Z a sy d kd nn w0 w1 gC h0 n0) := by
  have wd := @own_wd _ _ hw
  refine MetFree.of_bodySF (plainFor_of_name pn_java_lang_AbstractStringBuilder) hisR ?_
  intro p e s m args below meth c s₁ Bd hml0 hP hK
  obtain ⟨rfl, hZ, hh⟩ := hP
  have hx := Bd.exec
  have hby := Bd.bytes
  have hml : c.maxLocals = 3 := hml0
  have hown : s.vm.findClass "java/lang/AbstractStringBuilder" = some m.cls := findClass_of_methodNamed Bd.named
  have hnm := (name_of_methodNamed Bd.named Bd.method).1
  have X0 : Stand p l e (own_R 2 0 0 33) s m #[(.ref a), (.int (2 : Int32)), (.ref sy)] below meth c s₁ [] 0 0 := Stand.of_body Bd
  have e0 : s₁.heap = h0 := by rw [← hh, Bd.state]; rfl
  have N0 := Fr.nil n0
  obtain ⟨ty, ky, vy, Ey, Fcy, Fvy, Vy⟩ := id Sy
  have lta := own_nlt (A.1.lt)
  have ltd := own_nlt (A.2.2.2.2.lt)
  refine go_of (A := s₁.setTop (entryFrame m #[(.ref a), (.int (2 : Int32)), (.ref sy)] 3)) (B := s₁.setTop (mkF m 0 #[.val (.ref a), .val (.int (2 : Int32)), .val (.ref sy)] [])) (fun _ kk' => castTop (ef_psaN m a sy) kk') ?_
  refine go_of (B := (s₁.setTop (mkF m 2 #[.val (.ref a), .val (.int (2 : Int32)), .val (.ref sy)] [(.ref sy), (.ref a)]))) (fun _ kk => XS.aloadN X0.here hx rfl (hb hby d25_0) rfl rfl (XS.aloadN X0.here hx rfl (hb hby d25_1) rfl rfl kk)) ?_
  obtain ⟨cq1, q1, q1'⟩ := A.1.cell
  obtain ⟨_, _, ⟨T1, L1, k1, n1⟩, -, X1, ⟨Lc1, hQ1, l1, y1, z1⟩, st1⟩ := X0.privateBack hx (y := MN6) hown (mvT hZ (wd 128 rfl)) (mvT hZ (wd 129 rfl)) (mvT hZ (own_selp (wd 131 rfl) (wd 130 rfl) (wd 129 rfl) (by decide))) (Cond.privateMethod_at (mvP hZ (wd 130 rfl) (args := #[]))) (mvT hZ (wd 132 rfl)) (by decide) (backOf (W := 0) (infl l Z a0 hw [] a sy gC h0 n0 (by omega) O SC hgC A.2.2.1 Ey Fcy) hZ (wd 132 rfl) (wd 97 rfl) (by decide) (by decide)) (g := (mkF m 2 #[.val (.ref a), .val (.int (2 : Int32)), .val (.ref sy)] [(.ref sy), (.ref a)])) rfl (by rw [hml]; rfl) (Steps.refl _) (a := a) (by rw [e0]; exact q1) q1' (argsL := [(.ref sy)]) (rest := []) (lenOf pd__Ljava_lang_String__V rfl) rfl (by show 2 * 0 + _ ≤ _; exact Nat.le_of_eq rfl) (hb hby d25_2) (fun _ _ => ⟨rfl, e0, (by decide : 0 + 0 ≤ _), (by decide : 0 + 0 ≤ _)⟩)
  dsimp only [Pt.U, Pt.locs, Pt.cells, Pt.slots] at X1 l1 y1 z1 st1 hQ1
  subst l1 y1 z1
  obtain ⟨rfl, N1q, e1⟩ := hQ1
  have N1 := Fr.app N0 N1q
  refine go_tr (B := (T1.setTop (mkF m 5 #[.val (.ref a), .val (.int (2 : Int32)), .val (.ref sy)] []))) (st1) ?_
  refine go_of (B := (T1.setTop (mkF m 7 #[.val (.ref a), .val (.int (2 : Int32)), .val (.ref sy)] [(.ref a), (.ref sy)]))) (fun _ kk => XS.aloadN X1.here hx rfl (hb hby d25_5) rfl rfl (XS.aloadN X1.here hx rfl (hb hby d25_6) rfl rfl kk)) ?_
  obtain ⟨T2, X2, e2, st2⟩ := getF X1 hx hZ hown (host := "") (Or.inl (wd 101 rfl)) Via.refl e1 A.2.1 (g := (mkF m 7 #[.val (.ref a), .val (.int (2 : Int32)), .val (.ref sy)] [(.ref a), (.ref sy)])) rfl rfl (hb hby d25_7)
  refine go_of (B := (T2.setTop (mkF m 10 #[.val (.ref a), .val (.int (2 : Int32)), .val (.ref sy)] [(.ref d), (.ref sy)]))) (st2) ?_
  refine go_of (B := (T2.setTop (mkF m 12 #[.val (.ref a), .val (.int (2 : Int32)), .val (.ref sy)] [(.ref a), (.int (2 : Int32)), (.ref d), (.ref sy)]))) (fun _ kk => XS.iloadN X2.here hx rfl (hb hby d25_10) rfl (XS.aloadN X2.here hx rfl (hb hby d25_11) rfl rfl kk)) ?_
  obtain ⟨T3, X3, e3, st3⟩ := getF X2 hx hZ hown (host := "") (Or.inl (wd 103 rfl)) Via.refl e2 A.2.2.1 (g := (mkF m 12 #[.val (.ref a), .val (.int (2 : Int32)), .val (.ref sy)] [(.ref a), (.int (2 : Int32)), (.ref d), (.ref sy)])) rfl rfl (hb hby d25_12)
  refine go_of (B := (T3.setTop (mkF m 15 #[.val (.ref a), .val (.int (2 : Int32)), .val (.ref sy)] [(.int (0 : Int32)), (.int (2 : Int32)), (.ref d), (.ref sy)]))) (st3) ?_
  obtain ⟨cq4, kq4, q4a, q4b, q4c⟩ := isOf hZ e3 Ey
  obtain ⟨_, _, ⟨T4, L4, k4, n4⟩, -, X4, ⟨Lc4, hQ4, l4, y4, z4⟩, st4⟩ := X3.virtualBack hx (y := MN15) (z := MN15) hown (mvT hZ (wd 134 rfl)) (mvT hZ (wd 135 rfl)) (notFace_of_selects (args := #[]) (mvT hZ (wd 137 rfl))) (mvT hZ (wd 137 rfl)) (mvT hZ (wd 136 rfl)) (by decide) (backOf (W := 0) (gbN l Z a0 hw [] sy d nn w0 w1 kd gC h0 n0 (by omega) O SC hgC Sy hn A.2.2.2.2 gd) hZ (wd 138 rfl) (wd 7 rfl) (by decide) (by decide)) q4a q4c (g := (mkF m 15 #[.val (.ref a), .val (.int (2 : Int32)), .val (.ref sy)] [(.int (0 : Int32)), (.int (2 : Int32)), (.ref d), (.ref sy)])) rfl (by rw [hml]; rfl) (Steps.refl _) (argsL := [(.ref d), (.int (2 : Int32)), (.int (0 : Int32))]) (rest := []) (lenOf pd___BIB_V rfl) rfl (by show 2 * 0 + _ ≤ _; exact Nat.le_of_eq rfl) (hb hby d25_15) (fun _ _ => ⟨rfl, e3, (by decide : 0 + 0 ≤ _), (by decide : 0 + 0 ≤ _)⟩)
  dsimp only [Pt.U, Pt.locs, Pt.cells, Pt.slots] at X4 l4 y4 z4 st4 hQ4
  subst l4 y4 z4
  obtain ⟨rfl, N4q, K4, vs4, V4⟩ := hQ4
  have N4 := Fr.app N1 N4q
  have sz4 := K4.1
  refine go_tr (B := (T4.setTop (mkF m 18 #[.val (.ref a), .val (.int (2 : Int32)), .val (.ref sy)] []))) (st4) ?_
  refine go_end X4 (v := none) (fun _ => rfl) Bd.notSynchronized (by decide) (by decide) (Q := (Q_psaN Z a sy d kd nn w0 w1 gC h0 n0)) ?_ (fun fs hr => X4.returnOut hx Bd.returns (hb hby d25_18) hr)
  unfold Q_psaN
  exact ⟨rfl, N4, ((Keep.refl h0 [d]).trans K4 (allS (Or.inl (List.mem_of_getElem? (i := 0) rfl)) all0)), _, V4⟩
def Q_ensN (Z : State) (a : Addr) (mm : Int32) (d : Addr) (kd : ClassId) (bs : List Value) (h0 : Heap) (n0 : Nat) (v : Option Value) (h : Heap) (L : List Loc) : Prop := v = none ∧ Fr n0 L ∧ h = h0
theorem ef_ensN (m : MethodId) (a : Addr) (mm : Int32)  : entryFrame m #[(.ref a), (.int mm)] 3 = mkF m 0 #[.val (.ref a), .val (.int mm), .unset] [] := by first | (simp [entryFrame, mkF, argsToLocals, Value.category]; done) | rfl
theorem ensN (l : Launch) (Z : State) (a0 : Array Value) (hw : TW a0 Z) (ws : List Jvm.Cond) (a : Addr) (mm : Int32) (d : Addr) (kd : ClassId) (bs : List Value) (h0 : Heap) (n0 : Nat) (Z0 : n0 ≤ h0.size) (hm : M5 mm) (Fv_ : Fld Z h0 a "java/lang/AbstractStringBuilder" "value" "[B" (.ref d)) (Fc_ : Fld Z h0 a "java/lang/AbstractStringBuilder" "coder" "B" (.int 0)) (V : Arv Z h0 d kd .byte 16 bs (.int 0)) :
    own_MF l Z MN4 jdk_68_method_9_code 3 none ws (own_R 0 0 0 0) #[(.ref a), (.int mm)] h0 (Q_ensN Z a mm d kd bs h0 n0) := by
  have wd := @own_wd _ _ hw
  refine MetFree.of_bodySF (plainFor_of_name pn_java_lang_AbstractStringBuilder) hisR ?_
  intro p e s m args below meth c s₁ Bd hml0 hP hK
  obtain ⟨rfl, hZ, hh⟩ := hP
  have hx := Bd.exec
  have hby := Bd.bytes
  have hml : c.maxLocals = 3 := hml0
  have hown : s.vm.findClass "java/lang/AbstractStringBuilder" = some m.cls := findClass_of_methodNamed Bd.named
  have hnm := (name_of_methodNamed Bd.named Bd.method).1
  have X0 : Stand p l e (own_R 0 0 0 0) s m #[(.ref a), (.int mm)] below meth c s₁ [] 0 0 := Stand.of_body Bd
  have e0 : s₁.heap = h0 := by rw [← hh, Bd.state]; rfl
  have N0 := Fr.nil n0
  refine go_of (A := s₁.setTop (entryFrame m #[(.ref a), (.int mm)] 3)) (B := s₁.setTop (mkF m 0 #[.val (.ref a), .val (.int mm), .unset] [])) (fun _ kk' => castTop (ef_ensN m a mm) kk') ?_
  refine go_of (B := (s₁.setTop (mkF m 1 #[.val (.ref a), .val (.int mm), .unset] [(.ref a)]))) (fun _ kk => XS.aloadN X0.here hx rfl (hb hby d24_0) rfl rfl kk) ?_
  obtain ⟨T1, X1, e1, st1⟩ := getF X0 hx hZ hown (host := "") (Or.inl (wd 101 rfl)) Via.refl e0 Fv_ (g := (mkF m 1 #[.val (.ref a), .val (.int mm), .unset] [(.ref a)])) rfl rfl (hb hby d24_1)
  refine go_of (B := (T1.setTop (mkF m 4 #[.val (.ref a), .val (.int mm), .unset] [(.ref d)]))) (st1) ?_
  obtain ⟨cl2, Ar2, q2, Sz2, Nn2, Hh2, G2⟩ := id (V)
  have ln2 := len_of Sz2 Nn2
  refine go_of (B := (T1.setTop (mkF m 5 #[.val (.ref a), .val (.int mm), .unset] [(.int (16 : Int32))]))) (fun _ kk => X1.arraylength hx (by rw [e1]; exact Ar2.1) (State.isArrayOf_alike hZ.alike Ar2.2.1) (g := (mkF m 4 #[.val (.ref a), .val (.int mm), .unset] [(.ref d)])) rfl rfl (hb hby d24_4) _ (by rw [ln2]; exact kk)) ?_
  refine go_of (B := (T1.setTop (mkF m 6 #[.val (.ref a), .val (.int mm), .unset] [(.ref a), (.int (16 : Int32))]))) (fun _ kk => XS.aloadN X1.here hx rfl (hb hby d24_5) rfl rfl kk) ?_
  obtain ⟨T3, X3, e3, st3⟩ := getF X1 hx hZ hown (host := "") (Or.inl (wd 103 rfl)) Via.refl e1 Fc_ (g := (mkF m 6 #[.val (.ref a), .val (.int mm), .unset] [(.ref a), (.int (16 : Int32))])) rfl rfl (hb hby d24_6)
  refine go_of (B := (T3.setTop (mkF m 9 #[.val (.ref a), .val (.int mm), .unset] [(.int (0 : Int32)), (.int (16 : Int32))]))) (st3) ?_
  refine go_of (B := (T3.setTop (mkF m 38 #[.val (.ref a), .val (.int mm), .val (.int (16 : Int32))] []))) (fun _ kk => XS.ishr X3.here hx rfl (hb hby d24_9) rfl (XS.istoreN X3.here hx rfl (hb hby d24_10) rfl rfl (XS.iloadN X3.here hx rfl (hb hby d24_11) rfl (XS.iloadN X3.here hx rfl (hb hby d24_12) rfl (XS.isub X3.here hx rfl (hb hby d24_13) rfl (XS.ifYes X3.here hx rfl (pc0 := 14) (pc' := 38) rfl (hb hby d24_14) rfl ((if0 _ _).trans (flt hm.ens).2.2.2) (by decide) (by decide) kk)))))) ?_
  refine go_end X3 (v := none) (fun _ => rfl) Bd.notSynchronized (by decide) (by decide) (Q := (Q_ensN Z a mm d kd bs h0 n0)) ?_ (fun fs hr => X3.returnOut hx Bd.returns (hb hby d24_38) hr)
  unfold Q_ensN
  try rw [e3]
  exact ⟨rfl, N0, rfl⟩
def Q_apaN (Z : State) (a : Addr) (sy : Addr) (d : Addr) (kd : ClassId) (nn : Int32) (w0 : Int32) (w1 : Int32) (gC : Int32) (h0 : Heap) (n0 : Nat) (v : Option Value) (h : Heap) (L : List Loc) : Prop := v = some (.ref a) ∧ Fr n0 L ∧ Keep h0 h [a, d] ∧ ∃ vs, SB Z h a d kd ((2 : Int32) + nn) ((.int (own_b8 w0)) :: (.int (own_b8 w1)) :: vs)
theorem ef_apaN (m : MethodId) (a : Addr) (sy : Addr)  : entryFrame m #[(.ref a), (.ref sy)] 3 = mkF m 0 #[.val (.ref a), .val (.ref sy), .unset] [] := by first | (simp [entryFrame, mkF, argsToLocals, Value.category]; done) | rfl
theorem apaN (l : Launch) (Z : State) (a0 : Array Value) (hw : TW a0 Z) (ws : List Jvm.Cond) (a : Addr) (sy : Addr) (d : Addr) (kd : ClassId) (nn : Int32) (w0 : Int32) (w1 : Int32) (gC : Int32) (h0 : Heap) (n0 : Nat) (Z0 : n0 ≤ h0.size) (O : Old Z n0 h0) (SC : Sta Z Z.heap "java/lang/String" "COMPACT_STRINGS" "Z" (.int gC)) (hgC : ¬ gC = (0 : Int32)) (A : SB Z h0 a d kd 2 [(.int (own_b8 w0)), (.int (own_b8 w1)), o_, o_, o_, o_, o_, o_, o_, o_, o_, o_, o_, o_, o_, o_]) (Sy : StrN Z h0 sy nn) (hn : N5 nn) (g : n0 ≤ a) (gd : n0 ≤ d) (nad : @Ne Nat a d) :
    own_MF l Z MN3 jdk_68_method_22_code 3 (some (.object "java/lang/AbstractStringBuilder")) ws (own_R 3 0 0 47) #[(.ref a), (.ref sy)] h0 (Q_apaN Z a sy d kd nn w0 w1 gC h0 n0) := by
  have wd := @own_wd _ _ hw
  refine MetFree.of_bodySF (plainFor_of_name pn_java_lang_AbstractStringBuilder) hisR ?_
  intro p e s m args below meth c s₁ Bd hml0 hP hK
  obtain ⟨rfl, hZ, hh⟩ := hP
  have hx := Bd.exec
  have hby := Bd.bytes
  have hml : c.maxLocals = 3 := hml0
  have hown : s.vm.findClass "java/lang/AbstractStringBuilder" = some m.cls := findClass_of_methodNamed Bd.named
  have hnm := (name_of_methodNamed Bd.named Bd.method).1
  have X0 : Stand p l e (own_R 3 0 0 47) s m #[(.ref a), (.ref sy)] below meth c s₁ [] 0 0 := Stand.of_body Bd
  have e0 : s₁.heap = h0 := by rw [← hh, Bd.state]; rfl
  have N0 := Fr.nil n0
  obtain ⟨ty, ky, vy, Ey, Fcy, Fvy, Vy⟩ := id Sy
  have lta := own_nlt (A.1.lt)
  have ltd := own_nlt (A.2.2.2.2.lt)
  refine go_of (A := s₁.setTop (entryFrame m #[(.ref a), (.ref sy)] 3)) (B := s₁.setTop (mkF m 0 #[.val (.ref a), .val (.ref sy), .unset] [])) (fun _ kk' => castTop (ef_apaN m a sy) kk') ?_
  refine go_of (B := (s₁.setTop (mkF m 10 #[.val (.ref a), .val (.ref sy), .unset] [(.ref sy)]))) (fun _ kk => XS.aloadN X0.here hx rfl (hb hby d23_0) rfl rfl (XS.ifnonnullYes X0.here hx rfl (pc0 := 1) (pc' := 9) rfl (hb hby d23_1) rfl (by decide) (by decide) (XS.aloadN X0.here hx rfl (hb hby d23_9) rfl rfl kk))) ?_
  obtain ⟨cq1, kq1, q1a, q1b, q1c⟩ := isOf hZ e0 Ey
  obtain ⟨_, _, ⟨T1, L1, k1, n1⟩, -, X1, ⟨Lc1, hQ1, l1, y1, z1⟩, st1⟩ := X0.virtualBack hx (y := MN19) (z := MN19) hown (mvT hZ (wd 115 rfl)) (mvT hZ (wd 48 rfl)) (notFace_of_selects (args := #[]) (mvT hZ (wd 50 rfl))) (mvT hZ (wd 50 rfl)) (mvT hZ (wd 49 rfl)) (by decide) (backOf (W := 0) (lenN l Z a0 hw [] sy nn gC h0 n0 (by omega) O SC hgC Sy) hZ (wd 51 rfl) (wd 7 rfl) (by decide) (by decide)) q1a q1c (g := (mkF m 10 #[.val (.ref a), .val (.ref sy), .unset] [(.ref sy)])) rfl (by rw [hml]; rfl) (Steps.refl _) (argsL := []) (rest := []) (lenOf pd___I rfl) rfl (by show 2 * 0 + _ ≤ _; exact Nat.le_of_eq rfl) (hb hby d23_10) (fun _ _ => ⟨rfl, e0, (by decide : 0 + 0 ≤ _), (by decide : 0 + 0 ≤ _)⟩)
  dsimp only [Pt.U, Pt.locs, Pt.cells, Pt.slots] at X1 l1 y1 z1 st1 hQ1
  subst l1 y1 z1
  obtain ⟨rfl, N1q, e1⟩ := hQ1
  have N1 := Fr.app N0 N1q
  refine go_tr (B := (T1.setTop (mkF m 13 #[.val (.ref a), .val (.ref sy), .unset] [(.int nn)]))) (st1) ?_
  refine go_of (B := (T1.setTop (mkF m 16 #[.val (.ref a), .val (.ref sy), .val (.int nn)] [(.ref a), (.ref a)]))) (fun _ kk => XS.istoreN X1.here hx rfl (hb hby d23_13) rfl rfl (XS.aloadN X1.here hx rfl (hb hby d23_14) rfl rfl (XS.aloadN X1.here hx rfl (hb hby d23_15) rfl rfl kk))) ?_
  obtain ⟨T2, X2, e2, st2⟩ := getF X1 hx hZ hown (host := "") (Or.inl (wd 116 rfl)) Via.refl e1 A.2.2.2.1 (g := (mkF m 16 #[.val (.ref a), .val (.ref sy), .val (.int nn)] [(.ref a), (.ref a)])) rfl rfl (hb hby d23_16)
  refine go_of (B := (T2.setTop (mkF m 19 #[.val (.ref a), .val (.ref sy), .val (.int nn)] [(.int (2 : Int32)), (.ref a)]))) (st2) ?_
  refine go_of (B := (T2.setTop (mkF m 21 #[.val (.ref a), .val (.ref sy), .val (.int nn)] [(.int ((2 : Int32) + nn)), (.ref a)]))) (fun _ kk => XS.iloadN X2.here hx rfl (hb hby d23_19) rfl (XS.iadd X2.here hx rfl (hb hby d23_20) rfl kk)) ?_
  obtain ⟨cq3, q3, q3'⟩ := A.1.cell
  obtain ⟨_, _, ⟨T3, L3, k3, n3⟩, -, X3, ⟨Lc3, hQ3, l3, y3, z3⟩, st3⟩ := X2.privateBack hx (y := MN4) hown (mvT hZ (wd 118 rfl)) (mvT hZ (wd 119 rfl)) (mvT hZ (own_selp (wd 121 rfl) (wd 120 rfl) (wd 119 rfl) (by decide))) (Cond.privateMethod_at (mvP hZ (wd 120 rfl) (args := #[]))) (mvT hZ (wd 122 rfl)) (by decide) (backOf (W := 0) (ensN l Z a0 hw [] a ((2 : Int32) + nn) d kd _ h0 n0 (by omega) hn.m A.2.1 A.2.2.1 A.2.2.2.2) hZ (wd 122 rfl) (wd 97 rfl) (by decide) (by decide)) (g := (mkF m 21 #[.val (.ref a), .val (.ref sy), .val (.int nn)] [(.int ((2 : Int32) + nn)), (.ref a)])) rfl (by rw [hml]; rfl) (Steps.refl _) (a := a) (by rw [e2]; exact q3) q3' (argsL := [(.int ((2 : Int32) + nn))]) (rest := []) (lenOf pd__I_V rfl) rfl (by show 2 * 0 + _ ≤ _; exact Nat.le_of_eq rfl) (hb hby d23_21) (fun _ _ => ⟨rfl, e2, (by decide : 0 + 0 ≤ _), (by decide : 0 + 0 ≤ _)⟩)
  dsimp only [Pt.U, Pt.locs, Pt.cells, Pt.slots] at X3 l3 y3 z3 st3 hQ3
  subst l3 y3 z3
  obtain ⟨rfl, N3q, e3⟩ := hQ3
  have N3 := Fr.app N1 N3q
  refine go_tr (B := (T3.setTop (mkF m 24 #[.val (.ref a), .val (.ref sy), .val (.int nn)] []))) (st3) ?_
  refine go_of (B := (T3.setTop (mkF m 26 #[.val (.ref a), .val (.ref sy), .val (.int nn)] [(.ref a), (.ref a)]))) (fun _ kk => XS.aloadN X3.here hx rfl (hb hby d23_24) rfl rfl (XS.aloadN X3.here hx rfl (hb hby d23_25) rfl rfl kk)) ?_
  obtain ⟨T4, X4, e4, st4⟩ := getF X3 hx hZ hown (host := "") (Or.inl (wd 116 rfl)) Via.refl e3 A.2.2.2.1 (g := (mkF m 26 #[.val (.ref a), .val (.ref sy), .val (.int nn)] [(.ref a), (.ref a)])) rfl rfl (hb hby d23_26)
  refine go_of (B := (T4.setTop (mkF m 29 #[.val (.ref a), .val (.ref sy), .val (.int nn)] [(.int (2 : Int32)), (.ref a)]))) (st4) ?_
  refine go_of (B := (T4.setTop (mkF m 30 #[.val (.ref a), .val (.ref sy), .val (.int nn)] [(.ref sy), (.int (2 : Int32)), (.ref a)]))) (fun _ kk => XS.aloadN X4.here hx rfl (hb hby d23_29) rfl rfl kk) ?_
  obtain ⟨cq5, q5, q5'⟩ := A.1.cell
  obtain ⟨_, _, ⟨T5, L5, k5, n5⟩, -, X5, ⟨Lc5, hQ5, l5, y5, z5⟩, st5⟩ := X4.privateBack hx (y := MN9) hown (mvT hZ (wd 123 rfl)) (mvT hZ (wd 124 rfl)) (mvT hZ (own_selp (wd 126 rfl) (wd 125 rfl) (wd 124 rfl) (by decide))) (Cond.privateMethod_at (mvP hZ (wd 125 rfl) (args := #[]))) (mvT hZ (wd 127 rfl)) (by decide) (backOf (W := 0) (psaN l Z a0 hw [] a sy d kd nn w0 w1 gC h0 n0 (by omega) O SC hgC A Sy hn g gd nad) hZ (wd 127 rfl) (wd 97 rfl) (by decide) (by decide)) (g := (mkF m 30 #[.val (.ref a), .val (.ref sy), .val (.int nn)] [(.ref sy), (.int (2 : Int32)), (.ref a)])) rfl (by rw [hml]; rfl) (Steps.refl _) (a := a) (by rw [e4]; exact q5) q5' (argsL := [(.int (2 : Int32)), (.ref sy)]) (rest := []) (lenOf pd__ILjava_lang_String__V rfl) rfl (by show 2 * 0 + _ ≤ _; exact Nat.le_of_eq rfl) (hb hby d23_30) (fun _ _ => ⟨rfl, e4, (by decide : 0 + 0 ≤ _), (by decide : 0 + 0 ≤ _)⟩)
  dsimp only [Pt.U, Pt.locs, Pt.cells, Pt.slots] at X5 l5 y5 z5 st5 hQ5
  subst l5 y5 z5
  obtain ⟨rfl, N5q, K5, vs5, V5⟩ := hQ5
  have N5 := Fr.app N3 N5q
  have sz5 := K5.1
  refine go_tr (B := (T5.setTop (mkF m 33 #[.val (.ref a), .val (.ref sy), .val (.int nn)] []))) (st5) ?_
  refine go_of (B := (T5.setTop (mkF m 35 #[.val (.ref a), .val (.ref sy), .val (.int nn)] [(.ref a), (.ref a)]))) (fun _ kk => XS.aloadN X5.here hx rfl (hb hby d23_33) rfl rfl (XS.dup X5.here hx rfl (hb hby d23_34) rfl rfl kk)) ?_
  have cf_6 := (A.2.2.2.1.keep K5 (ninS (by first | omega | exact own_ne (by omega) | exact own_le (by omega) | exact own_lt (by omega)) nin0))
  obtain ⟨T7, X7, e7, st7⟩ := getF X5 hx hZ hown (host := "") (Or.inl (wd 116 rfl)) Via.refl rfl cf_6 (g := (mkF m 35 #[.val (.ref a), .val (.ref sy), .val (.int nn)] [(.ref a), (.ref a)])) rfl rfl (hb hby d23_35)
  refine go_of (B := (T7.setTop (mkF m 38 #[.val (.ref a), .val (.ref sy), .val (.int nn)] [(.int (2 : Int32)), (.ref a)]))) (st7) ?_
  refine go_of (B := (T7.setTop (mkF m 40 #[.val (.ref a), .val (.ref sy), .val (.int nn)] [(.int ((2 : Int32) + nn)), (.ref a)]))) (fun _ kk => XS.iloadN X7.here hx rfl (hb hby d23_38) rfl (XS.iadd X7.here hx rfl (hb hby d23_39) rfl kk)) ?_
  have cf_8 := (A.1.keep K5)
  obtain ⟨T9, h9, X9, e9, W9, st9⟩ := putF X7 hx hZ hown (host := "") (Or.inl (wd 116 rfl)) Via.refl e7 cf_6 cf_8 (Or.inl (wd 117 rfl)) (wd 88 rfl) (ty := .int) (by decide) rfl rfl (g := (mkF m 40 #[.val (.ref a), .val (.ref sy), .val (.int nn)] [(.int ((2 : Int32) + nn)), (.ref a)])) rfl rfl (hb hby d23_40)
  have sz9 := W9.size
  have Fw9 := cf_6.same W9
  have N9 := Fr.snoc X9 N5 (g : n0 ≤ a)
  refine go_of (B := (T9.setTop (mkF m 43 #[.val (.ref a), .val (.ref sy), .val (.int nn)] []))) (st9) ?_
  refine go_of (B := (T9.setTop (mkF m 44 #[.val (.ref a), .val (.ref sy), .val (.int nn)] [(.ref a)]))) (fun _ kk => XS.aloadN X9.here hx rfl (hb hby d23_43) rfl rfl kk) ?_
  have cf_10 := (cf_8.wr W9)
  have cf_11 := ((A.2.1.keep K5 (ninS (by first | omega | exact own_ne (by omega) | exact own_le (by omega) | exact own_lt (by omega)) nin0)).other W9 (Or.inr (slot_ne (Or.inl (wd 102 rfl)) (Or.inl (wd 117 rfl)) (by decide) (t := (.array .byte)) (t' := .int) (by decide) (by decide))))
  have cf_12 := ((A.2.2.1.keep K5 (ninS (by first | omega | exact own_ne (by omega) | exact own_le (by omega) | exact own_lt (by omega)) nin0)).other W9 (Or.inr (slot_ne (Or.inl (wd 104 rfl)) (Or.inl (wd 117 rfl)) (by decide) (t := .byte) (t' := .int) (by decide) (by decide))))
  have cf_13 := (V5.other W9 (by first | omega | exact own_ne (by omega) | exact own_le (by omega) | exact own_lt (by omega)))
  refine go_end X9 (v := some (.ref a)) (fun h => by rw [Bd.returns] at h; cases h) Bd.notSynchronized (by decide) (by decide) (Q := (Q_apaN Z a sy d kd nn w0 w1 gC h0 n0)) ?_ (fun fs hr => own_retA X9 hx Bd.returns rfl rfl (hb hby d23_44) hr)
  unfold Q_apaN
  try rw [e9]
  exact ⟨rfl, N9, (((Keep.refl h0 [a, d]).trans K5 (allS (Or.inl (List.mem_of_getElem? (i := 1) rfl)) all0)).wr W9 (Or.inl (List.mem_of_getElem? (i := 0) rfl))), _, ⟨cf_10, cf_11, cf_12, Fw9, cf_13⟩⟩
def Q_apsN (Z : State) (a : Addr) (sy : Addr) (d : Addr) (kd : ClassId) (nn : Int32) (w0 : Int32) (w1 : Int32) (gC : Int32) (h0 : Heap) (n0 : Nat) (v : Option Value) (h : Heap) (L : List Loc) : Prop := v = some (.ref a) ∧ Fr n0 L ∧ Keep h0 h [a, d] ∧ ∃ vs, SB Z h a d kd ((2 : Int32) + nn) ((.int (own_b8 w0)) :: (.int (own_b8 w1)) :: vs)
theorem ef_apsN (m : MethodId) (a : Addr) (sy : Addr)  : entryFrame m #[(.ref a), (.ref sy)] 2 = mkF m 0 #[.val (.ref a), .val (.ref sy)] [] := by first | (simp [entryFrame, mkF, argsToLocals, Value.category]; done) | rfl
theorem apsN (l : Launch) (Z : State) (a0 : Array Value) (hw : TW a0 Z) (ws : List Jvm.Cond) (a : Addr) (sy : Addr) (d : Addr) (kd : ClassId) (nn : Int32) (w0 : Int32) (w1 : Int32) (gC : Int32) (h0 : Heap) (n0 : Nat) (Z0 : n0 ≤ h0.size) (O : Old Z n0 h0) (SC : Sta Z Z.heap "java/lang/String" "COMPACT_STRINGS" "Z" (.int gC)) (hgC : ¬ gC = (0 : Int32)) (A : SB Z h0 a d kd 2 [(.int (own_b8 w0)), (.int (own_b8 w1)), o_, o_, o_, o_, o_, o_, o_, o_, o_, o_, o_, o_, o_, o_]) (Sy : StrN Z h0 sy nn) (hn : N5 nn) (g : n0 ≤ a) (gd : n0 ≤ d) (nad : @Ne Nat a d) :
    own_MF l Z MN21 jdk_67_method_7_code 2 (some (.object "java/lang/StringBuilder")) ws (own_R 4 0 0 61) #[(.ref a), (.ref sy)] h0 (Q_apsN Z a sy d kd nn w0 w1 gC h0 n0) := by
  have wd := @own_wd _ _ hw
  refine MetFree.of_bodySF (plainFor_of_name pn_java_lang_StringBuilder) hisR ?_
  intro p e s m args below meth c s₁ Bd hml0 hP hK
  obtain ⟨rfl, hZ, hh⟩ := hP
  have hx := Bd.exec
  have hby := Bd.bytes
  have hml : c.maxLocals = 2 := hml0
  have hown : s.vm.findClass "java/lang/StringBuilder" = some m.cls := findClass_of_methodNamed Bd.named
  have hnm := (name_of_methodNamed Bd.named Bd.method).1
  have X0 : Stand p l e (own_R 4 0 0 61) s m #[(.ref a), (.ref sy)] below meth c s₁ [] 0 0 := Stand.of_body Bd
  have e0 : s₁.heap = h0 := by rw [← hh, Bd.state]; rfl
  have N0 := Fr.nil n0
  refine go_of (A := s₁.setTop (entryFrame m #[(.ref a), (.ref sy)] 2)) (B := s₁.setTop (mkF m 0 #[.val (.ref a), .val (.ref sy)] [])) (fun _ kk' => castTop (ef_apsN m a sy) kk') ?_
  refine go_of (B := (s₁.setTop (mkF m 2 #[.val (.ref a), .val (.ref sy)] [(.ref sy), (.ref a)]))) (fun _ kk => XS.aloadN X0.here hx rfl (hb hby d22_0) rfl rfl (XS.aloadN X0.here hx rfl (hb hby d22_1) rfl rfl kk)) ?_
  obtain ⟨_, _, ⟨T1, L1, k1, n1⟩, -, X1, ⟨Lc1, hQ1, l1, y1, z1⟩, st1⟩ := superBack X0 hx hZ (y := MN3) hown (wd 110 rfl) (own_same (wd 111 rfl) (wd 121 rfl) rfl (by decide)) (wd 111 rfl) (wd 112 rfl) (by decide) (backOf (W := 0) (apaN l Z a0 hw [] a sy d kd nn w0 w1 gC h0 n0 (by omega) O SC hgC A Sy hn g gd nad) hZ (wd 114 rfl) (wd 97 rfl) (by decide) (by decide)) e0 (Ins.self A.1) (g := (mkF m 2 #[.val (.ref a), .val (.ref sy)] [(.ref sy), (.ref a)])) rfl (by rw [hml]; rfl) (wd 114 rfl) (argsL := [(.ref sy)]) (rest := []) (lenOf pd__Ljava_lang_String__Ljava_lang_AbstractStringBuilder_ rfl) rfl (by show 2 * 0 + _ ≤ _; exact Nat.le_of_eq rfl) (hb hby d22_2) (fun _ _ => ⟨rfl, e0, (by decide : 0 + 0 ≤ _), (by decide : 0 + 0 ≤ _)⟩)
  dsimp only [Pt.U, Pt.locs, Pt.cells, Pt.slots] at X1 l1 y1 z1 st1 hQ1
  subst l1 y1 z1
  obtain ⟨rfl, N1q, K1, A1⟩ := hQ1
  have N1 := Fr.app N0 N1q
  have sz1 := K1.1
  refine go_tr (B := (T1.setTop (mkF m 5 #[.val (.ref a), .val (.ref sy)] [(.ref a)]))) (st1) ?_
  refine go_of (B := (T1.setTop (mkF m 7 #[.val (.ref a), .val (.ref sy)] [(.ref a)]))) (fun _ kk => XS.pop X1.here hx rfl (hb hby d22_5) rfl rfl (XS.aloadN X1.here hx rfl (hb hby d22_6) rfl rfl kk)) ?_
  refine go_end X1 (v := some (.ref a)) (fun h => by rw [Bd.returns] at h; cases h) Bd.notSynchronized (by decide) (by decide) (Q := (Q_apsN Z a sy d kd nn w0 w1 gC h0 n0)) ?_ (fun fs hr => own_retA X1 hx Bd.returns rfl rfl (hb hby d22_7) hr)
  unfold Q_apsN
  exact ⟨rfl, N1, ((Keep.refl h0 [a, d]).trans K1 (allS (Or.inl (List.mem_of_getElem? (i := 0) rfl)) (allS (Or.inl (List.mem_of_getElem? (i := 1) rfl)) all0))), A1⟩
theorem d37_0 : decode jdk_65_method_131_code 0 = .ok (.iload_n 1, 1) := by decide +kernel
theorem d37_1 : decode jdk_65_method_131_code 1 = .ok (.iload_n 0, 1) := by decide +kernel
theorem d37_2 : decode jdk_65_method_131_code 2 = .ok (.if_icmp .ge 35, 3) := by decide +kernel
theorem d37_37 : decode jdk_65_method_131_code 37 = .ok (.return_, 1) := by decide +kernel
def Q_cklN (Z : State) (mm : Int32) (h0 : Heap) (n0 : Nat) (v : Option Value) (h : Heap) (L : List Loc) : Prop := v = none ∧ Fr n0 L ∧ h = h0
theorem pn_java_util_Arrays : plainName "java/util/Arrays" = true := by first | (simp [plainName, overriddenIn]; done) | decide +kernel
theorem ef_cklN (m : MethodId) (mm : Int32)  : entryFrame m #[(.int (0 : Int32)), (.int mm)] 2 = mkF m 0 #[.val (.int (0 : Int32)), .val (.int mm)] [] := by first | (simp [entryFrame, mkF, argsToLocals, Value.category]; done) | rfl
theorem cklN (l : Launch) (Z : State) (a0 : Array Value) (hw : TW a0 Z) (ws : List Jvm.Cond) (mm : Int32) (h0 : Heap) (n0 : Nat) (Z0 : n0 ≤ h0.size) (hm : M5 mm) :
    own_MF l Z (⟨"java/util/Arrays", "checkLength", "(II)V"⟩ : MethodName) jdk_65_method_131_code 2 none ws (own_R 0 0 0 0) #[(.int (0 : Int32)), (.int mm)] h0 (Q_cklN Z mm h0 n0) := by
  have wd := @own_wd _ _ hw
  refine MetFree.of_bodySF (plainFor_of_name pn_java_util_Arrays) hisR ?_
  intro p e s m args below meth c s₁ Bd hml0 hP hK
  obtain ⟨rfl, hZ, hh⟩ := hP
  have hx := Bd.exec
  have hby := Bd.bytes
  have hml : c.maxLocals = 2 := hml0
  have hown : s.vm.findClass "java/util/Arrays" = some m.cls := findClass_of_methodNamed Bd.named
  have hnm := (name_of_methodNamed Bd.named Bd.method).1
  have X0 : Stand p l e (own_R 0 0 0 0) s m #[(.int (0 : Int32)), (.int mm)] below meth c s₁ [] 0 0 := Stand.of_body Bd
  have e0 : s₁.heap = h0 := by rw [← hh, Bd.state]; rfl
  have N0 := Fr.nil n0
  refine go_of (A := s₁.setTop (entryFrame m #[(.int (0 : Int32)), (.int mm)] 2)) (B := s₁.setTop (mkF m 0 #[.val (.int (0 : Int32)), .val (.int mm)] [])) (fun _ kk' => castTop (ef_cklN m mm) kk') ?_
  refine go_of (B := (s₁.setTop (mkF m 37 #[.val (.int (0 : Int32)), .val (.int mm)] []))) (fun _ kk => XS.iloadN X0.here hx rfl (hb hby d37_0) rfl (XS.iloadN X0.here hx rfl (hb hby d37_1) rfl (XS.icmpYes X0.here hx rfl (pc0 := 2) (pc' := 37) rfl (hb hby d37_2) rfl (flt hm.ge).2.1 (by decide) (by decide) kk))) ?_
  refine go_end X0 (v := none) (fun _ => rfl) Bd.notSynchronized (by decide) (by decide) (Q := (Q_cklN Z mm h0 n0)) ?_ (fun fs hr => X0.returnOut hx Bd.returns (hb hby d37_37) hr)
  unfold Q_cklN
  try rw [e0]
  exact ⟨rfl, N0, rfl⟩
theorem d36_0 : decode jdk_65_method_133_code 0 = .ok (.iload_n 1, 1) := by decide +kernel
theorem d36_1 : decode jdk_65_method_133_code 1 = .ok (.iload_n 2, 1) := by decide +kernel
theorem d36_2 : decode jdk_65_method_133_code 2 = .ok (.invokestatic 343, 3) := by decide +kernel
theorem pd__II_V : parseMethodDescriptor "(II)V" = some ⟨[.int, .int], none⟩ := by decide +kernel
theorem d36_5 : decode jdk_65_method_133_code 5 = .ok (.iload_n 2, 1) := by decide +kernel
theorem d36_6 : decode jdk_65_method_133_code 6 = .ok (.iload_n 1, 1) := by decide +kernel
theorem d36_7 : decode jdk_65_method_133_code 7 = .ok (.isub, 1) := by decide +kernel
theorem d36_8 : decode jdk_65_method_133_code 8 = .ok (.istore_n 3, 1) := by decide +kernel
theorem d36_9 : decode jdk_65_method_133_code 9 = .ok (.iload_n 3, 1) := by decide +kernel
theorem d36_10 : decode jdk_65_method_133_code 10 = .ok (.newarray .byte, 2) := by decide +kernel
theorem d36_12 : decode jdk_65_method_133_code 12 = .ok (.astore 4, 2) := by decide +kernel
theorem d36_14 : decode jdk_65_method_133_code 14 = .ok (.aload_n 0, 1) := by decide +kernel
theorem d36_15 : decode jdk_65_method_133_code 15 = .ok (.iload_n 1, 1) := by decide +kernel
theorem d36_16 : decode jdk_65_method_133_code 16 = .ok (.aload 4, 2) := by decide +kernel
theorem d36_18 : decode jdk_65_method_133_code 18 = .ok (.iconst 0, 1) := by decide +kernel
theorem d36_19 : decode jdk_65_method_133_code 19 = .ok (.aload_n 0, 1) := by decide +kernel
theorem d36_20 : decode jdk_65_method_133_code 20 = .ok (.arraylength, 1) := by decide +kernel
theorem d36_21 : decode jdk_65_method_133_code 21 = .ok (.iload_n 1, 1) := by decide +kernel
theorem d36_22 : decode jdk_65_method_133_code 22 = .ok (.isub, 1) := by decide +kernel
theorem d36_23 : decode jdk_65_method_133_code 23 = .ok (.iload_n 3, 1) := by decide +kernel
theorem d36_24 : decode jdk_65_method_133_code 24 = .ok (.invokestatic 304, 3) := by decide +kernel
theorem d36_27 : decode jdk_65_method_133_code 27 = .ok (.invokestatic 150, 3) := by decide +kernel
theorem d36_30 : decode jdk_65_method_133_code 30 = .ok (.aload 4, 2) := by decide +kernel
theorem d36_32 : decode jdk_65_method_133_code 32 = .ok (.areturn, 1) := by decide +kernel
def Q_crbN (Z : State) (d : Addr) (mm : Int32) (f0 : Int32) (kd : ClassId) (vs : List Value) (h0 : Heap) (n0 : Nat) (v : Option Value) (h : Heap) (L : List Loc) : Prop := ∃ (t : Addr) (k : ClassId) (ws : List Value), v = some (.ref t) ∧ Fr n0 L ∧ h0.size ≤ t ∧ Keep h0 h [] ∧ Arv Z h t k .byte mm ((.int (own_b8 f0)) :: (.int (own_b8 (32 : Int32))) :: ws) (.int 0)
theorem ef_crbN (m : MethodId) (d : Addr) (mm : Int32)  : entryFrame m #[(.ref d), (.int (0 : Int32)), (.int mm)] 5 = mkF m 0 #[.val (.ref d), .val (.int (0 : Int32)), .val (.int mm), .unset, .unset] [] := by first | (simp [entryFrame, mkF, argsToLocals, Value.category]; done) | rfl
theorem crbN (l : Launch) (Z : State) (a0 : Array Value) (hw : TW a0 Z) (ws : List Jvm.Cond) (d : Addr) (mm : Int32) (f0 : Int32) (kd : ClassId) (vs : List Value) (h0 : Heap) (n0 : Nat) (Z0 : n0 ≤ h0.size) (hm : M5 mm) (VD : Arv Z h0 d kd .byte 16 ((.int (own_b8 f0)) :: (.int (own_b8 (32 : Int32))) :: vs) (.int 0)) :
    own_MF l Z (⟨"java/util/Arrays", "copyOfRangeByte", "([BII)[B"⟩ : MethodName) jdk_65_method_133_code 5 (some (.array .byte)) ws (own_R 1 1 6 18) #[(.ref d), (.int (0 : Int32)), (.int mm)] h0 (Q_crbN Z d mm f0 kd vs h0 n0) := by
  have wd := @own_wd _ _ hw
  refine MetFree.of_bodySF (plainFor_of_name pn_java_util_Arrays) hisR ?_
  intro p e s m args below meth c s₁ Bd hml0 hP hK
  obtain ⟨rfl, hZ, hh⟩ := hP
  have hx := Bd.exec
  have hby := Bd.bytes
  have hml : c.maxLocals = 5 := hml0
  have hown : s.vm.findClass "java/util/Arrays" = some m.cls := findClass_of_methodNamed Bd.named
  have hnm := (name_of_methodNamed Bd.named Bd.method).1
  have X0 : Stand p l e (own_R 1 1 6 18) s m #[(.ref d), (.int (0 : Int32)), (.int mm)] below meth c s₁ [] 0 0 := Stand.of_body Bd
  have e0 : s₁.heap = h0 := by rw [← hh, Bd.state]; rfl
  have N0 := Fr.nil n0
  have ltd := own_nlt (VD.lt)
  refine go_of (A := s₁.setTop (entryFrame m #[(.ref d), (.int (0 : Int32)), (.int mm)] 5)) (B := s₁.setTop (mkF m 0 #[.val (.ref d), .val (.int (0 : Int32)), .val (.int mm), .unset, .unset] [])) (fun _ kk' => castTop (ef_crbN m d mm) kk') ?_
  refine go_of (B := (s₁.setTop (mkF m 2 #[.val (.ref d), .val (.int (0 : Int32)), .val (.int mm), .unset, .unset] [(.int mm), (.int (0 : Int32))]))) (fun _ kk => XS.iloadN X0.here hx rfl (hb hby d36_0) rfl (XS.iloadN X0.here hx rfl (hb hby d36_1) rfl kk)) ?_
  obtain ⟨_, _, ⟨T1, L1, k1, n1⟩, -, X1, ⟨Lc1, hQ1, l1, y1, z1⟩, st1⟩ := Jvm.LawKit.callS X0 hx (y := (⟨"java/util/Arrays", "checkLength", "(II)V"⟩ : MethodName)) hown (mvT hZ (wd 181 rfl)) (mvT hZ (wd 182 rfl)) (mvT hZ (wd 176 rfl)) (mvT hZ (wd 183 rfl)) (by decide) (backOf (W := 0) (cklN l Z a0 hw [] mm h0 n0 (by omega) hm) hZ (wd 183 rfl) (wd 176 rfl) (by decide) (by decide)) (g := (mkF m 2 #[.val (.ref d), .val (.int (0 : Int32)), .val (.int mm), .unset, .unset] [(.int mm), (.int (0 : Int32))])) rfl (by rw [hml]; rfl) (argsL := [(.int (0 : Int32)), (.int mm)]) (rest := []) (lenOf pd__II_V rfl) rfl (by show 2 * 0 + _ ≤ _; exact Nat.le_of_eq rfl) (hb hby d36_2) (fun _ _ => ⟨rfl, e0, (by decide : 0 + 0 ≤ _), (by decide : 0 + 0 ≤ _)⟩)
  dsimp only [Pt.U, Pt.locs, Pt.cells, Pt.slots] at X1 l1 y1 z1 st1 hQ1
  subst l1 y1 z1
  obtain ⟨rfl, N1q, e1⟩ := hQ1
  have N1 := Fr.app N0 N1q
  refine go_of (B := (T1.setTop (mkF m 5 #[.val (.ref d), .val (.int (0 : Int32)), .val (.int mm), .unset, .unset] []))) (st1) ?_
  refine go_of (B := (T1.setTop (mkF m 10 #[.val (.ref d), .val (.int (0 : Int32)), .val (.int mm), .val (.int (mm - (0 : Int32))), .unset] [(.int (mm - (0 : Int32)))]))) (fun _ kk => XS.iloadN X1.here hx rfl (hb hby d36_5) rfl (XS.iloadN X1.here hx rfl (hb hby d36_6) rfl (XS.isub X1.here hx rfl (hb hby d36_7) rfl (XS.istoreN X1.here hx rfl (hb hby d36_8) rfl rfl (XS.iloadN X1.here hx rfl (hb hby d36_9) rfl kk))))) ?_
  obtain ⟨T2, h2, k2, X2, e2, E2, A2, st2⟩ := newP X1 hx hZ (wd 20 rfl) e1 (g := (mkF m 10 #[.val (.ref d), .val (.int (0 : Int32)), .val (.int mm), .val (.int (mm - (0 : Int32))), .unset] [(.int (mm - (0 : Int32)))])) rfl (hb hby d36_10) rfl hm.neg (cap := 6) hm.cap (by decide) (by decide) (by decide)
  obtain ⟨b2, g2⟩ : ∃ z, z = h0.size := ⟨_, rfl⟩
  rw [← g2] at A2 st2
  have hi2 := own_nlt A2.lt
  have sz2 := E2.1
  have V2 := Arv.new A2 hm.neg
  refine go_of (B := (T2.setTop (mkF m 12 #[.val (.ref d), .val (.int (0 : Int32)), .val (.int mm), .val (.int (mm - (0 : Int32))), .unset] [(.ref b2)]))) (st2) ?_
  refine go_of (B := (T2.setTop (mkF m 20 #[.val (.ref d), .val (.int (0 : Int32)), .val (.int mm), .val (.int (mm - (0 : Int32))), .val (.ref b2)] [(.ref d), (.int (0 : Int32)), (.ref b2), (.int (0 : Int32)), (.ref d)]))) (fun _ kk => XS.astore X2.here hx rfl (hb hby d36_12) rfl rfl rfl (XS.aloadN X2.here hx rfl (hb hby d36_14) rfl rfl (XS.iloadN X2.here hx rfl (hb hby d36_15) rfl (XS.aload X2.here hx rfl (hb hby d36_16) rfl rfl (XS.iconst X2.here hx rfl (hb hby d36_18) (XS.aloadN X2.here hx rfl (hb hby d36_19) rfl rfl kk)))))) ?_
  have cf_3 := (VD.ext E2)
  obtain ⟨cl4, Ar4, q4, Sz4, Nn4, Hh4, G4⟩ := id (cf_3)
  have ln4 := len_of Sz4 Nn4
  refine go_of (B := (T2.setTop (mkF m 21 #[.val (.ref d), .val (.int (0 : Int32)), .val (.int mm), .val (.int (mm - (0 : Int32))), .val (.ref b2)] [(.int (16 : Int32)), (.int (0 : Int32)), (.ref b2), (.int (0 : Int32)), (.ref d)]))) (fun _ kk => X2.arraylength hx (by rw [e2]; exact Ar4.1) (State.isArrayOf_alike hZ.alike Ar4.2.1) (g := (mkF m 20 #[.val (.ref d), .val (.int (0 : Int32)), .val (.int mm), .val (.int (mm - (0 : Int32))), .val (.ref b2)] [(.ref d), (.int (0 : Int32)), (.ref b2), (.int (0 : Int32)), (.ref d)])) rfl rfl (hb hby d36_20) _ (by rw [ln4]; exact kk)) ?_
  refine go_of (B := (T2.setTop (mkF m 24 #[.val (.ref d), .val (.int (0 : Int32)), .val (.int mm), .val (.int (mm - (0 : Int32))), .val (.ref b2)] [(.int (mm - (0 : Int32))), (.int (16 : Int32)), (.int (0 : Int32)), (.ref b2), (.int (0 : Int32)), (.ref d)]))) (fun _ kk => XS.iloadN X2.here hx rfl (hb hby d36_21) rfl (XS.isub X2.here hx rfl (hb hby d36_22) rfl (XS.iloadN X2.here hx rfl (hb hby d36_23) rfl kk))) ?_
  obtain ⟨_, _, ⟨T5, L5, k5, n5⟩, -, X5, ⟨Lc5, hQ5, l5, y5, z5⟩, st5⟩ := Jvm.LawKit.callS X2 hx (y := MN11) hown (mvT hZ (wd 184 rfl)) (mvT hZ (wd 69 rfl)) (mvT hZ (wd 66 rfl)) (mvT hZ (wd 70 rfl)) (by decide) (backOf (W := 4) (v_min l Z a0 hw [] (16 : Int32) (mm - (0 : Int32)) mm h2 n0 (by omega) hm.min) hZ (wd 70 rfl) (wd 66 rfl) (by decide) (by decide)) (g := (mkF m 24 #[.val (.ref d), .val (.int (0 : Int32)), .val (.int mm), .val (.int (mm - (0 : Int32))), .val (.ref b2)] [(.int (mm - (0 : Int32))), (.int (16 : Int32)), (.int (0 : Int32)), (.ref b2), (.int (0 : Int32)), (.ref d)])) rfl (by rw [hml]; rfl) (argsL := [(.int (16 : Int32)), (.int (mm - (0 : Int32)))]) (rest := [(.int (0 : Int32)), (.ref b2), (.int (0 : Int32)), (.ref d)]) (lenOf pd__II_I rfl) rfl (by show 2 * 0 + _ ≤ _; exact Nat.le_of_eq rfl) (hb hby d36_24) (fun _ _ => ⟨rfl, e2, (by decide : 1 + 0 ≤ _), (by decide : 6 + 0 ≤ _)⟩)
  dsimp only [Pt.U, Pt.locs, Pt.cells, Pt.slots] at X5 l5 y5 z5 st5 hQ5
  subst l5 y5 z5
  obtain ⟨rfl, N5q, e5⟩ := hQ5
  have N5 := Fr.app N1 N5q
  refine go_of (B := (T5.setTop (mkF m 27 #[.val (.ref d), .val (.int (0 : Int32)), .val (.int mm), .val (.int (mm - (0 : Int32))), .val (.ref b2)] [(.int mm), (.int (0 : Int32)), (.ref b2), (.int (0 : Int32)), (.ref d)]))) (st5) ?_
  have Vp6 : Arv Z h2 b2 k2 .byte (mm - (0 : Int32)) ([] ++ List.replicate 6 (Value.int 0)) (.int 0) := Arv.pad V2 (pad_rep [] (Value.int 0) 6)
  obtain ⟨T7, h7, L7, X7, e7, N7, K7, Vq7, st7⟩ := cpA X5 hx hZ hown (wd 185 rfl) (wd 142 rfl) (wd 140 rfl) (wd 141 rfl) e5 cf_3 Vp6 (Or.inl ⟨rfl, rfl⟩) (sp := (0 : Int32)) (dp := (0 : Int32)) (nn := mm) (by decide) (by decide) hm.ge hm.h4 hm.h5 rfl hm.h6 N5 ((by first | omega | exact own_ne (by omega) | exact own_le (by omega) | exact own_lt (by omega)) : n0 ≤ b2) (g := (mkF m 27 #[.val (.ref d), .val (.int (0 : Int32)), .val (.int mm), .val (.int (mm - (0 : Int32))), .val (.ref b2)] [(.int mm), (.int (0 : Int32)), (.ref b2), (.int (0 : Int32)), (.ref d)])) rfl (by rw [hml]; rfl) rfl (hb hby d36_27) (by decide) (W := 0) (by show 2 * 0 + _ ≤ _; exact Nat.le_of_eq rfl) (by decide)
  have sz7 := K7.1
  obtain ⟨ws7, Vr7⟩ := own_two hm Vq7
  rw [own_sub0] at Vr7
  refine go_of (B := (T7.setTop (mkF m 30 #[.val (.ref d), .val (.int (0 : Int32)), .val (.int mm), .val (.int (mm - (0 : Int32))), .val (.ref b2)] []))) (st7) ?_
  refine go_of (B := (T7.setTop (mkF m 32 #[.val (.ref d), .val (.int (0 : Int32)), .val (.int mm), .val (.int (mm - (0 : Int32))), .val (.ref b2)] [(.ref b2)]))) (fun _ kk => XS.aload X7.here hx rfl (hb hby d36_30) rfl rfl kk) ?_
  refine go_end X7 (v := some (.ref b2)) (fun h => by rw [Bd.returns] at h; cases h) Bd.notSynchronized (by decide) (by decide) (Q := (Q_crbN Z d mm f0 kd vs h0 n0)) ?_ (fun fs hr => own_retA X7 hx Bd.returns rfl rfl (hb hby d36_32) hr)
  unfold Q_crbN
  try rw [e7]
  exact ⟨b2, k2, ws7, rfl, N7, by omega, (((Keep.refl h0 []).ext E2).trans K7 (allS (Or.inr (by first | omega | exact own_ne (by omega) | exact own_le (by omega) | exact own_lt (by omega))) all0)), Vr7⟩
theorem d35_0 : decode jdk_65_method_132_code 0 = .ok (.iload_n 1, 1) := by decide +kernel
theorem d35_1 : decode jdk_65_method_132_code 1 = .ok (.ifCond .ne 9, 3) := by decide +kernel
theorem d35_4 : decode jdk_65_method_132_code 4 = .ok (.iload_n 2, 1) := by decide +kernel
theorem d35_5 : decode jdk_65_method_132_code 5 = .ok (.aload_n 0, 1) := by decide +kernel
theorem d35_6 : decode jdk_65_method_132_code 6 = .ok (.arraylength, 1) := by decide +kernel
theorem d35_7 : decode jdk_65_method_132_code 7 = .ok (.if_icmp .eq 10, 3) := by decide +kernel
theorem d35_10 : decode jdk_65_method_132_code 10 = .ok (.aload_n 0, 1) := by decide +kernel
theorem d35_11 : decode jdk_65_method_132_code 11 = .ok (.iload_n 1, 1) := by decide +kernel
theorem d35_12 : decode jdk_65_method_132_code 12 = .ok (.iload_n 2, 1) := by decide +kernel
theorem d35_13 : decode jdk_65_method_132_code 13 = .ok (.invokestatic 339, 3) := by decide +kernel
theorem pd___BII__B : parseMethodDescriptor "([BII)[B" = some ⟨[(.array .byte), .int, .int], some (.array .byte)⟩ := by decide +kernel
theorem d35_16 : decode jdk_65_method_132_code 16 = .ok (.areturn, 1) := by decide +kernel
def Q_corN (Z : State) (d : Addr) (mm : Int32) (f0 : Int32) (kd : ClassId) (vs : List Value) (h0 : Heap) (n0 : Nat) (v : Option Value) (h : Heap) (L : List Loc) : Prop := ∃ (t : Addr) (k : ClassId) (ws : List Value), v = some (.ref t) ∧ Fr n0 L ∧ h0.size ≤ t ∧ Keep h0 h [] ∧ Arv Z h t k .byte mm ((.int (own_b8 f0)) :: (.int (own_b8 (32 : Int32))) :: ws) (.int 0)
theorem ef_corN (m : MethodId) (d : Addr) (mm : Int32)  : entryFrame m #[(.ref d), (.int (0 : Int32)), (.int mm)] 3 = mkF m 0 #[.val (.ref d), .val (.int (0 : Int32)), .val (.int mm)] [] := by first | (simp [entryFrame, mkF, argsToLocals, Value.category]; done) | rfl
theorem corN (l : Launch) (Z : State) (a0 : Array Value) (hw : TW a0 Z) (ws : List Jvm.Cond) (d : Addr) (mm : Int32) (f0 : Int32) (kd : ClassId) (vs : List Value) (h0 : Heap) (n0 : Nat) (Z0 : n0 ≤ h0.size) (hm : M5 mm) (VD : Arv Z h0 d kd .byte 16 ((.int (own_b8 f0)) :: (.int (own_b8 (32 : Int32))) :: vs) (.int 0)) :
    own_MF l Z (⟨"java/util/Arrays", "copyOfRange", "([BII)[B"⟩ : MethodName) jdk_65_method_132_code 3 (some (.array .byte)) ws (own_R 2 1 6 34) #[(.ref d), (.int (0 : Int32)), (.int mm)] h0 (Q_corN Z d mm f0 kd vs h0 n0) := by
  have wd := @own_wd _ _ hw
  refine MetFree.of_bodySF (plainFor_of_name pn_java_util_Arrays) hisR ?_
  intro p e s m args below meth c s₁ Bd hml0 hP hK
  obtain ⟨rfl, hZ, hh⟩ := hP
  have hx := Bd.exec
  have hby := Bd.bytes
  have hml : c.maxLocals = 3 := hml0
  have hown : s.vm.findClass "java/util/Arrays" = some m.cls := findClass_of_methodNamed Bd.named
  have hnm := (name_of_methodNamed Bd.named Bd.method).1
  have X0 : Stand p l e (own_R 2 1 6 34) s m #[(.ref d), (.int (0 : Int32)), (.int mm)] below meth c s₁ [] 0 0 := Stand.of_body Bd
  have e0 : s₁.heap = h0 := by rw [← hh, Bd.state]; rfl
  have N0 := Fr.nil n0
  refine go_of (A := s₁.setTop (entryFrame m #[(.ref d), (.int (0 : Int32)), (.int mm)] 3)) (B := s₁.setTop (mkF m 0 #[.val (.ref d), .val (.int (0 : Int32)), .val (.int mm)] [])) (fun _ kk' => castTop (ef_corN m d mm) kk') ?_
  refine go_of (B := (s₁.setTop (mkF m 6 #[.val (.ref d), .val (.int (0 : Int32)), .val (.int mm)] [(.ref d), (.int mm)]))) (fun _ kk => XS.iloadN X0.here hx rfl (hb hby d35_0) rfl (XS.ifNo X0.here hx rfl (hb hby d35_1) rfl ((if0 _ _).trans (teq (by decide : (0 : Int32) = (0 : Int32))).2) (XS.iloadN X0.here hx rfl (hb hby d35_4) rfl (XS.aloadN X0.here hx rfl (hb hby d35_5) rfl rfl kk)))) ?_
  obtain ⟨cl1, Ar1, q1, Sz1, Nn1, Hh1, G1⟩ := id (VD)
  have ln1 := len_of Sz1 Nn1
  refine go_of (B := (s₁.setTop (mkF m 7 #[.val (.ref d), .val (.int (0 : Int32)), .val (.int mm)] [(.int (16 : Int32)), (.int mm)]))) (fun _ kk => X0.arraylength hx (by rw [e0]; exact Ar1.1) (State.isArrayOf_alike hZ.alike Ar1.2.1) (g := (mkF m 6 #[.val (.ref d), .val (.int (0 : Int32)), .val (.int mm)] [(.ref d), (.int mm)])) rfl rfl (hb hby d35_6) _ (by rw [ln1]; exact kk)) ?_
  refine go_of (B := (s₁.setTop (mkF m 13 #[.val (.ref d), .val (.int (0 : Int32)), .val (.int mm)] [(.int mm), (.int (0 : Int32)), (.ref d)]))) (fun _ kk => XS.icmpNo X0.here hx rfl (hb hby d35_7) rfl (feq hm.ne).1 (XS.aloadN X0.here hx rfl (hb hby d35_10) rfl rfl (XS.iloadN X0.here hx rfl (hb hby d35_11) rfl (XS.iloadN X0.here hx rfl (hb hby d35_12) rfl kk)))) ?_
  obtain ⟨_, _, ⟨T2, L2, k2, n2⟩, -, X2, ⟨Lc2, hQ2, l2, y2, z2⟩, st2⟩ := Jvm.LawKit.callS X0 hx (y := (⟨"java/util/Arrays", "copyOfRangeByte", "([BII)[B"⟩ : MethodName)) hown (mvT hZ (wd 178 rfl)) (mvT hZ (wd 179 rfl)) (mvT hZ (wd 176 rfl)) (mvT hZ (wd 180 rfl)) (by decide) (backOf (W := 0) (crbN l Z a0 hw [] d mm f0 kd vs h0 n0 (by omega) hm VD) hZ (wd 180 rfl) (wd 176 rfl) (by decide) (by decide)) (g := (mkF m 13 #[.val (.ref d), .val (.int (0 : Int32)), .val (.int mm)] [(.int mm), (.int (0 : Int32)), (.ref d)])) rfl (by rw [hml]; rfl) (argsL := [(.ref d), (.int (0 : Int32)), (.int mm)]) (rest := []) (lenOf pd___BII__B rfl) rfl (by show 2 * 0 + _ ≤ _; exact Nat.le_of_eq rfl) (hb hby d35_13) (fun _ _ => ⟨rfl, e0, (by decide : 0 + 1 ≤ _), (by decide : 0 + 6 ≤ _)⟩)
  dsimp only [Pt.U, Pt.locs, Pt.cells, Pt.slots] at X2 l2 y2 z2 st2 hQ2
  subst l2 y2 z2
  obtain ⟨b2, k2, ws2, rfl, N2q, lo2, K2, V2⟩ := hQ2
  have lo2 := own_nle lo2
  have N2 := Fr.app N0 N2q
  have hi2 := own_nlt (V2.lt)
  have sz2 := K2.1
  refine go_of (B := (T2.setTop (mkF m 16 #[.val (.ref d), .val (.int (0 : Int32)), .val (.int mm)] [(.ref b2)]))) (st2) ?_
  refine go_end X2 (v := some (.ref b2)) (fun h => by rw [Bd.returns] at h; cases h) Bd.notSynchronized (by decide) (by decide) (Q := (Q_corN Z d mm f0 kd vs h0 n0)) ?_ (fun fs hr => own_retA X2 hx Bd.returns rfl rfl (hb hby d35_16) hr)
  unfold Q_corN
  exact ⟨b2, k2, ws2, rfl, N2, by omega, ((Keep.refl h0 []).trans K2 all0), V2⟩
theorem d30_0 : decode jdk_42_method_150_code 0 = .ok (.aload_n 0, 1) := by decide +kernel
theorem d30_1 : decode jdk_42_method_150_code 1 = .ok (.invokespecial 1, 3) := by decide +kernel
theorem d30_4 : decode jdk_42_method_150_code 4 = .ok (.aload_n 1, 1) := by decide +kernel
theorem d30_5 : decode jdk_42_method_150_code 5 = .ok (.invokevirtual 552, 3) := by decide +kernel
theorem pd____B : parseMethodDescriptor "()[B" = some ⟨[], some (.array .byte)⟩ := by decide +kernel
theorem d30_8 : decode jdk_42_method_150_code 8 = .ok (.astore_n 3, 1) := by decide +kernel
theorem d30_9 : decode jdk_42_method_150_code 9 = .ok (.aload_n 1, 1) := by decide +kernel
theorem d30_10 : decode jdk_42_method_150_code 10 = .ok (.invokevirtual 549, 3) := by decide +kernel
theorem d30_13 : decode jdk_42_method_150_code 13 = .ok (.istore 4, 2) := by decide +kernel
theorem d30_15 : decode jdk_42_method_150_code 15 = .ok (.aload_n 1, 1) := by decide +kernel
theorem d30_16 : decode jdk_42_method_150_code 16 = .ok (.invokevirtual 1047, 3) := by decide +kernel
theorem d30_19 : decode jdk_42_method_150_code 19 = .ok (.ifCond .eq 22, 3) := by decide +kernel
theorem d30_22 : decode jdk_42_method_150_code 22 = .ok (.aload_n 0, 1) := by decide +kernel
theorem d30_23 : decode jdk_42_method_150_code 23 = .ok (.iconst 0, 1) := by decide +kernel
theorem d30_24 : decode jdk_42_method_150_code 24 = .ok (.putfield 15, 3) := by decide +kernel
theorem d30_27 : decode jdk_42_method_150_code 27 = .ok (.aload_n 0, 1) := by decide +kernel
theorem d30_28 : decode jdk_42_method_150_code 28 = .ok (.aload_n 3, 1) := by decide +kernel
theorem d30_29 : decode jdk_42_method_150_code 29 = .ok (.iconst 0, 1) := by decide +kernel
theorem d30_30 : decode jdk_42_method_150_code 30 = .ok (.iload 4, 2) := by decide +kernel
theorem d30_32 : decode jdk_42_method_150_code 32 = .ok (.invokestatic 54, 3) := by decide +kernel
theorem d30_35 : decode jdk_42_method_150_code 35 = .ok (.putfield 9, 3) := by decide +kernel
theorem d30_38 : decode jdk_42_method_150_code 38 = .ok (.goto 59, 3) := by decide +kernel
theorem d30_97 : decode jdk_42_method_150_code 97 = .ok (.return_, 1) := by decide +kernel
def Q_si2N (Z : State) (a : Addr) (sb : Addr) (d : Addr) (kd : ClassId) (vv : Value) (vc : Value) (mm : Int32) (f0 : Int32) (vs : List Value) (gC : Int32) (h0 : Heap) (n0 : Nat) (v : Option Value) (h : Heap) (L : List Loc) : Prop := v = none ∧ Fr n0 L ∧ Keep h0 h [a] ∧ StrH Z h a mm f0
theorem ef_si2N (m : MethodId) (a : Addr) (sb : Addr)  : entryFrame m #[(.ref a), (.ref sb), .null] 5 = mkF m 0 #[.val (.ref a), .val (.ref sb), .val .null, .unset, .unset] [] := by first | (simp [entryFrame, mkF, argsToLocals, Value.category]; done) | rfl
theorem si2N (l : Launch) (Z : State) (a0 : Array Value) (hw : TW a0 Z) (ws : List Jvm.Cond) (a : Addr) (sb : Addr) (d : Addr) (kd : ClassId) (vv : Value) (vc : Value) (mm : Int32) (f0 : Int32) (vs : List Value) (gC : Int32) (h0 : Heap) (n0 : Nat) (Z0 : n0 ≤ h0.size) (O : Old Z n0 h0) (SC : Sta Z Z.heap "java/lang/String" "COMPACT_STRINGS" "Z" (.int gC)) (hgC : ¬ gC = (0 : Int32)) (Ea : Exa Z h0 a "java/lang/String") (Fva : Fld Z h0 a "java/lang/String" "value" "[B" vv) (Fca : Fld Z h0 a "java/lang/String" "coder" "B" vc) (g : n0 ≤ a) (A : SB Z h0 sb d kd mm ((.int (own_b8 f0)) :: (.int (own_b8 (32 : Int32))) :: vs)) (hm : M5 mm) (nda : @Ne Nat d a) :
    own_MF l Z (⟨"java/lang/String", "<init>", "(Ljava/lang/AbstractStringBuilder;Ljava/lang/Void;)V"⟩ : MethodName) jdk_42_method_150_code 5 none ws (own_R 3 1 6 49) #[(.ref a), (.ref sb), .null] h0 (Q_si2N Z a sb d kd vv vc mm f0 vs gC h0 n0) := by
  have wd := @own_wd _ _ hw
  refine MetFree.of_bodySF (plainFor_of_name pn_java_lang_String) hisR ?_
  intro p e s m args below meth c s₁ Bd hml0 hP hK
  obtain ⟨rfl, hZ, hh⟩ := hP
  have hx := Bd.exec
  have hby := Bd.bytes
  have hml : c.maxLocals = 5 := hml0
  have hown : s.vm.findClass "java/lang/String" = some m.cls := findClass_of_methodNamed Bd.named
  have hnm := (name_of_methodNamed Bd.named Bd.method).1
  have X0 : Stand p l e (own_R 3 1 6 49) s m #[(.ref a), (.ref sb), .null] below meth c s₁ [] 0 0 := Stand.of_body Bd
  have e0 : s₁.heap = h0 := by rw [← hh, Bd.state]; rfl
  have N0 := Fr.nil n0
  have lta := own_nlt (Ea.lt)
  have ltd := own_nlt (A.2.2.2.2.lt)
  have lts := own_nlt (A.1.lt)
  refine go_of (A := s₁.setTop (entryFrame m #[(.ref a), (.ref sb), .null] 5)) (B := s₁.setTop (mkF m 0 #[.val (.ref a), .val (.ref sb), .val .null, .unset, .unset] [])) (fun _ kk' => castTop (ef_si2N m a sb) kk') ?_
  refine go_of (B := (s₁.setTop (mkF m 1 #[.val (.ref a), .val (.ref sb), .val .null, .unset, .unset] [(.ref a)]))) (fun _ kk => XS.aloadN X0.here hx rfl (hb hby d30_0) rfl rfl kk) ?_
  obtain ⟨T1, X1, e1, st1⟩ := initO X0 hx hZ hown (wd 16 rfl) (wd 17 rfl) (wd 18 rfl) e0 (g := (mkF m 1 #[.val (.ref a), .val (.ref sb), .val .null, .unset, .unset] [(.ref a)])) rfl (by rw [hml]; rfl) rfl (hb hby d30_1) (by decide) (W := 0) (by show 2 * 0 + _ ≤ _; exact Nat.le_of_eq rfl) (by decide)
  refine go_of (B := (T1.setTop (mkF m 4 #[.val (.ref a), .val (.ref sb), .val .null, .unset, .unset] []))) (st1) ?_
  refine go_of (B := (T1.setTop (mkF m 5 #[.val (.ref a), .val (.ref sb), .val .null, .unset, .unset] [(.ref sb)]))) (fun _ kk => XS.aloadN X1.here hx rfl (hb hby d30_4) rfl rfl kk) ?_
  obtain ⟨cq2, kq2, q2a, q2b, q2c⟩ := isOf hZ e1 A.1
  obtain ⟨_, _, ⟨T2, L2, k2, n2⟩, -, X2, ⟨Lc2, hQ2, l2, y2, z2⟩, st2⟩ := X1.virtualBack hx (y := MN5) (z := MN5) hown (mvT hZ (wd 156 rfl)) (mvT hZ (wd 157 rfl)) (notFace_of_selects (args := #[]) (mvT hZ (wd 159 rfl))) (mvT hZ (wd 159 rfl)) (mvT hZ (wd 158 rfl)) (by decide) (backOf (W := 0) (gval l Z a0 hw [] sb d h0 n0 (by omega) A.2.1) hZ (wd 160 rfl) (wd 97 rfl) (by decide) (by decide)) q2a q2c (g := (mkF m 5 #[.val (.ref a), .val (.ref sb), .val .null, .unset, .unset] [(.ref sb)])) rfl (by rw [hml]; rfl) (Steps.refl _) (argsL := []) (rest := []) (lenOf pd____B rfl) rfl (by show 2 * 0 + _ ≤ _; exact Nat.le_of_eq rfl) (hb hby d30_5) (fun _ _ => ⟨rfl, e1, (by decide : 0 + 0 ≤ _), (by decide : 0 + 0 ≤ _)⟩)
  dsimp only [Pt.U, Pt.locs, Pt.cells, Pt.slots] at X2 l2 y2 z2 st2 hQ2
  subst l2 y2 z2
  obtain ⟨rfl, N2q, e2⟩ := hQ2
  have N2 := Fr.app N0 N2q
  refine go_tr (B := (T2.setTop (mkF m 8 #[.val (.ref a), .val (.ref sb), .val .null, .unset, .unset] [(.ref d)]))) (st2) ?_
  refine go_of (B := (T2.setTop (mkF m 10 #[.val (.ref a), .val (.ref sb), .val .null, .val (.ref d), .unset] [(.ref sb)]))) (fun _ kk => XS.astoreN X2.here hx rfl (hb hby d30_8) rfl rfl rfl (XS.aloadN X2.here hx rfl (hb hby d30_9) rfl rfl kk)) ?_
  obtain ⟨cq3, kq3, q3a, q3b, q3c⟩ := isOf hZ e2 A.1
  obtain ⟨_, _, ⟨T3, L3, k3, n3⟩, -, X3, ⟨Lc3, hQ3, l3, y3, z3⟩, st3⟩ := X2.virtualBack hx (y := MN8) (z := (⟨"java/lang/StringBuilder", "length", "()I"⟩ : MethodName)) hown (mvT hZ (wd 161 rfl)) (mvT hZ (wd 162 rfl)) (own_nf (args := #[]) (mvT hZ (wd 121 rfl)) rfl) (mvT hZ (wd 164 rfl)) (mvT hZ (wd 165 rfl)) (by decide) (backOf (W := 0) (slen l Z a0 hw [] sb mm h0 n0 (by omega) A.1 A.2.2.2.1) hZ (wd 166 rfl) (wd 89 rfl) (by decide) (by decide)) q3a q3c (g := (mkF m 10 #[.val (.ref a), .val (.ref sb), .val .null, .val (.ref d), .unset] [(.ref sb)])) rfl (by rw [hml]; rfl) (Steps.refl _) (argsL := []) (rest := []) (lenOf pd___I rfl) rfl (by show 2 * 0 + _ ≤ _; exact Nat.le_of_eq rfl) (hb hby d30_10) (fun _ _ => ⟨rfl, e2, (by decide : 0 + 0 ≤ _), (by decide : 0 + 0 ≤ _)⟩)
  dsimp only [Pt.U, Pt.locs, Pt.cells, Pt.slots] at X3 l3 y3 z3 st3 hQ3
  subst l3 y3 z3
  obtain ⟨rfl, N3q, e3⟩ := hQ3
  have N3 := Fr.app N2 N3q
  refine go_tr (B := (T3.setTop (mkF m 13 #[.val (.ref a), .val (.ref sb), .val .null, .val (.ref d), .unset] [(.int mm)]))) (st3) ?_
  refine go_of (B := (T3.setTop (mkF m 16 #[.val (.ref a), .val (.ref sb), .val .null, .val (.ref d), .val (.int mm)] [(.ref sb)]))) (fun _ kk => XS.istore X3.here hx rfl (hb hby d30_13) rfl rfl (XS.aloadN X3.here hx rfl (hb hby d30_15) rfl rfl kk)) ?_
  obtain ⟨cq4, kq4, q4a, q4b, q4c⟩ := isOf hZ e3 A.1
  obtain ⟨_, _, ⟨T4, L4, k4, n4⟩, -, X4, ⟨Lc4, hQ4, l4, y4, z4⟩, st4⟩ := X3.virtualBack hx (y := MN7) (z := MN7) hown (mvT hZ (wd 169 rfl)) (mvT hZ (wd 170 rfl)) (notFace_of_selects (args := #[]) (mvT hZ (wd 172 rfl))) (mvT hZ (wd 172 rfl)) (mvT hZ (wd 171 rfl)) (by decide) (backOf (W := 0) (alat l Z a0 hw [] sb gC h0 n0 (by omega) O SC hgC A.2.2.1) hZ (wd 173 rfl) (wd 97 rfl) (by decide) (by decide)) q4a q4c (g := (mkF m 16 #[.val (.ref a), .val (.ref sb), .val .null, .val (.ref d), .val (.int mm)] [(.ref sb)])) rfl (by rw [hml]; rfl) (Steps.refl _) (argsL := []) (rest := []) (lenOf pd___Z rfl) rfl (by show 2 * 0 + _ ≤ _; exact Nat.le_of_eq rfl) (hb hby d30_16) (fun _ _ => ⟨rfl, e3, (by decide : 0 + 0 ≤ _), (by decide : 0 + 0 ≤ _)⟩)
  dsimp only [Pt.U, Pt.locs, Pt.cells, Pt.slots] at X4 l4 y4 z4 st4 hQ4
  subst l4 y4 z4
  obtain ⟨rfl, N4q, e4⟩ := hQ4
  have N4 := Fr.app N3 N4q
  refine go_tr (B := (T4.setTop (mkF m 19 #[.val (.ref a), .val (.ref sb), .val .null, .val (.ref d), .val (.int mm)] [(.int (1 : Int32))]))) (st4) ?_
  refine go_of (B := (T4.setTop (mkF m 24 #[.val (.ref a), .val (.ref sb), .val .null, .val (.ref d), .val (.int mm)] [(.int (0 : Int32)), (.ref a)]))) (fun _ kk => XS.ifNo X4.here hx rfl (hb hby d30_19) rfl ((if0 _ _).trans (feq (by decide : ¬ ((1 : Int32) = (0 : Int32)))).1) (XS.aloadN X4.here hx rfl (hb hby d30_22) rfl rfl (XS.iconst X4.here hx rfl (hb hby d30_23) kk))) ?_
  obtain ⟨T5, h5, X5, e5, W5, st5⟩ := putFN X4 hx hZ hown (wd 26 rfl) Via.refl e4 Fca Ea (Or.inr ⟨(wd 22 rfl), rfl, hnm⟩) (wd 6 rfl) (ty := .byte) (v' := (.int (nar .byte (0 : Int32)))) (by decide) rfl (fits_nar_byte _) (g := (mkF m 24 #[.val (.ref a), .val (.ref sb), .val .null, .val (.ref d), .val (.int mm)] [(.int (0 : Int32)), (.ref a)])) rfl rfl (hb hby d30_24)
  have sz5 := W5.size
  have Fw5 := Fca.same W5
  have N5 := Fr.snoc X5 N4 (g : n0 ≤ a)
  refine go_of (B := (T5.setTop (mkF m 27 #[.val (.ref a), .val (.ref sb), .val .null, .val (.ref d), .val (.int mm)] []))) (st5) ?_
  refine go_of (B := (T5.setTop (mkF m 32 #[.val (.ref a), .val (.ref sb), .val .null, .val (.ref d), .val (.int mm)] [(.int mm), (.int (0 : Int32)), (.ref d), (.ref a)]))) (fun _ kk => XS.aloadN X5.here hx rfl (hb hby d30_27) rfl rfl (XS.aloadN X5.here hx rfl (hb hby d30_28) rfl rfl (XS.iconst X5.here hx rfl (hb hby d30_29) (XS.iload X5.here hx rfl (hb hby d30_30) rfl kk)))) ?_
  have cf_6 := (A.2.2.2.2.other W5 (by first | omega | exact own_ne (by omega) | exact own_le (by omega) | exact own_lt (by omega)))
  obtain ⟨_, _, ⟨T7, L7, k7, n7⟩, -, X7, ⟨Lc7, hQ7, l7, y7, z7⟩, st7⟩ := Jvm.LawKit.callS X5 hx (y := (⟨"java/util/Arrays", "copyOfRange", "([BII)[B"⟩ : MethodName)) hown (mvT hZ (wd 174 rfl)) (mvT hZ (wd 175 rfl)) (mvT hZ (wd 176 rfl)) (mvT hZ (wd 177 rfl)) (by decide) (backOf (W := 1) (corN l Z a0 hw [] d mm f0 kd vs h5 n0 (by omega) hm cf_6) hZ (wd 177 rfl) (wd 176 rfl) (by decide) (by decide)) (g := (mkF m 32 #[.val (.ref a), .val (.ref sb), .val .null, .val (.ref d), .val (.int mm)] [(.int mm), (.int (0 : Int32)), (.ref d), (.ref a)])) rfl (by rw [hml]; rfl) (argsL := [(.ref d), (.int (0 : Int32)), (.int mm)]) (rest := [(.ref a)]) (lenOf pd___BII__B rfl) rfl (by show 2 * 0 + _ ≤ _; exact Nat.le_of_eq rfl) (hb hby d30_32) (fun _ _ => ⟨rfl, e5, (by decide : 0 + 1 ≤ _), (by decide : 0 + 6 ≤ _)⟩)
  dsimp only [Pt.U, Pt.locs, Pt.cells, Pt.slots] at X7 l7 y7 z7 st7 hQ7
  subst l7 y7 z7
  obtain ⟨b7, k7, ws7, rfl, N7q, lo7, K7, V7⟩ := hQ7
  have lo7 := own_nle lo7
  have N7 := Fr.app N5 N7q
  have hi7 := own_nlt (V7.lt)
  have sz7 := K7.1
  refine go_of (B := (T7.setTop (mkF m 35 #[.val (.ref a), .val (.ref sb), .val .null, .val (.ref d), .val (.int mm)] [(.ref b7), (.ref a)]))) (st7) ?_
  have cf_8 := ((Ea.wr W5).keep K7)
  have cf_9 := ((Fva.other W5 (Or.inr (slot_ne (Or.inr (wd 21 rfl)) (Or.inr (wd 22 rfl)) (by decide) (t := (.array .byte)) (t' := .byte) (by decide) (by decide)))).keep K7 nin0)
  obtain ⟨T10, h10, X10, e10, W10, st10⟩ := putF X7 hx hZ hown (host := "") (Or.inl (wd 25 rfl)) Via.refl rfl cf_9 cf_8 (Or.inr ⟨(wd 21 rfl), rfl, hnm⟩) (wd 6 rfl) (ty := (.array .byte)) (by decide) rfl rfl (g := (mkF m 35 #[.val (.ref a), .val (.ref sb), .val .null, .val (.ref d), .val (.int mm)] [(.ref b7), (.ref a)])) rfl rfl (hb hby d30_35)
  have sz10 := W10.size
  have Fw10 := cf_9.same W10
  have N10 := Fr.snoc X10 N7 (g : n0 ≤ a)
  refine go_of (B := (T10.setTop (mkF m 38 #[.val (.ref a), .val (.ref sb), .val .null, .val (.ref d), .val (.int mm)] []))) (st10) ?_
  refine go_of (B := (T10.setTop (mkF m 97 #[.val (.ref a), .val (.ref sb), .val .null, .val (.ref d), .val (.int mm)] []))) (fun _ kk => XS.goto X10.here hx rfl (pc0 := 38) (pc' := 97) rfl (hb hby d30_38) (by decide) (by decide) kk) ?_
  have cf_11 := (V7.other W10 (by first | omega | exact own_ne (by omega) | exact own_le (by omega) | exact own_lt (by omega)))
  have cf_12 := ((Fw5.keep K7 nin0).other W10 (Or.inr (slot_ne (Or.inr (wd 22 rfl)) (Or.inr (wd 21 rfl)) (by decide) (t := .byte) (t' := (.array .byte)) (by decide) (by decide))))
  have cf_13 := (cf_8.wr W10)
  refine go_end X10 (v := none) (fun _ => rfl) Bd.notSynchronized (by decide) (by decide) (Q := (Q_si2N Z a sb d kd vv vc mm f0 vs gC h0 n0)) ?_ (fun fs hr => X10.returnOut hx Bd.returns (hb hby d30_97) hr)
  unfold Q_si2N
  try rw [e10]
  exact ⟨rfl, N10, ((((Keep.refl h0 [a]).wr W5 (Or.inl (List.mem_of_getElem? (i := 0) rfl))).trans K7 all0).wr W10 (Or.inl (List.mem_of_getElem? (i := 0) rfl))), b7, k7, ws7, cf_13, cf_12, Fw10, cf_11⟩
theorem d29_0 : decode jdk_42_method_53_code 0 = .ok (.aload_n 0, 1) := by decide +kernel
theorem d29_1 : decode jdk_42_method_53_code 1 = .ok (.aload_n 1, 1) := by decide +kernel
theorem d29_2 : decode jdk_42_method_53_code 2 = .ok (.aconst_null, 1) := by decide +kernel
theorem d29_3 : decode jdk_42_method_53_code 3 = .ok (.invokespecial 489, 3) := by decide +kernel
theorem pd__Ljava_lang_AbstractStringBuilder_Ljava_lang_Void__V : parseMethodDescriptor "(Ljava/lang/AbstractStringBuilder;Ljava/lang/Void;)V" = some ⟨[(.object "java/lang/AbstractStringBuilder"), (.object "java/lang/Void")], none⟩ := by decide +kernel
theorem d29_6 : decode jdk_42_method_53_code 6 = .ok (.return_, 1) := by decide +kernel
def Q_si1N (Z : State) (a : Addr) (sb : Addr) (d : Addr) (kd : ClassId) (vv : Value) (vc : Value) (mm : Int32) (f0 : Int32) (vs : List Value) (gC : Int32) (h0 : Heap) (n0 : Nat) (v : Option Value) (h : Heap) (L : List Loc) : Prop := v = none ∧ Fr n0 L ∧ Keep h0 h [a] ∧ StrH Z h a mm f0
theorem ef_si1N (m : MethodId) (a : Addr) (sb : Addr)  : entryFrame m #[(.ref a), (.ref sb)] 2 = mkF m 0 #[.val (.ref a), .val (.ref sb)] [] := by first | (simp [entryFrame, mkF, argsToLocals, Value.category]; done) | rfl
theorem si1N (l : Launch) (Z : State) (a0 : Array Value) (hw : TW a0 Z) (ws : List Jvm.Cond) (a : Addr) (sb : Addr) (d : Addr) (kd : ClassId) (vv : Value) (vc : Value) (mm : Int32) (f0 : Int32) (vs : List Value) (gC : Int32) (h0 : Heap) (n0 : Nat) (Z0 : n0 ≤ h0.size) (O : Old Z n0 h0) (SC : Sta Z Z.heap "java/lang/String" "COMPACT_STRINGS" "Z" (.int gC)) (hgC : ¬ gC = (0 : Int32)) (Ea : Exa Z h0 a "java/lang/String") (Fva : Fld Z h0 a "java/lang/String" "value" "[B" vv) (Fca : Fld Z h0 a "java/lang/String" "coder" "B" vc) (g : n0 ≤ a) (A : SB Z h0 sb d kd mm ((.int (own_b8 f0)) :: (.int (own_b8 (32 : Int32))) :: vs)) (hm : M5 mm) (nda : @Ne Nat d a) :
    own_MF l Z (⟨"java/lang/String", "<init>", "(Ljava/lang/StringBuilder;)V"⟩ : MethodName) jdk_42_method_53_code 2 none ws (own_R 4 1 6 65) #[(.ref a), (.ref sb)] h0 (Q_si1N Z a sb d kd vv vc mm f0 vs gC h0 n0) := by
  have wd := @own_wd _ _ hw
  refine MetFree.of_bodySF (plainFor_of_name pn_java_lang_String) hisR ?_
  intro p e s m args below meth c s₁ Bd hml0 hP hK
  obtain ⟨rfl, hZ, hh⟩ := hP
  have hx := Bd.exec
  have hby := Bd.bytes
  have hml : c.maxLocals = 2 := hml0
  have hown : s.vm.findClass "java/lang/String" = some m.cls := findClass_of_methodNamed Bd.named
  have hnm := (name_of_methodNamed Bd.named Bd.method).1
  have X0 : Stand p l e (own_R 4 1 6 65) s m #[(.ref a), (.ref sb)] below meth c s₁ [] 0 0 := Stand.of_body Bd
  have e0 : s₁.heap = h0 := by rw [← hh, Bd.state]; rfl
  have N0 := Fr.nil n0
  have lta := own_nlt (Ea.lt)
  have ltd := own_nlt (A.2.2.2.2.lt)
  have lts := own_nlt (A.1.lt)
  refine go_of (A := s₁.setTop (entryFrame m #[(.ref a), (.ref sb)] 2)) (B := s₁.setTop (mkF m 0 #[.val (.ref a), .val (.ref sb)] [])) (fun _ kk' => castTop (ef_si1N m a sb) kk') ?_
  refine go_of (B := (s₁.setTop (mkF m 3 #[.val (.ref a), .val (.ref sb)] [.null, (.ref sb), (.ref a)]))) (fun _ kk => XS.aloadN X0.here hx rfl (hb hby d29_0) rfl rfl (XS.aloadN X0.here hx rfl (hb hby d29_1) rfl rfl (XS.aconstNull X0.here hx rfl (hb hby d29_2) kk))) ?_
  obtain ⟨_, _, ⟨T1, L1, k1, n1⟩, -, X1, ⟨Lc1, hQ1, l1, y1, z1⟩, st1⟩ := X0.specialBack hx (y := (⟨"java/lang/String", "<init>", "(Ljava/lang/AbstractStringBuilder;Ljava/lang/Void;)V"⟩ : MethodName)) rfl hown (mvT hZ (wd 153 rfl)) (mvT hZ (wd 154 rfl)) (mvT hZ (wd 155 rfl)) (by decide) (backOf (W := 0) (si2N l Z a0 hw [] a sb d kd vv vc mm f0 vs gC h0 n0 (by omega) O SC hgC Ea Fva Fca g A hm nda) hZ (wd 155 rfl) (wd 7 rfl) (by decide) (by decide)) (g := (mkF m 3 #[.val (.ref a), .val (.ref sb)] [.null, (.ref sb), (.ref a)])) rfl (by rw [hml]; rfl) (Steps.refl _) (a := a) (argsL := [(.ref sb), .null]) (rest := []) (lenOf pd__Ljava_lang_AbstractStringBuilder_Ljava_lang_Void__V rfl) rfl (by show 2 * 0 + _ ≤ _; exact Nat.le_of_eq rfl) (hb hby d29_3) (fun _ _ => ⟨rfl, e0, (by decide : 0 + 1 ≤ _), (by decide : 0 + 6 ≤ _)⟩)
  dsimp only [Pt.U, Pt.locs, Pt.cells, Pt.slots] at X1 l1 y1 z1 st1 hQ1
  subst l1 y1 z1
  obtain ⟨rfl, N1q, K1, S1⟩ := hQ1
  have N1 := Fr.app N0 N1q
  have sz1 := K1.1
  refine go_tr (B := (T1.setTop (mkF m 6 #[.val (.ref a), .val (.ref sb)] []))) (st1) ?_
  refine go_end X1 (v := none) (fun _ => rfl) Bd.notSynchronized (by decide) (by decide) (Q := (Q_si1N Z a sb d kd vv vc mm f0 vs gC h0 n0)) ?_ (fun fs hr => X1.returnOut hx Bd.returns (hb hby d29_6) hr)
  unfold Q_si1N
  exact ⟨rfl, N1, ((Keep.refl h0 [a]).trans K1 (allS (Or.inl (List.mem_of_getElem? (i := 0) rfl)) all0)), S1⟩
theorem d28_0 : decode jdk_67_method_42_code 0 = .ok (.new 18, 3) := by decide +kernel
theorem d28_3 : decode jdk_67_method_42_code 3 = .ok (.dup, 1) := by decide +kernel
theorem d28_4 : decode jdk_67_method_42_code 4 = .ok (.aload_n 0, 1) := by decide +kernel
theorem d28_5 : decode jdk_67_method_42_code 5 = .ok (.invokespecial 137, 3) := by decide +kernel
theorem pd__Ljava_lang_StringBuilder__V : parseMethodDescriptor "(Ljava/lang/StringBuilder;)V" = some ⟨[(.object "java/lang/StringBuilder")], none⟩ := by decide +kernel
theorem d28_8 : decode jdk_67_method_42_code 8 = .ok (.areturn, 1) := by decide +kernel
def Q_tosN (Z : State) (sb : Addr) (d : Addr) (kd : ClassId) (mm : Int32) (f0 : Int32) (vs : List Value) (gC : Int32) (h0 : Heap) (n0 : Nat) (v : Option Value) (h : Heap) (L : List Loc) : Prop := ∃ t : Addr, v = some (.ref t) ∧ Fr n0 L ∧ h0.size ≤ t ∧ Keep h0 h [] ∧ StrH Z h t mm f0
theorem ef_tosN (m : MethodId) (sb : Addr)  : entryFrame m #[(.ref sb)] 1 = mkF m 0 #[.val (.ref sb)] [] := by first | (simp [entryFrame, mkF, argsToLocals, Value.category]; done) | rfl
theorem tosN (l : Launch) (Z : State) (a0 : Array Value) (hw : TW a0 Z) (ws : List Jvm.Cond) (sb : Addr) (d : Addr) (kd : ClassId) (mm : Int32) (f0 : Int32) (vs : List Value) (gC : Int32) (h0 : Heap) (n0 : Nat) (Z0 : n0 ≤ h0.size) (O : Old Z n0 h0) (SC : Sta Z Z.heap "java/lang/String" "COMPACT_STRINGS" "Z" (.int gC)) (hgC : ¬ gC = (0 : Int32)) (A : SB Z h0 sb d kd mm ((.int (own_b8 f0)) :: (.int (own_b8 (32 : Int32))) :: vs)) (hm : M5 mm) :
    own_MF l Z MN22 jdk_67_method_42_code 1 (some (.object "java/lang/String")) ws (own_R 5 2 10 79) #[(.ref sb)] h0 (Q_tosN Z sb d kd mm f0 vs gC h0 n0) := by
  have wd := @own_wd _ _ hw
  refine MetFree.of_bodySF (plainFor_of_name pn_java_lang_StringBuilder) hisR ?_
  intro p e s m args below meth c s₁ Bd hml0 hP hK
  obtain ⟨rfl, hZ, hh⟩ := hP
  have hx := Bd.exec
  have hby := Bd.bytes
  have hml : c.maxLocals = 1 := hml0
  have hown : s.vm.findClass "java/lang/StringBuilder" = some m.cls := findClass_of_methodNamed Bd.named
  have hnm := (name_of_methodNamed Bd.named Bd.method).1
  have X0 : Stand p l e (own_R 5 2 10 79) s m #[(.ref sb)] below meth c s₁ [] 0 0 := Stand.of_body Bd
  have e0 : s₁.heap = h0 := by rw [← hh, Bd.state]; rfl
  have N0 := Fr.nil n0
  have ltd := own_nlt (A.2.2.2.2.lt)
  have lts := own_nlt (A.1.lt)
  refine go_of (A := s₁.setTop (entryFrame m #[(.ref sb)] 1)) (B := s₁.setTop (mkF m 0 #[.val (.ref sb)] [])) (fun _ kk' => castTop (ef_tosN m sb) kk') ?_
  obtain ⟨T1, h1, X1, e1, E1, A1, D1, -, st1⟩ := newO X0 hx hZ hown (wd 149 rfl) (wd 6 rfl) (wd 7 rfl) e0 (g := (mkF m 0 #[.val (.ref sb)] [])) rfl (hb hby d28_0) (by decide) (by decide)
  obtain ⟨b1, g1⟩ : ∃ z, z = h0.size := ⟨_, rfl⟩
  rw [← g1] at A1 D1 st1
  have hi1 := own_nlt A1.lt
  have sz1 := E1.1
  have F1_value : Fld Z h1 b1 "java/lang/String" "value" "[B" .null := D1 (Or.inr (wd 21 rfl)) (ty := (.array .byte)) (by decide)
  have F1_coder : Fld Z h1 b1 "java/lang/String" "coder" "B" (.int (0 : Int32)) := D1 (Or.inr (wd 22 rfl)) (ty := .byte) (by decide)
  refine go_of (B := (T1.setTop (mkF m 3 #[.val (.ref sb)] [(.ref b1)]))) (st1) ?_
  refine go_of (B := (T1.setTop (mkF m 5 #[.val (.ref sb)] [(.ref sb), (.ref b1), (.ref b1)]))) (fun _ kk => XS.dup X1.here hx rfl (hb hby d28_3) rfl rfl (XS.aloadN X1.here hx rfl (hb hby d28_4) rfl rfl kk)) ?_
  have cf_2 := (O.ext E1)
  have cf_3 := (A.1.ext E1)
  have cf_4 := (A.2.1.ext E1)
  have cf_5 := (A.2.2.1.ext E1)
  have cf_6 := (A.2.2.2.1.ext E1)
  have cf_7 := (A.2.2.2.2.ext E1)
  obtain ⟨_, _, ⟨T8, L8, k8, n8⟩, -, X8, ⟨Lc8, hQ8, l8, y8, z8⟩, st8⟩ := X1.specialBack hx (y := (⟨"java/lang/String", "<init>", "(Ljava/lang/StringBuilder;)V"⟩ : MethodName)) rfl hown (mvT hZ (wd 150 rfl)) (mvT hZ (wd 151 rfl)) (mvT hZ (wd 152 rfl)) (by decide) (backOf (W := 1) (si1N l Z a0 hw [] b1 sb d kd _ _ mm f0 vs gC h1 n0 (by omega) cf_2 SC hgC A1 F1_value F1_coder (by first | omega | exact own_ne (by omega) | exact own_le (by omega) | exact own_lt (by omega)) ⟨cf_3, cf_4, cf_5, cf_6, cf_7⟩ hm (by first | omega | exact own_ne (by omega) | exact own_le (by omega) | exact own_lt (by omega))) hZ (wd 152 rfl) (wd 7 rfl) (by decide) (by decide)) (g := (mkF m 5 #[.val (.ref sb)] [(.ref sb), (.ref b1), (.ref b1)])) rfl (by rw [hml]; rfl) (Steps.refl _) (a := b1) (argsL := [(.ref sb)]) (rest := [(.ref b1)]) (lenOf pd__Ljava_lang_StringBuilder__V rfl) rfl (by show 2 * 0 + _ ≤ _; exact Nat.le_of_eq rfl) (hb hby d28_5) (fun _ _ => ⟨rfl, e1, (by decide : 1 + 1 ≤ _), (by decide : 4 + 6 ≤ _)⟩)
  dsimp only [Pt.U, Pt.locs, Pt.cells, Pt.slots] at X8 l8 y8 z8 st8 hQ8
  subst l8 y8 z8
  obtain ⟨rfl, N8q, K8, S8⟩ := hQ8
  have N8 := Fr.app N0 N8q
  have sz8 := K8.1
  refine go_tr (B := (T8.setTop (mkF m 8 #[.val (.ref sb)] [(.ref b1)]))) (st8) ?_
  refine go_end X8 (v := some (.ref b1)) (fun h => by rw [Bd.returns] at h; cases h) Bd.notSynchronized (by decide) (by decide) (Q := (Q_tosN Z sb d kd mm f0 vs gC h0 n0)) ?_ (fun fs hr => own_retA X8 hx Bd.returns rfl rfl (hb hby d28_8) hr)
  unfold Q_tosN
  exact ⟨b1, rfl, N8, by omega, (((Keep.refl h0 []).ext E1).trans K8 (allS (Or.inr (by first | omega | exact own_ne (by omega) | exact own_le (by omega) | exact own_lt (by omega))) all0)), S8⟩
theorem d19_0 : decode prog_10_method_12_code 0 = .ok (.new 33, 3) := by decide +kernel
theorem d19_3 : decode prog_10_method_12_code 3 = .ok (.dup, 1) := by decide +kernel
theorem d19_4 : decode prog_10_method_12_code 4 = .ok (.invokespecial 35, 3) := by decide +kernel
theorem pd___V : parseMethodDescriptor "()V" = some ⟨[], none⟩ := by decide +kernel
theorem d19_7 : decode prog_10_method_12_code 7 = .ok (.aload_n 1, 1) := by decide +kernel
theorem d19_8 : decode prog_10_method_12_code 8 = .ok (.invokevirtual 36, 3) := by decide +kernel
theorem pd__Ljava_lang_String__Ljava_lang_StringBuilder_ : parseMethodDescriptor "(Ljava/lang/String;)Ljava/lang/StringBuilder;" = some ⟨[(.object "java/lang/String")], some (.object "java/lang/StringBuilder")⟩ := by decide +kernel
theorem d19_11 : decode prog_10_method_12_code 11 = .ok (.ldc 123, 2) := by decide +kernel
theorem d19_13 : decode prog_10_method_12_code 13 = .ok (.invokevirtual 36, 3) := by decide +kernel
theorem d19_16 : decode prog_10_method_12_code 16 = .ok (.aload_n 0, 1) := by decide +kernel
theorem d19_17 : decode prog_10_method_12_code 17 = .ok (.invokevirtual 36, 3) := by decide +kernel
theorem d19_20 : decode prog_10_method_12_code 20 = .ok (.invokevirtual 42, 3) := by decide +kernel
theorem pd___Ljava_lang_String_ : parseMethodDescriptor "()Ljava/lang/String;" = some ⟨[], some (.object "java/lang/String")⟩ := by decide +kernel
theorem d19_23 : decode prog_10_method_12_code 23 = .ok (.areturn, 1) := by decide +kernel
def Q_emN (Z : State) (sx : Addr) (sf : Addr) (nn : Int32) (f0 : Int32) (gC : Int32) (h0 : Heap) (n0 : Nat) (v : Option Value) (h : Heap) (L : List Loc) : Prop := ∃ t : Addr, v = some (.ref t) ∧ Fr n0 L ∧ h0.size ≤ t ∧ Keep h0 h [] ∧ StrH Z h t ((2 : Int32) + nn) f0
theorem ef_emN (m : MethodId) (sx : Addr) (sf : Addr)  : entryFrame m #[(.ref sx), (.ref sf)] 2 = mkF m 0 #[.val (.ref sx), .val (.ref sf)] [] := by first | (simp [entryFrame, mkF, argsToLocals, Value.category]; done) | rfl
theorem emN (l : Launch) (Z : State) (a0 : Array Value) (hw : TW a0 Z) (ws : List Jvm.Cond) (sx : Addr) (sf : Addr) (nn : Int32) (f0 : Int32) (gC : Int32) (h0 : Heap) (n0 : Nat) (Z0 : n0 ≤ h0.size) (O : Old Z n0 h0) (SC : Sta Z Z.heap "java/lang/String" "COMPACT_STRINGS" "Z" (.int gC)) (hgC : ¬ gC = (0 : Int32)) (S : StrN Z h0 sx nn) (hn : N5 nn) (Sf : Str Z h0 sf 1 [f0]) :
    own_MFH l Z MN1 prog_10_method_12_code 2 (some (.object "java/lang/String")) ws (own_R 6 6 38 91) #[(.ref sx), (.ref sf)] h0 (Q_emN Z sx sf nn f0 gC h0 n0) := by
  have wd := @own_wd _ _ hw
  refine MetFree.of_bodySF (plainFor_of_name pn_com_example_holdfast_holdfast_HoldfastLock_Exclusive) hisR ?_
  intro p e s m args below meth c s₁ Bd hml0 hP hK
  obtain ⟨rfl, hZ, hh, hCH⟩ := hP
  have hx := Bd.exec
  have hby := Bd.bytes
  have hml : c.maxLocals = 2 := hml0
  have hown : s.vm.findClass "com/example/holdfast/holdfast/HoldfastLock$Exclusive" = some m.cls := findClass_of_methodNamed Bd.named
  have hnm := (name_of_methodNamed Bd.named Bd.method).1
  have X0 : Stand p l e (own_R 6 6 38 91) (s.setVm s.vm) m #[(.ref sx), (.ref sf)] below meth c s₁ [] 0 0 := Stand.of_body Bd
  have e0 : s₁.heap = h0 := by rw [← hh, Bd.state]; rfl
  have N0 := Fr.nil n0
  have hS : s.Since s.vm 0 := (State.WarmedH.refl s).since 0
  have hh0 := hh
  have hEL := own_EW hw
  have HC0 := CHr.refl hCH
  have ltf := own_nlt (Sf.exa.lt)
  refine go_of (A := s₁.setTop (entryFrame m #[(.ref sx), (.ref sf)] 2)) (B := s₁.setTop (mkF m 0 #[.val (.ref sx), .val (.ref sf)] [])) (fun _ kk' => castTop (ef_emN m sx sf) kk') ?_
  obtain ⟨T1, h1, X1, e1, E1, A1, D1, -, st1⟩ := newO X0 hx hZ hown (wd 87 rfl) (wd 88 rfl) (wd 89 rfl) e0 (g := (mkF m 0 #[.val (.ref sx), .val (.ref sf)] [])) rfl (hb hby d19_0) (by decide) (by decide)
  obtain ⟨b1, g1⟩ : ∃ z, z = h0.size := ⟨_, rfl⟩
  rw [← g1] at A1 D1 st1
  have hi1 := own_nlt A1.lt
  have sz1 := E1.1
  have HC1 := HC0.trans (CHr.ext E1 HC0.1)
  have F1_value : Fld Z h1 b1 "java/lang/AbstractStringBuilder" "value" "[B" .null := D1 (Or.inl (wd 102 rfl)) (ty := (.array .byte)) (by decide)
  have F1_coder : Fld Z h1 b1 "java/lang/AbstractStringBuilder" "coder" "B" (.int (0 : Int32)) := D1 (Or.inl (wd 104 rfl)) (ty := .byte) (by decide)
  have F1_count : Fld Z h1 b1 "java/lang/AbstractStringBuilder" "count" "I" (.int (0 : Int32)) := D1 (Or.inl (wd 117 rfl)) (ty := .int) (by decide)
  refine go_of (B := (T1.setTop (mkF m 3 #[.val (.ref sx), .val (.ref sf)] [(.ref b1)]))) (st1) ?_
  refine go_of (B := (T1.setTop (mkF m 4 #[.val (.ref sx), .val (.ref sf)] [(.ref b1), (.ref b1)]))) (fun _ kk => XS.dup X1.here hx rfl (hb hby d19_3) rfl rfl kk) ?_
  have cf_2 := (O.ext E1)
  obtain ⟨_, _, ⟨T3, L3, k3, n3⟩, -, X3, ⟨Lc3, hQ3, l3, y3, z3⟩, st3⟩ := X1.specialBack hx (y := (⟨"java/lang/StringBuilder", "<init>", "()V"⟩ : MethodName)) rfl hown (mvT hZ (wd 90 rfl)) (mvT hZ (wd 91 rfl)) (mvT hZ (wd 92 rfl)) (by decide) (backOf (W := 1) (sbi l Z a0 hw [] b1 _ _ gC h1 n0 (by omega) cf_2 SC hgC A1 F1_value F1_coder F1_count (by first | omega | exact own_ne (by omega) | exact own_le (by omega) | exact own_lt (by omega))) hZ (wd 92 rfl) (wd 89 rfl) (by decide) (by decide)) (g := (mkF m 4 #[.val (.ref sx), .val (.ref sf)] [(.ref b1), (.ref b1)])) rfl (by rw [hml]; rfl) (Steps.refl _) (a := b1) (argsL := []) (rest := [(.ref b1)]) (lenOf pd___V rfl) rfl (by show 2 * 0 + _ ≤ _; exact Nat.le_of_eq rfl) (hb hby d19_4) (fun _ _ => ⟨rfl, e1, (by decide : 1 + 1 ≤ _), (by decide : 4 + 16 ≤ _)⟩)
  dsimp only [Pt.U, Pt.locs, Pt.cells, Pt.slots] at X3 l3 y3 z3 st3 hQ3
  subst l3 y3 z3
  obtain ⟨b3, k3, rfl, N3q, lo3, K3, A3⟩ := hQ3
  have lo3 := own_nle lo3
  have N3 := Fr.app N0 N3q
  have hi3 := own_nlt (A3.2.2.2.2.lt)
  have sz3 := K3.1
  have SK3 : ∀ x ∈ [b1], Safe Z own_EL _ h1 x := (allS (Safe.exa hZ.alike A1 (by decide) (by decide) : (Safe Z own_EL _ h1 b1)) all0)
  have HC3 := HC1.trans (CHr.keep K3 SK3 HC1.1)
  refine go_tr (B := (T3.setTop (mkF m 7 #[.val (.ref sx), .val (.ref sf)] [(.ref b1)]))) (st3) ?_
  refine go_of (B := (T3.setTop (mkF m 8 #[.val (.ref sx), .val (.ref sf)] [(.ref sf), (.ref b1)]))) (fun _ kk => XS.aloadN X3.here hx rfl (hb hby d19_7) rfl rfl kk) ?_
  have cf_4 := Sf.ext (own_kx (((Keep.refl h0 []).ext E1).trans K3 (allS (Or.inr (by first | omega | exact own_ne (by omega) | exact own_le (by omega) | exact own_lt (by omega))) all0)))
  have sf_5 := (Safe.keep K3 SK3 HC1.1 (Safe.new (own_le lo3)))
  have cf_6 := (cf_2.keep K3 (allS (by first | omega | exact own_ne (by omega) | exact own_le (by omega) | exact own_lt (by omega)) all0))
  obtain ⟨cq7, kq7, q7a, q7b, q7c⟩ := isOf hZ rfl A3.1
  obtain ⟨_, _, ⟨T7, L7, k7, n7⟩, -, X7, ⟨Lc7, hQ7, l7, y7, z7⟩, st7⟩ := X3.virtualBack hx (y := MN21) (z := MN21) hown (mvT hZ (wd 105 rfl)) (mvT hZ (wd 106 rfl)) (notFace_of_selects (args := #[]) (mvT hZ (wd 108 rfl))) (mvT hZ (wd 108 rfl)) (mvT hZ (wd 107 rfl)) (by decide) (backOf (W := 0) (aps_0_1 l Z a0 hw [] b1 sf b3 k3 f0 gC T3.heap n0 (by omega) cf_6 SC hgC ⟨A3.1, A3.2.1, A3.2.2.1, A3.2.2.2.1, A3.2.2.2.2⟩ cf_4 (by first | omega | exact own_ne (by omega) | exact own_le (by omega) | exact own_lt (by omega)) (by first | omega | exact own_ne (by omega) | exact own_le (by omega) | exact own_lt (by omega)) (by first | omega | exact own_ne (by omega) | exact own_le (by omega) | exact own_lt (by omega))) hZ (wd 109 rfl) (wd 89 rfl) (by decide) (by decide)) q7a q7c (g := (mkF m 8 #[.val (.ref sx), .val (.ref sf)] [(.ref sf), (.ref b1)])) rfl (by rw [hml]; rfl) (Steps.refl _) (argsL := [(.ref sf)]) (rest := []) (lenOf pd__Ljava_lang_String__Ljava_lang_StringBuilder_ rfl) rfl (by show 2 * 0 + _ ≤ _; exact Nat.le_of_eq rfl) (hb hby d19_8) (fun _ _ => ⟨rfl, rfl, (by decide : 2 + 0 ≤ _), (by decide : 20 + 0 ≤ _)⟩)
  dsimp only [Pt.U, Pt.locs, Pt.cells, Pt.slots] at X7 l7 y7 z7 st7 hQ7
  subst l7 y7 z7
  obtain ⟨rfl, N7q, K7, A7⟩ := hQ7
  have N7 := Fr.app N3 N7q
  have sz7 := K7.1
  have SK7 : ∀ x ∈ [b1, b3], Safe Z own_EL _ T3.heap x := (allS (Safe.exa hZ.alike A3.1 (by decide) (by decide) : (Safe Z own_EL _ T3.heap b1)) (allS sf_5 all0))
  have HC7 := HC3.trans (CHr.keep K7 SK7 HC3.1)
  refine go_tr (B := (T7.setTop (mkF m 11 #[.val (.ref sx), .val (.ref sf)] [(.ref b1)]))) (st7) ?_
  obtain ⟨b8, T8, h8, k8, t8, kt8, X8, e8, E8, hS, hk8, hZ, hown, A8, Fc8, Fv8, V8, lb8, lt8, HR8, -, ne8, st8⟩ := ldcCH X7 hx hZ hown (wd 143 rfl) (own_wS hw) rfl hS (by first | omega | exact own_ne (by omega) | exact own_le (by omega) | exact own_lt (by omega)) hEL (List.mem_of_getElem? (i := 1) rfl) HC7.1 (vs := [(.int (32 : Int32))]) (z := 1) ⟨(by decide), (by first | rfl | decide)⟩ (by decide) rfl (g := (mkF m 11 #[.val (.ref sx), .val (.ref sf)] [(.ref b1)])) rfl (hb hby d19_11) (n := 4) (by decide) (by decide) (by decide) (by decide)
  have lb8 := own_nlt lb8
  have lt8 := own_nlt lt8
  have sz8 := E8.1
  have HC8 := HC7.trans HR8
  have sf_9 := (HR8.safe (by first | omega | exact own_ne (by omega) | exact own_le (by omega) | exact own_lt (by omega)) (Safe.keep K7 SK7 HC3.1 sf_5))
  have nt8_b3 : @Ne Nat t8 b3 := fun q => (ne8 b3 sf_9).2 q.symm
  have nb8_b3 : @Ne Nat b8 b3 := fun q => (ne8 b3 sf_9).1 q.symm
  refine go_of (B := (T8.setTop (mkF m 13 #[.val (.ref sx), .val (.ref sf)] [(.ref b8), (.ref b1)]))) (st8) ?_
  have cf_10 := (A7.1.ext E8)
  have cf_11 := ((cf_6.keep K7 (allS (by first | omega | exact own_ne (by omega) | exact own_le (by omega) | exact own_lt (by omega)) (allS (by first | omega | exact own_ne (by omega) | exact own_le (by omega) | exact own_lt (by omega)) all0))).ext E8)
  have cf_12 := (A7.2.1.ext E8)
  have cf_13 := (A7.2.2.1.ext E8)
  have cf_14 := (A7.2.2.2.1.ext E8)
  have cf_15 := (A7.2.2.2.2.ext E8)
  obtain ⟨cq16, kq16, q16a, q16b, q16c⟩ := isOf hZ e8 cf_10
  obtain ⟨_, _, ⟨T16, L16, k16, n16⟩, -, X16, ⟨Lc16, hQ16, l16, y16, z16⟩, st16⟩ := X8.virtualBack hx (y := MN21) (z := MN21) hown (mvT hZ (wd 105 rfl)) (mvT hZ (wd 106 rfl)) (notFace_of_selects (args := #[]) (mvT hZ (wd 108 rfl))) (mvT hZ (wd 108 rfl)) (mvT hZ (wd 107 rfl)) (by decide) (backOf (W := 0) (aps_1_1 l Z a0 hw [] b1 b8 b3 k3 (32 : Int32) f0 gC h8 n0 (by omega) cf_11 SC hgC ⟨cf_10, cf_12, cf_13, cf_14, cf_15⟩ ⟨t8, kt8, A8, Fc8, Fv8, V8, (own_allc (by decide) (fun _ q => nomatch q))⟩ (by first | omega | exact own_ne (by omega) | exact own_le (by omega) | exact own_lt (by omega)) (by first | omega | exact own_ne (by omega) | exact own_le (by omega) | exact own_lt (by omega)) (by first | omega | exact own_ne (by omega) | exact own_le (by omega) | exact own_lt (by omega))) hZ (wd 109 rfl) (wd 89 rfl) (by decide) (by decide)) q16a q16c (g := (mkF m 13 #[.val (.ref sx), .val (.ref sf)] [(.ref b8), (.ref b1)])) rfl (by rw [hml]; rfl) (Steps.refl _) (argsL := [(.ref b8)]) (rest := []) (lenOf pd__Ljava_lang_String__Ljava_lang_StringBuilder_ rfl) rfl (by show 2 * 0 + _ ≤ _; exact Nat.le_of_eq rfl) (hb hby d19_13) (fun _ _ => ⟨rfl, e8, (by decide : 4 + 0 ≤ _), (by decide : 28 + 0 ≤ _)⟩)
  dsimp only [Pt.U, Pt.locs, Pt.cells, Pt.slots] at X16 l16 y16 z16 st16 hQ16
  subst l16 y16 z16
  obtain ⟨rfl, N16q, K16, A16⟩ := hQ16
  have N16 := Fr.app N7 N16q
  have sz16 := K16.1
  have SK16 : ∀ x ∈ [b1, b3], Safe Z own_EL _ h8 x := (allS (Safe.exa hZ.alike cf_10 (by decide) (by decide) : (Safe Z own_EL _ h8 b1)) (allS sf_9 all0))
  have HC16 := HC8.trans (CHr.keep K16 SK16 HC8.1)
  refine go_tr (B := (T16.setTop (mkF m 16 #[.val (.ref sx), .val (.ref sf)] [(.ref b1)]))) (st16) ?_
  refine go_of (B := (T16.setTop (mkF m 17 #[.val (.ref sx), .val (.ref sf)] [(.ref sx), (.ref b1)]))) (fun _ kk => XS.aloadN X16.here hx rfl (hb hby d19_16) rfl rfl kk) ?_
  have cf_17 := S.ext (own_kx ((((((Keep.refl h0 []).ext E1).trans K3 (allS (Or.inr (by first | omega | exact own_ne (by omega) | exact own_le (by omega) | exact own_lt (by omega))) all0)).trans K7 (allS (Or.inr (by first | omega | exact own_ne (by omega) | exact own_le (by omega) | exact own_lt (by omega))) (allS (Or.inr (by first | omega | exact own_ne (by omega) | exact own_le (by omega) | exact own_lt (by omega))) all0))).ext E8).trans K16 (allS (Or.inr (by first | omega | exact own_ne (by omega) | exact own_le (by omega) | exact own_lt (by omega))) (allS (Or.inr (by first | omega | exact own_ne (by omega) | exact own_le (by omega) | exact own_lt (by omega))) all0))))
  have sf_18 := (Safe.keep K16 SK16 HC8.1 sf_9)
  have cf_19 := (cf_11.keep K16 (allS (by first | omega | exact own_ne (by omega) | exact own_le (by omega) | exact own_lt (by omega)) (allS (by first | omega | exact own_ne (by omega) | exact own_le (by omega) | exact own_lt (by omega)) all0)))
  obtain ⟨cq20, kq20, q20a, q20b, q20c⟩ := isOf hZ rfl A16.1
  obtain ⟨_, _, ⟨T20, L20, k20, n20⟩, -, X20, ⟨Lc20, hQ20, l20, y20, z20⟩, st20⟩ := X16.virtualBack hx (y := MN21) (z := MN21) hown (mvT hZ (wd 105 rfl)) (mvT hZ (wd 106 rfl)) (notFace_of_selects (args := #[]) (mvT hZ (wd 108 rfl))) (mvT hZ (wd 108 rfl)) (mvT hZ (wd 107 rfl)) (by decide) (backOf (W := 0) (apsN l Z a0 hw [] b1 sx b3 k3 nn f0 (32 : Int32) gC T16.heap n0 (by omega) cf_19 SC hgC ⟨A16.1, A16.2.1, A16.2.2.1, A16.2.2.2.1, A16.2.2.2.2⟩ cf_17 hn (by first | omega | exact own_ne (by omega) | exact own_le (by omega) | exact own_lt (by omega)) (by first | omega | exact own_ne (by omega) | exact own_le (by omega) | exact own_lt (by omega)) (by first | omega | exact own_ne (by omega) | exact own_le (by omega) | exact own_lt (by omega))) hZ (wd 109 rfl) (wd 89 rfl) (by decide) (by decide)) q20a q20c (g := (mkF m 17 #[.val (.ref sx), .val (.ref sf)] [(.ref sx), (.ref b1)])) rfl (by rw [hml]; rfl) (Steps.refl _) (argsL := [(.ref sx)]) (rest := []) (lenOf pd__Ljava_lang_String__Ljava_lang_StringBuilder_ rfl) rfl (by show 2 * 0 + _ ≤ _; exact Nat.le_of_eq rfl) (hb hby d19_17) (fun _ _ => ⟨rfl, rfl, (by decide : 4 + 0 ≤ _), (by decide : 28 + 0 ≤ _)⟩)
  dsimp only [Pt.U, Pt.locs, Pt.cells, Pt.slots] at X20 l20 y20 z20 st20 hQ20
  subst l20 y20 z20
  obtain ⟨rfl, N20q, K20, vs20, A20⟩ := hQ20
  have N20 := Fr.app N16 N20q
  have sz20 := K20.1
  have SK20 : ∀ x ∈ [b1, b3], Safe Z own_EL _ T16.heap x := (allS (Safe.exa hZ.alike A16.1 (by decide) (by decide) : (Safe Z own_EL _ T16.heap b1)) (allS sf_18 all0))
  have HC20 := HC16.trans (CHr.keep K20 SK20 HC16.1)
  refine go_tr (B := (T20.setTop (mkF m 20 #[.val (.ref sx), .val (.ref sf)] [(.ref b1)]))) (st20) ?_
  have cf_21 := (cf_19.keep K20 (allS (by first | omega | exact own_ne (by omega) | exact own_le (by omega) | exact own_lt (by omega)) (allS (by first | omega | exact own_ne (by omega) | exact own_le (by omega) | exact own_lt (by omega)) all0)))
  obtain ⟨cq22, kq22, q22a, q22b, q22c⟩ := isOf hZ rfl A20.1
  obtain ⟨_, _, ⟨T22, L22, k22, n22⟩, -, X22, ⟨Lc22, hQ22, l22, y22, z22⟩, st22⟩ := X20.virtualBack hx (y := MN22) (z := MN22) hown (mvT hZ (wd 144 rfl)) (mvT hZ (wd 145 rfl)) (notFace_of_selects (args := #[]) (mvT hZ (wd 147 rfl))) (mvT hZ (wd 147 rfl)) (mvT hZ (wd 146 rfl)) (by decide) (backOf (W := 0) (tosN l Z a0 hw [] b1 b3 k3 ((2 : Int32) + nn) f0 vs20 gC T20.heap n0 (by omega) cf_21 SC hgC ⟨A20.1, A20.2.1, A20.2.2.1, A20.2.2.2.1, A20.2.2.2.2⟩ hn.m) hZ (wd 148 rfl) (wd 89 rfl) (by decide) (by decide)) q22a q22c (g := (mkF m 20 #[.val (.ref sx), .val (.ref sf)] [(.ref b1)])) rfl (by rw [hml]; rfl) (Steps.refl _) (argsL := []) (rest := []) (lenOf pd___Ljava_lang_String_ rfl) rfl (by show 2 * 0 + _ ≤ _; exact Nat.le_of_eq rfl) (hb hby d19_20) (fun _ _ => ⟨rfl, rfl, (by decide : 4 + 2 ≤ _), (by decide : 28 + 10 ≤ _)⟩)
  dsimp only [Pt.U, Pt.locs, Pt.cells, Pt.slots] at X22 l22 y22 z22 st22 hQ22
  subst l22 y22 z22
  obtain ⟨b22, rfl, N22q, lo22, K22, S22⟩ := hQ22
  have lo22 := own_nle lo22
  have N22 := Fr.app N20 N22q
  have hi22 := own_nlt (S22.exa.lt)
  have sz22 := K22.1
  have SK22 : ∀ x ∈ ([] : List Addr), Safe Z own_EL T8.vm T20.heap x := all0
  have HC22 := HC20.trans (CHr.keep K22 SK22 HC20.1)
  refine go_tr (B := (T22.setTop (mkF m 23 #[.val (.ref sx), .val (.ref sf)] [(.ref b22)]))) (st22) ?_
  refine go_endH X22 hZ hEL HC22 hh0 rfl hS (by first | omega | exact own_ne (by omega) | exact own_le (by omega) | exact own_lt (by omega)) (v := some (.ref b22)) (fun h => by rw [Bd.returns] at h; cases h) Bd.notSynchronized (by decide) (by decide) (Q := (Q_emN Z sx sf nn f0 gC h0 n0)) ?_ (fun fs hr => own_retA X22 hx Bd.returns rfl rfl (hb hby d19_23) hr)
  unfold Q_emN
  exact ⟨b22, rfl, N22, by omega, ((((((((Keep.refl h0 []).ext E1).trans K3 (allS (Or.inr (by first | omega | exact own_ne (by omega) | exact own_le (by omega) | exact own_lt (by omega))) all0)).trans K7 (allS (Or.inr (by first | omega | exact own_ne (by omega) | exact own_le (by omega) | exact own_lt (by omega))) (allS (Or.inr (by first | omega | exact own_ne (by omega) | exact own_le (by omega) | exact own_lt (by omega))) all0))).ext E8).trans K16 (allS (Or.inr (by first | omega | exact own_ne (by omega) | exact own_le (by omega) | exact own_lt (by omega))) (allS (Or.inr (by first | omega | exact own_ne (by omega) | exact own_le (by omega) | exact own_lt (by omega))) all0))).trans K20 (allS (Or.inr (by first | omega | exact own_ne (by omega) | exact own_le (by omega) | exact own_lt (by omega))) (allS (Or.inr (by first | omega | exact own_ne (by omega) | exact own_le (by omega) | exact own_lt (by omega))) all0))).trans K22 all0), S22⟩
def Q_iocH (Z : State) (t : Addr) (mm : Int32) (w0 : Int32) (k : ClassId) (vs : List Value) (h0 : Heap) (n0 : Nat) (v : Option Value) (h : Heap) (L : List Loc) : Prop := ∃ r : Int32, v = some (.int r) ∧ ¬ r < 0 ∧ Fr n0 L ∧ h = h0
theorem ef_iocH (m : MethodId) (t : Addr) (mm : Int32)  : entryFrame m #[(.ref t), (.int (32 : Int32)), (.int (0 : Int32)), (.int mm)] 6 = mkF m 0 #[.val (.ref t), .val (.int (32 : Int32)), .val (.int (0 : Int32)), .val (.int mm), .unset, .unset] [] := by first | (simp [entryFrame, mkF, argsToLocals, Value.category]; done) | rfl
theorem iocH (l : Launch) (Z : State) (a0 : Array Value) (hw : TW a0 Z) (ws : List Jvm.Cond) (t : Addr) (mm : Int32) (w0 : Int32) (k : ClassId) (vs : List Value) (h0 : Heap) (n0 : Nat) (Z0 : n0 ≤ h0.size) (hm : M5 mm) (V : Arv Z h0 t k .byte mm ((.int w0) :: (.int (32 : Int32)) :: vs) (.int 0)) :
    own_MF l Z MN25 jdk_43_method_23_code 6 (some .int) ws (own_R 0 0 0 0) #[(.ref t), (.int (32 : Int32)), (.int (0 : Int32)), (.int mm)] h0 (Q_iocH Z t mm w0 k vs h0 n0) := by
  have wd := @own_wd _ _ hw
  refine MetFree.of_bodySF (plainFor_of_name pn_java_lang_StringLatin1) hisR ?_
  intro p e s m args below meth c s₁ Bd hml0 hP hK
  obtain ⟨rfl, hZ, hh⟩ := hP
  have hx := Bd.exec
  have hby := Bd.bytes
  have hml : c.maxLocals = 6 := hml0
  have hown : s.vm.findClass "java/lang/StringLatin1" = some m.cls := findClass_of_methodNamed Bd.named
  have hnm := (name_of_methodNamed Bd.named Bd.method).1
  have X0 : Stand p l e (own_R 0 0 0 0) s m #[(.ref t), (.int (32 : Int32)), (.int (0 : Int32)), (.int mm)] below meth c s₁ [] 0 0 := Stand.of_body Bd
  have e0 : s₁.heap = h0 := by rw [← hh, Bd.state]; rfl
  have N0 := Fr.nil n0
  refine go_of (A := s₁.setTop (entryFrame m #[(.ref t), (.int (32 : Int32)), (.int (0 : Int32)), (.int mm)] 6)) (B := s₁.setTop (mkF m 0 #[.val (.ref t), .val (.int (32 : Int32)), .val (.int (0 : Int32)), .val (.int mm), .unset, .unset] [])) (fun _ kk' => castTop (ef_iocH m t mm) kk') ?_
  refine go_of (B := (s₁.setTop (mkF m 9 #[.val (.ref t), .val (.int (32 : Int32)), .val (.int (0 : Int32)), .val (.int mm), .val (.int (32 : Int32)), .val (.int (0 : Int32))] [(.int (0 : Int32))]))) (fun _ kk => XS.iloadN X0.here hx rfl (hb hby d38_0) rfl (XS.i2b X0.here hx rfl (hb hby d38_1) rfl (XS.istore X0.here hx rfl (hb hby d38_2) rfl rfl (XS.iloadN X0.here hx rfl (hb hby d38_4) rfl (XS.istore X0.here hx rfl (hb hby d38_5) rfl rfl (XS.iload X0.here hx rfl (hb hby d38_7) rfl kk)))))) ?_
  refine go_of (B := (s₁.setTop (mkF m 16 #[.val (.ref t), .val (.int (32 : Int32)), .val (.int (0 : Int32)), .val (.int mm), .val (.int (32 : Int32)), .val (.int (0 : Int32))] [(.int (0 : Int32)), (.ref t)]))) (fun _ kk => XS.iloadN X0.here hx rfl (hb hby d38_9) rfl (XS.icmpNo X0.here hx rfl (hb hby d38_10) rfl (tlt hm.p0).2.1 (XS.aloadN X0.here hx rfl (hb hby d38_13) rfl rfl (XS.iload X0.here hx rfl (hb hby d38_14) rfl kk)))) ?_
  obtain ⟨cl1, Ar1, q1, Sz1, Nn1, Hh1, G1⟩ := id (V)
  refine go_of (B := (s₁.setTop (mkF m 19 #[.val (.ref t), .val (.int (32 : Int32)), .val (.int (0 : Int32)), .val (.int mm), .val (.int (32 : Int32)), .val (.int (0 : Int32))] [(.int (32 : Int32)), (.int w0)]))) (fun _ kk => X0.baloadBytes hx (j := (0 : Int32)) (v := (.int w0)) (by rw [e0]; exact Ar1.1) (State.isArrayOf_alike hZ.alike Ar1.2.1) Ar1.2.2 (inb_of Sz1 ⟨by decide, hm.p0⟩) (Hh1.at (inb_of Sz1 ⟨by decide, hm.p0⟩) rfl) (g := (mkF m 16 #[.val (.ref t), .val (.int (32 : Int32)), .val (.int (0 : Int32)), .val (.int mm), .val (.int (32 : Int32)), .val (.int (0 : Int32))] [(.int (0 : Int32)), (.ref t)])) rfl rfl (hb hby d38_16) _ (XS.iload X0.here hx rfl (hb hby d38_17) rfl kk)) ?_
  by_cases hcc2 : w0 = (32 : Int32)
  · refine go_of (B := (s₁.setTop (mkF m 24 #[.val (.ref t), .val (.int (32 : Int32)), .val (.int (0 : Int32)), .val (.int mm), .val (.int (32 : Int32)), .val (.int (0 : Int32))] [(.int (0 : Int32))]))) (fun _ kk => XS.icmpNo X0.here hx rfl (hb hby d38_19) rfl (teq hcc2).2 (XS.iload X0.here hx rfl (hb hby d38_22) rfl kk)) ?_
    refine go_end X0 (v := some (.int (0 : Int32))) (fun h => by rw [Bd.returns] at h; cases h) Bd.notSynchronized (by decide) (by decide) (Q := (Q_iocH Z t mm w0 k vs h0 n0)) ?_ (fun fs hr => own_retI X0 hx Bd.returns (hb hby d38_24) hr)
    unfold Q_iocH
    try rw [e0]
    exact ⟨_, rfl, (by decide), N0, rfl⟩
  · refine go_of (B := (s₁.setTop (mkF m 13 #[.val (.ref t), .val (.int (32 : Int32)), .val (.int (0 : Int32)), .val (.int mm), .val (.int (32 : Int32)), .val (.int (1 : Int32))] []))) (fun _ kk => XS.icmpYes X0.here hx rfl (pc0 := 19) (pc' := 25) rfl (hb hby d38_19) rfl (feq hcc2).2 (by decide) (by decide) (XS.iinc X0.here hx rfl (hb hby d38_25) rfl rfl (XS.goto X0.here hx rfl (pc0 := 28) (pc' := 7) rfl (hb hby d38_28) (by decide) (by decide) (XS.iload X0.here hx rfl (hb hby d38_7) rfl (XS.iloadN X0.here hx rfl (hb hby d38_9) rfl (XS.icmpNo X0.here hx rfl (hb hby d38_10) rfl (tlt hm.p1).2.1 kk)))))) ?_
    refine go_of (B := (s₁.setTop (mkF m 16 #[.val (.ref t), .val (.int (32 : Int32)), .val (.int (0 : Int32)), .val (.int mm), .val (.int (32 : Int32)), .val (.int (1 : Int32))] [(.int (1 : Int32)), (.ref t)]))) (fun _ kk => XS.aloadN X0.here hx rfl (hb hby d38_13) rfl rfl (XS.iload X0.here hx rfl (hb hby d38_14) rfl kk)) ?_
    obtain ⟨cl3, Ar3, q3, Sz3, Nn3, Hh3, G3⟩ := id (V)
    refine go_of (B := (s₁.setTop (mkF m 24 #[.val (.ref t), .val (.int (32 : Int32)), .val (.int (0 : Int32)), .val (.int mm), .val (.int (32 : Int32)), .val (.int (1 : Int32))] [(.int (1 : Int32))]))) (fun _ kk => X0.baloadBytes hx (j := (1 : Int32)) (v := (.int (32 : Int32))) (by rw [e0]; exact Ar3.1) (State.isArrayOf_alike hZ.alike Ar3.2.1) Ar3.2.2 (inb_of Sz3 ⟨by decide, hm.p1⟩) (Hh3.at (inb_of Sz3 ⟨by decide, hm.p1⟩) rfl) (g := (mkF m 16 #[.val (.ref t), .val (.int (32 : Int32)), .val (.int (0 : Int32)), .val (.int mm), .val (.int (32 : Int32)), .val (.int (1 : Int32))] [(.int (1 : Int32)), (.ref t)])) rfl rfl (hb hby d38_16) _ (XS.iload X0.here hx rfl (hb hby d38_17) rfl (XS.icmpNo X0.here hx rfl (hb hby d38_19) rfl (teq (by decide : (32 : Int32) = (32 : Int32))).2 (XS.iload X0.here hx rfl (hb hby d38_22) rfl kk)))) ?_
    refine go_end X0 (v := some (.int (1 : Int32))) (fun h => by rw [Bd.returns] at h; cases h) Bd.notSynchronized (by decide) (by decide) (Q := (Q_iocH Z t mm w0 k vs h0 n0)) ?_ (fun fs hr => own_retI X0 hx Bd.returns (hb hby d38_24) hr)
    unfold Q_iocH
    try rw [e0]
    exact ⟨_, rfl, (by decide), N0, rfl⟩
def Q_lioH (Z : State) (t : Addr) (mm : Int32) (w0 : Int32) (k : ClassId) (vs : List Value) (h0 : Heap) (n0 : Nat) (v : Option Value) (h : Heap) (L : List Loc) : Prop := ∃ r : Int32, v = some (.int r) ∧ ¬ r < 0 ∧ Fr n0 L ∧ h = h0
theorem ef_lioH (m : MethodId) (t : Addr) (mm : Int32)  : entryFrame m #[(.ref t), (.int (32 : Int32)), (.int (0 : Int32)), (.int mm)] 4 = mkF m 0 #[.val (.ref t), .val (.int (32 : Int32)), .val (.int (0 : Int32)), .val (.int mm)] [] := by first | (simp [entryFrame, mkF, argsToLocals, Value.category]; done) | rfl
theorem lioH (l : Launch) (Z : State) (a0 : Array Value) (hw : TW a0 Z) (ws : List Jvm.Cond) (t : Addr) (mm : Int32) (w0 : Int32) (k : ClassId) (vs : List Value) (h0 : Heap) (n0 : Nat) (Z0 : n0 ≤ h0.size) (hm : M5 mm) (V : Arv Z h0 t k .byte mm ((.int w0) :: (.int (32 : Int32)) :: vs) (.int 0)) :
    own_MF l Z MN24 jdk_43_method_22_code 4 (some .int) ws (own_R 1 0 0 17) #[(.ref t), (.int (32 : Int32)), (.int (0 : Int32)), (.int mm)] h0 (Q_lioH Z t mm w0 k vs h0 n0) := by
  have wd := @own_wd _ _ hw
  refine MetFree.of_bodySF (plainFor_of_name pn_java_lang_StringLatin1) hisR ?_
  intro p e s m args below meth c s₁ Bd hml0 hP hK
  obtain ⟨rfl, hZ, hh⟩ := hP
  have hx := Bd.exec
  have hby := Bd.bytes
  have hml : c.maxLocals = 4 := hml0
  have hown : s.vm.findClass "java/lang/StringLatin1" = some m.cls := findClass_of_methodNamed Bd.named
  have hnm := (name_of_methodNamed Bd.named Bd.method).1
  have X0 : Stand p l e (own_R 1 0 0 17) s m #[(.ref t), (.int (32 : Int32)), (.int (0 : Int32)), (.int mm)] below meth c s₁ [] 0 0 := Stand.of_body Bd
  have e0 : s₁.heap = h0 := by rw [← hh, Bd.state]; rfl
  have N0 := Fr.nil n0
  refine go_of (A := s₁.setTop (entryFrame m #[(.ref t), (.int (32 : Int32)), (.int (0 : Int32)), (.int mm)] 4)) (B := s₁.setTop (mkF m 0 #[.val (.ref t), .val (.int (32 : Int32)), .val (.int (0 : Int32)), .val (.int mm)] [])) (fun _ kk' => castTop (ef_lioH m t mm) kk') ?_
  refine go_of (B := (s₁.setTop (mkF m 1 #[.val (.ref t), .val (.int (32 : Int32)), .val (.int (0 : Int32)), .val (.int mm)] [(.int (32 : Int32))]))) (fun _ kk => XS.iloadN X0.here hx rfl (hb hby d11_0) rfl kk) ?_
  obtain ⟨_, _, ⟨T1, L1, k1, n1⟩, -, X1, ⟨Lc1, hQ1, l1, y1, z1⟩, st1⟩ := Jvm.LawKit.callS X0 hx (y := MN23) hown (mvT hZ (wd 61 rfl)) (mvT hZ (wd 62 rfl)) (mvT hZ (wd 59 rfl)) (mvT hZ (wd 63 rfl)) (by decide) (backOf (W := 0) (v_cani32 l Z a0 hw [] h0 n0 (by omega)) hZ (wd 63 rfl) (wd 59 rfl) (by decide) (by decide)) (g := (mkF m 1 #[.val (.ref t), .val (.int (32 : Int32)), .val (.int (0 : Int32)), .val (.int mm)] [(.int (32 : Int32))])) rfl (by rw [hml]; rfl) (argsL := [(.int (32 : Int32))]) (rest := []) (lenOf pd__I_Z rfl) rfl (by show 2 * 0 + _ ≤ _; exact Nat.le_of_eq rfl) (hb hby d11_1) (fun _ _ => ⟨rfl, e0, (by decide : 0 + 0 ≤ _), (by decide : 0 + 0 ≤ _)⟩)
  dsimp only [Pt.U, Pt.locs, Pt.cells, Pt.slots] at X1 l1 y1 z1 st1 hQ1
  subst l1 y1 z1
  obtain ⟨rfl, N1q, e1⟩ := hQ1
  have N1 := Fr.app N0 N1q
  refine go_of (B := (T1.setTop (mkF m 4 #[.val (.ref t), .val (.int (32 : Int32)), .val (.int (0 : Int32)), .val (.int mm)] [(.int (1 : Int32))]))) (st1) ?_
  refine go_of (B := (T1.setTop (mkF m 11 #[.val (.ref t), .val (.int (32 : Int32)), .val (.int (0 : Int32)), .val (.int mm)] [(.int (0 : Int32)), (.int (0 : Int32))]))) (fun _ kk => XS.ifYes X1.here hx rfl (pc0 := 4) (pc' := 9) rfl (hb hby d11_4) rfl ((if0 _ _).trans (feq (by decide : ¬ ((1 : Int32) = (0 : Int32)))).2) (by decide) (by decide) (XS.iloadN X1.here hx rfl (hb hby d11_9) rfl (XS.iconst X1.here hx rfl (hb hby d11_10) kk))) ?_
  obtain ⟨_, _, ⟨T2, L2, k2, n2⟩, -, X2, ⟨Lc2, hQ2, l2, y2, z2⟩, st2⟩ := Jvm.LawKit.callS X1 hx (y := MN10) hown (mvT hZ (wd 64 rfl)) (mvT hZ (wd 65 rfl)) (mvT hZ (wd 66 rfl)) (mvT hZ (wd 67 rfl)) (by decide) (backOf (W := 0) (v_max l Z a0 hw [] (0 : Int32) (0 : Int32) (0 : Int32) h0 n0 (by omega) (by decide)) hZ (wd 67 rfl) (wd 66 rfl) (by decide) (by decide)) (g := (mkF m 11 #[.val (.ref t), .val (.int (32 : Int32)), .val (.int (0 : Int32)), .val (.int mm)] [(.int (0 : Int32)), (.int (0 : Int32))])) rfl (by rw [hml]; rfl) (argsL := [(.int (0 : Int32)), (.int (0 : Int32))]) (rest := []) (lenOf pd__II_I rfl) rfl (by show 2 * 0 + _ ≤ _; exact Nat.le_of_eq rfl) (hb hby d11_11) (fun _ _ => ⟨rfl, e1, (by decide : 0 + 0 ≤ _), (by decide : 0 + 0 ≤ _)⟩)
  dsimp only [Pt.U, Pt.locs, Pt.cells, Pt.slots] at X2 l2 y2 z2 st2 hQ2
  subst l2 y2 z2
  obtain ⟨rfl, N2q, e2⟩ := hQ2
  have N2 := Fr.app N1 N2q
  refine go_of (B := (T2.setTop (mkF m 14 #[.val (.ref t), .val (.int (32 : Int32)), .val (.int (0 : Int32)), .val (.int mm)] [(.int (0 : Int32))]))) (st2) ?_
  refine go_of (B := (T2.setTop (mkF m 17 #[.val (.ref t), .val (.int (32 : Int32)), .val (.int (0 : Int32)), .val (.int mm)] [(.ref t), (.int mm)]))) (fun _ kk => XS.istoreN X2.here hx rfl (hb hby d11_14) rfl rfl (XS.iloadN X2.here hx rfl (hb hby d11_15) rfl (XS.aloadN X2.here hx rfl (hb hby d11_16) rfl rfl kk))) ?_
  obtain ⟨cl3, Ar3, q3, Sz3, Nn3, Hh3, G3⟩ := id (V)
  have ln3 := len_of Sz3 Nn3
  refine go_of (B := (T2.setTop (mkF m 18 #[.val (.ref t), .val (.int (32 : Int32)), .val (.int (0 : Int32)), .val (.int mm)] [(.int mm), (.int mm)]))) (fun _ kk => X2.arraylength hx (by rw [e2]; exact Ar3.1) (State.isArrayOf_alike hZ.alike Ar3.2.1) (g := (mkF m 17 #[.val (.ref t), .val (.int (32 : Int32)), .val (.int (0 : Int32)), .val (.int mm)] [(.ref t), (.int mm)])) rfl rfl (hb hby d11_17) _ (by rw [ln3]; exact kk)) ?_
  obtain ⟨_, _, ⟨T4, L4, k4, n4⟩, -, X4, ⟨Lc4, hQ4, l4, y4, z4⟩, st4⟩ := Jvm.LawKit.callS X2 hx (y := MN11) hown (mvT hZ (wd 68 rfl)) (mvT hZ (wd 69 rfl)) (mvT hZ (wd 66 rfl)) (mvT hZ (wd 70 rfl)) (by decide) (backOf (W := 0) (v_min l Z a0 hw [] mm mm mm h0 n0 (by omega) (own_minmm _)) hZ (wd 70 rfl) (wd 66 rfl) (by decide) (by decide)) (g := (mkF m 18 #[.val (.ref t), .val (.int (32 : Int32)), .val (.int (0 : Int32)), .val (.int mm)] [(.int mm), (.int mm)])) rfl (by rw [hml]; rfl) (argsL := [(.int mm), (.int mm)]) (rest := []) (lenOf pd__II_I rfl) rfl (by show 2 * 0 + _ ≤ _; exact Nat.le_of_eq rfl) (hb hby d11_18) (fun _ _ => ⟨rfl, e2, (by decide : 0 + 0 ≤ _), (by decide : 0 + 0 ≤ _)⟩)
  dsimp only [Pt.U, Pt.locs, Pt.cells, Pt.slots] at X4 l4 y4 z4 st4 hQ4
  subst l4 y4 z4
  obtain ⟨rfl, N4q, e4⟩ := hQ4
  have N4 := Fr.app N2 N4q
  refine go_of (B := (T4.setTop (mkF m 21 #[.val (.ref t), .val (.int (32 : Int32)), .val (.int (0 : Int32)), .val (.int mm)] [(.int mm)]))) (st4) ?_
  refine go_of (B := (T4.setTop (mkF m 31 #[.val (.ref t), .val (.int (32 : Int32)), .val (.int (0 : Int32)), .val (.int mm)] [(.int (32 : Int32)), (.ref t)]))) (fun _ kk => XS.istoreN X4.here hx rfl (hb hby d11_21) rfl rfl (XS.iloadN X4.here hx rfl (hb hby d11_22) rfl (XS.iloadN X4.here hx rfl (hb hby d11_23) rfl (XS.icmpYes X4.here hx rfl (pc0 := 24) (pc' := 29) rfl (hb hby d11_24) rfl (tlt hm.p0).1 (by decide) (by decide) (XS.aloadN X4.here hx rfl (hb hby d11_29) rfl rfl (XS.iloadN X4.here hx rfl (hb hby d11_30) rfl kk)))))) ?_
  refine go_of (B := (T4.setTop (mkF m 33 #[.val (.ref t), .val (.int (32 : Int32)), .val (.int (0 : Int32)), .val (.int mm)] [(.int mm), (.int (0 : Int32)), (.int (32 : Int32)), (.ref t)]))) (fun _ kk => XS.iloadN X4.here hx rfl (hb hby d11_31) rfl (XS.iloadN X4.here hx rfl (hb hby d11_32) rfl kk)) ?_
  obtain ⟨_, _, ⟨T5, L5, k5, n5⟩, -, X5, ⟨Lc5, hQ5, l5, y5, z5⟩, st5⟩ := Jvm.LawKit.callS X4 hx (y := MN25) hown (mvT hZ (wd 186 rfl)) (mvT hZ (wd 187 rfl)) (mvT hZ (wd 59 rfl)) (mvT hZ (wd 188 rfl)) (by decide) (backOf (W := 0) (iocH l Z a0 hw [] t mm w0 k vs h0 n0 (by omega) hm V) hZ (wd 188 rfl) (wd 59 rfl) (by decide) (by decide)) (g := (mkF m 33 #[.val (.ref t), .val (.int (32 : Int32)), .val (.int (0 : Int32)), .val (.int mm)] [(.int mm), (.int (0 : Int32)), (.int (32 : Int32)), (.ref t)])) rfl (by rw [hml]; rfl) (argsL := [(.ref t), (.int (32 : Int32)), (.int (0 : Int32)), (.int mm)]) (rest := []) (lenOf pd___BIII_I rfl) rfl (by show 2 * 0 + _ ≤ _; exact Nat.le_of_eq rfl) (hb hby d11_33) (fun _ _ => ⟨rfl, e4, (by decide : 0 + 0 ≤ _), (by decide : 0 + 0 ≤ _)⟩)
  dsimp only [Pt.U, Pt.locs, Pt.cells, Pt.slots] at X5 l5 y5 z5 st5 hQ5
  subst l5 y5 z5
  obtain ⟨r5, rfl, hr5, N5q, e5⟩ := hQ5
  have N5 := Fr.app N4 N5q
  refine go_of (B := (T5.setTop (mkF m 36 #[.val (.ref t), .val (.int (32 : Int32)), .val (.int (0 : Int32)), .val (.int mm)] [(.int r5)]))) (st5) ?_
  refine go_end X5 (v := some (.int r5)) (fun h => by rw [Bd.returns] at h; cases h) Bd.notSynchronized (by decide) (by decide) (Q := (Q_lioH Z t mm w0 k vs h0 n0)) ?_ (fun fs hr => own_retI X5 hx Bd.returns (hb hby d11_36) hr)
  unfold Q_lioH
  try rw [e5]
  exact ⟨_, rfl, hr5, N5, rfl⟩
def Q_si2H (Z : State) (a : Addr) (mm : Int32) (f0 : Int32) (gC : Int32) (h0 : Heap) (n0 : Nat) (v : Option Value) (h : Heap) (L : List Loc) : Prop := ∃ r : Int32, v = some (.int r) ∧ ¬ r < 0 ∧ Fr n0 L ∧ h = h0
theorem ef_si2H (m : MethodId) (a : Addr)  : entryFrame m #[(.ref a), (.int (32 : Int32)), (.int (0 : Int32))] 3 = mkF m 0 #[.val (.ref a), .val (.int (32 : Int32)), .val (.int (0 : Int32))] [] := by first | (simp [entryFrame, mkF, argsToLocals, Value.category]; done) | rfl
theorem si2H (l : Launch) (Z : State) (a0 : Array Value) (hw : TW a0 Z) (ws : List Jvm.Cond) (a : Addr) (mm : Int32) (f0 : Int32) (gC : Int32) (h0 : Heap) (n0 : Nat) (Z0 : n0 ≤ h0.size) (O : Old Z n0 h0) (SC : Sta Z Z.heap "java/lang/String" "COMPACT_STRINGS" "Z" (.int gC)) (hgC : ¬ gC = (0 : Int32)) (S : StrH Z h0 a mm f0) (hm : M5 mm) :
    own_MF l Z MN17 jdk_42_method_80_code 3 (some .int) ws (own_R 2 0 0 32) #[(.ref a), (.int (32 : Int32)), (.int (0 : Int32))] h0 (Q_si2H Z a mm f0 gC h0 n0) := by
  have wd := @own_wd _ _ hw
  refine MetFree.of_bodySF (plainFor_of_name pn_java_lang_String) hisR ?_
  intro p e s m args below meth c s₁ Bd hml0 hP hK
  obtain ⟨rfl, hZ, hh⟩ := hP
  have hx := Bd.exec
  have hby := Bd.bytes
  have hml : c.maxLocals = 3 := hml0
  have hown : s.vm.findClass "java/lang/String" = some m.cls := findClass_of_methodNamed Bd.named
  have hnm := (name_of_methodNamed Bd.named Bd.method).1
  have X0 : Stand p l e (own_R 2 0 0 32) s m #[(.ref a), (.int (32 : Int32)), (.int (0 : Int32))] below meth c s₁ [] 0 0 := Stand.of_body Bd
  have e0 : s₁.heap = h0 := by rw [← hh, Bd.state]; rfl
  have N0 := Fr.nil n0
  obtain ⟨t, k, vs, Ea, Fc, Fv, Va⟩ := id S
  have lta := own_nlt (Ea.lt)
  have ltt := own_nlt (Va.lt)
  refine go_of (A := s₁.setTop (entryFrame m #[(.ref a), (.int (32 : Int32)), (.int (0 : Int32))] 3)) (B := s₁.setTop (mkF m 0 #[.val (.ref a), .val (.int (32 : Int32)), .val (.int (0 : Int32))] [])) (fun _ kk' => castTop (ef_si2H m a) kk') ?_
  refine go_of (B := (s₁.setTop (mkF m 1 #[.val (.ref a), .val (.int (32 : Int32)), .val (.int (0 : Int32))] [(.ref a)]))) (fun _ kk => XS.aloadN X0.here hx rfl (hb hby d7_0) rfl rfl kk) ?_
  obtain ⟨cq1, kq1, q1a, q1b, q1c⟩ := isOf hZ e0 Ea
  obtain ⟨_, _, ⟨T1, L1, k1, n1⟩, -, X1, ⟨Lc1, hQ1, l1, y1, z1⟩, st1⟩ := X0.virtualBack hx (y := MN18) (z := MN18) hown (mvT hZ (wd 41 rfl)) (mvT hZ (wd 42 rfl)) (notFace_of_selects (args := #[]) (mvT hZ (wd 44 rfl))) (mvT hZ (wd 44 rfl)) (mvT hZ (wd 43 rfl)) (by decide) (backOf (W := 0) (str_latin l Z a0 hw [] a gC h0 n0 (by omega) O SC hgC Fc) hZ (wd 45 rfl) (wd 7 rfl) (by decide) (by decide)) q1a q1c (g := (mkF m 1 #[.val (.ref a), .val (.int (32 : Int32)), .val (.int (0 : Int32))] [(.ref a)])) rfl (by rw [hml]; rfl) (Steps.refl _) (argsL := []) (rest := []) (lenOf pd___Z rfl) rfl (by show 2 * 0 + _ ≤ _; exact Nat.le_of_eq rfl) (hb hby d7_1) (fun _ _ => ⟨rfl, e0, (by decide : 0 + 0 ≤ _), (by decide : 0 + 0 ≤ _)⟩)
  dsimp only [Pt.U, Pt.locs, Pt.cells, Pt.slots] at X1 l1 y1 z1 st1 hQ1
  subst l1 y1 z1
  obtain ⟨rfl, N1q, e1⟩ := hQ1
  have N1 := Fr.app N0 N1q
  refine go_tr (B := (T1.setTop (mkF m 4 #[.val (.ref a), .val (.int (32 : Int32)), .val (.int (0 : Int32))] [(.int (1 : Int32))]))) (st1) ?_
  refine go_of (B := (T1.setTop (mkF m 8 #[.val (.ref a), .val (.int (32 : Int32)), .val (.int (0 : Int32))] [(.ref a)]))) (fun _ kk => XS.ifNo X1.here hx rfl (hb hby d7_4) rfl ((if0 _ _).trans (feq (by decide : ¬ ((1 : Int32) = (0 : Int32)))).1) (XS.aloadN X1.here hx rfl (hb hby d7_7) rfl rfl kk)) ?_
  obtain ⟨T2, X2, e2, st2⟩ := getF X1 hx hZ hown (host := "") (Or.inl (wd 25 rfl)) Via.refl e1 Fv (g := (mkF m 8 #[.val (.ref a), .val (.int (32 : Int32)), .val (.int (0 : Int32))] [(.ref a)])) rfl rfl (hb hby d7_8)
  refine go_of (B := (T2.setTop (mkF m 11 #[.val (.ref a), .val (.int (32 : Int32)), .val (.int (0 : Int32))] [(.ref t)]))) (st2) ?_
  refine go_of (B := (T2.setTop (mkF m 14 #[.val (.ref a), .val (.int (32 : Int32)), .val (.int (0 : Int32))] [(.ref a), (.int (0 : Int32)), (.int (32 : Int32)), (.ref t)]))) (fun _ kk => XS.iloadN X2.here hx rfl (hb hby d7_11) rfl (XS.iloadN X2.here hx rfl (hb hby d7_12) rfl (XS.aloadN X2.here hx rfl (hb hby d7_13) rfl rfl kk))) ?_
  obtain ⟨cq3, kq3, q3a, q3b, q3c⟩ := isOf hZ e2 Ea
  obtain ⟨_, _, ⟨T3, L3, k3, n3⟩, -, X3, ⟨Lc3, hQ3, l3, y3, z3⟩, st3⟩ := X2.virtualBack hx (y := MN19) (z := MN19) hown (mvT hZ (wd 47 rfl)) (mvT hZ (wd 48 rfl)) (notFace_of_selects (args := #[]) (mvT hZ (wd 50 rfl))) (mvT hZ (wd 50 rfl)) (mvT hZ (wd 49 rfl)) (by decide) (backOf (W := 3) (lenH l Z a0 hw [] a mm f0 gC h0 n0 (by omega) O SC hgC S) hZ (wd 51 rfl) (wd 7 rfl) (by decide) (by decide)) q3a q3c (g := (mkF m 14 #[.val (.ref a), .val (.int (32 : Int32)), .val (.int (0 : Int32))] [(.ref a), (.int (0 : Int32)), (.int (32 : Int32)), (.ref t)])) rfl (by rw [hml]; rfl) (Steps.refl _) (argsL := []) (rest := [(.int (0 : Int32)), (.int (32 : Int32)), (.ref t)]) (lenOf pd___I rfl) rfl (by show 2 * 0 + _ ≤ _; exact Nat.le_of_eq rfl) (hb hby d7_14) (fun _ _ => ⟨rfl, e2, (by decide : 0 + 0 ≤ _), (by decide : 0 + 0 ≤ _)⟩)
  dsimp only [Pt.U, Pt.locs, Pt.cells, Pt.slots] at X3 l3 y3 z3 st3 hQ3
  subst l3 y3 z3
  obtain ⟨rfl, N3q, e3⟩ := hQ3
  have N3 := Fr.app N1 N3q
  refine go_tr (B := (T3.setTop (mkF m 17 #[.val (.ref a), .val (.int (32 : Int32)), .val (.int (0 : Int32))] [(.int mm), (.int (0 : Int32)), (.int (32 : Int32)), (.ref t)]))) (st3) ?_
  obtain ⟨_, _, ⟨T4, L4, k4, n4⟩, -, X4, ⟨Lc4, hQ4, l4, y4, z4⟩, st4⟩ := Jvm.LawKit.callS X3 hx (y := MN24) hown (mvT hZ (wd 57 rfl)) (mvT hZ (wd 58 rfl)) (mvT hZ (wd 59 rfl)) (mvT hZ (wd 60 rfl)) (by decide) (backOf (W := 0) (lioH l Z a0 hw [] t mm (own_b8 f0) k vs h0 n0 (by omega) hm Va) hZ (wd 60 rfl) (wd 59 rfl) (by decide) (by decide)) (g := (mkF m 17 #[.val (.ref a), .val (.int (32 : Int32)), .val (.int (0 : Int32))] [(.int mm), (.int (0 : Int32)), (.int (32 : Int32)), (.ref t)])) rfl (by rw [hml]; rfl) (argsL := [(.ref t), (.int (32 : Int32)), (.int (0 : Int32)), (.int mm)]) (rest := []) (lenOf pd___BIII_I rfl) rfl (by show 2 * 0 + _ ≤ _; exact Nat.le_of_eq rfl) (hb hby d7_17) (fun _ _ => ⟨rfl, e3, (by decide : 0 + 0 ≤ _), (by decide : 0 + 0 ≤ _)⟩)
  dsimp only [Pt.U, Pt.locs, Pt.cells, Pt.slots] at X4 l4 y4 z4 st4 hQ4
  subst l4 y4 z4
  obtain ⟨r4, rfl, hr4, N4q, e4⟩ := hQ4
  have N4 := Fr.app N3 N4q
  refine go_of (B := (T4.setTop (mkF m 20 #[.val (.ref a), .val (.int (32 : Int32)), .val (.int (0 : Int32))] [(.int r4)]))) (st4) ?_
  refine go_of (B := (T4.setTop (mkF m 36 #[.val (.ref a), .val (.int (32 : Int32)), .val (.int (0 : Int32))] [(.int r4)]))) (fun _ kk => XS.goto X4.here hx rfl (pc0 := 20) (pc' := 36) rfl (hb hby d7_20) (by decide) (by decide) kk) ?_
  refine go_end X4 (v := some (.int r4)) (fun h => by rw [Bd.returns] at h; cases h) Bd.notSynchronized (by decide) (by decide) (Q := (Q_si2H Z a mm f0 gC h0 n0)) ?_ (fun fs hr => own_retI X4 hx Bd.returns (hb hby d7_36) hr)
  unfold Q_si2H
  try rw [e4]
  exact ⟨_, rfl, hr4, N4, rfl⟩
def Q_siH (Z : State) (a : Addr) (mm : Int32) (f0 : Int32) (gC : Int32) (h0 : Heap) (n0 : Nat) (v : Option Value) (h : Heap) (L : List Loc) : Prop := ∃ r : Int32, v = some (.int r) ∧ ¬ r < 0 ∧ Fr n0 L ∧ h = h0
theorem ef_siH (m : MethodId) (a : Addr)  : entryFrame m #[(.ref a), (.int (32 : Int32))] 2 = mkF m 0 #[.val (.ref a), .val (.int (32 : Int32))] [] := by first | (simp [entryFrame, mkF, argsToLocals, Value.category]; done) | rfl
theorem siH (l : Launch) (Z : State) (a0 : Array Value) (hw : TW a0 Z) (ws : List Jvm.Cond) (a : Addr) (mm : Int32) (f0 : Int32) (gC : Int32) (h0 : Heap) (n0 : Nat) (Z0 : n0 ≤ h0.size) (O : Old Z n0 h0) (SC : Sta Z Z.heap "java/lang/String" "COMPACT_STRINGS" "Z" (.int gC)) (hgC : ¬ gC = (0 : Int32)) (S : StrH Z h0 a mm f0) (hm : M5 mm) :
    own_MF l Z MN16 jdk_42_method_79_code 2 (some .int) ws (own_R 3 0 0 46) #[(.ref a), (.int (32 : Int32))] h0 (Q_siH Z a mm f0 gC h0 n0) := by
  have wd := @own_wd _ _ hw
  refine MetFree.of_bodySF (plainFor_of_name pn_java_lang_String) hisR ?_
  intro p e s m args below meth c s₁ Bd hml0 hP hK
  obtain ⟨rfl, hZ, hh⟩ := hP
  have hx := Bd.exec
  have hby := Bd.bytes
  have hml : c.maxLocals = 2 := hml0
  have hown : s.vm.findClass "java/lang/String" = some m.cls := findClass_of_methodNamed Bd.named
  have hnm := (name_of_methodNamed Bd.named Bd.method).1
  have X0 : Stand p l e (own_R 3 0 0 46) s m #[(.ref a), (.int (32 : Int32))] below meth c s₁ [] 0 0 := Stand.of_body Bd
  have e0 : s₁.heap = h0 := by rw [← hh, Bd.state]; rfl
  have N0 := Fr.nil n0
  refine go_of (A := s₁.setTop (entryFrame m #[(.ref a), (.int (32 : Int32))] 2)) (B := s₁.setTop (mkF m 0 #[.val (.ref a), .val (.int (32 : Int32))] [])) (fun _ kk' => castTop (ef_siH m a) kk') ?_
  refine go_of (B := (s₁.setTop (mkF m 3 #[.val (.ref a), .val (.int (32 : Int32))] [(.int (0 : Int32)), (.int (32 : Int32)), (.ref a)]))) (fun _ kk => XS.aloadN X0.here hx rfl (hb hby d6_0) rfl rfl (XS.iloadN X0.here hx rfl (hb hby d6_1) rfl (XS.iconst X0.here hx rfl (hb hby d6_2) kk))) ?_
  obtain ⟨cq1, kq1, q1a, q1b, q1c⟩ := isOf hZ e0 S.exa
  obtain ⟨_, _, ⟨T1, L1, k1, n1⟩, -, X1, ⟨Lc1, hQ1, l1, y1, z1⟩, st1⟩ := X0.virtualBack hx (y := MN17) (z := MN17) hown (mvT hZ (wd 36 rfl)) (mvT hZ (wd 37 rfl)) (notFace_of_selects (args := #[]) (mvT hZ (wd 39 rfl))) (mvT hZ (wd 39 rfl)) (mvT hZ (wd 38 rfl)) (by decide) (backOf (W := 0) (si2H l Z a0 hw [] a mm f0 gC h0 n0 (by omega) O SC hgC S hm) hZ (wd 40 rfl) (wd 7 rfl) (by decide) (by decide)) q1a q1c (g := (mkF m 3 #[.val (.ref a), .val (.int (32 : Int32))] [(.int (0 : Int32)), (.int (32 : Int32)), (.ref a)])) rfl (by rw [hml]; rfl) (Steps.refl _) (argsL := [(.int (32 : Int32)), (.int (0 : Int32))]) (rest := []) (lenOf pd__II_I rfl) rfl (by show 2 * 0 + _ ≤ _; exact Nat.le_of_eq rfl) (hb hby d6_3) (fun _ _ => ⟨rfl, e0, (by decide : 0 + 0 ≤ _), (by decide : 0 + 0 ≤ _)⟩)
  dsimp only [Pt.U, Pt.locs, Pt.cells, Pt.slots] at X1 l1 y1 z1 st1 hQ1
  subst l1 y1 z1
  obtain ⟨r1, rfl, hr1, N1q, e1⟩ := hQ1
  have N1 := Fr.app N0 N1q
  refine go_tr (B := (T1.setTop (mkF m 6 #[.val (.ref a), .val (.int (32 : Int32))] [(.int r1)]))) (st1) ?_
  refine go_end X1 (v := some (.int r1)) (fun h => by rw [Bd.returns] at h; cases h) Bd.notSynchronized (by decide) (by decide) (Q := (Q_siH Z a mm f0 gC h0 n0)) ?_ (fun fs hr => own_retI X1 hx Bd.returns (hb hby d6_6) hr)
  unfold Q_siH
  try rw [e1]
  exact ⟨_, rfl, hr1, N1, rfl⟩
def Q_noH (Z : State) (a : Addr) (mm : Int32) (f0 : Int32) (gC : Int32) (h0 : Heap) (n0 : Nat) (v : Option Value) (h : Heap) (L : List Loc) : Prop := v = some (.int 1) ∧ Fr n0 L ∧ h = h0
theorem ef_noH (m : MethodId) (a : Addr)  : entryFrame m #[(.ref a)] 1 = mkF m 0 #[.val (.ref a)] [] := by first | (simp [entryFrame, mkF, argsToLocals, Value.category]; done) | rfl
theorem noH (l : Launch) (Z : State) (a0 : Array Value) (hw : TW a0 Z) (ws : List Jvm.Cond) (a : Addr) (mm : Int32) (f0 : Int32) (gC : Int32) (h0 : Heap) (n0 : Nat) (Z0 : n0 ≤ h0.size) (O : Old Z n0 h0) (SC : Sta Z Z.heap "java/lang/String" "COMPACT_STRINGS" "Z" (.int gC)) (hgC : ¬ gC = (0 : Int32)) (S : StrH Z h0 a mm f0) (hm : M5 mm) :
    own_MF l Z MN2 prog_10_method_13_code 1 (some .boolean) ws (own_R 4 0 0 59) #[(.ref a)] h0 (Q_noH Z a mm f0 gC h0 n0) := by
  have wd := @own_wd _ _ hw
  refine MetFree.of_bodySF (plainFor_of_name pn_com_example_holdfast_holdfast_HoldfastLock_Exclusive) hisR ?_
  intro p e s m args below meth c s₁ Bd hml0 hP hK
  obtain ⟨rfl, hZ, hh⟩ := hP
  have hx := Bd.exec
  have hby := Bd.bytes
  have hml : c.maxLocals = 1 := hml0
  have hown : s.vm.findClass "com/example/holdfast/holdfast/HoldfastLock$Exclusive" = some m.cls := findClass_of_methodNamed Bd.named
  have hnm := (name_of_methodNamed Bd.named Bd.method).1
  have X0 : Stand p l e (own_R 4 0 0 59) s m #[(.ref a)] below meth c s₁ [] 0 0 := Stand.of_body Bd
  have e0 : s₁.heap = h0 := by rw [← hh, Bd.state]; rfl
  have N0 := Fr.nil n0
  refine go_of (A := s₁.setTop (entryFrame m #[(.ref a)] 1)) (B := s₁.setTop (mkF m 0 #[.val (.ref a)] [])) (fun _ kk' => castTop (ef_noH m a) kk') ?_
  refine go_of (B := (s₁.setTop (mkF m 3 #[.val (.ref a)] [(.int (32 : Int32)), (.ref a)]))) (fun _ kk => XS.aloadN X0.here hx rfl (hb hby d5_0) rfl rfl (XS.bipush X0.here hx rfl (hb hby d5_1) kk)) ?_
  obtain ⟨cq1, kq1, q1a, q1b, q1c⟩ := isOf hZ e0 S.exa
  obtain ⟨_, _, ⟨T1, L1, k1, n1⟩, -, X1, ⟨Lc1, hQ1, l1, y1, z1⟩, st1⟩ := X0.virtualBack hx (y := MN16) (z := MN16) hown (mvT hZ (wd 31 rfl)) (mvT hZ (wd 32 rfl)) (notFace_of_selects (args := #[]) (mvT hZ (wd 34 rfl))) (mvT hZ (wd 34 rfl)) (mvT hZ (wd 33 rfl)) (by decide) (backOf (W := 0) (siH l Z a0 hw [] a mm f0 gC h0 n0 (by omega) O SC hgC S hm) hZ (wd 35 rfl) (wd 7 rfl) (by decide) (by decide)) q1a q1c (g := (mkF m 3 #[.val (.ref a)] [(.int (32 : Int32)), (.ref a)])) rfl (by rw [hml]; rfl) (Steps.refl _) (argsL := [(.int (32 : Int32))]) (rest := []) (lenOf pd__I_I rfl) rfl (by show 2 * 0 + _ ≤ _; exact Nat.le_of_eq rfl) (hb hby d5_3) (fun _ _ => ⟨rfl, e0, (by decide : 0 + 0 ≤ _), (by decide : 0 + 0 ≤ _)⟩)
  dsimp only [Pt.U, Pt.locs, Pt.cells, Pt.slots] at X1 l1 y1 z1 st1 hQ1
  subst l1 y1 z1
  obtain ⟨r1, rfl, hr1, N1q, e1⟩ := hQ1
  have N1 := Fr.app N0 N1q
  refine go_tr (B := (T1.setTop (mkF m 6 #[.val (.ref a)] [(.int r1)]))) (st1) ?_
  refine go_of (B := (T1.setTop (mkF m 14 #[.val (.ref a)] [(.int (1 : Int32))]))) (fun _ kk => XS.ifNo X1.here hx rfl (hb hby d5_6) rfl ((if0 _ _).trans (flt hr1).1) (XS.iconst X1.here hx rfl (hb hby d5_9) (XS.goto X1.here hx rfl (pc0 := 10) (pc' := 14) rfl (hb hby d5_10) (by decide) (by decide) kk))) ?_
  refine go_end X1 (v := some (.int (nar .boolean (1 : Int32)))) (fun h => by rw [Bd.returns] at h; cases h) Bd.notSynchronized (by decide) (by decide) (Q := (Q_noH Z a mm f0 gC h0 n0)) ?_ (fun fs hr => retN X1 hx (t := .boolean) Bd.returns (by simp) (hb hby d5_14) hr)
  unfold Q_noH
  try rw [e1]
  exact ⟨rfl, N1, rfl⟩
theorem d3_0 : decode jdk_42_method_149_code 0 = .ok (.aload_n 0, 1) := by decide +kernel
theorem d3_1 : decode jdk_42_method_149_code 1 = .ok (.invokespecial 1, 3) := by decide +kernel
theorem d3_4 : decode jdk_42_method_149_code 4 = .ok (.iload_n 3, 1) := by decide +kernel
theorem d3_5 : decode jdk_42_method_149_code 5 = .ok (.ifCond .ne 22, 3) := by decide +kernel
theorem d3_8 : decode jdk_42_method_149_code 8 = .ok (.aload_n 0, 1) := by decide +kernel
theorem d3_9 : decode jdk_42_method_149_code 9 = .ok (.ldc 7, 2) := by decide +kernel
theorem d3_11 : decode jdk_42_method_149_code 11 = .ok (.getfield 9, 3) := by decide +kernel
theorem d3_14 : decode jdk_42_method_149_code 14 = .ok (.putfield 9, 3) := by decide +kernel
theorem d3_17 : decode jdk_42_method_149_code 17 = .ok (.aload_n 0, 1) := by decide +kernel
theorem d3_18 : decode jdk_42_method_149_code 18 = .ok (.ldc 7, 2) := by decide +kernel
theorem d3_20 : decode jdk_42_method_149_code 20 = .ok (.getfield 15, 3) := by decide +kernel
theorem d3_23 : decode jdk_42_method_149_code 23 = .ok (.putfield 15, 3) := by decide +kernel
theorem d3_26 : decode jdk_42_method_149_code 26 = .ok (.return_, 1) := by decide +kernel
def Q_str_i4_0 (Z : State) (a : Addr) (s' : Addr) (u2 : Value) (h0 : Heap) (n0 : Nat) (v : Option Value) (h : Heap) (L : List Loc) : Prop := v = none ∧ Fr n0 L ∧ Keep h0 h [a] ∧ Str Z h a 0 []
theorem ef_str_i4_0 (m : MethodId) (a : Addr) (s' : Addr)  : entryFrame m #[(.ref a), (.ref s'), (.int (0 : Int32)), (.int (0 : Int32)), .null] 6 = mkF m 0 #[.val (.ref a), .val (.ref s'), .val (.int (0 : Int32)), .val (.int (0 : Int32)), .val .null, .unset] [] := by first | (simp [entryFrame, mkF, argsToLocals, Value.category]; done) | rfl
theorem str_i4_0 (l : Launch) (Z : State) (a0 : Array Value) (hw : TW a0 Z) (ws : List Jvm.Cond) (a : Addr) (s' : Addr) (u2 : Value) (h0 : Heap) (n0 : Nat) (Z0 : n0 ≤ h0.size) (E : Exa Z h0 a "java/lang/String") (F : Fld Z h0 a "java/lang/String" "value" "[B" .null) (F2 : Fld Z h0 a "java/lang/String" "coder" "B" u2) (g : n0 ≤ a) :
    own_MFH l Z MN13 jdk_42_method_149_code 6 none ws (own_R 1 4 8 12) #[(.ref a), (.ref s'), (.int (0 : Int32)), (.int (0 : Int32)), .null] h0 (Q_str_i4_0 Z a s' u2 h0 n0) := by
  have wd := @own_wd _ _ hw
  refine MetFree.of_bodySF (plainFor_of_name pn_java_lang_String) hisR ?_
  intro p e s m args below meth c s₁ Bd hml0 hP hK
  obtain ⟨rfl, hZ, hh, hCH⟩ := hP
  have hx := Bd.exec
  have hby := Bd.bytes
  have hml : c.maxLocals = 6 := hml0
  have hown : s.vm.findClass "java/lang/String" = some m.cls := findClass_of_methodNamed Bd.named
  have hnm := (name_of_methodNamed Bd.named Bd.method).1
  have X0 : Stand p l e (own_R 1 4 8 12) (s.setVm s.vm) m #[(.ref a), (.ref s'), (.int (0 : Int32)), (.int (0 : Int32)), .null] below meth c s₁ [] 0 0 := Stand.of_body Bd
  have e0 : s₁.heap = h0 := by rw [← hh, Bd.state]; rfl
  have N0 := Fr.nil n0
  have hS : s.Since s.vm 0 := (State.WarmedH.refl s).since 0
  have hh0 := hh
  have hEL := own_EW hw
  have HC0 := CHr.refl hCH
  have lta := own_nlt (E.lt)
  refine go_of (A := s₁.setTop (entryFrame m #[(.ref a), (.ref s'), (.int (0 : Int32)), (.int (0 : Int32)), .null] 6)) (B := s₁.setTop (mkF m 0 #[.val (.ref a), .val (.ref s'), .val (.int (0 : Int32)), .val (.int (0 : Int32)), .val .null, .unset] [])) (fun _ kk' => castTop (ef_str_i4_0 m a s') kk') ?_
  refine go_of (B := (s₁.setTop (mkF m 1 #[.val (.ref a), .val (.ref s'), .val (.int (0 : Int32)), .val (.int (0 : Int32)), .val .null, .unset] [(.ref a)]))) (fun _ kk => XS.aloadN X0.here hx rfl (hb hby d3_0) rfl rfl kk) ?_
  obtain ⟨T1, X1, e1, st1⟩ := initO X0 hx hZ hown (wd 16 rfl) (wd 17 rfl) (wd 18 rfl) e0 (g := (mkF m 1 #[.val (.ref a), .val (.ref s'), .val (.int (0 : Int32)), .val (.int (0 : Int32)), .val .null, .unset] [(.ref a)])) rfl (by rw [hml]; rfl) rfl (hb hby d3_1) (by decide) (W := 0) (by show 2 * 0 + _ ≤ _; exact Nat.le_of_eq rfl) (by decide)
  refine go_of (B := (T1.setTop (mkF m 4 #[.val (.ref a), .val (.ref s'), .val (.int (0 : Int32)), .val (.int (0 : Int32)), .val .null, .unset] []))) (st1) ?_
  refine go_of (B := (T1.setTop (mkF m 8 #[.val (.ref a), .val (.ref s'), .val (.int (0 : Int32)), .val (.int (0 : Int32)), .val .null, .unset] []))) (fun _ kk => XS.iloadN X1.here hx rfl (hb hby d3_4) rfl (XS.ifNo X1.here hx rfl (hb hby d3_5) rfl ((if0 _ _).trans (teq (by decide : (0 : Int32) = (0 : Int32))).2) kk)) ?_
  have sf_2 := (own_safe_null hZ.alike E F : (Safe Z own_EL _ h0 a))
  refine go_of (B := (T1.setTop (mkF m 9 #[.val (.ref a), .val (.ref s'), .val (.int (0 : Int32)), .val (.int (0 : Int32)), .val .null, .unset] [(.ref a)]))) (fun _ kk => XS.aloadN X1.here hx rfl (hb hby d3_8) rfl rfl kk) ?_
  obtain ⟨b3, T3, h3, k3, t3, kt3, X3, e3, E3, hS, hk3, hZ, hown, A3, Fc3, Fv3, V3, lb3, lt3, HR3, -, ne3, st3⟩ := ldcCH X1 hx hZ hown (wd 19 rfl) (own_wS hw) e1 hS (by first | omega | exact own_ne (by omega) | exact own_le (by omega) | exact own_lt (by omega)) hEL (List.mem_of_getElem? (i := 0) rfl) HC0.1 (vs := []) (z := 0) ⟨(by decide), (by first | rfl | decide)⟩ (by decide) rfl (g := (mkF m 9 #[.val (.ref a), .val (.ref s'), .val (.int (0 : Int32)), .val (.int (0 : Int32)), .val .null, .unset] [(.ref a)])) rfl (hb hby d3_9) (n := 0) (by decide) (by decide) (by decide) (by decide)
  have lb3 := own_nlt lb3
  have lt3 := own_nlt lt3
  have sz3 := E3.1
  have HC3 := HC0.trans HR3
  have sf_4 := (HR3.safe (by first | omega | exact own_ne (by omega) | exact own_le (by omega) | exact own_lt (by omega)) sf_2)
  have nt3_a : @Ne Nat t3 a := fun q => (ne3 a sf_4).2 q.symm
  have nb3_a : @Ne Nat b3 a := fun q => (ne3 a sf_4).1 q.symm
  refine go_of (B := (T3.setTop (mkF m 11 #[.val (.ref a), .val (.ref s'), .val (.int (0 : Int32)), .val (.int (0 : Int32)), .val .null, .unset] [(.ref b3), (.ref a)]))) (st3) ?_
  obtain ⟨T5, X5, e5, st5⟩ := getF X3 hx hZ hown (host := "") (Or.inl (wd 25 rfl)) Via.refl e3 Fv3 (g := (mkF m 11 #[.val (.ref a), .val (.ref s'), .val (.int (0 : Int32)), .val (.int (0 : Int32)), .val .null, .unset] [(.ref b3), (.ref a)])) rfl rfl (hb hby d3_11)
  refine go_of (B := (T5.setTop (mkF m 14 #[.val (.ref a), .val (.ref s'), .val (.int (0 : Int32)), .val (.int (0 : Int32)), .val .null, .unset] [(.ref t3), (.ref a)]))) (st5) ?_
  have cf_6 := (E.ext E3)
  have cf_7 := (F.ext E3)
  obtain ⟨T8, h8, X8, e8, W8, st8⟩ := putF X5 hx hZ hown (host := "") (Or.inl (wd 25 rfl)) Via.refl e5 cf_7 cf_6 (Or.inr ⟨(wd 21 rfl), rfl, hnm⟩) (wd 6 rfl) (ty := (.array .byte)) (by decide) rfl rfl (g := (mkF m 14 #[.val (.ref a), .val (.ref s'), .val (.int (0 : Int32)), .val (.int (0 : Int32)), .val .null, .unset] [(.ref t3), (.ref a)])) rfl rfl (hb hby d3_14)
  have sz8 := W8.size
  have Fw8 := cf_7.same W8
  have N8 := Fr.snoc X8 N0 (g : n0 ≤ a)
  have SF8 := sf_4
  have HC8 := HC3.trans (CHr.wr W8 SF8 HC3.1)
  refine go_of (B := (T8.setTop (mkF m 17 #[.val (.ref a), .val (.ref s'), .val (.int (0 : Int32)), .val (.int (0 : Int32)), .val .null, .unset] []))) (st8) ?_
  refine go_of (B := (T8.setTop (mkF m 18 #[.val (.ref a), .val (.ref s'), .val (.int (0 : Int32)), .val (.int (0 : Int32)), .val .null, .unset] [(.ref a)]))) (fun _ kk => XS.aloadN X8.here hx rfl (hb hby d3_17) rfl rfl kk) ?_
  obtain ⟨b9, T9, h9, k9, t9, kt9, X9, e9, E9, hS, hk9, hZ, hown, A9, Fc9, Fv9, V9, lb9, lt9, HR9, -, ne9, st9⟩ := ldcCH X8 hx hZ hown (wd 19 rfl) (own_wS hw) e8 hS (by first | omega | exact own_ne (by omega) | exact own_le (by omega) | exact own_lt (by omega)) hEL (List.mem_of_getElem? (i := 0) rfl) HC8.1 (vs := []) (z := 0) ⟨(by decide), (by first | rfl | decide)⟩ (by decide) rfl (g := (mkF m 18 #[.val (.ref a), .val (.ref s'), .val (.int (0 : Int32)), .val (.int (0 : Int32)), .val .null, .unset] [(.ref a)])) rfl (hb hby d3_18) (n := 0) (by decide) (by decide) (by decide) (by decide)
  have lb9 := own_nlt lb9
  have lt9 := own_nlt lt9
  have sz9 := E9.1
  have HC9 := HC8.trans HR9
  have sf_10 := (HR9.safe (by first | omega | exact own_ne (by omega) | exact own_le (by omega) | exact own_lt (by omega)) (Safe.wr W8 SF8 HC3.1 sf_4))
  have nt9_a : @Ne Nat t9 a := fun q => (ne9 a sf_10).2 q.symm
  have nb9_a : @Ne Nat b9 a := fun q => (ne9 a sf_10).1 q.symm
  refine go_of (B := (T9.setTop (mkF m 20 #[.val (.ref a), .val (.ref s'), .val (.int (0 : Int32)), .val (.int (0 : Int32)), .val .null, .unset] [(.ref b9), (.ref a)]))) (st9) ?_
  obtain ⟨T11, X11, e11, st11⟩ := getF X9 hx hZ hown (host := "") (Or.inl (wd 26 rfl)) Via.refl e9 Fc9 (g := (mkF m 20 #[.val (.ref a), .val (.ref s'), .val (.int (0 : Int32)), .val (.int (0 : Int32)), .val .null, .unset] [(.ref b9), (.ref a)])) rfl rfl (hb hby d3_20)
  refine go_of (B := (T11.setTop (mkF m 23 #[.val (.ref a), .val (.ref s'), .val (.int (0 : Int32)), .val (.int (0 : Int32)), .val .null, .unset] [(.int (0 : Int32)), (.ref a)]))) (st11) ?_
  have cf_12 := ((cf_6.wr W8).ext E9)
  have cf_13 := (((F2.ext E3).other W8 (Or.inr (slot_ne (Or.inr (wd 22 rfl)) (Or.inr (wd 21 rfl)) (by decide) (t := .byte) (t' := (.array .byte)) (by decide) (by decide)))).ext E9)
  obtain ⟨T14, h14, X14, e14, W14, st14⟩ := putFN X11 hx hZ hown (wd 26 rfl) Via.refl e11 cf_13 cf_12 (Or.inr ⟨(wd 22 rfl), rfl, hnm⟩) (wd 6 rfl) (ty := .byte) (v' := (.int (nar .byte (0 : Int32)))) (by decide) rfl (fits_nar_byte _) (g := (mkF m 23 #[.val (.ref a), .val (.ref s'), .val (.int (0 : Int32)), .val (.int (0 : Int32)), .val .null, .unset] [(.int (0 : Int32)), (.ref a)])) rfl rfl (hb hby d3_23)
  have sz14 := W14.size
  have Fw14 := cf_13.same W14
  have N14 := Fr.snoc X14 N8 (g : n0 ≤ a)
  have SF14 := sf_10
  have HC14 := HC9.trans (CHr.wr W14 SF14 HC9.1)
  refine go_of (B := (T14.setTop (mkF m 26 #[.val (.ref a), .val (.ref s'), .val (.int (0 : Int32)), .val (.int (0 : Int32)), .val .null, .unset] []))) (st14) ?_
  have cf_15 := (((V3.other W8 (by first | omega | exact own_ne (by omega) | exact own_le (by omega) | exact own_lt (by omega))).ext E9).other W14 (by first | omega | exact own_ne (by omega) | exact own_le (by omega) | exact own_lt (by omega)))
  have cf_16 := ((Fw8.ext E9).other W14 (Or.inr (slot_ne (Or.inr (wd 21 rfl)) (Or.inr (wd 22 rfl)) (by decide) (t := (.array .byte)) (t' := .byte) (by decide) (by decide))))
  have cf_17 := (cf_12.wr W14)
  refine go_endH X14 hZ hEL HC14 hh0 e14 hS (by rw [e14]; omega) (v := none) (fun _ => rfl) Bd.notSynchronized (by decide) (by decide) (Q := (Q_str_i4_0 Z a s' u2 h0 n0)) ?_ (fun fs hr => X14.returnOut hx Bd.returns (hb hby d3_26) hr)
  unfold Q_str_i4_0
  try rw [e14]
  exact ⟨rfl, N14, (((((Keep.refl h0 [a]).ext E3).wr W8 (Or.inl (List.mem_of_getElem? (i := 0) rfl))).ext E9).wr W14 (Or.inl (List.mem_of_getElem? (i := 0) rfl))), ⟨t3, kt3, cf_17, Fw14, cf_16, cf_15, (fun _ q => nomatch q)⟩⟩
theorem d2_0 : decode jdk_42_method_3_code 0 = .ok (.aload_n 0, 1) := by decide +kernel
theorem d2_1 : decode jdk_42_method_3_code 1 = .ok (.aload_n 1, 1) := by decide +kernel
theorem d2_2 : decode jdk_42_method_3_code 2 = .ok (.iconst 0, 1) := by decide +kernel
theorem d2_3 : decode jdk_42_method_3_code 3 = .ok (.aload_n 1, 1) := by decide +kernel
theorem d2_4 : decode jdk_42_method_3_code 4 = .ok (.arraylength, 1) := by decide +kernel
theorem d2_5 : decode jdk_42_method_3_code 5 = .ok (.aconst_null, 1) := by decide +kernel
theorem d2_6 : decode jdk_42_method_3_code 6 = .ok (.invokespecial 27, 3) := by decide +kernel
theorem pd___CIILjava_lang_Void__V : parseMethodDescriptor "([CIILjava/lang/Void;)V" = some ⟨[(.array .char), .int, .int, (.object "java/lang/Void")], none⟩ := by decide +kernel
theorem d2_9 : decode jdk_42_method_3_code 9 = .ok (.return_, 1) := by decide +kernel
def Q_str_i1_0 (Z : State) (a : Addr) (s' : Addr) (u2 : Value) (ks : ClassId) (h0 : Heap) (n0 : Nat) (v : Option Value) (h : Heap) (L : List Loc) : Prop := v = none ∧ Fr n0 L ∧ Keep h0 h [a] ∧ Str Z h a 0 []
theorem ef_str_i1_0 (m : MethodId) (a : Addr) (s' : Addr)  : entryFrame m #[(.ref a), (.ref s')] 2 = mkF m 0 #[.val (.ref a), .val (.ref s')] [] := by first | (simp [entryFrame, mkF, argsToLocals, Value.category]; done) | rfl
theorem str_i1_0 (l : Launch) (Z : State) (a0 : Array Value) (hw : TW a0 Z) (ws : List Jvm.Cond) (a : Addr) (s' : Addr) (u2 : Value) (ks : ClassId) (h0 : Heap) (n0 : Nat) (Z0 : n0 ≤ h0.size) (E : Exa Z h0 a "java/lang/String") (F : Fld Z h0 a "java/lang/String" "value" "[B" .null) (F2 : Fld Z h0 a "java/lang/String" "coder" "B" u2) (g : n0 ≤ a) (Vs : Arv Z h0 s' ks .char 0 [] (.int 0)) :
    own_MFH l Z MN12 jdk_42_method_3_code 2 none ws (own_R 2 4 8 29) #[(.ref a), (.ref s')] h0 (Q_str_i1_0 Z a s' u2 ks h0 n0) := by
  have wd := @own_wd _ _ hw
  refine MetFree.of_bodySF (plainFor_of_name pn_java_lang_String) hisR ?_
  intro p e s m args below meth c s₁ Bd hml0 hP hK
  obtain ⟨rfl, hZ, hh, hCH⟩ := hP
  have hx := Bd.exec
  have hby := Bd.bytes
  have hml : c.maxLocals = 2 := hml0
  have hown : s.vm.findClass "java/lang/String" = some m.cls := findClass_of_methodNamed Bd.named
  have hnm := (name_of_methodNamed Bd.named Bd.method).1
  have X0 : Stand p l e (own_R 2 4 8 29) (s.setVm s.vm) m #[(.ref a), (.ref s')] below meth c s₁ [] 0 0 := Stand.of_body Bd
  have e0 : s₁.heap = h0 := by rw [← hh, Bd.state]; rfl
  have N0 := Fr.nil n0
  have hS : s.Since s.vm 0 := (State.WarmedH.refl s).since 0
  have hh0 := hh
  have hEL := own_EW hw
  have HC0 := CHr.refl hCH
  have lta := own_nlt (E.lt)
  refine go_of (A := s₁.setTop (entryFrame m #[(.ref a), (.ref s')] 2)) (B := s₁.setTop (mkF m 0 #[.val (.ref a), .val (.ref s')] [])) (fun _ kk' => castTop (ef_str_i1_0 m a s') kk') ?_
  refine go_of (B := (s₁.setTop (mkF m 4 #[.val (.ref a), .val (.ref s')] [(.ref s'), (.int (0 : Int32)), (.ref s'), (.ref a)]))) (fun _ kk => XS.aloadN X0.here hx rfl (hb hby d2_0) rfl rfl (XS.aloadN X0.here hx rfl (hb hby d2_1) rfl rfl (XS.iconst X0.here hx rfl (hb hby d2_2) (XS.aloadN X0.here hx rfl (hb hby d2_3) rfl rfl kk)))) ?_
  obtain ⟨cl1, Ar1, q1, Sz1, Nn1, Hh1, G1⟩ := id (Vs)
  have ln1 := len_of Sz1 Nn1
  refine go_of (B := (s₁.setTop (mkF m 5 #[.val (.ref a), .val (.ref s')] [(.int (0 : Int32)), (.int (0 : Int32)), (.ref s'), (.ref a)]))) (fun _ kk => X0.arraylength hx (by rw [e0]; exact Ar1.1) (State.isArrayOf_alike hZ.alike Ar1.2.1) (g := (mkF m 4 #[.val (.ref a), .val (.ref s')] [(.ref s'), (.int (0 : Int32)), (.ref s'), (.ref a)])) rfl rfl (hb hby d2_4) _ (by rw [ln1]; exact kk)) ?_
  refine go_of (B := (s₁.setTop (mkF m 6 #[.val (.ref a), .val (.ref s')] [.null, (.int (0 : Int32)), (.int (0 : Int32)), (.ref s'), (.ref a)]))) (fun _ kk => XS.aconstNull X0.here hx rfl (hb hby d2_5) kk) ?_
  obtain ⟨_, _, ⟨T2, L2, k2, n2⟩, -, X2', hS2', gr2, ⟨Lc2, hQ2, l2, y2, z2, HR2⟩, st2⟩ := X0.specialBackS hx (y := MN13) rfl hown (mvT hZ (wd 12 rfl)) (mvT hZ (wd 13 rfl)) (mvT hZ (wd 15 rfl)) (by decide) (backOfSH (W := 0) (str_i4_0 l Z a0 hw [] a s' u2 h0 n0 Z0 E F F2 g) hZ (wd 15 rfl) (wd 7 rfl) (by decide) (by decide) hEL HC0.1) (g := (mkF m 6 #[.val (.ref a), .val (.ref s')] [.null, (.int (0 : Int32)), (.int (0 : Int32)), (.ref s'), (.ref a)])) rfl (by rw [hml]; rfl) (Steps.refl _) (a := a) (argsL := [(.ref s'), (.int (0 : Int32)), (.int (0 : Int32)), .null]) (rest := []) (lenOf pd___CIILjava_lang_Void__V rfl) rfl (by show 2 * 0 + _ ≤ _; exact Nat.le_of_eq rfl) (hb hby d2_6) (fun _ _ => ⟨rfl, e0, (by decide : 0 + 4 ≤ _), (by decide : 0 + 8 ≤ _)⟩)
  dsimp only [Pt.U, Pt.locs, Pt.cells, Pt.slots] at X2' hS2' gr2 l2 y2 z2 st2 hQ2 HR2
  subst l2 y2 z2
  have X2 : Stand _ _ _ _ (s.setVm T2.vm) _ _ _ _ _ T2 _ _ _ := X2'
  have hS : s.Since T2.vm T2.heap.size := foldS hS (by rw [e0]; omega) hS2' gr2
  have hZ : Z.Warmed39 (s.setVm T2.vm).vm := State.Warmed39.trans (t := s.setVm s.vm) hZ hS2'.1
  have hown : (s.setVm T2.vm).vm.findClass "java/lang/String" = some m.cls := by rw [show (s.setVm T2.vm).vm = T2.vm from rfl, hS2'.1.alike.findClass]; exact hown
  obtain ⟨rfl, N2q, K2, S2⟩ := hQ2
  have N2 := Fr.app N0 N2q
  have sz2 := K2.1
  have HC2 := HC0.trans HR2
  refine go_tr (B := (T2.setTop (mkF m 9 #[.val (.ref a), .val (.ref s')] []))) (st2) ?_
  refine go_endH X2 hZ hEL HC2 hh0 rfl hS (by first | omega | exact own_ne (by omega) | exact own_le (by omega) | exact own_lt (by omega)) (v := none) (fun _ => rfl) Bd.notSynchronized (by decide) (by decide) (Q := (Q_str_i1_0 Z a s' u2 ks h0 n0)) ?_ (fun fs hr => X2.returnOut hx Bd.returns (hb hby d2_9) hr)
  unfold Q_str_i1_0
  exact ⟨rfl, N2, ((Keep.refl h0 [a]).trans K2 (allS (Or.inl (List.mem_of_getElem? (i := 0) rfl)) all0)), S2⟩
theorem d16_0 : decode jdk_43_method_3_code 0 = .ok (.iload_n 0, 1) := by decide +kernel
theorem d16_1 : decode jdk_43_method_3_code 1 = .ok (.sipush 255, 3) := by decide +kernel
theorem d16_4 : decode jdk_43_method_3_code 4 = .ok (.if_icmp .gt 7, 3) := by decide +kernel
theorem d16_7 : decode jdk_43_method_3_code 7 = .ok (.iconst 1, 1) := by decide +kernel
theorem d16_8 : decode jdk_43_method_3_code 8 = .ok (.goto 4, 3) := by decide +kernel
theorem d16_12 : decode jdk_43_method_3_code 12 = .ok (.ireturn, 1) := by decide +kernel
def Q_v_can (Z : State) (c0 : Int32) (h0 : Heap) (n0 : Nat) (v : Option Value) (h : Heap) (L : List Loc) : Prop := v = some (.int 1) ∧ Fr n0 L ∧ h = h0
theorem ef_v_can (m : MethodId) (c0 : Int32)  : entryFrame m #[(.int c0)] 1 = mkF m 0 #[.val (.int c0)] [] := by first | (simp [entryFrame, mkF, argsToLocals, Value.category]; done) | rfl
theorem v_can (l : Launch) (Z : State) (a0 : Array Value) (hw : TW a0 Z) (ws : List Jvm.Cond) (c0 : Int32) (h0 : Heap) (n0 : Nat) (Z0 : n0 ≤ h0.size) (hc0 : ¬ c0 < 0 ∧ ¬ (255 : Int32) < c0) :
    own_MF l Z (⟨"java/lang/StringLatin1", "canEncode", "(C)Z"⟩ : MethodName) jdk_43_method_3_code 1 (some .boolean) ws (own_R 0 0 0 0) #[(.int c0)] h0 (Q_v_can Z c0 h0 n0) := by
  have wd := @own_wd _ _ hw
  refine MetFree.of_bodySF (plainFor_of_name pn_java_lang_StringLatin1) hisR ?_
  intro p e s m args below meth c s₁ Bd hml0 hP hK
  obtain ⟨rfl, hZ, hh⟩ := hP
  have hx := Bd.exec
  have hby := Bd.bytes
  have hml : c.maxLocals = 1 := hml0
  have hown : s.vm.findClass "java/lang/StringLatin1" = some m.cls := findClass_of_methodNamed Bd.named
  have hnm := (name_of_methodNamed Bd.named Bd.method).1
  have X0 : Stand p l e (own_R 0 0 0 0) s m #[(.int c0)] below meth c s₁ [] 0 0 := Stand.of_body Bd
  have e0 : s₁.heap = h0 := by rw [← hh, Bd.state]; rfl
  have N0 := Fr.nil n0
  refine go_of (A := s₁.setTop (entryFrame m #[(.int c0)] 1)) (B := s₁.setTop (mkF m 0 #[.val (.int c0)] [])) (fun _ kk' => castTop (ef_v_can m c0) kk') ?_
  refine go_of (B := (s₁.setTop (mkF m 12 #[.val (.int c0)] [(.int (1 : Int32))]))) (fun _ kk => XS.iloadN X0.here hx rfl (hb hby d16_0) rfl (XS.sipush X0.here hx rfl (hb hby d16_1) (XS.icmpNo X0.here hx rfl (hb hby d16_4) rfl (flt hc0.2).2.2.1 (XS.iconst X0.here hx rfl (hb hby d16_7) (XS.goto X0.here hx rfl (pc0 := 8) (pc' := 12) rfl (hb hby d16_8) (by decide) (by decide) kk))))) ?_
  refine go_end X0 (v := some (.int (nar .boolean (1 : Int32)))) (fun h => by rw [Bd.returns] at h; cases h) Bd.notSynchronized (by decide) (by decide) (Q := (Q_v_can Z c0 h0 n0)) ?_ (fun fs hr => retN X0 hx (t := .boolean) Bd.returns (by simp) (hb hby d16_12) hr)
  unfold Q_v_can
  try rw [e0]
  exact ⟨rfl, N0, rfl⟩
theorem d17_0 : decode jdk_43_method_46_code 0 = .ok (.iconst 1, 1) := by decide +kernel
theorem d17_1 : decode jdk_43_method_46_code 1 = .ok (.newarray .byte, 2) := by decide +kernel
theorem d17_3 : decode jdk_43_method_46_code 3 = .ok (.dup, 1) := by decide +kernel
theorem d17_4 : decode jdk_43_method_46_code 4 = .ok (.iconst 0, 1) := by decide +kernel
theorem d17_5 : decode jdk_43_method_46_code 5 = .ok (.iload_n 0, 1) := by decide +kernel
theorem d17_6 : decode jdk_43_method_46_code 6 = .ok (.i2b, 1) := by decide +kernel
theorem d17_7 : decode jdk_43_method_46_code 7 = .ok (.bastore, 1) := by decide +kernel
theorem d17_8 : decode jdk_43_method_46_code 8 = .ok (.areturn, 1) := by decide +kernel
def Q_v_tob (Z : State) (c0 : Int32) (h0 : Heap) (n0 : Nat) (v : Option Value) (h : Heap) (L : List Loc) : Prop := ∃ (t : Addr) (k : ClassId), v = some (.ref t) ∧ Fr n0 L ∧ h0.size ≤ t ∧ Keep h0 h [] ∧ Arv Z h t k .byte 1 [(.int (own_b8 c0))] (.int 0)
theorem ef_v_tob (m : MethodId) (c0 : Int32)  : entryFrame m #[(.int c0)] 1 = mkF m 0 #[.val (.int c0)] [] := by first | (simp [entryFrame, mkF, argsToLocals, Value.category]; done) | rfl
theorem v_tob (l : Launch) (Z : State) (a0 : Array Value) (hw : TW a0 Z) (ws : List Jvm.Cond) (c0 : Int32) (h0 : Heap) (n0 : Nat) (Z0 : n0 ≤ h0.size)  :
    own_MF l Z (⟨"java/lang/StringLatin1", "toBytes", "(C)[B"⟩ : MethodName) jdk_43_method_46_code 1 (some (.array .byte)) ws (own_R 0 1 1 0) #[(.int c0)] h0 (Q_v_tob Z c0 h0 n0) := by
  have wd := @own_wd _ _ hw
  refine MetFree.of_bodySF (plainFor_of_name pn_java_lang_StringLatin1) hisR ?_
  intro p e s m args below meth c s₁ Bd hml0 hP hK
  obtain ⟨rfl, hZ, hh⟩ := hP
  have hx := Bd.exec
  have hby := Bd.bytes
  have hml : c.maxLocals = 1 := hml0
  have hown : s.vm.findClass "java/lang/StringLatin1" = some m.cls := findClass_of_methodNamed Bd.named
  have hnm := (name_of_methodNamed Bd.named Bd.method).1
  have X0 : Stand p l e (own_R 0 1 1 0) s m #[(.int c0)] below meth c s₁ [] 0 0 := Stand.of_body Bd
  have e0 : s₁.heap = h0 := by rw [← hh, Bd.state]; rfl
  have N0 := Fr.nil n0
  refine go_of (A := s₁.setTop (entryFrame m #[(.int c0)] 1)) (B := s₁.setTop (mkF m 0 #[.val (.int c0)] [])) (fun _ kk' => castTop (ef_v_tob m c0) kk') ?_
  refine go_of (B := (s₁.setTop (mkF m 1 #[.val (.int c0)] [(.int (1 : Int32))]))) (fun _ kk => XS.iconst X0.here hx rfl (hb hby d17_0) kk) ?_
  obtain ⟨T1, h1, k1, X1, e1, E1, A1, st1⟩ := newP X0 hx hZ (wd 20 rfl) e0 (g := (mkF m 1 #[.val (.int c0)] [(.int (1 : Int32))])) rfl (hb hby d17_1) rfl (by decide) (cap := 1) (by decide) (by decide) (by decide) (by decide)
  obtain ⟨b1, g1⟩ : ∃ z, z = h0.size := ⟨_, rfl⟩
  rw [← g1] at A1 st1
  have hi1 := own_nlt A1.lt
  have sz1 := E1.1
  have V1 : Arv Z h1 b1 k1 .byte (1 : Int32) [(.int (0 : Int32))] (.int (0 : Int32)) := (Arv.new A1 (by decide)).pad (pad_rep [] (.int (0 : Int32)) 1)
  refine go_of (B := (T1.setTop (mkF m 3 #[.val (.int c0)] [(.ref b1)]))) (st1) ?_
  refine go_of (B := (T1.setTop (mkF m 7 #[.val (.int c0)] [(.int (c0.toInt8.toInt32)), (.int (0 : Int32)), (.ref b1), (.ref b1)]))) (fun _ kk => XS.dup X1.here hx rfl (hb hby d17_3) rfl rfl (XS.iconst X1.here hx rfl (hb hby d17_4) (XS.iloadN X1.here hx rfl (hb hby d17_5) rfl (XS.i2b X1.here hx rfl (hb hby d17_6) rfl kk)))) ?_
  obtain ⟨cl2, Ar2, q2, Sz2, Nn2, Hh2, G2⟩ := id (V1)
  obtain ⟨T3, h3, X3, e3, W3, st3⟩ := stB X1 hx hZ e1 Ar2 (j := (0 : Int32)) (inb_of Sz2 ⟨by decide, by decide⟩) (g := (mkF m 7 #[.val (.int c0)] [(.int (c0.toInt8.toInt32)), (.int (0 : Int32)), (.ref b1), (.ref b1)])) rfl rfl (hb hby d17_7)
  have sz3 := W3.size
  have N3 := Fr.snoc X3 N0 ((by first | omega | exact own_ne (by omega) | exact own_le (by omega) | exact own_lt (by omega)) : n0 ≤ b1)
  have V3 : Arv Z h3 b1 k1 .byte (1 : Int32) [(.int ((c0.toInt8.toInt32).toInt8.toInt32))] (.int (0 : Int32)) := Arv.set Ar2 q2 Sz2 Nn2 Hh2 G2 (fits_nar_byte _) W3 0 rfl (Nat.le_of_ble_eq_true rfl)
  rw [own_bb] at V3
  refine go_of (B := (T3.setTop (mkF m 8 #[.val (.int c0)] [(.ref b1)]))) (st3) ?_
  refine go_end X3 (v := some (.ref b1)) (fun h => by rw [Bd.returns] at h; cases h) Bd.notSynchronized (by decide) (by decide) (Q := (Q_v_tob Z c0 h0 n0)) ?_ (fun fs hr => own_retA X3 hx Bd.returns rfl rfl (hb hby d17_8) hr)
  unfold Q_v_tob
  try rw [e3]
  exact ⟨b1, k1, rfl, N3, by omega, (((Keep.refl h0 []).ext E1).wr W3 (Or.inr (by first | omega | exact own_ne (by omega) | exact own_le (by omega) | exact own_lt (by omega)))), V3⟩
theorem d18_0 : decode jdk_42_method_151_code 0 = .ok (.aload_n 0, 1) := by decide +kernel
theorem d18_1 : decode jdk_42_method_151_code 1 = .ok (.invokespecial 1, 3) := by decide +kernel
theorem d18_4 : decode jdk_42_method_151_code 4 = .ok (.aload_n 0, 1) := by decide +kernel
theorem d18_5 : decode jdk_42_method_151_code 5 = .ok (.aload_n 1, 1) := by decide +kernel
theorem d18_6 : decode jdk_42_method_151_code 6 = .ok (.putfield 9, 3) := by decide +kernel
theorem d18_9 : decode jdk_42_method_151_code 9 = .ok (.aload_n 0, 1) := by decide +kernel
theorem d18_10 : decode jdk_42_method_151_code 10 = .ok (.iload_n 2, 1) := by decide +kernel
theorem d18_11 : decode jdk_42_method_151_code 11 = .ok (.putfield 15, 3) := by decide +kernel
theorem d18_14 : decode jdk_42_method_151_code 14 = .ok (.return_, 1) := by decide +kernel
def Q_v_ibb (Z : State) (a : Addr) (t : Addr) (c0 : Int32) (k : ClassId) (u : Value) (u2 : Value) (h0 : Heap) (n0 : Nat) (v : Option Value) (h : Heap) (L : List Loc) : Prop := v = none ∧ Fr n0 L ∧ Keep h0 h [a] ∧ Str Z h a 1 [c0]
theorem ef_v_ibb (m : MethodId) (a : Addr) (t : Addr)  : entryFrame m #[(.ref a), (.ref t), (.int (0 : Int32))] 3 = mkF m 0 #[.val (.ref a), .val (.ref t), .val (.int (0 : Int32))] [] := by first | (simp [entryFrame, mkF, argsToLocals, Value.category]; done) | rfl
theorem v_ibb (l : Launch) (Z : State) (a0 : Array Value) (hw : TW a0 Z) (ws : List Jvm.Cond) (a : Addr) (t : Addr) (c0 : Int32) (k : ClassId) (u : Value) (u2 : Value) (h0 : Heap) (n0 : Nat) (Z0 : n0 ≤ h0.size) (E : Exa Z h0 a "java/lang/String") (F : Fld Z h0 a "java/lang/String" "value" "[B" u) (F2 : Fld Z h0 a "java/lang/String" "coder" "B" u2) (g : n0 ≤ a) (V : Arv Z h0 t k .byte 1 [(.int (own_b8 c0))] (.int 0)) (hat : @Ne Nat t a) (hc0 : ¬ c0 < 0 ∧ ¬ (255 : Int32) < c0) :
    own_MF l Z (⟨"java/lang/String", "<init>", "([BB)V"⟩ : MethodName) jdk_42_method_151_code 3 none ws (own_R 1 0 0 12) #[(.ref a), (.ref t), (.int (0 : Int32))] h0 (Q_v_ibb Z a t c0 k u u2 h0 n0) := by
  have wd := @own_wd _ _ hw
  refine MetFree.of_bodySF (plainFor_of_name pn_java_lang_String) hisR ?_
  intro p e s m args below meth c s₁ Bd hml0 hP hK
  obtain ⟨rfl, hZ, hh⟩ := hP
  have hx := Bd.exec
  have hby := Bd.bytes
  have hml : c.maxLocals = 3 := hml0
  have hown : s.vm.findClass "java/lang/String" = some m.cls := findClass_of_methodNamed Bd.named
  have hnm := (name_of_methodNamed Bd.named Bd.method).1
  have X0 : Stand p l e (own_R 1 0 0 12) s m #[(.ref a), (.ref t), (.int (0 : Int32))] below meth c s₁ [] 0 0 := Stand.of_body Bd
  have e0 : s₁.heap = h0 := by rw [← hh, Bd.state]; rfl
  have N0 := Fr.nil n0
  have lta := own_nlt (E.lt)
  have ltt := own_nlt (V.lt)
  refine go_of (A := s₁.setTop (entryFrame m #[(.ref a), (.ref t), (.int (0 : Int32))] 3)) (B := s₁.setTop (mkF m 0 #[.val (.ref a), .val (.ref t), .val (.int (0 : Int32))] [])) (fun _ kk' => castTop (ef_v_ibb m a t) kk') ?_
  refine go_of (B := (s₁.setTop (mkF m 1 #[.val (.ref a), .val (.ref t), .val (.int (0 : Int32))] [(.ref a)]))) (fun _ kk => XS.aloadN X0.here hx rfl (hb hby d18_0) rfl rfl kk) ?_
  obtain ⟨T1, X1, e1, st1⟩ := initO X0 hx hZ hown (wd 16 rfl) (wd 17 rfl) (wd 18 rfl) e0 (g := (mkF m 1 #[.val (.ref a), .val (.ref t), .val (.int (0 : Int32))] [(.ref a)])) rfl (by rw [hml]; rfl) rfl (hb hby d18_1) (by decide) (W := 0) (by show 2 * 0 + _ ≤ _; exact Nat.le_of_eq rfl) (by decide)
  refine go_of (B := (T1.setTop (mkF m 4 #[.val (.ref a), .val (.ref t), .val (.int (0 : Int32))] []))) (st1) ?_
  refine go_of (B := (T1.setTop (mkF m 6 #[.val (.ref a), .val (.ref t), .val (.int (0 : Int32))] [(.ref t), (.ref a)]))) (fun _ kk => XS.aloadN X1.here hx rfl (hb hby d18_4) rfl rfl (XS.aloadN X1.here hx rfl (hb hby d18_5) rfl rfl kk)) ?_
  obtain ⟨T2, h2, X2, e2, W2, st2⟩ := putF X1 hx hZ hown (host := "") (Or.inl (wd 25 rfl)) Via.refl e1 F E (Or.inr ⟨(wd 21 rfl), rfl, hnm⟩) (wd 6 rfl) (ty := (.array .byte)) (by decide) rfl rfl (g := (mkF m 6 #[.val (.ref a), .val (.ref t), .val (.int (0 : Int32))] [(.ref t), (.ref a)])) rfl rfl (hb hby d18_6)
  have sz2 := W2.size
  have Fw2 := F.same W2
  have N2 := Fr.snoc X2 N0 (g : n0 ≤ a)
  refine go_of (B := (T2.setTop (mkF m 9 #[.val (.ref a), .val (.ref t), .val (.int (0 : Int32))] []))) (st2) ?_
  refine go_of (B := (T2.setTop (mkF m 11 #[.val (.ref a), .val (.ref t), .val (.int (0 : Int32))] [(.int (0 : Int32)), (.ref a)]))) (fun _ kk => XS.aloadN X2.here hx rfl (hb hby d18_9) rfl rfl (XS.iloadN X2.here hx rfl (hb hby d18_10) rfl kk)) ?_
  have cf_3 := (E.wr W2)
  have cf_4 := (F2.other W2 (Or.inr (slot_ne (Or.inr (wd 22 rfl)) (Or.inr (wd 21 rfl)) (by decide) (t := .byte) (t' := (.array .byte)) (by decide) (by decide))))
  obtain ⟨T5, h5, X5, e5, W5, st5⟩ := putFN X2 hx hZ hown (wd 26 rfl) Via.refl e2 cf_4 cf_3 (Or.inr ⟨(wd 22 rfl), rfl, hnm⟩) (wd 6 rfl) (ty := .byte) (v' := (.int (nar .byte (0 : Int32)))) (by decide) rfl (fits_nar_byte _) (g := (mkF m 11 #[.val (.ref a), .val (.ref t), .val (.int (0 : Int32))] [(.int (0 : Int32)), (.ref a)])) rfl rfl (hb hby d18_11)
  have sz5 := W5.size
  have Fw5 := cf_4.same W5
  have N5 := Fr.snoc X5 N2 (g : n0 ≤ a)
  refine go_of (B := (T5.setTop (mkF m 14 #[.val (.ref a), .val (.ref t), .val (.int (0 : Int32))] []))) (st5) ?_
  have cf_6 := ((V.other W2 (by first | omega | exact own_ne (by omega) | exact own_le (by omega) | exact own_lt (by omega))).other W5 (by first | omega | exact own_ne (by omega) | exact own_le (by omega) | exact own_lt (by omega)))
  have cf_7 := (Fw2.other W5 (Or.inr (slot_ne (Or.inr (wd 21 rfl)) (Or.inr (wd 22 rfl)) (by decide) (t := (.array .byte)) (t' := .byte) (by decide) (by decide))))
  have cf_8 := (cf_3.wr W5)
  refine go_end X5 (v := none) (fun _ => rfl) Bd.notSynchronized (by decide) (by decide) (Q := (Q_v_ibb Z a t c0 k u u2 h0 n0)) ?_ (fun fs hr => X5.returnOut hx Bd.returns (hb hby d18_14) hr)
  unfold Q_v_ibb
  try rw [e5]
  exact ⟨rfl, N5, (((Keep.refl h0 [a]).wr W2 (Or.inl (List.mem_of_getElem? (i := 0) rfl))).wr W5 (Or.inl (List.mem_of_getElem? (i := 0) rfl))), ⟨t, k, cf_8, Fw5, cf_7, cf_6, (own_allc hc0 (fun _ q => nomatch q))⟩⟩
theorem d15_0 : decode jdk_42_method_139_code 0 = .ok (.getstatic 38, 3) := by decide +kernel
theorem d15_3 : decode jdk_42_method_139_code 3 = .ok (.ifCond .eq 23, 3) := by decide +kernel
theorem d15_6 : decode jdk_42_method_139_code 6 = .ok (.iload_n 0, 1) := by decide +kernel
theorem d15_7 : decode jdk_42_method_139_code 7 = .ok (.invokestatic 1015, 3) := by decide +kernel
theorem pd__C_Z : parseMethodDescriptor "(C)Z" = some ⟨[.char], some .boolean⟩ := by decide +kernel
theorem d15_10 : decode jdk_42_method_139_code 10 = .ok (.ifCond .eq 16, 3) := by decide +kernel
theorem d15_13 : decode jdk_42_method_139_code 13 = .ok (.new 10, 3) := by decide +kernel
theorem d15_16 : decode jdk_42_method_139_code 16 = .ok (.dup, 1) := by decide +kernel
theorem d15_17 : decode jdk_42_method_139_code 17 = .ok (.iload_n 0, 1) := by decide +kernel
theorem d15_18 : decode jdk_42_method_139_code 18 = .ok (.invokestatic 1018, 3) := by decide +kernel
theorem pd__C__B : parseMethodDescriptor "(C)[B" = some ⟨[.char], some (.array .byte)⟩ := by decide +kernel
theorem d15_21 : decode jdk_42_method_139_code 21 = .ok (.iconst 0, 1) := by decide +kernel
theorem d15_22 : decode jdk_42_method_139_code 22 = .ok (.invokespecial 209, 3) := by decide +kernel
theorem pd___BB_V : parseMethodDescriptor "([BB)V" = some ⟨[(.array .byte), .byte], none⟩ := by decide +kernel
theorem d15_25 : decode jdk_42_method_139_code 25 = .ok (.areturn, 1) := by decide +kernel
def Q_v_vof (Z : State) (c0 : Int32) (gC : Int32) (h0 : Heap) (n0 : Nat) (v : Option Value) (h : Heap) (L : List Loc) : Prop := ∃ t : Addr, v = some (.ref t) ∧ Fr n0 L ∧ h0.size ≤ t ∧ Keep h0 h [] ∧ Str Z h t 1 [c0]
theorem ef_v_vof (m : MethodId) (c0 : Int32)  : entryFrame m #[(.int c0)] 1 = mkF m 0 #[.val (.int c0)] [] := by first | (simp [entryFrame, mkF, argsToLocals, Value.category]; done) | rfl
theorem v_vof (l : Launch) (Z : State) (a0 : Array Value) (hw : TW a0 Z) (ws : List Jvm.Cond) (c0 : Int32) (gC : Int32) (h0 : Heap) (n0 : Nat) (Z0 : n0 ≤ h0.size) (O : Old Z n0 h0) (SC : Sta Z Z.heap "java/lang/String" "COMPACT_STRINGS" "Z" (.int gC)) (hgC : ¬ gC = (0 : Int32)) (hc0 : ¬ c0 < 0 ∧ ¬ (255 : Int32) < c0) :
    own_MF l Z MN20 jdk_42_method_139_code 1 (some (.object "java/lang/String")) ws (own_R 2 2 5 27) #[(.int c0)] h0 (Q_v_vof Z c0 gC h0 n0) := by
  have wd := @own_wd _ _ hw
  refine MetFree.of_bodySF (plainFor_of_name pn_java_lang_String) hisR ?_
  intro p e s m args below meth c s₁ Bd hml0 hP hK
  obtain ⟨rfl, hZ, hh⟩ := hP
  have hx := Bd.exec
  have hby := Bd.bytes
  have hml : c.maxLocals = 1 := hml0
  have hown : s.vm.findClass "java/lang/String" = some m.cls := findClass_of_methodNamed Bd.named
  have hnm := (name_of_methodNamed Bd.named Bd.method).1
  have X0 : Stand p l e (own_R 2 2 5 27) s m #[(.int c0)] below meth c s₁ [] 0 0 := Stand.of_body Bd
  have e0 : s₁.heap = h0 := by rw [← hh, Bd.state]; rfl
  have N0 := Fr.nil n0
  refine go_of (A := s₁.setTop (entryFrame m #[(.int c0)] 1)) (B := s₁.setTop (mkF m 0 #[.val (.int c0)] [])) (fun _ kk' => castTop (ef_v_vof m c0) kk') ?_
  obtain ⟨T1, X1, e1, st1⟩ := getS2 X0 hx hZ hown (host := "") (Or.inl (wd 46 rfl)) Via.refl e0 (SC.ext O.2) (g := (mkF m 0 #[.val (.int c0)] [])) rfl (hb hby d15_0)
  refine go_of (B := (T1.setTop (mkF m 3 #[.val (.int c0)] [(.int gC)]))) (st1) ?_
  refine go_of (B := (T1.setTop (mkF m 7 #[.val (.int c0)] [(.int c0)]))) (fun _ kk => XS.ifNo X1.here hx rfl (hb hby d15_3) rfl ((if0 _ _).trans (feq hgC).1) (XS.iloadN X1.here hx rfl (hb hby d15_6) rfl kk)) ?_
  obtain ⟨_, _, ⟨T2, L2, k2, n2⟩, -, X2, ⟨Lc2, hQ2, l2, y2, z2⟩, st2⟩ := Jvm.LawKit.callS X1 hx (y := (⟨"java/lang/StringLatin1", "canEncode", "(C)Z"⟩ : MethodName)) hown (mvT hZ (wd 74 rfl)) (mvT hZ (wd 75 rfl)) (mvT hZ (wd 59 rfl)) (mvT hZ (wd 76 rfl)) (by decide) (backOf (W := 0) (v_can l Z a0 hw [] c0 h0 n0 (by omega) hc0) hZ (wd 76 rfl) (wd 59 rfl) (by decide) (by decide)) (g := (mkF m 7 #[.val (.int c0)] [(.int c0)])) rfl (by rw [hml]; rfl) (argsL := [(.int c0)]) (rest := []) (lenOf pd__C_Z rfl) rfl (by show 2 * 0 + _ ≤ _; exact Nat.le_of_eq rfl) (hb hby d15_7) (fun _ _ => ⟨rfl, e1, (by decide : 0 + 0 ≤ _), (by decide : 0 + 0 ≤ _)⟩)
  dsimp only [Pt.U, Pt.locs, Pt.cells, Pt.slots] at X2 l2 y2 z2 st2 hQ2
  subst l2 y2 z2
  obtain ⟨rfl, N2q, e2⟩ := hQ2
  have N2 := Fr.app N0 N2q
  refine go_of (B := (T2.setTop (mkF m 10 #[.val (.int c0)] [(.int (1 : Int32))]))) (st2) ?_
  refine go_of (B := (T2.setTop (mkF m 13 #[.val (.int c0)] []))) (fun _ kk => XS.ifNo X2.here hx rfl (hb hby d15_10) rfl ((if0 _ _).trans (feq (by decide : ¬ ((1 : Int32) = (0 : Int32)))).1) kk) ?_
  obtain ⟨T3, h3, X3, e3, E3, A3, D3, -, st3⟩ := newO X2 hx hZ hown (wd 77 rfl) (wd 6 rfl) (wd 7 rfl) e2 (g := (mkF m 13 #[.val (.int c0)] [])) rfl (hb hby d15_13) (by decide) (by decide)
  obtain ⟨b3, g3⟩ : ∃ z, z = h0.size := ⟨_, rfl⟩
  rw [← g3] at A3 D3 st3
  have hi3 := own_nlt A3.lt
  have sz3 := E3.1
  have F3_value : Fld Z h3 b3 "java/lang/String" "value" "[B" .null := D3 (Or.inr (wd 21 rfl)) (ty := (.array .byte)) (by decide)
  have F3_coder : Fld Z h3 b3 "java/lang/String" "coder" "B" (.int (0 : Int32)) := D3 (Or.inr (wd 22 rfl)) (ty := .byte) (by decide)
  refine go_of (B := (T3.setTop (mkF m 16 #[.val (.int c0)] [(.ref b3)]))) (st3) ?_
  refine go_of (B := (T3.setTop (mkF m 18 #[.val (.int c0)] [(.int c0), (.ref b3), (.ref b3)]))) (fun _ kk => XS.dup X3.here hx rfl (hb hby d15_16) rfl rfl (XS.iloadN X3.here hx rfl (hb hby d15_17) rfl kk)) ?_
  obtain ⟨_, _, ⟨T4, L4, k4, n4⟩, -, X4, ⟨Lc4, hQ4, l4, y4, z4⟩, st4⟩ := Jvm.LawKit.callS X3 hx (y := (⟨"java/lang/StringLatin1", "toBytes", "(C)[B"⟩ : MethodName)) hown (mvT hZ (wd 78 rfl)) (mvT hZ (wd 79 rfl)) (mvT hZ (wd 59 rfl)) (mvT hZ (wd 80 rfl)) (by decide) (backOf (W := 2) (v_tob l Z a0 hw [] c0 h3 n0 (by omega)) hZ (wd 80 rfl) (wd 59 rfl) (by decide) (by decide)) (g := (mkF m 18 #[.val (.int c0)] [(.int c0), (.ref b3), (.ref b3)])) rfl (by rw [hml]; rfl) (argsL := [(.int c0)]) (rest := [(.ref b3), (.ref b3)]) (lenOf pd__C__B rfl) rfl (by show 2 * 0 + _ ≤ _; exact Nat.le_of_eq rfl) (hb hby d15_18) (fun _ _ => ⟨rfl, e3, (by decide : 1 + 1 ≤ _), (by decide : 4 + 1 ≤ _)⟩)
  dsimp only [Pt.U, Pt.locs, Pt.cells, Pt.slots] at X4 l4 y4 z4 st4 hQ4
  subst l4 y4 z4
  obtain ⟨b4, k4, rfl, N4q, lo4, K4, V4⟩ := hQ4
  have lo4 := own_nle lo4
  have N4 := Fr.app N2 N4q
  have hi4 := own_nlt (V4.lt)
  have sz4 := K4.1
  refine go_of (B := (T4.setTop (mkF m 21 #[.val (.int c0)] [(.ref b4), (.ref b3), (.ref b3)]))) (st4) ?_
  refine go_of (B := (T4.setTop (mkF m 22 #[.val (.int c0)] [(.int (0 : Int32)), (.ref b4), (.ref b3), (.ref b3)]))) (fun _ kk => XS.iconst X4.here hx rfl (hb hby d15_21) kk) ?_
  have cf_5 := (A3.keep K4)
  have cf_6 := (F3_value.keep K4 nin0)
  have cf_7 := (F3_coder.keep K4 nin0)
  obtain ⟨_, _, ⟨T8, L8, k8, n8⟩, -, X8, ⟨Lc8, hQ8, l8, y8, z8⟩, st8⟩ := X4.specialBack hx (y := (⟨"java/lang/String", "<init>", "([BB)V"⟩ : MethodName)) rfl hown (mvT hZ (wd 81 rfl)) (mvT hZ (wd 82 rfl)) (mvT hZ (wd 83 rfl)) (by decide) (backOf (W := 1) (v_ibb l Z a0 hw [] b3 b4 c0 k4 _ _ T4.heap n0 (by omega) cf_5 cf_6 cf_7 (by first | omega | exact own_ne (by omega) | exact own_le (by omega) | exact own_lt (by omega)) V4 (by first | omega | exact own_ne (by omega) | exact own_le (by omega) | exact own_lt (by omega)) hc0) hZ (wd 83 rfl) (wd 7 rfl) (by decide) (by decide)) (g := (mkF m 22 #[.val (.int c0)] [(.int (0 : Int32)), (.ref b4), (.ref b3), (.ref b3)])) rfl (by rw [hml]; rfl) (Steps.refl _) (a := b3) (argsL := [(.ref b4), (.int (0 : Int32))]) (rest := [(.ref b3)]) (lenOf pd___BB_V rfl) rfl (by show 2 * 0 + _ ≤ _; exact Nat.le_of_eq rfl) (hb hby d15_22) (fun _ _ => ⟨rfl, rfl, (by decide : 2 + 0 ≤ _), (by decide : 5 + 0 ≤ _)⟩)
  dsimp only [Pt.U, Pt.locs, Pt.cells, Pt.slots] at X8 l8 y8 z8 st8 hQ8
  subst l8 y8 z8
  obtain ⟨rfl, N8q, K8, S8⟩ := hQ8
  have N8 := Fr.app N4 N8q
  have sz8 := K8.1
  refine go_tr (B := (T8.setTop (mkF m 25 #[.val (.int c0)] [(.ref b3)]))) (st8) ?_
  refine go_end X8 (v := some (.ref b3)) (fun h => by rw [Bd.returns] at h; cases h) Bd.notSynchronized (by decide) (by decide) (Q := (Q_v_vof Z c0 gC h0 n0)) ?_ (fun fs hr => own_retA X8 hx Bd.returns rfl rfl (hb hby d15_25) hr)
  unfold Q_v_vof
  exact ⟨b3, rfl, N8, by omega, ((((Keep.refl h0 []).ext E3).trans K4 all0).trans K8 (allS (Or.inr (by first | omega | exact own_ne (by omega) | exact own_le (by omega) | exact own_lt (by omega))) all0)), S8⟩
theorem d40_0 : decode jdk_52_method_21_code 0 = .ok (.iconst 0, 1) := by decide +kernel
theorem d40_1 : decode jdk_52_method_21_code 1 = .ok (.istore 5, 2) := by decide +kernel
theorem d40_3 : decode jdk_52_method_21_code 3 = .ok (.iload 5, 2) := by decide +kernel
theorem d40_5 : decode jdk_52_method_21_code 5 = .ok (.iload 4, 2) := by decide +kernel
theorem d40_7 : decode jdk_52_method_21_code 7 = .ok (.if_icmp .ge 37, 3) := by decide +kernel
theorem d40_10 : decode jdk_52_method_21_code 10 = .ok (.aload_n 0, 1) := by decide +kernel
theorem d40_11 : decode jdk_52_method_21_code 11 = .ok (.iload_n 1, 1) := by decide +kernel
theorem d40_12 : decode jdk_52_method_21_code 12 = .ok (.caload, 1) := by decide +kernel
theorem d40_13 : decode jdk_52_method_21_code 13 = .ok (.istore 6, 2) := by decide +kernel
theorem d40_15 : decode jdk_52_method_21_code 15 = .ok (.iload 6, 2) := by decide +kernel
theorem d40_17 : decode jdk_52_method_21_code 17 = .ok (.sipush 255, 3) := by decide +kernel
theorem d40_20 : decode jdk_52_method_21_code 20 = .ok (.if_icmp .le 6, 3) := by decide +kernel
theorem d40_26 : decode jdk_52_method_21_code 26 = .ok (.aload_n 2, 1) := by decide +kernel
theorem d40_27 : decode jdk_52_method_21_code 27 = .ok (.iload_n 3, 1) := by decide +kernel
theorem d40_28 : decode jdk_52_method_21_code 28 = .ok (.iload 6, 2) := by decide +kernel
theorem d40_30 : decode jdk_52_method_21_code 30 = .ok (.i2b, 1) := by decide +kernel
theorem d40_31 : decode jdk_52_method_21_code 31 = .ok (.bastore, 1) := by decide +kernel
theorem d40_32 : decode jdk_52_method_21_code 32 = .ok (.iinc 1 1, 3) := by decide +kernel
theorem d40_35 : decode jdk_52_method_21_code 35 = .ok (.iinc 3 1, 3) := by decide +kernel
theorem d40_38 : decode jdk_52_method_21_code 38 = .ok (.iinc 5 1, 3) := by decide +kernel
theorem d40_41 : decode jdk_52_method_21_code 41 = .ok (.goto (-38), 3) := by decide +kernel
theorem d40_44 : decode jdk_52_method_21_code 44 = .ok (.iload 4, 2) := by decide +kernel
theorem d40_46 : decode jdk_52_method_21_code 46 = .ok (.ireturn, 1) := by decide +kernel
def Q_str_c5_2 (Z : State) (s' : Addr) (d : Addr) (c0 : Int32) (c1 : Int32) (ks : ClassId) (kd : ClassId) (h0 : Heap) (n0 : Nat) (v : Option Value) (h : Heap) (L : List Loc) : Prop := v = some (.int 2) ∧ Fr n0 L ∧ Keep h0 h [d] ∧ Arv Z h d kd .byte 2 [(.int (own_b8 c0)), (.int (own_b8 c1))] (.int 0)
theorem pn_java_lang_StringUTF16 : plainName "java/lang/StringUTF16" = true := by first | (simp [plainName, overriddenIn]; done) | decide +kernel
theorem ef_str_c5_2 (m : MethodId) (s' : Addr) (d : Addr)  : entryFrame m #[(.ref s'), (.int (0 : Int32)), (.ref d), (.int (0 : Int32)), (.int (2 : Int32))] 7 = mkF m 0 #[.val (.ref s'), .val (.int (0 : Int32)), .val (.ref d), .val (.int (0 : Int32)), .val (.int (2 : Int32)), .unset, .unset] [] := by first | (simp [entryFrame, mkF, argsToLocals, Value.category]; done) | rfl
theorem str_c5_2 (l : Launch) (Z : State) (a0 : Array Value) (hw : TW a0 Z) (ws : List Jvm.Cond) (s' : Addr) (d : Addr) (c0 : Int32) (c1 : Int32) (ks : ClassId) (kd : ClassId) (h0 : Heap) (n0 : Nat) (Z0 : n0 ≤ h0.size) (Vs : Arv Z h0 s' ks .char 2 [(.int c0), (.int c1)] (.int 0)) (Vd : Arv Z h0 d kd .byte 2 [(.int 0), (.int 0)] (.int 0)) (nsd : s' ≠ d) (g : n0 ≤ d) (hc0 : ¬ c0 < 0 ∧ ¬ (255 : Int32) < c0) (hc1 : ¬ c1 < 0 ∧ ¬ (255 : Int32) < c1) :
    own_MF l Z MN28 jdk_52_method_21_code 7 (some .int) ws (own_R 0 0 0 0) #[(.ref s'), (.int (0 : Int32)), (.ref d), (.int (0 : Int32)), (.int (2 : Int32))] h0 (Q_str_c5_2 Z s' d c0 c1 ks kd h0 n0) := by
  have wd := @own_wd _ _ hw
  refine MetFree.of_bodySF (plainFor_of_name pn_java_lang_StringUTF16) hisR ?_
  intro p e s m args below meth c s₁ Bd hml0 hP hK
  obtain ⟨rfl, hZ, hh⟩ := hP
  have hx := Bd.exec
  have hby := Bd.bytes
  have hml : c.maxLocals = 7 := hml0
  have hown : s.vm.findClass "java/lang/StringUTF16" = some m.cls := findClass_of_methodNamed Bd.named
  have hnm := (name_of_methodNamed Bd.named Bd.method).1
  have X0 : Stand p l e (own_R 0 0 0 0) s m #[(.ref s'), (.int (0 : Int32)), (.ref d), (.int (0 : Int32)), (.int (2 : Int32))] below meth c s₁ [] 0 0 := Stand.of_body Bd
  have e0 : s₁.heap = h0 := by rw [← hh, Bd.state]; rfl
  have N0 := Fr.nil n0
  have lts := own_nlt (Vs.lt)
  have ltd := own_nlt (Vd.lt)
  refine go_of (A := s₁.setTop (entryFrame m #[(.ref s'), (.int (0 : Int32)), (.ref d), (.int (0 : Int32)), (.int (2 : Int32))] 7)) (B := s₁.setTop (mkF m 0 #[.val (.ref s'), .val (.int (0 : Int32)), .val (.ref d), .val (.int (0 : Int32)), .val (.int (2 : Int32)), .unset, .unset] [])) (fun _ kk' => castTop (ef_str_c5_2 m s' d) kk') ?_
  refine go_of (B := (s₁.setTop (mkF m 11 #[.val (.ref s'), .val (.int (0 : Int32)), .val (.ref d), .val (.int (0 : Int32)), .val (.int (2 : Int32)), .val (.int (0 : Int32)), .unset] [(.ref s')]))) (fun _ kk => XS.iconst X0.here hx rfl (hb hby d40_0) (XS.istore X0.here hx rfl (hb hby d40_1) rfl rfl (XS.iload X0.here hx rfl (hb hby d40_3) rfl (XS.iload X0.here hx rfl (hb hby d40_5) rfl (XS.icmpNo X0.here hx rfl (hb hby d40_7) rfl (tlt (by decide : (0 : Int32) < (2 : Int32))).2.1 (XS.aloadN X0.here hx rfl (hb hby d40_10) rfl rfl kk)))))) ?_
  refine go_of (B := (s₁.setTop (mkF m 12 #[.val (.ref s'), .val (.int (0 : Int32)), .val (.ref d), .val (.int (0 : Int32)), .val (.int (2 : Int32)), .val (.int (0 : Int32)), .unset] [(.int (0 : Int32)), (.ref s')]))) (fun _ kk => XS.iloadN X0.here hx rfl (hb hby d40_11) rfl kk) ?_
  obtain ⟨cl1, Ar1, q1, Sz1, Nn1, Hh1, G1⟩ := id (Vs)
  refine go_of (B := (s₁.setTop (mkF m 27 #[.val (.ref s'), .val (.int (0 : Int32)), .val (.ref d), .val (.int (0 : Int32)), .val (.int (2 : Int32)), .val (.int (0 : Int32)), .val (.int c0)] [(.ref d)]))) (fun _ kk => X0.caload hx (j := (0 : Int32)) (v := (.int c0)) (by rw [e0]; exact Ar1.1) (State.isArrayOf_alike hZ.alike Ar1.2.1) Ar1.2.2 (inb_of Sz1 ⟨by decide, by decide⟩) (Hh1.at (inb_of Sz1 ⟨by decide, by decide⟩) rfl) (g := (mkF m 12 #[.val (.ref s'), .val (.int (0 : Int32)), .val (.ref d), .val (.int (0 : Int32)), .val (.int (2 : Int32)), .val (.int (0 : Int32)), .unset] [(.int (0 : Int32)), (.ref s')])) rfl rfl (hb hby d40_12) _ (XS.istore X0.here hx rfl (hb hby d40_13) rfl rfl (XS.iload X0.here hx rfl (hb hby d40_15) rfl (XS.sipush X0.here hx rfl (hb hby d40_17) (XS.icmpYes X0.here hx rfl (pc0 := 20) (pc' := 26) rfl (hb hby d40_20) rfl (flt hc0.2).2.2.2 (by decide) (by decide) (XS.aloadN X0.here hx rfl (hb hby d40_26) rfl rfl kk)))))) ?_
  refine go_of (B := (s₁.setTop (mkF m 31 #[.val (.ref s'), .val (.int (0 : Int32)), .val (.ref d), .val (.int (0 : Int32)), .val (.int (2 : Int32)), .val (.int (0 : Int32)), .val (.int c0)] [(.int (c0.toInt8.toInt32)), (.int (0 : Int32)), (.ref d)]))) (fun _ kk => XS.iloadN X0.here hx rfl (hb hby d40_27) rfl (XS.iload X0.here hx rfl (hb hby d40_28) rfl (XS.i2b X0.here hx rfl (hb hby d40_30) rfl kk))) ?_
  obtain ⟨cl2, Ar2, q2, Sz2, Nn2, Hh2, G2⟩ := id (Vd)
  obtain ⟨T3, h3, X3, e3, W3, st3⟩ := stB X0 hx hZ e0 Ar2 (j := (0 : Int32)) (inb_of Sz2 ⟨by decide, by decide⟩) (g := (mkF m 31 #[.val (.ref s'), .val (.int (0 : Int32)), .val (.ref d), .val (.int (0 : Int32)), .val (.int (2 : Int32)), .val (.int (0 : Int32)), .val (.int c0)] [(.int (c0.toInt8.toInt32)), (.int (0 : Int32)), (.ref d)])) rfl rfl (hb hby d40_31)
  have sz3 := W3.size
  have N3 := Fr.snoc X3 N0 (g : n0 ≤ d)
  have V3 : Arv Z h3 d kd .byte (2 : Int32) [(.int ((c0.toInt8.toInt32).toInt8.toInt32)), (.int (0 : Int32))] (.int (0 : Int32)) := Arv.set Ar2 q2 Sz2 Nn2 Hh2 G2 (fits_nar_byte _) W3 0 rfl (Nat.le_of_ble_eq_true rfl)
  rw [own_bb] at V3
  refine go_of (B := (T3.setTop (mkF m 32 #[.val (.ref s'), .val (.int (0 : Int32)), .val (.ref d), .val (.int (0 : Int32)), .val (.int (2 : Int32)), .val (.int (0 : Int32)), .val (.int c0)] []))) (st3) ?_
  refine go_of (B := (T3.setTop (mkF m 7 #[.val (.ref s'), .val (.int (1 : Int32)), .val (.ref d), .val (.int (1 : Int32)), .val (.int (2 : Int32)), .val (.int (1 : Int32)), .val (.int c0)] [(.int (2 : Int32)), (.int (1 : Int32))]))) (fun _ kk => XS.iinc X3.here hx rfl (hb hby d40_32) rfl rfl (XS.iinc X3.here hx rfl (hb hby d40_35) rfl rfl (XS.iinc X3.here hx rfl (hb hby d40_38) rfl rfl (XS.goto X3.here hx rfl (pc0 := 41) (pc' := 3) rfl (hb hby d40_41) (by decide) (by decide) (XS.iload X3.here hx rfl (hb hby d40_3) rfl (XS.iload X3.here hx rfl (hb hby d40_5) rfl kk)))))) ?_
  refine go_of (B := (T3.setTop (mkF m 12 #[.val (.ref s'), .val (.int (1 : Int32)), .val (.ref d), .val (.int (1 : Int32)), .val (.int (2 : Int32)), .val (.int (1 : Int32)), .val (.int c0)] [(.int (1 : Int32)), (.ref s')]))) (fun _ kk => XS.icmpNo X3.here hx rfl (hb hby d40_7) rfl (tlt (by decide : (1 : Int32) < (2 : Int32))).2.1 (XS.aloadN X3.here hx rfl (hb hby d40_10) rfl rfl (XS.iloadN X3.here hx rfl (hb hby d40_11) rfl kk))) ?_
  have cf_4 := (Vs.other W3 (by first | omega | exact own_ne (by omega) | exact own_le (by omega) | exact own_lt (by omega)))
  obtain ⟨cl5, Ar5, q5, Sz5, Nn5, Hh5, G5⟩ := id (cf_4)
  refine go_of (B := (T3.setTop (mkF m 27 #[.val (.ref s'), .val (.int (1 : Int32)), .val (.ref d), .val (.int (1 : Int32)), .val (.int (2 : Int32)), .val (.int (1 : Int32)), .val (.int c1)] [(.ref d)]))) (fun _ kk => X3.caload hx (j := (1 : Int32)) (v := (.int c1)) (by rw [e3]; exact Ar5.1) (State.isArrayOf_alike hZ.alike Ar5.2.1) Ar5.2.2 (inb_of Sz5 ⟨by decide, by decide⟩) (Hh5.at (inb_of Sz5 ⟨by decide, by decide⟩) rfl) (g := (mkF m 12 #[.val (.ref s'), .val (.int (1 : Int32)), .val (.ref d), .val (.int (1 : Int32)), .val (.int (2 : Int32)), .val (.int (1 : Int32)), .val (.int c0)] [(.int (1 : Int32)), (.ref s')])) rfl rfl (hb hby d40_12) _ (XS.istore X3.here hx rfl (hb hby d40_13) rfl rfl (XS.iload X3.here hx rfl (hb hby d40_15) rfl (XS.sipush X3.here hx rfl (hb hby d40_17) (XS.icmpYes X3.here hx rfl (pc0 := 20) (pc' := 26) rfl (hb hby d40_20) rfl (flt hc1.2).2.2.2 (by decide) (by decide) (XS.aloadN X3.here hx rfl (hb hby d40_26) rfl rfl kk)))))) ?_
  refine go_of (B := (T3.setTop (mkF m 31 #[.val (.ref s'), .val (.int (1 : Int32)), .val (.ref d), .val (.int (1 : Int32)), .val (.int (2 : Int32)), .val (.int (1 : Int32)), .val (.int c1)] [(.int (c1.toInt8.toInt32)), (.int (1 : Int32)), (.ref d)]))) (fun _ kk => XS.iloadN X3.here hx rfl (hb hby d40_27) rfl (XS.iload X3.here hx rfl (hb hby d40_28) rfl (XS.i2b X3.here hx rfl (hb hby d40_30) rfl kk))) ?_
  obtain ⟨cl6, Ar6, q6, Sz6, Nn6, Hh6, G6⟩ := id (V3)
  obtain ⟨T7, h7, X7, e7, W7, st7⟩ := stB X3 hx hZ e3 Ar6 (j := (1 : Int32)) (inb_of Sz6 ⟨by decide, by decide⟩) (g := (mkF m 31 #[.val (.ref s'), .val (.int (1 : Int32)), .val (.ref d), .val (.int (1 : Int32)), .val (.int (2 : Int32)), .val (.int (1 : Int32)), .val (.int c1)] [(.int (c1.toInt8.toInt32)), (.int (1 : Int32)), (.ref d)])) rfl rfl (hb hby d40_31)
  have sz7 := W7.size
  have N7 := Fr.snoc X7 N3 (g : n0 ≤ d)
  have V7 : Arv Z h7 d kd .byte (2 : Int32) [(.int (c0.toInt8.toInt32)), (.int ((c1.toInt8.toInt32).toInt8.toInt32))] (.int (0 : Int32)) := Arv.set Ar6 q6 Sz6 Nn6 Hh6 G6 (fits_nar_byte _) W7 1 rfl (Nat.le_of_ble_eq_true rfl)
  rw [own_bb] at V7
  refine go_of (B := (T7.setTop (mkF m 32 #[.val (.ref s'), .val (.int (1 : Int32)), .val (.ref d), .val (.int (1 : Int32)), .val (.int (2 : Int32)), .val (.int (1 : Int32)), .val (.int c1)] []))) (st7) ?_
  refine go_of (B := (T7.setTop (mkF m 7 #[.val (.ref s'), .val (.int (2 : Int32)), .val (.ref d), .val (.int (2 : Int32)), .val (.int (2 : Int32)), .val (.int (2 : Int32)), .val (.int c1)] [(.int (2 : Int32)), (.int (2 : Int32))]))) (fun _ kk => XS.iinc X7.here hx rfl (hb hby d40_32) rfl rfl (XS.iinc X7.here hx rfl (hb hby d40_35) rfl rfl (XS.iinc X7.here hx rfl (hb hby d40_38) rfl rfl (XS.goto X7.here hx rfl (pc0 := 41) (pc' := 3) rfl (hb hby d40_41) (by decide) (by decide) (XS.iload X7.here hx rfl (hb hby d40_3) rfl (XS.iload X7.here hx rfl (hb hby d40_5) rfl kk)))))) ?_
  refine go_of (B := (T7.setTop (mkF m 46 #[.val (.ref s'), .val (.int (2 : Int32)), .val (.ref d), .val (.int (2 : Int32)), .val (.int (2 : Int32)), .val (.int (2 : Int32)), .val (.int c1)] [(.int (2 : Int32))]))) (fun _ kk => XS.icmpYes X7.here hx rfl (pc0 := 7) (pc' := 44) rfl (hb hby d40_7) rfl (flt (by decide : ¬ ((2 : Int32) < (2 : Int32)))).2.1 (by decide) (by decide) (XS.iload X7.here hx rfl (hb hby d40_44) rfl kk)) ?_
  refine go_end X7 (v := some (.int (2 : Int32))) (fun h => by rw [Bd.returns] at h; cases h) Bd.notSynchronized (by decide) (by decide) (Q := (Q_str_c5_2 Z s' d c0 c1 ks kd h0 n0)) ?_ (fun fs hr => own_retI X7 hx Bd.returns (hb hby d40_46) hr)
  unfold Q_str_c5_2
  try rw [e7]
  exact ⟨rfl, N7, (((Keep.refl h0 [d]).wr W3 (Or.inl (List.mem_of_getElem? (i := 0) rfl))).wr W7 (Or.inl (List.mem_of_getElem? (i := 0) rfl))), V7⟩
theorem d39_0 : decode jdk_52_method_16_code 0 = .ok (.iload_n 2, 1) := by decide +kernel
theorem d39_1 : decode jdk_52_method_16_code 1 = .ok (.newarray .byte, 2) := by decide +kernel
theorem d39_3 : decode jdk_52_method_16_code 3 = .ok (.astore_n 3, 1) := by decide +kernel
theorem d39_4 : decode jdk_52_method_16_code 4 = .ok (.aload_n 0, 1) := by decide +kernel
theorem d39_5 : decode jdk_52_method_16_code 5 = .ok (.iload_n 1, 1) := by decide +kernel
theorem d39_6 : decode jdk_52_method_16_code 6 = .ok (.aload_n 3, 1) := by decide +kernel
theorem d39_7 : decode jdk_52_method_16_code 7 = .ok (.iconst 0, 1) := by decide +kernel
theorem d39_8 : decode jdk_52_method_16_code 8 = .ok (.iload_n 2, 1) := by decide +kernel
theorem d39_9 : decode jdk_52_method_16_code 9 = .ok (.invokestatic 115, 3) := by decide +kernel
theorem pd___CI_BII_I : parseMethodDescriptor "([CI[BII)I" = some ⟨[(.array .char), .int, (.array .byte), .int, .int], some .int⟩ := by decide +kernel
theorem d39_12 : decode jdk_52_method_16_code 12 = .ok (.istore 4, 2) := by decide +kernel
theorem d39_14 : decode jdk_52_method_16_code 14 = .ok (.iload 4, 2) := by decide +kernel
theorem d39_16 : decode jdk_52_method_16_code 16 = .ok (.iload_n 2, 1) := by decide +kernel
theorem d39_17 : decode jdk_52_method_16_code 17 = .ok (.if_icmp .eq 40, 3) := by decide +kernel
theorem d39_57 : decode jdk_52_method_16_code 57 = .ok (.aload_n 3, 1) := by decide +kernel
theorem d39_58 : decode jdk_52_method_16_code 58 = .ok (.areturn, 1) := by decide +kernel
def Q_str_c3_2 (Z : State) (s' : Addr) (c0 : Int32) (c1 : Int32) (ks : ClassId) (h0 : Heap) (n0 : Nat) (v : Option Value) (h : Heap) (L : List Loc) : Prop := ∃ (t : Addr) (k : ClassId), v = some (.ref t) ∧ Fr n0 L ∧ h0.size ≤ t ∧ Keep h0 h [] ∧ Arv Z h t k .byte 2 [(.int (own_b8 c0)), (.int (own_b8 c1))] (.int 0)
theorem ef_str_c3_2 (m : MethodId) (s' : Addr)  : entryFrame m #[(.ref s'), (.int (0 : Int32)), (.int (2 : Int32))] 6 = mkF m 0 #[.val (.ref s'), .val (.int (0 : Int32)), .val (.int (2 : Int32)), .unset, .unset, .unset] [] := by first | (simp [entryFrame, mkF, argsToLocals, Value.category]; done) | rfl
theorem str_c3_2 (l : Launch) (Z : State) (a0 : Array Value) (hw : TW a0 Z) (ws : List Jvm.Cond) (s' : Addr) (c0 : Int32) (c1 : Int32) (ks : ClassId) (h0 : Heap) (n0 : Nat) (Z0 : n0 ≤ h0.size) (Vs : Arv Z h0 s' ks .char 2 [(.int c0), (.int c1)] (.int 0)) (hc0 : ¬ c0 < 0 ∧ ¬ (255 : Int32) < c0) (hc1 : ¬ c1 < 0 ∧ ¬ (255 : Int32) < c1) :
    own_MF l Z MN27 jdk_52_method_16_code 6 (some (.array .byte)) ws (own_R 1 1 2 18) #[(.ref s'), (.int (0 : Int32)), (.int (2 : Int32))] h0 (Q_str_c3_2 Z s' c0 c1 ks h0 n0) := by
  have wd := @own_wd _ _ hw
  refine MetFree.of_bodySF (plainFor_of_name pn_java_lang_StringUTF16) hisR ?_
  intro p e s m args below meth c s₁ Bd hml0 hP hK
  obtain ⟨rfl, hZ, hh⟩ := hP
  have hx := Bd.exec
  have hby := Bd.bytes
  have hml : c.maxLocals = 6 := hml0
  have hown : s.vm.findClass "java/lang/StringUTF16" = some m.cls := findClass_of_methodNamed Bd.named
  have hnm := (name_of_methodNamed Bd.named Bd.method).1
  have X0 : Stand p l e (own_R 1 1 2 18) s m #[(.ref s'), (.int (0 : Int32)), (.int (2 : Int32))] below meth c s₁ [] 0 0 := Stand.of_body Bd
  have e0 : s₁.heap = h0 := by rw [← hh, Bd.state]; rfl
  have N0 := Fr.nil n0
  have lts := own_nlt (Vs.lt)
  refine go_of (A := s₁.setTop (entryFrame m #[(.ref s'), (.int (0 : Int32)), (.int (2 : Int32))] 6)) (B := s₁.setTop (mkF m 0 #[.val (.ref s'), .val (.int (0 : Int32)), .val (.int (2 : Int32)), .unset, .unset, .unset] [])) (fun _ kk' => castTop (ef_str_c3_2 m s') kk') ?_
  refine go_of (B := (s₁.setTop (mkF m 1 #[.val (.ref s'), .val (.int (0 : Int32)), .val (.int (2 : Int32)), .unset, .unset, .unset] [(.int (2 : Int32))]))) (fun _ kk => XS.iloadN X0.here hx rfl (hb hby d39_0) rfl kk) ?_
  obtain ⟨T1, h1, k1, X1, e1, E1, A1, st1⟩ := newP X0 hx hZ (wd 20 rfl) e0 (g := (mkF m 1 #[.val (.ref s'), .val (.int (0 : Int32)), .val (.int (2 : Int32)), .unset, .unset, .unset] [(.int (2 : Int32))])) rfl (hb hby d39_1) rfl (by decide) (cap := 2) (by decide) (by decide) (by decide) (by decide)
  obtain ⟨b1, g1⟩ : ∃ z, z = h0.size := ⟨_, rfl⟩
  rw [← g1] at A1 st1
  have hi1 := own_nlt A1.lt
  have sz1 := E1.1
  have V1 : Arv Z h1 b1 k1 .byte (2 : Int32) [(.int (0 : Int32)), (.int (0 : Int32))] (.int (0 : Int32)) := (Arv.new A1 (by decide)).pad (pad_rep [] (.int (0 : Int32)) 2)
  refine go_of (B := (T1.setTop (mkF m 3 #[.val (.ref s'), .val (.int (0 : Int32)), .val (.int (2 : Int32)), .unset, .unset, .unset] [(.ref b1)]))) (st1) ?_
  refine go_of (B := (T1.setTop (mkF m 9 #[.val (.ref s'), .val (.int (0 : Int32)), .val (.int (2 : Int32)), .val (.ref b1), .unset, .unset] [(.int (2 : Int32)), (.int (0 : Int32)), (.ref b1), (.int (0 : Int32)), (.ref s')]))) (fun _ kk => XS.astoreN X1.here hx rfl (hb hby d39_3) rfl rfl rfl (XS.aloadN X1.here hx rfl (hb hby d39_4) rfl rfl (XS.iloadN X1.here hx rfl (hb hby d39_5) rfl (XS.aloadN X1.here hx rfl (hb hby d39_6) rfl rfl (XS.iconst X1.here hx rfl (hb hby d39_7) (XS.iloadN X1.here hx rfl (hb hby d39_8) rfl kk)))))) ?_
  have cf_2 := (Vs.ext E1)
  obtain ⟨_, _, ⟨T3, L3, k3, n3⟩, -, X3, ⟨Lc3, hQ3, l3, y3, z3⟩, st3⟩ := Jvm.LawKit.callS X1 hx (y := MN28) hown (mvT hZ (wd 193 rfl)) (mvT hZ (wd 194 rfl)) (mvT hZ (wd 191 rfl)) (mvT hZ (wd 195 rfl)) (by decide) (backOf (W := 0) (str_c5_2 l Z a0 hw [] s' b1 c0 c1 ks k1 h1 n0 (by omega) cf_2 V1 (by first | omega | exact own_ne (by omega) | exact own_le (by omega) | exact own_lt (by omega)) (by first | omega | exact own_ne (by omega) | exact own_le (by omega) | exact own_lt (by omega)) hc0 hc1) hZ (wd 195 rfl) (wd 191 rfl) (by decide) (by decide)) (g := (mkF m 9 #[.val (.ref s'), .val (.int (0 : Int32)), .val (.int (2 : Int32)), .val (.ref b1), .unset, .unset] [(.int (2 : Int32)), (.int (0 : Int32)), (.ref b1), (.int (0 : Int32)), (.ref s')])) rfl (by rw [hml]; rfl) (argsL := [(.ref s'), (.int (0 : Int32)), (.ref b1), (.int (0 : Int32)), (.int (2 : Int32))]) (rest := []) (lenOf pd___CI_BII_I rfl) rfl (by show 2 * 0 + _ ≤ _; exact Nat.le_of_eq rfl) (hb hby d39_9) (fun _ _ => ⟨rfl, e1, (by decide : 1 + 0 ≤ _), (by decide : 2 + 0 ≤ _)⟩)
  dsimp only [Pt.U, Pt.locs, Pt.cells, Pt.slots] at X3 l3 y3 z3 st3 hQ3
  subst l3 y3 z3
  obtain ⟨rfl, N3q, K3, V3⟩ := hQ3
  have N3 := Fr.app N0 N3q
  have sz3 := K3.1
  refine go_of (B := (T3.setTop (mkF m 12 #[.val (.ref s'), .val (.int (0 : Int32)), .val (.int (2 : Int32)), .val (.ref b1), .unset, .unset] [(.int (2 : Int32))]))) (st3) ?_
  refine go_of (B := (T3.setTop (mkF m 58 #[.val (.ref s'), .val (.int (0 : Int32)), .val (.int (2 : Int32)), .val (.ref b1), .val (.int (2 : Int32)), .unset] [(.ref b1)]))) (fun _ kk => XS.istore X3.here hx rfl (hb hby d39_12) rfl rfl (XS.iload X3.here hx rfl (hb hby d39_14) rfl (XS.iloadN X3.here hx rfl (hb hby d39_16) rfl (XS.icmpYes X3.here hx rfl (pc0 := 17) (pc' := 57) rfl (hb hby d39_17) rfl (teq (by decide : (2 : Int32) = (2 : Int32))).1 (by decide) (by decide) (XS.aloadN X3.here hx rfl (hb hby d39_57) rfl rfl kk))))) ?_
  refine go_end X3 (v := some (.ref b1)) (fun h => by rw [Bd.returns] at h; cases h) Bd.notSynchronized (by decide) (by decide) (Q := (Q_str_c3_2 Z s' c0 c1 ks h0 n0)) ?_ (fun fs hr => own_retA X3 hx Bd.returns rfl rfl (hb hby d39_58) hr)
  unfold Q_str_c3_2
  exact ⟨b1, k1, rfl, N3, by omega, (((Keep.refl h0 []).ext E1).trans K3 (allS (Or.inr (by first | omega | exact own_ne (by omega) | exact own_le (by omega) | exact own_lt (by omega))) all0)), V3⟩
theorem d41_0 : decode jdk_52_method_15_code 0 = .ok (.iload_n 1, 1) := by decide +kernel
theorem d41_1 : decode jdk_52_method_15_code 1 = .ok (.aload_n 0, 1) := by decide +kernel
theorem d41_2 : decode jdk_52_method_15_code 2 = .ok (.arraylength, 1) := by decide +kernel
theorem d41_3 : decode jdk_52_method_15_code 3 = .ok (.isub, 1) := by decide +kernel
theorem d41_4 : decode jdk_52_method_15_code 4 = .ok (.bipush 31, 2) := by decide +kernel
theorem d41_6 : decode jdk_52_method_15_code 6 = .ok (.iushr, 1) := by decide +kernel
theorem d41_7 : decode jdk_52_method_15_code 7 = .ok (.i2b, 1) := by decide +kernel
theorem d41_8 : decode jdk_52_method_15_code 8 = .ok (.ireturn, 1) := by decide +kernel
def Q_str_cf_2 (Z : State) (t : Addr) (k : ClassId) (vs : List Value) (h0 : Heap) (n0 : Nat) (v : Option Value) (h : Heap) (L : List Loc) : Prop := v = some (.int 0) ∧ Fr n0 L ∧ h = h0
theorem ef_str_cf_2 (m : MethodId) (t : Addr)  : entryFrame m #[(.ref t), (.int (2 : Int32))] 2 = mkF m 0 #[.val (.ref t), .val (.int (2 : Int32))] [] := by first | (simp [entryFrame, mkF, argsToLocals, Value.category]; done) | rfl
theorem str_cf_2 (l : Launch) (Z : State) (a0 : Array Value) (hw : TW a0 Z) (ws : List Jvm.Cond) (t : Addr) (k : ClassId) (vs : List Value) (h0 : Heap) (n0 : Nat) (Z0 : n0 ≤ h0.size) (V : Arv Z h0 t k .byte 2 vs (.int 0)) :
    own_MF l Z MN26 jdk_52_method_15_code 2 (some .byte) ws (own_R 0 0 0 0) #[(.ref t), (.int (2 : Int32))] h0 (Q_str_cf_2 Z t k vs h0 n0) := by
  have wd := @own_wd _ _ hw
  refine MetFree.of_bodySF (plainFor_of_name pn_java_lang_StringUTF16) hisR ?_
  intro p e s m args below meth c s₁ Bd hml0 hP hK
  obtain ⟨rfl, hZ, hh⟩ := hP
  have hx := Bd.exec
  have hby := Bd.bytes
  have hml : c.maxLocals = 2 := hml0
  have hown : s.vm.findClass "java/lang/StringUTF16" = some m.cls := findClass_of_methodNamed Bd.named
  have hnm := (name_of_methodNamed Bd.named Bd.method).1
  have X0 : Stand p l e (own_R 0 0 0 0) s m #[(.ref t), (.int (2 : Int32))] below meth c s₁ [] 0 0 := Stand.of_body Bd
  have e0 : s₁.heap = h0 := by rw [← hh, Bd.state]; rfl
  have N0 := Fr.nil n0
  refine go_of (A := s₁.setTop (entryFrame m #[(.ref t), (.int (2 : Int32))] 2)) (B := s₁.setTop (mkF m 0 #[.val (.ref t), .val (.int (2 : Int32))] [])) (fun _ kk' => castTop (ef_str_cf_2 m t) kk') ?_
  refine go_of (B := (s₁.setTop (mkF m 2 #[.val (.ref t), .val (.int (2 : Int32))] [(.ref t), (.int (2 : Int32))]))) (fun _ kk => XS.iloadN X0.here hx rfl (hb hby d41_0) rfl (XS.aloadN X0.here hx rfl (hb hby d41_1) rfl rfl kk)) ?_
  obtain ⟨cl1, Ar1, q1, Sz1, Nn1, Hh1, G1⟩ := id (V)
  have ln1 := len_of Sz1 Nn1
  refine go_of (B := (s₁.setTop (mkF m 3 #[.val (.ref t), .val (.int (2 : Int32))] [(.int (2 : Int32)), (.int (2 : Int32))]))) (fun _ kk => X0.arraylength hx (by rw [e0]; exact Ar1.1) (State.isArrayOf_alike hZ.alike Ar1.2.1) (g := (mkF m 2 #[.val (.ref t), .val (.int (2 : Int32))] [(.ref t), (.int (2 : Int32))])) rfl rfl (hb hby d41_2) _ (by rw [ln1]; exact kk)) ?_
  refine go_of (B := (s₁.setTop (mkF m 8 #[.val (.ref t), .val (.int (2 : Int32))] [(.int (0 : Int32))]))) (fun _ kk => XS.isub X0.here hx rfl (hb hby d41_3) rfl (XS.bipush X0.here hx rfl (hb hby d41_4) (XS.iushr X0.here hx rfl (hb hby d41_6) rfl (XS.i2b X0.here hx rfl (hb hby d41_7) rfl kk)))) ?_
  refine go_end X0 (v := some (.int (nar .byte (0 : Int32)))) (fun h => by rw [Bd.returns] at h; cases h) Bd.notSynchronized (by decide) (by decide) (Q := (Q_str_cf_2 Z t k vs h0 n0)) ?_ (fun fs hr => retN X0 hx (t := .byte) Bd.returns (by simp) (hb hby d41_8) hr)
  unfold Q_str_cf_2
  try rw [e0]
  exact ⟨rfl, N0, rfl⟩
theorem d3_27 : decode jdk_42_method_149_code 27 = .ok (.getstatic 38, 3) := by decide +kernel
theorem d3_30 : decode jdk_42_method_149_code 30 = .ok (.ifCond .eq 28, 3) := by decide +kernel
theorem d3_33 : decode jdk_42_method_149_code 33 = .ok (.aload_n 1, 1) := by decide +kernel
theorem d3_34 : decode jdk_42_method_149_code 34 = .ok (.iload_n 2, 1) := by decide +kernel
theorem d3_35 : decode jdk_42_method_149_code 35 = .ok (.iload_n 3, 1) := by decide +kernel
theorem d3_36 : decode jdk_42_method_149_code 36 = .ok (.invokestatic 177, 3) := by decide +kernel
theorem pd___CII__B : parseMethodDescriptor "([CII)[B" = some ⟨[(.array .char), .int, .int], some (.array .byte)⟩ := by decide +kernel
theorem d3_39 : decode jdk_42_method_149_code 39 = .ok (.astore 5, 2) := by decide +kernel
theorem d3_41 : decode jdk_42_method_149_code 41 = .ok (.aload_n 0, 1) := by decide +kernel
theorem d3_42 : decode jdk_42_method_149_code 42 = .ok (.aload 5, 2) := by decide +kernel
theorem d3_44 : decode jdk_42_method_149_code 44 = .ok (.iload_n 3, 1) := by decide +kernel
theorem d3_45 : decode jdk_42_method_149_code 45 = .ok (.invokestatic 47, 3) := by decide +kernel
theorem pd___BI_B : parseMethodDescriptor "([BI)B" = some ⟨[(.array .byte), .int], some .byte⟩ := by decide +kernel
theorem d3_48 : decode jdk_42_method_149_code 48 = .ok (.putfield 15, 3) := by decide +kernel
theorem d3_51 : decode jdk_42_method_149_code 51 = .ok (.aload_n 0, 1) := by decide +kernel
theorem d3_52 : decode jdk_42_method_149_code 52 = .ok (.aload 5, 2) := by decide +kernel
theorem d3_54 : decode jdk_42_method_149_code 54 = .ok (.putfield 9, 3) := by decide +kernel
theorem d3_57 : decode jdk_42_method_149_code 57 = .ok (.return_, 1) := by decide +kernel
def Q_str_i4_2 (Z : State) (a : Addr) (s' : Addr) (c0 : Int32) (c1 : Int32) (ks : ClassId) (gC : Int32) (u : Value) (u2 : Value) (h0 : Heap) (n0 : Nat) (v : Option Value) (h : Heap) (L : List Loc) : Prop := v = none ∧ Fr n0 L ∧ Keep h0 h [a] ∧ Str Z h a 2 [c0, c1]
theorem ef_str_i4_2 (m : MethodId) (a : Addr) (s' : Addr)  : entryFrame m #[(.ref a), (.ref s'), (.int (0 : Int32)), (.int (2 : Int32)), .null] 6 = mkF m 0 #[.val (.ref a), .val (.ref s'), .val (.int (0 : Int32)), .val (.int (2 : Int32)), .val .null, .unset] [] := by first | (simp [entryFrame, mkF, argsToLocals, Value.category]; done) | rfl
theorem str_i4_2 (l : Launch) (Z : State) (a0 : Array Value) (hw : TW a0 Z) (ws : List Jvm.Cond) (a : Addr) (s' : Addr) (c0 : Int32) (c1 : Int32) (ks : ClassId) (gC : Int32) (u : Value) (u2 : Value) (h0 : Heap) (n0 : Nat) (Z0 : n0 ≤ h0.size) (O : Old Z n0 h0) (SC : Sta Z Z.heap "java/lang/String" "COMPACT_STRINGS" "Z" (.int gC)) (hgC : ¬ gC = (0 : Int32)) (E : Exa Z h0 a "java/lang/String") (F : Fld Z h0 a "java/lang/String" "value" "[B" u) (F2 : Fld Z h0 a "java/lang/String" "coder" "B" u2) (g : n0 ≤ a) (Vs : Arv Z h0 s' ks .char 2 [(.int c0), (.int c1)] (.int 0)) (hc0 : ¬ c0 < 0 ∧ ¬ (255 : Int32) < c0) (hc1 : ¬ c1 < 0 ∧ ¬ (255 : Int32) < c1) :
    own_MF l Z MN13 jdk_42_method_149_code 6 none ws (own_R 2 1 2 35) #[(.ref a), (.ref s'), (.int (0 : Int32)), (.int (2 : Int32)), .null] h0 (Q_str_i4_2 Z a s' c0 c1 ks gC u u2 h0 n0) := by
  have wd := @own_wd _ _ hw
  refine MetFree.of_bodySF (plainFor_of_name pn_java_lang_String) hisR ?_
  intro p e s m args below meth c s₁ Bd hml0 hP hK
  obtain ⟨rfl, hZ, hh⟩ := hP
  have hx := Bd.exec
  have hby := Bd.bytes
  have hml : c.maxLocals = 6 := hml0
  have hown : s.vm.findClass "java/lang/String" = some m.cls := findClass_of_methodNamed Bd.named
  have hnm := (name_of_methodNamed Bd.named Bd.method).1
  have X0 : Stand p l e (own_R 2 1 2 35) s m #[(.ref a), (.ref s'), (.int (0 : Int32)), (.int (2 : Int32)), .null] below meth c s₁ [] 0 0 := Stand.of_body Bd
  have e0 : s₁.heap = h0 := by rw [← hh, Bd.state]; rfl
  have N0 := Fr.nil n0
  have lta := own_nlt (E.lt)
  have lts := own_nlt (Vs.lt)
  refine go_of (A := s₁.setTop (entryFrame m #[(.ref a), (.ref s'), (.int (0 : Int32)), (.int (2 : Int32)), .null] 6)) (B := s₁.setTop (mkF m 0 #[.val (.ref a), .val (.ref s'), .val (.int (0 : Int32)), .val (.int (2 : Int32)), .val .null, .unset] [])) (fun _ kk' => castTop (ef_str_i4_2 m a s') kk') ?_
  refine go_of (B := (s₁.setTop (mkF m 1 #[.val (.ref a), .val (.ref s'), .val (.int (0 : Int32)), .val (.int (2 : Int32)), .val .null, .unset] [(.ref a)]))) (fun _ kk => XS.aloadN X0.here hx rfl (hb hby d3_0) rfl rfl kk) ?_
  obtain ⟨T1, X1, e1, st1⟩ := initO X0 hx hZ hown (wd 16 rfl) (wd 17 rfl) (wd 18 rfl) e0 (g := (mkF m 1 #[.val (.ref a), .val (.ref s'), .val (.int (0 : Int32)), .val (.int (2 : Int32)), .val .null, .unset] [(.ref a)])) rfl (by rw [hml]; rfl) rfl (hb hby d3_1) (by decide) (W := 0) (by show 2 * 0 + _ ≤ _; exact Nat.le_of_eq rfl) (by decide)
  refine go_of (B := (T1.setTop (mkF m 4 #[.val (.ref a), .val (.ref s'), .val (.int (0 : Int32)), .val (.int (2 : Int32)), .val .null, .unset] []))) (st1) ?_
  refine go_of (B := (T1.setTop (mkF m 27 #[.val (.ref a), .val (.ref s'), .val (.int (0 : Int32)), .val (.int (2 : Int32)), .val .null, .unset] []))) (fun _ kk => XS.iloadN X1.here hx rfl (hb hby d3_4) rfl (XS.ifYes X1.here hx rfl (pc0 := 5) (pc' := 27) rfl (hb hby d3_5) rfl ((if0 _ _).trans (feq (by decide : ¬ ((2 : Int32) = (0 : Int32)))).2) (by decide) (by decide) kk)) ?_
  obtain ⟨T2, X2, e2, st2⟩ := getS2 X1 hx hZ hown (host := "") (Or.inl (wd 46 rfl)) Via.refl e1 (SC.ext O.2) (g := (mkF m 27 #[.val (.ref a), .val (.ref s'), .val (.int (0 : Int32)), .val (.int (2 : Int32)), .val .null, .unset] [])) rfl (hb hby d3_27)
  refine go_of (B := (T2.setTop (mkF m 30 #[.val (.ref a), .val (.ref s'), .val (.int (0 : Int32)), .val (.int (2 : Int32)), .val .null, .unset] [(.int gC)]))) (st2) ?_
  refine go_of (B := (T2.setTop (mkF m 36 #[.val (.ref a), .val (.ref s'), .val (.int (0 : Int32)), .val (.int (2 : Int32)), .val .null, .unset] [(.int (2 : Int32)), (.int (0 : Int32)), (.ref s')]))) (fun _ kk => XS.ifNo X2.here hx rfl (hb hby d3_30) rfl ((if0 _ _).trans (feq hgC).1) (XS.aloadN X2.here hx rfl (hb hby d3_33) rfl rfl (XS.iloadN X2.here hx rfl (hb hby d3_34) rfl (XS.iloadN X2.here hx rfl (hb hby d3_35) rfl kk)))) ?_
  obtain ⟨_, _, ⟨T3, L3, k3, n3⟩, -, X3, ⟨Lc3, hQ3, l3, y3, z3⟩, st3⟩ := Jvm.LawKit.callS X2 hx (y := MN27) hown (mvT hZ (wd 189 rfl)) (mvT hZ (wd 190 rfl)) (mvT hZ (wd 191 rfl)) (mvT hZ (wd 192 rfl)) (by decide) (backOf (W := 0) (str_c3_2 l Z a0 hw [] s' c0 c1 ks h0 n0 (by omega) Vs hc0 hc1) hZ (wd 192 rfl) (wd 191 rfl) (by decide) (by decide)) (g := (mkF m 36 #[.val (.ref a), .val (.ref s'), .val (.int (0 : Int32)), .val (.int (2 : Int32)), .val .null, .unset] [(.int (2 : Int32)), (.int (0 : Int32)), (.ref s')])) rfl (by rw [hml]; rfl) (argsL := [(.ref s'), (.int (0 : Int32)), (.int (2 : Int32))]) (rest := []) (lenOf pd___CII__B rfl) rfl (by show 2 * 0 + _ ≤ _; exact Nat.le_of_eq rfl) (hb hby d3_36) (fun _ _ => ⟨rfl, e2, (by decide : 0 + 1 ≤ _), (by decide : 0 + 2 ≤ _)⟩)
  dsimp only [Pt.U, Pt.locs, Pt.cells, Pt.slots] at X3 l3 y3 z3 st3 hQ3
  subst l3 y3 z3
  obtain ⟨b3, k3, rfl, N3q, lo3, K3, V3⟩ := hQ3
  have lo3 := own_nle lo3
  have N3 := Fr.app N0 N3q
  have hi3 := own_nlt (V3.lt)
  have sz3 := K3.1
  refine go_of (B := (T3.setTop (mkF m 39 #[.val (.ref a), .val (.ref s'), .val (.int (0 : Int32)), .val (.int (2 : Int32)), .val .null, .unset] [(.ref b3)]))) (st3) ?_
  refine go_of (B := (T3.setTop (mkF m 45 #[.val (.ref a), .val (.ref s'), .val (.int (0 : Int32)), .val (.int (2 : Int32)), .val .null, .val (.ref b3)] [(.int (2 : Int32)), (.ref b3), (.ref a)]))) (fun _ kk => XS.astore X3.here hx rfl (hb hby d3_39) rfl rfl rfl (XS.aloadN X3.here hx rfl (hb hby d3_41) rfl rfl (XS.aload X3.here hx rfl (hb hby d3_42) rfl rfl (XS.iloadN X3.here hx rfl (hb hby d3_44) rfl kk)))) ?_
  obtain ⟨_, _, ⟨T4, L4, k4, n4⟩, -, X4, ⟨Lc4, hQ4, l4, y4, z4⟩, st4⟩ := Jvm.LawKit.callS X3 hx (y := MN26) hown (mvT hZ (wd 196 rfl)) (mvT hZ (wd 197 rfl)) (mvT hZ (wd 191 rfl)) (mvT hZ (wd 198 rfl)) (by decide) (backOf (W := 1) (str_cf_2 l Z a0 hw [] b3 k3 _ T3.heap n0 (by omega) V3) hZ (wd 198 rfl) (wd 191 rfl) (by decide) (by decide)) (g := (mkF m 45 #[.val (.ref a), .val (.ref s'), .val (.int (0 : Int32)), .val (.int (2 : Int32)), .val .null, .val (.ref b3)] [(.int (2 : Int32)), (.ref b3), (.ref a)])) rfl (by rw [hml]; rfl) (argsL := [(.ref b3), (.int (2 : Int32))]) (rest := [(.ref a)]) (lenOf pd___BI_B rfl) rfl (by show 2 * 0 + _ ≤ _; exact Nat.le_of_eq rfl) (hb hby d3_45) (fun _ _ => ⟨rfl, rfl, (by decide : 1 + 0 ≤ _), (by decide : 2 + 0 ≤ _)⟩)
  dsimp only [Pt.U, Pt.locs, Pt.cells, Pt.slots] at X4 l4 y4 z4 st4 hQ4
  subst l4 y4 z4
  obtain ⟨rfl, N4q, e4⟩ := hQ4
  have N4 := Fr.app N3 N4q
  refine go_of (B := (T4.setTop (mkF m 48 #[.val (.ref a), .val (.ref s'), .val (.int (0 : Int32)), .val (.int (2 : Int32)), .val .null, .val (.ref b3)] [(.int (0 : Int32)), (.ref a)]))) (st4) ?_
  have cf_5 := (E.keep K3)
  have cf_6 := (F2.keep K3 nin0)
  obtain ⟨T7, h7, X7, e7, W7, st7⟩ := putFN X4 hx hZ hown (wd 26 rfl) Via.refl e4 cf_6 cf_5 (Or.inr ⟨(wd 22 rfl), rfl, hnm⟩) (wd 6 rfl) (ty := .byte) (v' := (.int (nar .byte (0 : Int32)))) (by decide) rfl (fits_nar_byte _) (g := (mkF m 48 #[.val (.ref a), .val (.ref s'), .val (.int (0 : Int32)), .val (.int (2 : Int32)), .val .null, .val (.ref b3)] [(.int (0 : Int32)), (.ref a)])) rfl rfl (hb hby d3_48)
  have sz7 := W7.size
  have Fw7 := cf_6.same W7
  have N7 := Fr.snoc X7 N4 (g : n0 ≤ a)
  refine go_of (B := (T7.setTop (mkF m 51 #[.val (.ref a), .val (.ref s'), .val (.int (0 : Int32)), .val (.int (2 : Int32)), .val .null, .val (.ref b3)] []))) (st7) ?_
  refine go_of (B := (T7.setTop (mkF m 54 #[.val (.ref a), .val (.ref s'), .val (.int (0 : Int32)), .val (.int (2 : Int32)), .val .null, .val (.ref b3)] [(.ref b3), (.ref a)]))) (fun _ kk => XS.aloadN X7.here hx rfl (hb hby d3_51) rfl rfl (XS.aload X7.here hx rfl (hb hby d3_52) rfl rfl kk)) ?_
  have cf_8 := (cf_5.wr W7)
  have cf_9 := ((F.keep K3 nin0).other W7 (Or.inr (slot_ne (Or.inr (wd 21 rfl)) (Or.inr (wd 22 rfl)) (by decide) (t := (.array .byte)) (t' := .byte) (by decide) (by decide))))
  obtain ⟨T10, h10, X10, e10, W10, st10⟩ := putF X7 hx hZ hown (host := "") (Or.inl (wd 25 rfl)) Via.refl e7 cf_9 cf_8 (Or.inr ⟨(wd 21 rfl), rfl, hnm⟩) (wd 6 rfl) (ty := (.array .byte)) (by decide) rfl rfl (g := (mkF m 54 #[.val (.ref a), .val (.ref s'), .val (.int (0 : Int32)), .val (.int (2 : Int32)), .val .null, .val (.ref b3)] [(.ref b3), (.ref a)])) rfl rfl (hb hby d3_54)
  have sz10 := W10.size
  have Fw10 := cf_9.same W10
  have N10 := Fr.snoc X10 N7 (g : n0 ≤ a)
  refine go_of (B := (T10.setTop (mkF m 57 #[.val (.ref a), .val (.ref s'), .val (.int (0 : Int32)), .val (.int (2 : Int32)), .val .null, .val (.ref b3)] []))) (st10) ?_
  have cf_11 := ((V3.other W7 (by first | omega | exact own_ne (by omega) | exact own_le (by omega) | exact own_lt (by omega))).other W10 (by first | omega | exact own_ne (by omega) | exact own_le (by omega) | exact own_lt (by omega)))
  have cf_12 := (Fw7.other W10 (Or.inr (slot_ne (Or.inr (wd 22 rfl)) (Or.inr (wd 21 rfl)) (by decide) (t := .byte) (t' := (.array .byte)) (by decide) (by decide))))
  have cf_13 := (cf_8.wr W10)
  refine go_end X10 (v := none) (fun _ => rfl) Bd.notSynchronized (by decide) (by decide) (Q := (Q_str_i4_2 Z a s' c0 c1 ks gC u u2 h0 n0)) ?_ (fun fs hr => X10.returnOut hx Bd.returns (hb hby d3_57) hr)
  unfold Q_str_i4_2
  try rw [e10]
  exact ⟨rfl, N10, ((((Keep.refl h0 [a]).trans K3 all0).wr W7 (Or.inl (List.mem_of_getElem? (i := 0) rfl))).wr W10 (Or.inl (List.mem_of_getElem? (i := 0) rfl))), ⟨b3, k3, cf_13, cf_12, Fw10, cf_11, (own_allc hc0 (own_allc hc1 (fun _ q => nomatch q)))⟩⟩
def Q_str_i1_2 (Z : State) (a : Addr) (s' : Addr) (c0 : Int32) (c1 : Int32) (ks : ClassId) (gC : Int32) (u : Value) (u2 : Value) (h0 : Heap) (n0 : Nat) (v : Option Value) (h : Heap) (L : List Loc) : Prop := v = none ∧ Fr n0 L ∧ Keep h0 h [a] ∧ Str Z h a 2 [c0, c1]
theorem ef_str_i1_2 (m : MethodId) (a : Addr) (s' : Addr)  : entryFrame m #[(.ref a), (.ref s')] 2 = mkF m 0 #[.val (.ref a), .val (.ref s')] [] := by first | (simp [entryFrame, mkF, argsToLocals, Value.category]; done) | rfl
theorem str_i1_2 (l : Launch) (Z : State) (a0 : Array Value) (hw : TW a0 Z) (ws : List Jvm.Cond) (a : Addr) (s' : Addr) (c0 : Int32) (c1 : Int32) (ks : ClassId) (gC : Int32) (u : Value) (u2 : Value) (h0 : Heap) (n0 : Nat) (Z0 : n0 ≤ h0.size) (O : Old Z n0 h0) (SC : Sta Z Z.heap "java/lang/String" "COMPACT_STRINGS" "Z" (.int gC)) (hgC : ¬ gC = (0 : Int32)) (E : Exa Z h0 a "java/lang/String") (F : Fld Z h0 a "java/lang/String" "value" "[B" u) (F2 : Fld Z h0 a "java/lang/String" "coder" "B" u2) (g : n0 ≤ a) (Vs : Arv Z h0 s' ks .char 2 [(.int c0), (.int c1)] (.int 0)) (hc0 : ¬ c0 < 0 ∧ ¬ (255 : Int32) < c0) (hc1 : ¬ c1 < 0 ∧ ¬ (255 : Int32) < c1) :
    own_MF l Z MN12 jdk_42_method_3_code 2 none ws (own_R 3 1 2 52) #[(.ref a), (.ref s')] h0 (Q_str_i1_2 Z a s' c0 c1 ks gC u u2 h0 n0) := by
  have wd := @own_wd _ _ hw
  refine MetFree.of_bodySF (plainFor_of_name pn_java_lang_String) hisR ?_
  intro p e s m args below meth c s₁ Bd hml0 hP hK
  obtain ⟨rfl, hZ, hh⟩ := hP
  have hx := Bd.exec
  have hby := Bd.bytes
  have hml : c.maxLocals = 2 := hml0
  have hown : s.vm.findClass "java/lang/String" = some m.cls := findClass_of_methodNamed Bd.named
  have hnm := (name_of_methodNamed Bd.named Bd.method).1
  have X0 : Stand p l e (own_R 3 1 2 52) s m #[(.ref a), (.ref s')] below meth c s₁ [] 0 0 := Stand.of_body Bd
  have e0 : s₁.heap = h0 := by rw [← hh, Bd.state]; rfl
  have N0 := Fr.nil n0
  have lta := own_nlt (E.lt)
  have lts := own_nlt (Vs.lt)
  refine go_of (A := s₁.setTop (entryFrame m #[(.ref a), (.ref s')] 2)) (B := s₁.setTop (mkF m 0 #[.val (.ref a), .val (.ref s')] [])) (fun _ kk' => castTop (ef_str_i1_2 m a s') kk') ?_
  refine go_of (B := (s₁.setTop (mkF m 4 #[.val (.ref a), .val (.ref s')] [(.ref s'), (.int (0 : Int32)), (.ref s'), (.ref a)]))) (fun _ kk => XS.aloadN X0.here hx rfl (hb hby d2_0) rfl rfl (XS.aloadN X0.here hx rfl (hb hby d2_1) rfl rfl (XS.iconst X0.here hx rfl (hb hby d2_2) (XS.aloadN X0.here hx rfl (hb hby d2_3) rfl rfl kk)))) ?_
  obtain ⟨cl1, Ar1, q1, Sz1, Nn1, Hh1, G1⟩ := id (Vs)
  have ln1 := len_of Sz1 Nn1
  refine go_of (B := (s₁.setTop (mkF m 5 #[.val (.ref a), .val (.ref s')] [(.int (2 : Int32)), (.int (0 : Int32)), (.ref s'), (.ref a)]))) (fun _ kk => X0.arraylength hx (by rw [e0]; exact Ar1.1) (State.isArrayOf_alike hZ.alike Ar1.2.1) (g := (mkF m 4 #[.val (.ref a), .val (.ref s')] [(.ref s'), (.int (0 : Int32)), (.ref s'), (.ref a)])) rfl rfl (hb hby d2_4) _ (by rw [ln1]; exact kk)) ?_
  refine go_of (B := (s₁.setTop (mkF m 6 #[.val (.ref a), .val (.ref s')] [.null, (.int (2 : Int32)), (.int (0 : Int32)), (.ref s'), (.ref a)]))) (fun _ kk => XS.aconstNull X0.here hx rfl (hb hby d2_5) kk) ?_
  obtain ⟨_, _, ⟨T2, L2, k2, n2⟩, -, X2, ⟨Lc2, hQ2, l2, y2, z2⟩, st2⟩ := X0.specialBack hx (y := MN13) rfl hown (mvT hZ (wd 12 rfl)) (mvT hZ (wd 13 rfl)) (mvT hZ (wd 15 rfl)) (by decide) (backOf (W := 0) (str_i4_2 l Z a0 hw [] a s' c0 c1 ks gC u u2 h0 n0 Z0 O SC hgC E F F2 g Vs hc0 hc1) hZ (wd 15 rfl) (wd 7 rfl) (by decide) (by decide)) (g := (mkF m 6 #[.val (.ref a), .val (.ref s')] [.null, (.int (2 : Int32)), (.int (0 : Int32)), (.ref s'), (.ref a)])) rfl (by rw [hml]; rfl) (Steps.refl _) (a := a) (argsL := [(.ref s'), (.int (0 : Int32)), (.int (2 : Int32)), .null]) (rest := []) (lenOf pd___CIILjava_lang_Void__V rfl) rfl (by show 2 * 0 + _ ≤ _; exact Nat.le_of_eq rfl) (hb hby d2_6) (fun _ _ => ⟨rfl, e0, (by decide : 0 + 1 ≤ _), (by decide : 0 + 2 ≤ _)⟩)
  dsimp only [Pt.U, Pt.locs, Pt.cells, Pt.slots] at X2 l2 y2 z2 st2 hQ2
  subst l2 y2 z2
  obtain ⟨rfl, N2q, K2, S2⟩ := hQ2
  have N2 := Fr.app N0 N2q
  have sz2 := K2.1
  refine go_tr (B := (T2.setTop (mkF m 9 #[.val (.ref a), .val (.ref s')] []))) (st2) ?_
  refine go_end X2 (v := none) (fun _ => rfl) Bd.notSynchronized (by decide) (by decide) (Q := (Q_str_i1_2 Z a s' c0 c1 ks gC u u2 h0 n0)) ?_ (fun fs hr => X2.returnOut hx Bd.returns (hb hby d2_9) hr)
  unfold Q_str_i1_2
  exact ⟨rfl, N2, ((Keep.refl h0 [a]).trans K2 (allS (Or.inl (List.mem_of_getElem? (i := 0) rfl)) all0)), S2⟩
def Q_str_c5_3 (Z : State) (s' : Addr) (d : Addr) (c0 : Int32) (c1 : Int32) (c2 : Int32) (ks : ClassId) (kd : ClassId) (h0 : Heap) (n0 : Nat) (v : Option Value) (h : Heap) (L : List Loc) : Prop := v = some (.int 3) ∧ Fr n0 L ∧ Keep h0 h [d] ∧ Arv Z h d kd .byte 3 [(.int (own_b8 c0)), (.int (own_b8 c1)), (.int (own_b8 c2))] (.int 0)
theorem ef_str_c5_3 (m : MethodId) (s' : Addr) (d : Addr)  : entryFrame m #[(.ref s'), (.int (0 : Int32)), (.ref d), (.int (0 : Int32)), (.int (3 : Int32))] 7 = mkF m 0 #[.val (.ref s'), .val (.int (0 : Int32)), .val (.ref d), .val (.int (0 : Int32)), .val (.int (3 : Int32)), .unset, .unset] [] := by first | (simp [entryFrame, mkF, argsToLocals, Value.category]; done) | rfl
theorem str_c5_3 (l : Launch) (Z : State) (a0 : Array Value) (hw : TW a0 Z) (ws : List Jvm.Cond) (s' : Addr) (d : Addr) (c0 : Int32) (c1 : Int32) (c2 : Int32) (ks : ClassId) (kd : ClassId) (h0 : Heap) (n0 : Nat) (Z0 : n0 ≤ h0.size) (Vs : Arv Z h0 s' ks .char 3 [(.int c0), (.int c1), (.int c2)] (.int 0)) (Vd : Arv Z h0 d kd .byte 3 [(.int 0), (.int 0), (.int 0)] (.int 0)) (nsd : s' ≠ d) (g : n0 ≤ d) (hc0 : ¬ c0 < 0 ∧ ¬ (255 : Int32) < c0) (hc1 : ¬ c1 < 0 ∧ ¬ (255 : Int32) < c1) (hc2 : ¬ c2 < 0 ∧ ¬ (255 : Int32) < c2) :
    own_MF l Z MN28 jdk_52_method_21_code 7 (some .int) ws (own_R 0 0 0 0) #[(.ref s'), (.int (0 : Int32)), (.ref d), (.int (0 : Int32)), (.int (3 : Int32))] h0 (Q_str_c5_3 Z s' d c0 c1 c2 ks kd h0 n0) := by
  have wd := @own_wd _ _ hw
  refine MetFree.of_bodySF (plainFor_of_name pn_java_lang_StringUTF16) hisR ?_
  intro p e s m args below meth c s₁ Bd hml0 hP hK
  obtain ⟨rfl, hZ, hh⟩ := hP
  have hx := Bd.exec
  have hby := Bd.bytes
  have hml : c.maxLocals = 7 := hml0
  have hown : s.vm.findClass "java/lang/StringUTF16" = some m.cls := findClass_of_methodNamed Bd.named
  have hnm := (name_of_methodNamed Bd.named Bd.method).1
  have X0 : Stand p l e (own_R 0 0 0 0) s m #[(.ref s'), (.int (0 : Int32)), (.ref d), (.int (0 : Int32)), (.int (3 : Int32))] below meth c s₁ [] 0 0 := Stand.of_body Bd
  have e0 : s₁.heap = h0 := by rw [← hh, Bd.state]; rfl
  have N0 := Fr.nil n0
  have lts := own_nlt (Vs.lt)
  have ltd := own_nlt (Vd.lt)
  refine go_of (A := s₁.setTop (entryFrame m #[(.ref s'), (.int (0 : Int32)), (.ref d), (.int (0 : Int32)), (.int (3 : Int32))] 7)) (B := s₁.setTop (mkF m 0 #[.val (.ref s'), .val (.int (0 : Int32)), .val (.ref d), .val (.int (0 : Int32)), .val (.int (3 : Int32)), .unset, .unset] [])) (fun _ kk' => castTop (ef_str_c5_3 m s' d) kk') ?_
  refine go_of (B := (s₁.setTop (mkF m 11 #[.val (.ref s'), .val (.int (0 : Int32)), .val (.ref d), .val (.int (0 : Int32)), .val (.int (3 : Int32)), .val (.int (0 : Int32)), .unset] [(.ref s')]))) (fun _ kk => XS.iconst X0.here hx rfl (hb hby d40_0) (XS.istore X0.here hx rfl (hb hby d40_1) rfl rfl (XS.iload X0.here hx rfl (hb hby d40_3) rfl (XS.iload X0.here hx rfl (hb hby d40_5) rfl (XS.icmpNo X0.here hx rfl (hb hby d40_7) rfl (tlt (by decide : (0 : Int32) < (3 : Int32))).2.1 (XS.aloadN X0.here hx rfl (hb hby d40_10) rfl rfl kk)))))) ?_
  refine go_of (B := (s₁.setTop (mkF m 12 #[.val (.ref s'), .val (.int (0 : Int32)), .val (.ref d), .val (.int (0 : Int32)), .val (.int (3 : Int32)), .val (.int (0 : Int32)), .unset] [(.int (0 : Int32)), (.ref s')]))) (fun _ kk => XS.iloadN X0.here hx rfl (hb hby d40_11) rfl kk) ?_
  obtain ⟨cl1, Ar1, q1, Sz1, Nn1, Hh1, G1⟩ := id (Vs)
  refine go_of (B := (s₁.setTop (mkF m 27 #[.val (.ref s'), .val (.int (0 : Int32)), .val (.ref d), .val (.int (0 : Int32)), .val (.int (3 : Int32)), .val (.int (0 : Int32)), .val (.int c0)] [(.ref d)]))) (fun _ kk => X0.caload hx (j := (0 : Int32)) (v := (.int c0)) (by rw [e0]; exact Ar1.1) (State.isArrayOf_alike hZ.alike Ar1.2.1) Ar1.2.2 (inb_of Sz1 ⟨by decide, by decide⟩) (Hh1.at (inb_of Sz1 ⟨by decide, by decide⟩) rfl) (g := (mkF m 12 #[.val (.ref s'), .val (.int (0 : Int32)), .val (.ref d), .val (.int (0 : Int32)), .val (.int (3 : Int32)), .val (.int (0 : Int32)), .unset] [(.int (0 : Int32)), (.ref s')])) rfl rfl (hb hby d40_12) _ (XS.istore X0.here hx rfl (hb hby d40_13) rfl rfl (XS.iload X0.here hx rfl (hb hby d40_15) rfl (XS.sipush X0.here hx rfl (hb hby d40_17) (XS.icmpYes X0.here hx rfl (pc0 := 20) (pc' := 26) rfl (hb hby d40_20) rfl (flt hc0.2).2.2.2 (by decide) (by decide) (XS.aloadN X0.here hx rfl (hb hby d40_26) rfl rfl kk)))))) ?_
  refine go_of (B := (s₁.setTop (mkF m 31 #[.val (.ref s'), .val (.int (0 : Int32)), .val (.ref d), .val (.int (0 : Int32)), .val (.int (3 : Int32)), .val (.int (0 : Int32)), .val (.int c0)] [(.int (c0.toInt8.toInt32)), (.int (0 : Int32)), (.ref d)]))) (fun _ kk => XS.iloadN X0.here hx rfl (hb hby d40_27) rfl (XS.iload X0.here hx rfl (hb hby d40_28) rfl (XS.i2b X0.here hx rfl (hb hby d40_30) rfl kk))) ?_
  obtain ⟨cl2, Ar2, q2, Sz2, Nn2, Hh2, G2⟩ := id (Vd)
  obtain ⟨T3, h3, X3, e3, W3, st3⟩ := stB X0 hx hZ e0 Ar2 (j := (0 : Int32)) (inb_of Sz2 ⟨by decide, by decide⟩) (g := (mkF m 31 #[.val (.ref s'), .val (.int (0 : Int32)), .val (.ref d), .val (.int (0 : Int32)), .val (.int (3 : Int32)), .val (.int (0 : Int32)), .val (.int c0)] [(.int (c0.toInt8.toInt32)), (.int (0 : Int32)), (.ref d)])) rfl rfl (hb hby d40_31)
  have sz3 := W3.size
  have N3 := Fr.snoc X3 N0 (g : n0 ≤ d)
  have V3 : Arv Z h3 d kd .byte (3 : Int32) [(.int ((c0.toInt8.toInt32).toInt8.toInt32)), (.int (0 : Int32)), (.int (0 : Int32))] (.int (0 : Int32)) := Arv.set Ar2 q2 Sz2 Nn2 Hh2 G2 (fits_nar_byte _) W3 0 rfl (Nat.le_of_ble_eq_true rfl)
  rw [own_bb] at V3
  refine go_of (B := (T3.setTop (mkF m 32 #[.val (.ref s'), .val (.int (0 : Int32)), .val (.ref d), .val (.int (0 : Int32)), .val (.int (3 : Int32)), .val (.int (0 : Int32)), .val (.int c0)] []))) (st3) ?_
  refine go_of (B := (T3.setTop (mkF m 7 #[.val (.ref s'), .val (.int (1 : Int32)), .val (.ref d), .val (.int (1 : Int32)), .val (.int (3 : Int32)), .val (.int (1 : Int32)), .val (.int c0)] [(.int (3 : Int32)), (.int (1 : Int32))]))) (fun _ kk => XS.iinc X3.here hx rfl (hb hby d40_32) rfl rfl (XS.iinc X3.here hx rfl (hb hby d40_35) rfl rfl (XS.iinc X3.here hx rfl (hb hby d40_38) rfl rfl (XS.goto X3.here hx rfl (pc0 := 41) (pc' := 3) rfl (hb hby d40_41) (by decide) (by decide) (XS.iload X3.here hx rfl (hb hby d40_3) rfl (XS.iload X3.here hx rfl (hb hby d40_5) rfl kk)))))) ?_
  refine go_of (B := (T3.setTop (mkF m 12 #[.val (.ref s'), .val (.int (1 : Int32)), .val (.ref d), .val (.int (1 : Int32)), .val (.int (3 : Int32)), .val (.int (1 : Int32)), .val (.int c0)] [(.int (1 : Int32)), (.ref s')]))) (fun _ kk => XS.icmpNo X3.here hx rfl (hb hby d40_7) rfl (tlt (by decide : (1 : Int32) < (3 : Int32))).2.1 (XS.aloadN X3.here hx rfl (hb hby d40_10) rfl rfl (XS.iloadN X3.here hx rfl (hb hby d40_11) rfl kk))) ?_
  have cf_4 := (Vs.other W3 (by first | omega | exact own_ne (by omega) | exact own_le (by omega) | exact own_lt (by omega)))
  obtain ⟨cl5, Ar5, q5, Sz5, Nn5, Hh5, G5⟩ := id (cf_4)
  refine go_of (B := (T3.setTop (mkF m 27 #[.val (.ref s'), .val (.int (1 : Int32)), .val (.ref d), .val (.int (1 : Int32)), .val (.int (3 : Int32)), .val (.int (1 : Int32)), .val (.int c1)] [(.ref d)]))) (fun _ kk => X3.caload hx (j := (1 : Int32)) (v := (.int c1)) (by rw [e3]; exact Ar5.1) (State.isArrayOf_alike hZ.alike Ar5.2.1) Ar5.2.2 (inb_of Sz5 ⟨by decide, by decide⟩) (Hh5.at (inb_of Sz5 ⟨by decide, by decide⟩) rfl) (g := (mkF m 12 #[.val (.ref s'), .val (.int (1 : Int32)), .val (.ref d), .val (.int (1 : Int32)), .val (.int (3 : Int32)), .val (.int (1 : Int32)), .val (.int c0)] [(.int (1 : Int32)), (.ref s')])) rfl rfl (hb hby d40_12) _ (XS.istore X3.here hx rfl (hb hby d40_13) rfl rfl (XS.iload X3.here hx rfl (hb hby d40_15) rfl (XS.sipush X3.here hx rfl (hb hby d40_17) (XS.icmpYes X3.here hx rfl (pc0 := 20) (pc' := 26) rfl (hb hby d40_20) rfl (flt hc1.2).2.2.2 (by decide) (by decide) (XS.aloadN X3.here hx rfl (hb hby d40_26) rfl rfl kk)))))) ?_
  refine go_of (B := (T3.setTop (mkF m 31 #[.val (.ref s'), .val (.int (1 : Int32)), .val (.ref d), .val (.int (1 : Int32)), .val (.int (3 : Int32)), .val (.int (1 : Int32)), .val (.int c1)] [(.int (c1.toInt8.toInt32)), (.int (1 : Int32)), (.ref d)]))) (fun _ kk => XS.iloadN X3.here hx rfl (hb hby d40_27) rfl (XS.iload X3.here hx rfl (hb hby d40_28) rfl (XS.i2b X3.here hx rfl (hb hby d40_30) rfl kk))) ?_
  obtain ⟨cl6, Ar6, q6, Sz6, Nn6, Hh6, G6⟩ := id (V3)
  obtain ⟨T7, h7, X7, e7, W7, st7⟩ := stB X3 hx hZ e3 Ar6 (j := (1 : Int32)) (inb_of Sz6 ⟨by decide, by decide⟩) (g := (mkF m 31 #[.val (.ref s'), .val (.int (1 : Int32)), .val (.ref d), .val (.int (1 : Int32)), .val (.int (3 : Int32)), .val (.int (1 : Int32)), .val (.int c1)] [(.int (c1.toInt8.toInt32)), (.int (1 : Int32)), (.ref d)])) rfl rfl (hb hby d40_31)
  have sz7 := W7.size
  have N7 := Fr.snoc X7 N3 (g : n0 ≤ d)
  have V7 : Arv Z h7 d kd .byte (3 : Int32) [(.int (c0.toInt8.toInt32)), (.int ((c1.toInt8.toInt32).toInt8.toInt32)), (.int (0 : Int32))] (.int (0 : Int32)) := Arv.set Ar6 q6 Sz6 Nn6 Hh6 G6 (fits_nar_byte _) W7 1 rfl (Nat.le_of_ble_eq_true rfl)
  rw [own_bb] at V7
  refine go_of (B := (T7.setTop (mkF m 32 #[.val (.ref s'), .val (.int (1 : Int32)), .val (.ref d), .val (.int (1 : Int32)), .val (.int (3 : Int32)), .val (.int (1 : Int32)), .val (.int c1)] []))) (st7) ?_
  refine go_of (B := (T7.setTop (mkF m 7 #[.val (.ref s'), .val (.int (2 : Int32)), .val (.ref d), .val (.int (2 : Int32)), .val (.int (3 : Int32)), .val (.int (2 : Int32)), .val (.int c1)] [(.int (3 : Int32)), (.int (2 : Int32))]))) (fun _ kk => XS.iinc X7.here hx rfl (hb hby d40_32) rfl rfl (XS.iinc X7.here hx rfl (hb hby d40_35) rfl rfl (XS.iinc X7.here hx rfl (hb hby d40_38) rfl rfl (XS.goto X7.here hx rfl (pc0 := 41) (pc' := 3) rfl (hb hby d40_41) (by decide) (by decide) (XS.iload X7.here hx rfl (hb hby d40_3) rfl (XS.iload X7.here hx rfl (hb hby d40_5) rfl kk)))))) ?_
  refine go_of (B := (T7.setTop (mkF m 12 #[.val (.ref s'), .val (.int (2 : Int32)), .val (.ref d), .val (.int (2 : Int32)), .val (.int (3 : Int32)), .val (.int (2 : Int32)), .val (.int c1)] [(.int (2 : Int32)), (.ref s')]))) (fun _ kk => XS.icmpNo X7.here hx rfl (hb hby d40_7) rfl (tlt (by decide : (2 : Int32) < (3 : Int32))).2.1 (XS.aloadN X7.here hx rfl (hb hby d40_10) rfl rfl (XS.iloadN X7.here hx rfl (hb hby d40_11) rfl kk))) ?_
  have cf_8 := (cf_4.other W7 (by first | omega | exact own_ne (by omega) | exact own_le (by omega) | exact own_lt (by omega)))
  obtain ⟨cl9, Ar9, q9, Sz9, Nn9, Hh9, G9⟩ := id (cf_8)
  refine go_of (B := (T7.setTop (mkF m 27 #[.val (.ref s'), .val (.int (2 : Int32)), .val (.ref d), .val (.int (2 : Int32)), .val (.int (3 : Int32)), .val (.int (2 : Int32)), .val (.int c2)] [(.ref d)]))) (fun _ kk => X7.caload hx (j := (2 : Int32)) (v := (.int c2)) (by rw [e7]; exact Ar9.1) (State.isArrayOf_alike hZ.alike Ar9.2.1) Ar9.2.2 (inb_of Sz9 ⟨by decide, by decide⟩) (Hh9.at (inb_of Sz9 ⟨by decide, by decide⟩) rfl) (g := (mkF m 12 #[.val (.ref s'), .val (.int (2 : Int32)), .val (.ref d), .val (.int (2 : Int32)), .val (.int (3 : Int32)), .val (.int (2 : Int32)), .val (.int c1)] [(.int (2 : Int32)), (.ref s')])) rfl rfl (hb hby d40_12) _ (XS.istore X7.here hx rfl (hb hby d40_13) rfl rfl (XS.iload X7.here hx rfl (hb hby d40_15) rfl (XS.sipush X7.here hx rfl (hb hby d40_17) (XS.icmpYes X7.here hx rfl (pc0 := 20) (pc' := 26) rfl (hb hby d40_20) rfl (flt hc2.2).2.2.2 (by decide) (by decide) (XS.aloadN X7.here hx rfl (hb hby d40_26) rfl rfl kk)))))) ?_
  refine go_of (B := (T7.setTop (mkF m 31 #[.val (.ref s'), .val (.int (2 : Int32)), .val (.ref d), .val (.int (2 : Int32)), .val (.int (3 : Int32)), .val (.int (2 : Int32)), .val (.int c2)] [(.int (c2.toInt8.toInt32)), (.int (2 : Int32)), (.ref d)]))) (fun _ kk => XS.iloadN X7.here hx rfl (hb hby d40_27) rfl (XS.iload X7.here hx rfl (hb hby d40_28) rfl (XS.i2b X7.here hx rfl (hb hby d40_30) rfl kk))) ?_
  obtain ⟨cl10, Ar10, q10, Sz10, Nn10, Hh10, G10⟩ := id (V7)
  obtain ⟨T11, h11, X11, e11, W11, st11⟩ := stB X7 hx hZ e7 Ar10 (j := (2 : Int32)) (inb_of Sz10 ⟨by decide, by decide⟩) (g := (mkF m 31 #[.val (.ref s'), .val (.int (2 : Int32)), .val (.ref d), .val (.int (2 : Int32)), .val (.int (3 : Int32)), .val (.int (2 : Int32)), .val (.int c2)] [(.int (c2.toInt8.toInt32)), (.int (2 : Int32)), (.ref d)])) rfl rfl (hb hby d40_31)
  have sz11 := W11.size
  have N11 := Fr.snoc X11 N7 (g : n0 ≤ d)
  have V11 : Arv Z h11 d kd .byte (3 : Int32) [(.int (c0.toInt8.toInt32)), (.int (c1.toInt8.toInt32)), (.int ((c2.toInt8.toInt32).toInt8.toInt32))] (.int (0 : Int32)) := Arv.set Ar10 q10 Sz10 Nn10 Hh10 G10 (fits_nar_byte _) W11 2 rfl (Nat.le_of_ble_eq_true rfl)
  rw [own_bb] at V11
  refine go_of (B := (T11.setTop (mkF m 32 #[.val (.ref s'), .val (.int (2 : Int32)), .val (.ref d), .val (.int (2 : Int32)), .val (.int (3 : Int32)), .val (.int (2 : Int32)), .val (.int c2)] []))) (st11) ?_
  refine go_of (B := (T11.setTop (mkF m 7 #[.val (.ref s'), .val (.int (3 : Int32)), .val (.ref d), .val (.int (3 : Int32)), .val (.int (3 : Int32)), .val (.int (3 : Int32)), .val (.int c2)] [(.int (3 : Int32)), (.int (3 : Int32))]))) (fun _ kk => XS.iinc X11.here hx rfl (hb hby d40_32) rfl rfl (XS.iinc X11.here hx rfl (hb hby d40_35) rfl rfl (XS.iinc X11.here hx rfl (hb hby d40_38) rfl rfl (XS.goto X11.here hx rfl (pc0 := 41) (pc' := 3) rfl (hb hby d40_41) (by decide) (by decide) (XS.iload X11.here hx rfl (hb hby d40_3) rfl (XS.iload X11.here hx rfl (hb hby d40_5) rfl kk)))))) ?_
  refine go_of (B := (T11.setTop (mkF m 46 #[.val (.ref s'), .val (.int (3 : Int32)), .val (.ref d), .val (.int (3 : Int32)), .val (.int (3 : Int32)), .val (.int (3 : Int32)), .val (.int c2)] [(.int (3 : Int32))]))) (fun _ kk => XS.icmpYes X11.here hx rfl (pc0 := 7) (pc' := 44) rfl (hb hby d40_7) rfl (flt (by decide : ¬ ((3 : Int32) < (3 : Int32)))).2.1 (by decide) (by decide) (XS.iload X11.here hx rfl (hb hby d40_44) rfl kk)) ?_
  refine go_end X11 (v := some (.int (3 : Int32))) (fun h => by rw [Bd.returns] at h; cases h) Bd.notSynchronized (by decide) (by decide) (Q := (Q_str_c5_3 Z s' d c0 c1 c2 ks kd h0 n0)) ?_ (fun fs hr => own_retI X11 hx Bd.returns (hb hby d40_46) hr)
  unfold Q_str_c5_3
  try rw [e11]
  exact ⟨rfl, N11, ((((Keep.refl h0 [d]).wr W3 (Or.inl (List.mem_of_getElem? (i := 0) rfl))).wr W7 (Or.inl (List.mem_of_getElem? (i := 0) rfl))).wr W11 (Or.inl (List.mem_of_getElem? (i := 0) rfl))), V11⟩
def Q_str_c3_3 (Z : State) (s' : Addr) (c0 : Int32) (c1 : Int32) (c2 : Int32) (ks : ClassId) (h0 : Heap) (n0 : Nat) (v : Option Value) (h : Heap) (L : List Loc) : Prop := ∃ (t : Addr) (k : ClassId), v = some (.ref t) ∧ Fr n0 L ∧ h0.size ≤ t ∧ Keep h0 h [] ∧ Arv Z h t k .byte 3 [(.int (own_b8 c0)), (.int (own_b8 c1)), (.int (own_b8 c2))] (.int 0)
theorem ef_str_c3_3 (m : MethodId) (s' : Addr)  : entryFrame m #[(.ref s'), (.int (0 : Int32)), (.int (3 : Int32))] 6 = mkF m 0 #[.val (.ref s'), .val (.int (0 : Int32)), .val (.int (3 : Int32)), .unset, .unset, .unset] [] := by first | (simp [entryFrame, mkF, argsToLocals, Value.category]; done) | rfl
theorem str_c3_3 (l : Launch) (Z : State) (a0 : Array Value) (hw : TW a0 Z) (ws : List Jvm.Cond) (s' : Addr) (c0 : Int32) (c1 : Int32) (c2 : Int32) (ks : ClassId) (h0 : Heap) (n0 : Nat) (Z0 : n0 ≤ h0.size) (Vs : Arv Z h0 s' ks .char 3 [(.int c0), (.int c1), (.int c2)] (.int 0)) (hc0 : ¬ c0 < 0 ∧ ¬ (255 : Int32) < c0) (hc1 : ¬ c1 < 0 ∧ ¬ (255 : Int32) < c1) (hc2 : ¬ c2 < 0 ∧ ¬ (255 : Int32) < c2) :
    own_MF l Z MN27 jdk_52_method_16_code 6 (some (.array .byte)) ws (own_R 1 1 3 18) #[(.ref s'), (.int (0 : Int32)), (.int (3 : Int32))] h0 (Q_str_c3_3 Z s' c0 c1 c2 ks h0 n0) := by
  have wd := @own_wd _ _ hw
  refine MetFree.of_bodySF (plainFor_of_name pn_java_lang_StringUTF16) hisR ?_
  intro p e s m args below meth c s₁ Bd hml0 hP hK
  obtain ⟨rfl, hZ, hh⟩ := hP
  have hx := Bd.exec
  have hby := Bd.bytes
  have hml : c.maxLocals = 6 := hml0
  have hown : s.vm.findClass "java/lang/StringUTF16" = some m.cls := findClass_of_methodNamed Bd.named
  have hnm := (name_of_methodNamed Bd.named Bd.method).1
  have X0 : Stand p l e (own_R 1 1 3 18) s m #[(.ref s'), (.int (0 : Int32)), (.int (3 : Int32))] below meth c s₁ [] 0 0 := Stand.of_body Bd
  have e0 : s₁.heap = h0 := by rw [← hh, Bd.state]; rfl
  have N0 := Fr.nil n0
  have lts := own_nlt (Vs.lt)
  refine go_of (A := s₁.setTop (entryFrame m #[(.ref s'), (.int (0 : Int32)), (.int (3 : Int32))] 6)) (B := s₁.setTop (mkF m 0 #[.val (.ref s'), .val (.int (0 : Int32)), .val (.int (3 : Int32)), .unset, .unset, .unset] [])) (fun _ kk' => castTop (ef_str_c3_3 m s') kk') ?_
  refine go_of (B := (s₁.setTop (mkF m 1 #[.val (.ref s'), .val (.int (0 : Int32)), .val (.int (3 : Int32)), .unset, .unset, .unset] [(.int (3 : Int32))]))) (fun _ kk => XS.iloadN X0.here hx rfl (hb hby d39_0) rfl kk) ?_
  obtain ⟨T1, h1, k1, X1, e1, E1, A1, st1⟩ := newP X0 hx hZ (wd 20 rfl) e0 (g := (mkF m 1 #[.val (.ref s'), .val (.int (0 : Int32)), .val (.int (3 : Int32)), .unset, .unset, .unset] [(.int (3 : Int32))])) rfl (hb hby d39_1) rfl (by decide) (cap := 3) (by decide) (by decide) (by decide) (by decide)
  obtain ⟨b1, g1⟩ : ∃ z, z = h0.size := ⟨_, rfl⟩
  rw [← g1] at A1 st1
  have hi1 := own_nlt A1.lt
  have sz1 := E1.1
  have V1 : Arv Z h1 b1 k1 .byte (3 : Int32) [(.int (0 : Int32)), (.int (0 : Int32)), (.int (0 : Int32))] (.int (0 : Int32)) := (Arv.new A1 (by decide)).pad (pad_rep [] (.int (0 : Int32)) 3)
  refine go_of (B := (T1.setTop (mkF m 3 #[.val (.ref s'), .val (.int (0 : Int32)), .val (.int (3 : Int32)), .unset, .unset, .unset] [(.ref b1)]))) (st1) ?_
  refine go_of (B := (T1.setTop (mkF m 9 #[.val (.ref s'), .val (.int (0 : Int32)), .val (.int (3 : Int32)), .val (.ref b1), .unset, .unset] [(.int (3 : Int32)), (.int (0 : Int32)), (.ref b1), (.int (0 : Int32)), (.ref s')]))) (fun _ kk => XS.astoreN X1.here hx rfl (hb hby d39_3) rfl rfl rfl (XS.aloadN X1.here hx rfl (hb hby d39_4) rfl rfl (XS.iloadN X1.here hx rfl (hb hby d39_5) rfl (XS.aloadN X1.here hx rfl (hb hby d39_6) rfl rfl (XS.iconst X1.here hx rfl (hb hby d39_7) (XS.iloadN X1.here hx rfl (hb hby d39_8) rfl kk)))))) ?_
  have cf_2 := (Vs.ext E1)
  obtain ⟨_, _, ⟨T3, L3, k3, n3⟩, -, X3, ⟨Lc3, hQ3, l3, y3, z3⟩, st3⟩ := Jvm.LawKit.callS X1 hx (y := MN28) hown (mvT hZ (wd 193 rfl)) (mvT hZ (wd 194 rfl)) (mvT hZ (wd 191 rfl)) (mvT hZ (wd 195 rfl)) (by decide) (backOf (W := 0) (str_c5_3 l Z a0 hw [] s' b1 c0 c1 c2 ks k1 h1 n0 (by omega) cf_2 V1 (by first | omega | exact own_ne (by omega) | exact own_le (by omega) | exact own_lt (by omega)) (by first | omega | exact own_ne (by omega) | exact own_le (by omega) | exact own_lt (by omega)) hc0 hc1 hc2) hZ (wd 195 rfl) (wd 191 rfl) (by decide) (by decide)) (g := (mkF m 9 #[.val (.ref s'), .val (.int (0 : Int32)), .val (.int (3 : Int32)), .val (.ref b1), .unset, .unset] [(.int (3 : Int32)), (.int (0 : Int32)), (.ref b1), (.int (0 : Int32)), (.ref s')])) rfl (by rw [hml]; rfl) (argsL := [(.ref s'), (.int (0 : Int32)), (.ref b1), (.int (0 : Int32)), (.int (3 : Int32))]) (rest := []) (lenOf pd___CI_BII_I rfl) rfl (by show 2 * 0 + _ ≤ _; exact Nat.le_of_eq rfl) (hb hby d39_9) (fun _ _ => ⟨rfl, e1, (by decide : 1 + 0 ≤ _), (by decide : 3 + 0 ≤ _)⟩)
  dsimp only [Pt.U, Pt.locs, Pt.cells, Pt.slots] at X3 l3 y3 z3 st3 hQ3
  subst l3 y3 z3
  obtain ⟨rfl, N3q, K3, V3⟩ := hQ3
  have N3 := Fr.app N0 N3q
  have sz3 := K3.1
  refine go_of (B := (T3.setTop (mkF m 12 #[.val (.ref s'), .val (.int (0 : Int32)), .val (.int (3 : Int32)), .val (.ref b1), .unset, .unset] [(.int (3 : Int32))]))) (st3) ?_
  refine go_of (B := (T3.setTop (mkF m 58 #[.val (.ref s'), .val (.int (0 : Int32)), .val (.int (3 : Int32)), .val (.ref b1), .val (.int (3 : Int32)), .unset] [(.ref b1)]))) (fun _ kk => XS.istore X3.here hx rfl (hb hby d39_12) rfl rfl (XS.iload X3.here hx rfl (hb hby d39_14) rfl (XS.iloadN X3.here hx rfl (hb hby d39_16) rfl (XS.icmpYes X3.here hx rfl (pc0 := 17) (pc' := 57) rfl (hb hby d39_17) rfl (teq (by decide : (3 : Int32) = (3 : Int32))).1 (by decide) (by decide) (XS.aloadN X3.here hx rfl (hb hby d39_57) rfl rfl kk))))) ?_
  refine go_end X3 (v := some (.ref b1)) (fun h => by rw [Bd.returns] at h; cases h) Bd.notSynchronized (by decide) (by decide) (Q := (Q_str_c3_3 Z s' c0 c1 c2 ks h0 n0)) ?_ (fun fs hr => own_retA X3 hx Bd.returns rfl rfl (hb hby d39_58) hr)
  unfold Q_str_c3_3
  exact ⟨b1, k1, rfl, N3, by omega, (((Keep.refl h0 []).ext E1).trans K3 (allS (Or.inr (by first | omega | exact own_ne (by omega) | exact own_le (by omega) | exact own_lt (by omega))) all0)), V3⟩
def Q_str_cf_3 (Z : State) (t : Addr) (k : ClassId) (vs : List Value) (h0 : Heap) (n0 : Nat) (v : Option Value) (h : Heap) (L : List Loc) : Prop := v = some (.int 0) ∧ Fr n0 L ∧ h = h0
theorem ef_str_cf_3 (m : MethodId) (t : Addr)  : entryFrame m #[(.ref t), (.int (3 : Int32))] 2 = mkF m 0 #[.val (.ref t), .val (.int (3 : Int32))] [] := by first | (simp [entryFrame, mkF, argsToLocals, Value.category]; done) | rfl
theorem str_cf_3 (l : Launch) (Z : State) (a0 : Array Value) (hw : TW a0 Z) (ws : List Jvm.Cond) (t : Addr) (k : ClassId) (vs : List Value) (h0 : Heap) (n0 : Nat) (Z0 : n0 ≤ h0.size) (V : Arv Z h0 t k .byte 3 vs (.int 0)) :
    own_MF l Z MN26 jdk_52_method_15_code 2 (some .byte) ws (own_R 0 0 0 0) #[(.ref t), (.int (3 : Int32))] h0 (Q_str_cf_3 Z t k vs h0 n0) := by
  have wd := @own_wd _ _ hw
  refine MetFree.of_bodySF (plainFor_of_name pn_java_lang_StringUTF16) hisR ?_
  intro p e s m args below meth c s₁ Bd hml0 hP hK
  obtain ⟨rfl, hZ, hh⟩ := hP
  have hx := Bd.exec
  have hby := Bd.bytes
  have hml : c.maxLocals = 2 := hml0
  have hown : s.vm.findClass "java/lang/StringUTF16" = some m.cls := findClass_of_methodNamed Bd.named
  have hnm := (name_of_methodNamed Bd.named Bd.method).1
  have X0 : Stand p l e (own_R 0 0 0 0) s m #[(.ref t), (.int (3 : Int32))] below meth c s₁ [] 0 0 := Stand.of_body Bd
  have e0 : s₁.heap = h0 := by rw [← hh, Bd.state]; rfl
  have N0 := Fr.nil n0
  refine go_of (A := s₁.setTop (entryFrame m #[(.ref t), (.int (3 : Int32))] 2)) (B := s₁.setTop (mkF m 0 #[.val (.ref t), .val (.int (3 : Int32))] [])) (fun _ kk' => castTop (ef_str_cf_3 m t) kk') ?_
  refine go_of (B := (s₁.setTop (mkF m 2 #[.val (.ref t), .val (.int (3 : Int32))] [(.ref t), (.int (3 : Int32))]))) (fun _ kk => XS.iloadN X0.here hx rfl (hb hby d41_0) rfl (XS.aloadN X0.here hx rfl (hb hby d41_1) rfl rfl kk)) ?_
  obtain ⟨cl1, Ar1, q1, Sz1, Nn1, Hh1, G1⟩ := id (V)
  have ln1 := len_of Sz1 Nn1
  refine go_of (B := (s₁.setTop (mkF m 3 #[.val (.ref t), .val (.int (3 : Int32))] [(.int (3 : Int32)), (.int (3 : Int32))]))) (fun _ kk => X0.arraylength hx (by rw [e0]; exact Ar1.1) (State.isArrayOf_alike hZ.alike Ar1.2.1) (g := (mkF m 2 #[.val (.ref t), .val (.int (3 : Int32))] [(.ref t), (.int (3 : Int32))])) rfl rfl (hb hby d41_2) _ (by rw [ln1]; exact kk)) ?_
  refine go_of (B := (s₁.setTop (mkF m 8 #[.val (.ref t), .val (.int (3 : Int32))] [(.int (0 : Int32))]))) (fun _ kk => XS.isub X0.here hx rfl (hb hby d41_3) rfl (XS.bipush X0.here hx rfl (hb hby d41_4) (XS.iushr X0.here hx rfl (hb hby d41_6) rfl (XS.i2b X0.here hx rfl (hb hby d41_7) rfl kk)))) ?_
  refine go_end X0 (v := some (.int (nar .byte (0 : Int32)))) (fun h => by rw [Bd.returns] at h; cases h) Bd.notSynchronized (by decide) (by decide) (Q := (Q_str_cf_3 Z t k vs h0 n0)) ?_ (fun fs hr => retN X0 hx (t := .byte) Bd.returns (by simp) (hb hby d41_8) hr)
  unfold Q_str_cf_3
  try rw [e0]
  exact ⟨rfl, N0, rfl⟩
def Q_str_i4_3 (Z : State) (a : Addr) (s' : Addr) (c0 : Int32) (c1 : Int32) (c2 : Int32) (ks : ClassId) (gC : Int32) (u : Value) (u2 : Value) (h0 : Heap) (n0 : Nat) (v : Option Value) (h : Heap) (L : List Loc) : Prop := v = none ∧ Fr n0 L ∧ Keep h0 h [a] ∧ Str Z h a 3 [c0, c1, c2]
theorem ef_str_i4_3 (m : MethodId) (a : Addr) (s' : Addr)  : entryFrame m #[(.ref a), (.ref s'), (.int (0 : Int32)), (.int (3 : Int32)), .null] 6 = mkF m 0 #[.val (.ref a), .val (.ref s'), .val (.int (0 : Int32)), .val (.int (3 : Int32)), .val .null, .unset] [] := by first | (simp [entryFrame, mkF, argsToLocals, Value.category]; done) | rfl
theorem str_i4_3 (l : Launch) (Z : State) (a0 : Array Value) (hw : TW a0 Z) (ws : List Jvm.Cond) (a : Addr) (s' : Addr) (c0 : Int32) (c1 : Int32) (c2 : Int32) (ks : ClassId) (gC : Int32) (u : Value) (u2 : Value) (h0 : Heap) (n0 : Nat) (Z0 : n0 ≤ h0.size) (O : Old Z n0 h0) (SC : Sta Z Z.heap "java/lang/String" "COMPACT_STRINGS" "Z" (.int gC)) (hgC : ¬ gC = (0 : Int32)) (E : Exa Z h0 a "java/lang/String") (F : Fld Z h0 a "java/lang/String" "value" "[B" u) (F2 : Fld Z h0 a "java/lang/String" "coder" "B" u2) (g : n0 ≤ a) (Vs : Arv Z h0 s' ks .char 3 [(.int c0), (.int c1), (.int c2)] (.int 0)) (hc0 : ¬ c0 < 0 ∧ ¬ (255 : Int32) < c0) (hc1 : ¬ c1 < 0 ∧ ¬ (255 : Int32) < c1) (hc2 : ¬ c2 < 0 ∧ ¬ (255 : Int32) < c2) :
    own_MF l Z MN13 jdk_42_method_149_code 6 none ws (own_R 2 1 3 35) #[(.ref a), (.ref s'), (.int (0 : Int32)), (.int (3 : Int32)), .null] h0 (Q_str_i4_3 Z a s' c0 c1 c2 ks gC u u2 h0 n0) := by
  have wd := @own_wd _ _ hw
  refine MetFree.of_bodySF (plainFor_of_name pn_java_lang_String) hisR ?_
  intro p e s m args below meth c s₁ Bd hml0 hP hK
  obtain ⟨rfl, hZ, hh⟩ := hP
  have hx := Bd.exec
  have hby := Bd.bytes
  have hml : c.maxLocals = 6 := hml0
  have hown : s.vm.findClass "java/lang/String" = some m.cls := findClass_of_methodNamed Bd.named
  have hnm := (name_of_methodNamed Bd.named Bd.method).1
  have X0 : Stand p l e (own_R 2 1 3 35) s m #[(.ref a), (.ref s'), (.int (0 : Int32)), (.int (3 : Int32)), .null] below meth c s₁ [] 0 0 := Stand.of_body Bd
  have e0 : s₁.heap = h0 := by rw [← hh, Bd.state]; rfl
  have N0 := Fr.nil n0
  have lta := own_nlt (E.lt)
  have lts := own_nlt (Vs.lt)
  refine go_of (A := s₁.setTop (entryFrame m #[(.ref a), (.ref s'), (.int (0 : Int32)), (.int (3 : Int32)), .null] 6)) (B := s₁.setTop (mkF m 0 #[.val (.ref a), .val (.ref s'), .val (.int (0 : Int32)), .val (.int (3 : Int32)), .val .null, .unset] [])) (fun _ kk' => castTop (ef_str_i4_3 m a s') kk') ?_
  refine go_of (B := (s₁.setTop (mkF m 1 #[.val (.ref a), .val (.ref s'), .val (.int (0 : Int32)), .val (.int (3 : Int32)), .val .null, .unset] [(.ref a)]))) (fun _ kk => XS.aloadN X0.here hx rfl (hb hby d3_0) rfl rfl kk) ?_
  obtain ⟨T1, X1, e1, st1⟩ := initO X0 hx hZ hown (wd 16 rfl) (wd 17 rfl) (wd 18 rfl) e0 (g := (mkF m 1 #[.val (.ref a), .val (.ref s'), .val (.int (0 : Int32)), .val (.int (3 : Int32)), .val .null, .unset] [(.ref a)])) rfl (by rw [hml]; rfl) rfl (hb hby d3_1) (by decide) (W := 0) (by show 2 * 0 + _ ≤ _; exact Nat.le_of_eq rfl) (by decide)
  refine go_of (B := (T1.setTop (mkF m 4 #[.val (.ref a), .val (.ref s'), .val (.int (0 : Int32)), .val (.int (3 : Int32)), .val .null, .unset] []))) (st1) ?_
  refine go_of (B := (T1.setTop (mkF m 27 #[.val (.ref a), .val (.ref s'), .val (.int (0 : Int32)), .val (.int (3 : Int32)), .val .null, .unset] []))) (fun _ kk => XS.iloadN X1.here hx rfl (hb hby d3_4) rfl (XS.ifYes X1.here hx rfl (pc0 := 5) (pc' := 27) rfl (hb hby d3_5) rfl ((if0 _ _).trans (feq (by decide : ¬ ((3 : Int32) = (0 : Int32)))).2) (by decide) (by decide) kk)) ?_
  obtain ⟨T2, X2, e2, st2⟩ := getS2 X1 hx hZ hown (host := "") (Or.inl (wd 46 rfl)) Via.refl e1 (SC.ext O.2) (g := (mkF m 27 #[.val (.ref a), .val (.ref s'), .val (.int (0 : Int32)), .val (.int (3 : Int32)), .val .null, .unset] [])) rfl (hb hby d3_27)
  refine go_of (B := (T2.setTop (mkF m 30 #[.val (.ref a), .val (.ref s'), .val (.int (0 : Int32)), .val (.int (3 : Int32)), .val .null, .unset] [(.int gC)]))) (st2) ?_
  refine go_of (B := (T2.setTop (mkF m 36 #[.val (.ref a), .val (.ref s'), .val (.int (0 : Int32)), .val (.int (3 : Int32)), .val .null, .unset] [(.int (3 : Int32)), (.int (0 : Int32)), (.ref s')]))) (fun _ kk => XS.ifNo X2.here hx rfl (hb hby d3_30) rfl ((if0 _ _).trans (feq hgC).1) (XS.aloadN X2.here hx rfl (hb hby d3_33) rfl rfl (XS.iloadN X2.here hx rfl (hb hby d3_34) rfl (XS.iloadN X2.here hx rfl (hb hby d3_35) rfl kk)))) ?_
  obtain ⟨_, _, ⟨T3, L3, k3, n3⟩, -, X3, ⟨Lc3, hQ3, l3, y3, z3⟩, st3⟩ := Jvm.LawKit.callS X2 hx (y := MN27) hown (mvT hZ (wd 189 rfl)) (mvT hZ (wd 190 rfl)) (mvT hZ (wd 191 rfl)) (mvT hZ (wd 192 rfl)) (by decide) (backOf (W := 0) (str_c3_3 l Z a0 hw [] s' c0 c1 c2 ks h0 n0 (by omega) Vs hc0 hc1 hc2) hZ (wd 192 rfl) (wd 191 rfl) (by decide) (by decide)) (g := (mkF m 36 #[.val (.ref a), .val (.ref s'), .val (.int (0 : Int32)), .val (.int (3 : Int32)), .val .null, .unset] [(.int (3 : Int32)), (.int (0 : Int32)), (.ref s')])) rfl (by rw [hml]; rfl) (argsL := [(.ref s'), (.int (0 : Int32)), (.int (3 : Int32))]) (rest := []) (lenOf pd___CII__B rfl) rfl (by show 2 * 0 + _ ≤ _; exact Nat.le_of_eq rfl) (hb hby d3_36) (fun _ _ => ⟨rfl, e2, (by decide : 0 + 1 ≤ _), (by decide : 0 + 3 ≤ _)⟩)
  dsimp only [Pt.U, Pt.locs, Pt.cells, Pt.slots] at X3 l3 y3 z3 st3 hQ3
  subst l3 y3 z3
  obtain ⟨b3, k3, rfl, N3q, lo3, K3, V3⟩ := hQ3
  have lo3 := own_nle lo3
  have N3 := Fr.app N0 N3q
  have hi3 := own_nlt (V3.lt)
  have sz3 := K3.1
  refine go_of (B := (T3.setTop (mkF m 39 #[.val (.ref a), .val (.ref s'), .val (.int (0 : Int32)), .val (.int (3 : Int32)), .val .null, .unset] [(.ref b3)]))) (st3) ?_
  refine go_of (B := (T3.setTop (mkF m 45 #[.val (.ref a), .val (.ref s'), .val (.int (0 : Int32)), .val (.int (3 : Int32)), .val .null, .val (.ref b3)] [(.int (3 : Int32)), (.ref b3), (.ref a)]))) (fun _ kk => XS.astore X3.here hx rfl (hb hby d3_39) rfl rfl rfl (XS.aloadN X3.here hx rfl (hb hby d3_41) rfl rfl (XS.aload X3.here hx rfl (hb hby d3_42) rfl rfl (XS.iloadN X3.here hx rfl (hb hby d3_44) rfl kk)))) ?_
  obtain ⟨_, _, ⟨T4, L4, k4, n4⟩, -, X4, ⟨Lc4, hQ4, l4, y4, z4⟩, st4⟩ := Jvm.LawKit.callS X3 hx (y := MN26) hown (mvT hZ (wd 196 rfl)) (mvT hZ (wd 197 rfl)) (mvT hZ (wd 191 rfl)) (mvT hZ (wd 198 rfl)) (by decide) (backOf (W := 1) (str_cf_3 l Z a0 hw [] b3 k3 _ T3.heap n0 (by omega) V3) hZ (wd 198 rfl) (wd 191 rfl) (by decide) (by decide)) (g := (mkF m 45 #[.val (.ref a), .val (.ref s'), .val (.int (0 : Int32)), .val (.int (3 : Int32)), .val .null, .val (.ref b3)] [(.int (3 : Int32)), (.ref b3), (.ref a)])) rfl (by rw [hml]; rfl) (argsL := [(.ref b3), (.int (3 : Int32))]) (rest := [(.ref a)]) (lenOf pd___BI_B rfl) rfl (by show 2 * 0 + _ ≤ _; exact Nat.le_of_eq rfl) (hb hby d3_45) (fun _ _ => ⟨rfl, rfl, (by decide : 1 + 0 ≤ _), (by decide : 3 + 0 ≤ _)⟩)
  dsimp only [Pt.U, Pt.locs, Pt.cells, Pt.slots] at X4 l4 y4 z4 st4 hQ4
  subst l4 y4 z4
  obtain ⟨rfl, N4q, e4⟩ := hQ4
  have N4 := Fr.app N3 N4q
  refine go_of (B := (T4.setTop (mkF m 48 #[.val (.ref a), .val (.ref s'), .val (.int (0 : Int32)), .val (.int (3 : Int32)), .val .null, .val (.ref b3)] [(.int (0 : Int32)), (.ref a)]))) (st4) ?_
  have cf_5 := (E.keep K3)
  have cf_6 := (F2.keep K3 nin0)
  obtain ⟨T7, h7, X7, e7, W7, st7⟩ := putFN X4 hx hZ hown (wd 26 rfl) Via.refl e4 cf_6 cf_5 (Or.inr ⟨(wd 22 rfl), rfl, hnm⟩) (wd 6 rfl) (ty := .byte) (v' := (.int (nar .byte (0 : Int32)))) (by decide) rfl (fits_nar_byte _) (g := (mkF m 48 #[.val (.ref a), .val (.ref s'), .val (.int (0 : Int32)), .val (.int (3 : Int32)), .val .null, .val (.ref b3)] [(.int (0 : Int32)), (.ref a)])) rfl rfl (hb hby d3_48)
  have sz7 := W7.size
  have Fw7 := cf_6.same W7
  have N7 := Fr.snoc X7 N4 (g : n0 ≤ a)
  refine go_of (B := (T7.setTop (mkF m 51 #[.val (.ref a), .val (.ref s'), .val (.int (0 : Int32)), .val (.int (3 : Int32)), .val .null, .val (.ref b3)] []))) (st7) ?_
  refine go_of (B := (T7.setTop (mkF m 54 #[.val (.ref a), .val (.ref s'), .val (.int (0 : Int32)), .val (.int (3 : Int32)), .val .null, .val (.ref b3)] [(.ref b3), (.ref a)]))) (fun _ kk => XS.aloadN X7.here hx rfl (hb hby d3_51) rfl rfl (XS.aload X7.here hx rfl (hb hby d3_52) rfl rfl kk)) ?_
  have cf_8 := (cf_5.wr W7)
  have cf_9 := ((F.keep K3 nin0).other W7 (Or.inr (slot_ne (Or.inr (wd 21 rfl)) (Or.inr (wd 22 rfl)) (by decide) (t := (.array .byte)) (t' := .byte) (by decide) (by decide))))
  obtain ⟨T10, h10, X10, e10, W10, st10⟩ := putF X7 hx hZ hown (host := "") (Or.inl (wd 25 rfl)) Via.refl e7 cf_9 cf_8 (Or.inr ⟨(wd 21 rfl), rfl, hnm⟩) (wd 6 rfl) (ty := (.array .byte)) (by decide) rfl rfl (g := (mkF m 54 #[.val (.ref a), .val (.ref s'), .val (.int (0 : Int32)), .val (.int (3 : Int32)), .val .null, .val (.ref b3)] [(.ref b3), (.ref a)])) rfl rfl (hb hby d3_54)
  have sz10 := W10.size
  have Fw10 := cf_9.same W10
  have N10 := Fr.snoc X10 N7 (g : n0 ≤ a)
  refine go_of (B := (T10.setTop (mkF m 57 #[.val (.ref a), .val (.ref s'), .val (.int (0 : Int32)), .val (.int (3 : Int32)), .val .null, .val (.ref b3)] []))) (st10) ?_
  have cf_11 := ((V3.other W7 (by first | omega | exact own_ne (by omega) | exact own_le (by omega) | exact own_lt (by omega))).other W10 (by first | omega | exact own_ne (by omega) | exact own_le (by omega) | exact own_lt (by omega)))
  have cf_12 := (Fw7.other W10 (Or.inr (slot_ne (Or.inr (wd 22 rfl)) (Or.inr (wd 21 rfl)) (by decide) (t := .byte) (t' := (.array .byte)) (by decide) (by decide))))
  have cf_13 := (cf_8.wr W10)
  refine go_end X10 (v := none) (fun _ => rfl) Bd.notSynchronized (by decide) (by decide) (Q := (Q_str_i4_3 Z a s' c0 c1 c2 ks gC u u2 h0 n0)) ?_ (fun fs hr => X10.returnOut hx Bd.returns (hb hby d3_57) hr)
  unfold Q_str_i4_3
  try rw [e10]
  exact ⟨rfl, N10, ((((Keep.refl h0 [a]).trans K3 all0).wr W7 (Or.inl (List.mem_of_getElem? (i := 0) rfl))).wr W10 (Or.inl (List.mem_of_getElem? (i := 0) rfl))), ⟨b3, k3, cf_13, cf_12, Fw10, cf_11, (own_allc hc0 (own_allc hc1 (own_allc hc2 (fun _ q => nomatch q))))⟩⟩
def Q_str_i1_3 (Z : State) (a : Addr) (s' : Addr) (c0 : Int32) (c1 : Int32) (c2 : Int32) (ks : ClassId) (gC : Int32) (u : Value) (u2 : Value) (h0 : Heap) (n0 : Nat) (v : Option Value) (h : Heap) (L : List Loc) : Prop := v = none ∧ Fr n0 L ∧ Keep h0 h [a] ∧ Str Z h a 3 [c0, c1, c2]
theorem ef_str_i1_3 (m : MethodId) (a : Addr) (s' : Addr)  : entryFrame m #[(.ref a), (.ref s')] 2 = mkF m 0 #[.val (.ref a), .val (.ref s')] [] := by first | (simp [entryFrame, mkF, argsToLocals, Value.category]; done) | rfl
theorem str_i1_3 (l : Launch) (Z : State) (a0 : Array Value) (hw : TW a0 Z) (ws : List Jvm.Cond) (a : Addr) (s' : Addr) (c0 : Int32) (c1 : Int32) (c2 : Int32) (ks : ClassId) (gC : Int32) (u : Value) (u2 : Value) (h0 : Heap) (n0 : Nat) (Z0 : n0 ≤ h0.size) (O : Old Z n0 h0) (SC : Sta Z Z.heap "java/lang/String" "COMPACT_STRINGS" "Z" (.int gC)) (hgC : ¬ gC = (0 : Int32)) (E : Exa Z h0 a "java/lang/String") (F : Fld Z h0 a "java/lang/String" "value" "[B" u) (F2 : Fld Z h0 a "java/lang/String" "coder" "B" u2) (g : n0 ≤ a) (Vs : Arv Z h0 s' ks .char 3 [(.int c0), (.int c1), (.int c2)] (.int 0)) (hc0 : ¬ c0 < 0 ∧ ¬ (255 : Int32) < c0) (hc1 : ¬ c1 < 0 ∧ ¬ (255 : Int32) < c1) (hc2 : ¬ c2 < 0 ∧ ¬ (255 : Int32) < c2) :
    own_MF l Z MN12 jdk_42_method_3_code 2 none ws (own_R 3 1 3 52) #[(.ref a), (.ref s')] h0 (Q_str_i1_3 Z a s' c0 c1 c2 ks gC u u2 h0 n0) := by
  have wd := @own_wd _ _ hw
  refine MetFree.of_bodySF (plainFor_of_name pn_java_lang_String) hisR ?_
  intro p e s m args below meth c s₁ Bd hml0 hP hK
  obtain ⟨rfl, hZ, hh⟩ := hP
  have hx := Bd.exec
  have hby := Bd.bytes
  have hml : c.maxLocals = 2 := hml0
  have hown : s.vm.findClass "java/lang/String" = some m.cls := findClass_of_methodNamed Bd.named
  have hnm := (name_of_methodNamed Bd.named Bd.method).1
  have X0 : Stand p l e (own_R 3 1 3 52) s m #[(.ref a), (.ref s')] below meth c s₁ [] 0 0 := Stand.of_body Bd
  have e0 : s₁.heap = h0 := by rw [← hh, Bd.state]; rfl
  have N0 := Fr.nil n0
  have lta := own_nlt (E.lt)
  have lts := own_nlt (Vs.lt)
  refine go_of (A := s₁.setTop (entryFrame m #[(.ref a), (.ref s')] 2)) (B := s₁.setTop (mkF m 0 #[.val (.ref a), .val (.ref s')] [])) (fun _ kk' => castTop (ef_str_i1_3 m a s') kk') ?_
  refine go_of (B := (s₁.setTop (mkF m 4 #[.val (.ref a), .val (.ref s')] [(.ref s'), (.int (0 : Int32)), (.ref s'), (.ref a)]))) (fun _ kk => XS.aloadN X0.here hx rfl (hb hby d2_0) rfl rfl (XS.aloadN X0.here hx rfl (hb hby d2_1) rfl rfl (XS.iconst X0.here hx rfl (hb hby d2_2) (XS.aloadN X0.here hx rfl (hb hby d2_3) rfl rfl kk)))) ?_
  obtain ⟨cl1, Ar1, q1, Sz1, Nn1, Hh1, G1⟩ := id (Vs)
  have ln1 := len_of Sz1 Nn1
  refine go_of (B := (s₁.setTop (mkF m 5 #[.val (.ref a), .val (.ref s')] [(.int (3 : Int32)), (.int (0 : Int32)), (.ref s'), (.ref a)]))) (fun _ kk => X0.arraylength hx (by rw [e0]; exact Ar1.1) (State.isArrayOf_alike hZ.alike Ar1.2.1) (g := (mkF m 4 #[.val (.ref a), .val (.ref s')] [(.ref s'), (.int (0 : Int32)), (.ref s'), (.ref a)])) rfl rfl (hb hby d2_4) _ (by rw [ln1]; exact kk)) ?_
  refine go_of (B := (s₁.setTop (mkF m 6 #[.val (.ref a), .val (.ref s')] [.null, (.int (3 : Int32)), (.int (0 : Int32)), (.ref s'), (.ref a)]))) (fun _ kk => XS.aconstNull X0.here hx rfl (hb hby d2_5) kk) ?_
  obtain ⟨_, _, ⟨T2, L2, k2, n2⟩, -, X2, ⟨Lc2, hQ2, l2, y2, z2⟩, st2⟩ := X0.specialBack hx (y := MN13) rfl hown (mvT hZ (wd 12 rfl)) (mvT hZ (wd 13 rfl)) (mvT hZ (wd 15 rfl)) (by decide) (backOf (W := 0) (str_i4_3 l Z a0 hw [] a s' c0 c1 c2 ks gC u u2 h0 n0 Z0 O SC hgC E F F2 g Vs hc0 hc1 hc2) hZ (wd 15 rfl) (wd 7 rfl) (by decide) (by decide)) (g := (mkF m 6 #[.val (.ref a), .val (.ref s')] [.null, (.int (3 : Int32)), (.int (0 : Int32)), (.ref s'), (.ref a)])) rfl (by rw [hml]; rfl) (Steps.refl _) (a := a) (argsL := [(.ref s'), (.int (0 : Int32)), (.int (3 : Int32)), .null]) (rest := []) (lenOf pd___CIILjava_lang_Void__V rfl) rfl (by show 2 * 0 + _ ≤ _; exact Nat.le_of_eq rfl) (hb hby d2_6) (fun _ _ => ⟨rfl, e0, (by decide : 0 + 1 ≤ _), (by decide : 0 + 3 ≤ _)⟩)
  dsimp only [Pt.U, Pt.locs, Pt.cells, Pt.slots] at X2 l2 y2 z2 st2 hQ2
  subst l2 y2 z2
  obtain ⟨rfl, N2q, K2, S2⟩ := hQ2
  have N2 := Fr.app N0 N2q
  have sz2 := K2.1
  refine go_tr (B := (T2.setTop (mkF m 9 #[.val (.ref a), .val (.ref s')] []))) (st2) ?_
  refine go_end X2 (v := none) (fun _ => rfl) Bd.notSynchronized (by decide) (by decide) (Q := (Q_str_i1_3 Z a s' c0 c1 c2 ks gC u u2 h0 n0)) ?_ (fun fs hr => X2.returnOut hx Bd.returns (hb hby d2_9) hr)
  unfold Q_str_i1_3
  exact ⟨rfl, N2, ((Keep.refl h0 [a]).trans K2 (allS (Or.inl (List.mem_of_getElem? (i := 0) rfl)) all0)), S2⟩
def Q_str_c5_4 (Z : State) (s' : Addr) (d : Addr) (c0 : Int32) (c1 : Int32) (c2 : Int32) (c3 : Int32) (ks : ClassId) (kd : ClassId) (h0 : Heap) (n0 : Nat) (v : Option Value) (h : Heap) (L : List Loc) : Prop := v = some (.int 4) ∧ Fr n0 L ∧ Keep h0 h [d] ∧ Arv Z h d kd .byte 4 [(.int (own_b8 c0)), (.int (own_b8 c1)), (.int (own_b8 c2)), (.int (own_b8 c3))] (.int 0)
theorem ef_str_c5_4 (m : MethodId) (s' : Addr) (d : Addr)  : entryFrame m #[(.ref s'), (.int (0 : Int32)), (.ref d), (.int (0 : Int32)), (.int (4 : Int32))] 7 = mkF m 0 #[.val (.ref s'), .val (.int (0 : Int32)), .val (.ref d), .val (.int (0 : Int32)), .val (.int (4 : Int32)), .unset, .unset] [] := by first | (simp [entryFrame, mkF, argsToLocals, Value.category]; done) | rfl
theorem str_c5_4 (l : Launch) (Z : State) (a0 : Array Value) (hw : TW a0 Z) (ws : List Jvm.Cond) (s' : Addr) (d : Addr) (c0 : Int32) (c1 : Int32) (c2 : Int32) (c3 : Int32) (ks : ClassId) (kd : ClassId) (h0 : Heap) (n0 : Nat) (Z0 : n0 ≤ h0.size) (Vs : Arv Z h0 s' ks .char 4 [(.int c0), (.int c1), (.int c2), (.int c3)] (.int 0)) (Vd : Arv Z h0 d kd .byte 4 [(.int 0), (.int 0), (.int 0), (.int 0)] (.int 0)) (nsd : s' ≠ d) (g : n0 ≤ d) (hc0 : ¬ c0 < 0 ∧ ¬ (255 : Int32) < c0) (hc1 : ¬ c1 < 0 ∧ ¬ (255 : Int32) < c1) (hc2 : ¬ c2 < 0 ∧ ¬ (255 : Int32) < c2) (hc3 : ¬ c3 < 0 ∧ ¬ (255 : Int32) < c3) :
    own_MF l Z MN28 jdk_52_method_21_code 7 (some .int) ws (own_R 0 0 0 0) #[(.ref s'), (.int (0 : Int32)), (.ref d), (.int (0 : Int32)), (.int (4 : Int32))] h0 (Q_str_c5_4 Z s' d c0 c1 c2 c3 ks kd h0 n0) := by
  have wd := @own_wd _ _ hw
  refine MetFree.of_bodySF (plainFor_of_name pn_java_lang_StringUTF16) hisR ?_
  intro p e s m args below meth c s₁ Bd hml0 hP hK
  obtain ⟨rfl, hZ, hh⟩ := hP
  have hx := Bd.exec
  have hby := Bd.bytes
  have hml : c.maxLocals = 7 := hml0
  have hown : s.vm.findClass "java/lang/StringUTF16" = some m.cls := findClass_of_methodNamed Bd.named
  have hnm := (name_of_methodNamed Bd.named Bd.method).1
  have X0 : Stand p l e (own_R 0 0 0 0) s m #[(.ref s'), (.int (0 : Int32)), (.ref d), (.int (0 : Int32)), (.int (4 : Int32))] below meth c s₁ [] 0 0 := Stand.of_body Bd
  have e0 : s₁.heap = h0 := by rw [← hh, Bd.state]; rfl
  have N0 := Fr.nil n0
  have lts := own_nlt (Vs.lt)
  have ltd := own_nlt (Vd.lt)
  refine go_of (A := s₁.setTop (entryFrame m #[(.ref s'), (.int (0 : Int32)), (.ref d), (.int (0 : Int32)), (.int (4 : Int32))] 7)) (B := s₁.setTop (mkF m 0 #[.val (.ref s'), .val (.int (0 : Int32)), .val (.ref d), .val (.int (0 : Int32)), .val (.int (4 : Int32)), .unset, .unset] [])) (fun _ kk' => castTop (ef_str_c5_4 m s' d) kk') ?_
  refine go_of (B := (s₁.setTop (mkF m 11 #[.val (.ref s'), .val (.int (0 : Int32)), .val (.ref d), .val (.int (0 : Int32)), .val (.int (4 : Int32)), .val (.int (0 : Int32)), .unset] [(.ref s')]))) (fun _ kk => XS.iconst X0.here hx rfl (hb hby d40_0) (XS.istore X0.here hx rfl (hb hby d40_1) rfl rfl (XS.iload X0.here hx rfl (hb hby d40_3) rfl (XS.iload X0.here hx rfl (hb hby d40_5) rfl (XS.icmpNo X0.here hx rfl (hb hby d40_7) rfl (tlt (by decide : (0 : Int32) < (4 : Int32))).2.1 (XS.aloadN X0.here hx rfl (hb hby d40_10) rfl rfl kk)))))) ?_
  refine go_of (B := (s₁.setTop (mkF m 12 #[.val (.ref s'), .val (.int (0 : Int32)), .val (.ref d), .val (.int (0 : Int32)), .val (.int (4 : Int32)), .val (.int (0 : Int32)), .unset] [(.int (0 : Int32)), (.ref s')]))) (fun _ kk => XS.iloadN X0.here hx rfl (hb hby d40_11) rfl kk) ?_
  obtain ⟨cl1, Ar1, q1, Sz1, Nn1, Hh1, G1⟩ := id (Vs)
  refine go_of (B := (s₁.setTop (mkF m 27 #[.val (.ref s'), .val (.int (0 : Int32)), .val (.ref d), .val (.int (0 : Int32)), .val (.int (4 : Int32)), .val (.int (0 : Int32)), .val (.int c0)] [(.ref d)]))) (fun _ kk => X0.caload hx (j := (0 : Int32)) (v := (.int c0)) (by rw [e0]; exact Ar1.1) (State.isArrayOf_alike hZ.alike Ar1.2.1) Ar1.2.2 (inb_of Sz1 ⟨by decide, by decide⟩) (Hh1.at (inb_of Sz1 ⟨by decide, by decide⟩) rfl) (g := (mkF m 12 #[.val (.ref s'), .val (.int (0 : Int32)), .val (.ref d), .val (.int (0 : Int32)), .val (.int (4 : Int32)), .val (.int (0 : Int32)), .unset] [(.int (0 : Int32)), (.ref s')])) rfl rfl (hb hby d40_12) _ (XS.istore X0.here hx rfl (hb hby d40_13) rfl rfl (XS.iload X0.here hx rfl (hb hby d40_15) rfl (XS.sipush X0.here hx rfl (hb hby d40_17) (XS.icmpYes X0.here hx rfl (pc0 := 20) (pc' := 26) rfl (hb hby d40_20) rfl (flt hc0.2).2.2.2 (by decide) (by decide) (XS.aloadN X0.here hx rfl (hb hby d40_26) rfl rfl kk)))))) ?_
  refine go_of (B := (s₁.setTop (mkF m 31 #[.val (.ref s'), .val (.int (0 : Int32)), .val (.ref d), .val (.int (0 : Int32)), .val (.int (4 : Int32)), .val (.int (0 : Int32)), .val (.int c0)] [(.int (c0.toInt8.toInt32)), (.int (0 : Int32)), (.ref d)]))) (fun _ kk => XS.iloadN X0.here hx rfl (hb hby d40_27) rfl (XS.iload X0.here hx rfl (hb hby d40_28) rfl (XS.i2b X0.here hx rfl (hb hby d40_30) rfl kk))) ?_
  obtain ⟨cl2, Ar2, q2, Sz2, Nn2, Hh2, G2⟩ := id (Vd)
  obtain ⟨T3, h3, X3, e3, W3, st3⟩ := stB X0 hx hZ e0 Ar2 (j := (0 : Int32)) (inb_of Sz2 ⟨by decide, by decide⟩) (g := (mkF m 31 #[.val (.ref s'), .val (.int (0 : Int32)), .val (.ref d), .val (.int (0 : Int32)), .val (.int (4 : Int32)), .val (.int (0 : Int32)), .val (.int c0)] [(.int (c0.toInt8.toInt32)), (.int (0 : Int32)), (.ref d)])) rfl rfl (hb hby d40_31)
  have sz3 := W3.size
  have N3 := Fr.snoc X3 N0 (g : n0 ≤ d)
  have V3 : Arv Z h3 d kd .byte (4 : Int32) [(.int ((c0.toInt8.toInt32).toInt8.toInt32)), (.int (0 : Int32)), (.int (0 : Int32)), (.int (0 : Int32))] (.int (0 : Int32)) := Arv.set Ar2 q2 Sz2 Nn2 Hh2 G2 (fits_nar_byte _) W3 0 rfl (Nat.le_of_ble_eq_true rfl)
  rw [own_bb] at V3
  refine go_of (B := (T3.setTop (mkF m 32 #[.val (.ref s'), .val (.int (0 : Int32)), .val (.ref d), .val (.int (0 : Int32)), .val (.int (4 : Int32)), .val (.int (0 : Int32)), .val (.int c0)] []))) (st3) ?_
  refine go_of (B := (T3.setTop (mkF m 7 #[.val (.ref s'), .val (.int (1 : Int32)), .val (.ref d), .val (.int (1 : Int32)), .val (.int (4 : Int32)), .val (.int (1 : Int32)), .val (.int c0)] [(.int (4 : Int32)), (.int (1 : Int32))]))) (fun _ kk => XS.iinc X3.here hx rfl (hb hby d40_32) rfl rfl (XS.iinc X3.here hx rfl (hb hby d40_35) rfl rfl (XS.iinc X3.here hx rfl (hb hby d40_38) rfl rfl (XS.goto X3.here hx rfl (pc0 := 41) (pc' := 3) rfl (hb hby d40_41) (by decide) (by decide) (XS.iload X3.here hx rfl (hb hby d40_3) rfl (XS.iload X3.here hx rfl (hb hby d40_5) rfl kk)))))) ?_
  refine go_of (B := (T3.setTop (mkF m 12 #[.val (.ref s'), .val (.int (1 : Int32)), .val (.ref d), .val (.int (1 : Int32)), .val (.int (4 : Int32)), .val (.int (1 : Int32)), .val (.int c0)] [(.int (1 : Int32)), (.ref s')]))) (fun _ kk => XS.icmpNo X3.here hx rfl (hb hby d40_7) rfl (tlt (by decide : (1 : Int32) < (4 : Int32))).2.1 (XS.aloadN X3.here hx rfl (hb hby d40_10) rfl rfl (XS.iloadN X3.here hx rfl (hb hby d40_11) rfl kk))) ?_
  have cf_4 := (Vs.other W3 (by first | omega | exact own_ne (by omega) | exact own_le (by omega) | exact own_lt (by omega)))
  obtain ⟨cl5, Ar5, q5, Sz5, Nn5, Hh5, G5⟩ := id (cf_4)
  refine go_of (B := (T3.setTop (mkF m 27 #[.val (.ref s'), .val (.int (1 : Int32)), .val (.ref d), .val (.int (1 : Int32)), .val (.int (4 : Int32)), .val (.int (1 : Int32)), .val (.int c1)] [(.ref d)]))) (fun _ kk => X3.caload hx (j := (1 : Int32)) (v := (.int c1)) (by rw [e3]; exact Ar5.1) (State.isArrayOf_alike hZ.alike Ar5.2.1) Ar5.2.2 (inb_of Sz5 ⟨by decide, by decide⟩) (Hh5.at (inb_of Sz5 ⟨by decide, by decide⟩) rfl) (g := (mkF m 12 #[.val (.ref s'), .val (.int (1 : Int32)), .val (.ref d), .val (.int (1 : Int32)), .val (.int (4 : Int32)), .val (.int (1 : Int32)), .val (.int c0)] [(.int (1 : Int32)), (.ref s')])) rfl rfl (hb hby d40_12) _ (XS.istore X3.here hx rfl (hb hby d40_13) rfl rfl (XS.iload X3.here hx rfl (hb hby d40_15) rfl (XS.sipush X3.here hx rfl (hb hby d40_17) (XS.icmpYes X3.here hx rfl (pc0 := 20) (pc' := 26) rfl (hb hby d40_20) rfl (flt hc1.2).2.2.2 (by decide) (by decide) (XS.aloadN X3.here hx rfl (hb hby d40_26) rfl rfl kk)))))) ?_
  refine go_of (B := (T3.setTop (mkF m 31 #[.val (.ref s'), .val (.int (1 : Int32)), .val (.ref d), .val (.int (1 : Int32)), .val (.int (4 : Int32)), .val (.int (1 : Int32)), .val (.int c1)] [(.int (c1.toInt8.toInt32)), (.int (1 : Int32)), (.ref d)]))) (fun _ kk => XS.iloadN X3.here hx rfl (hb hby d40_27) rfl (XS.iload X3.here hx rfl (hb hby d40_28) rfl (XS.i2b X3.here hx rfl (hb hby d40_30) rfl kk))) ?_
  obtain ⟨cl6, Ar6, q6, Sz6, Nn6, Hh6, G6⟩ := id (V3)
  obtain ⟨T7, h7, X7, e7, W7, st7⟩ := stB X3 hx hZ e3 Ar6 (j := (1 : Int32)) (inb_of Sz6 ⟨by decide, by decide⟩) (g := (mkF m 31 #[.val (.ref s'), .val (.int (1 : Int32)), .val (.ref d), .val (.int (1 : Int32)), .val (.int (4 : Int32)), .val (.int (1 : Int32)), .val (.int c1)] [(.int (c1.toInt8.toInt32)), (.int (1 : Int32)), (.ref d)])) rfl rfl (hb hby d40_31)
  have sz7 := W7.size
  have N7 := Fr.snoc X7 N3 (g : n0 ≤ d)
  have V7 : Arv Z h7 d kd .byte (4 : Int32) [(.int (c0.toInt8.toInt32)), (.int ((c1.toInt8.toInt32).toInt8.toInt32)), (.int (0 : Int32)), (.int (0 : Int32))] (.int (0 : Int32)) := Arv.set Ar6 q6 Sz6 Nn6 Hh6 G6 (fits_nar_byte _) W7 1 rfl (Nat.le_of_ble_eq_true rfl)
  rw [own_bb] at V7
  refine go_of (B := (T7.setTop (mkF m 32 #[.val (.ref s'), .val (.int (1 : Int32)), .val (.ref d), .val (.int (1 : Int32)), .val (.int (4 : Int32)), .val (.int (1 : Int32)), .val (.int c1)] []))) (st7) ?_
  refine go_of (B := (T7.setTop (mkF m 7 #[.val (.ref s'), .val (.int (2 : Int32)), .val (.ref d), .val (.int (2 : Int32)), .val (.int (4 : Int32)), .val (.int (2 : Int32)), .val (.int c1)] [(.int (4 : Int32)), (.int (2 : Int32))]))) (fun _ kk => XS.iinc X7.here hx rfl (hb hby d40_32) rfl rfl (XS.iinc X7.here hx rfl (hb hby d40_35) rfl rfl (XS.iinc X7.here hx rfl (hb hby d40_38) rfl rfl (XS.goto X7.here hx rfl (pc0 := 41) (pc' := 3) rfl (hb hby d40_41) (by decide) (by decide) (XS.iload X7.here hx rfl (hb hby d40_3) rfl (XS.iload X7.here hx rfl (hb hby d40_5) rfl kk)))))) ?_
  refine go_of (B := (T7.setTop (mkF m 12 #[.val (.ref s'), .val (.int (2 : Int32)), .val (.ref d), .val (.int (2 : Int32)), .val (.int (4 : Int32)), .val (.int (2 : Int32)), .val (.int c1)] [(.int (2 : Int32)), (.ref s')]))) (fun _ kk => XS.icmpNo X7.here hx rfl (hb hby d40_7) rfl (tlt (by decide : (2 : Int32) < (4 : Int32))).2.1 (XS.aloadN X7.here hx rfl (hb hby d40_10) rfl rfl (XS.iloadN X7.here hx rfl (hb hby d40_11) rfl kk))) ?_
  have cf_8 := (cf_4.other W7 (by first | omega | exact own_ne (by omega) | exact own_le (by omega) | exact own_lt (by omega)))
  obtain ⟨cl9, Ar9, q9, Sz9, Nn9, Hh9, G9⟩ := id (cf_8)
  refine go_of (B := (T7.setTop (mkF m 27 #[.val (.ref s'), .val (.int (2 : Int32)), .val (.ref d), .val (.int (2 : Int32)), .val (.int (4 : Int32)), .val (.int (2 : Int32)), .val (.int c2)] [(.ref d)]))) (fun _ kk => X7.caload hx (j := (2 : Int32)) (v := (.int c2)) (by rw [e7]; exact Ar9.1) (State.isArrayOf_alike hZ.alike Ar9.2.1) Ar9.2.2 (inb_of Sz9 ⟨by decide, by decide⟩) (Hh9.at (inb_of Sz9 ⟨by decide, by decide⟩) rfl) (g := (mkF m 12 #[.val (.ref s'), .val (.int (2 : Int32)), .val (.ref d), .val (.int (2 : Int32)), .val (.int (4 : Int32)), .val (.int (2 : Int32)), .val (.int c1)] [(.int (2 : Int32)), (.ref s')])) rfl rfl (hb hby d40_12) _ (XS.istore X7.here hx rfl (hb hby d40_13) rfl rfl (XS.iload X7.here hx rfl (hb hby d40_15) rfl (XS.sipush X7.here hx rfl (hb hby d40_17) (XS.icmpYes X7.here hx rfl (pc0 := 20) (pc' := 26) rfl (hb hby d40_20) rfl (flt hc2.2).2.2.2 (by decide) (by decide) (XS.aloadN X7.here hx rfl (hb hby d40_26) rfl rfl kk)))))) ?_
  refine go_of (B := (T7.setTop (mkF m 31 #[.val (.ref s'), .val (.int (2 : Int32)), .val (.ref d), .val (.int (2 : Int32)), .val (.int (4 : Int32)), .val (.int (2 : Int32)), .val (.int c2)] [(.int (c2.toInt8.toInt32)), (.int (2 : Int32)), (.ref d)]))) (fun _ kk => XS.iloadN X7.here hx rfl (hb hby d40_27) rfl (XS.iload X7.here hx rfl (hb hby d40_28) rfl (XS.i2b X7.here hx rfl (hb hby d40_30) rfl kk))) ?_
  obtain ⟨cl10, Ar10, q10, Sz10, Nn10, Hh10, G10⟩ := id (V7)
  obtain ⟨T11, h11, X11, e11, W11, st11⟩ := stB X7 hx hZ e7 Ar10 (j := (2 : Int32)) (inb_of Sz10 ⟨by decide, by decide⟩) (g := (mkF m 31 #[.val (.ref s'), .val (.int (2 : Int32)), .val (.ref d), .val (.int (2 : Int32)), .val (.int (4 : Int32)), .val (.int (2 : Int32)), .val (.int c2)] [(.int (c2.toInt8.toInt32)), (.int (2 : Int32)), (.ref d)])) rfl rfl (hb hby d40_31)
  have sz11 := W11.size
  have N11 := Fr.snoc X11 N7 (g : n0 ≤ d)
  have V11 : Arv Z h11 d kd .byte (4 : Int32) [(.int (c0.toInt8.toInt32)), (.int (c1.toInt8.toInt32)), (.int ((c2.toInt8.toInt32).toInt8.toInt32)), (.int (0 : Int32))] (.int (0 : Int32)) := Arv.set Ar10 q10 Sz10 Nn10 Hh10 G10 (fits_nar_byte _) W11 2 rfl (Nat.le_of_ble_eq_true rfl)
  rw [own_bb] at V11
  refine go_of (B := (T11.setTop (mkF m 32 #[.val (.ref s'), .val (.int (2 : Int32)), .val (.ref d), .val (.int (2 : Int32)), .val (.int (4 : Int32)), .val (.int (2 : Int32)), .val (.int c2)] []))) (st11) ?_
  refine go_of (B := (T11.setTop (mkF m 7 #[.val (.ref s'), .val (.int (3 : Int32)), .val (.ref d), .val (.int (3 : Int32)), .val (.int (4 : Int32)), .val (.int (3 : Int32)), .val (.int c2)] [(.int (4 : Int32)), (.int (3 : Int32))]))) (fun _ kk => XS.iinc X11.here hx rfl (hb hby d40_32) rfl rfl (XS.iinc X11.here hx rfl (hb hby d40_35) rfl rfl (XS.iinc X11.here hx rfl (hb hby d40_38) rfl rfl (XS.goto X11.here hx rfl (pc0 := 41) (pc' := 3) rfl (hb hby d40_41) (by decide) (by decide) (XS.iload X11.here hx rfl (hb hby d40_3) rfl (XS.iload X11.here hx rfl (hb hby d40_5) rfl kk)))))) ?_
  refine go_of (B := (T11.setTop (mkF m 12 #[.val (.ref s'), .val (.int (3 : Int32)), .val (.ref d), .val (.int (3 : Int32)), .val (.int (4 : Int32)), .val (.int (3 : Int32)), .val (.int c2)] [(.int (3 : Int32)), (.ref s')]))) (fun _ kk => XS.icmpNo X11.here hx rfl (hb hby d40_7) rfl (tlt (by decide : (3 : Int32) < (4 : Int32))).2.1 (XS.aloadN X11.here hx rfl (hb hby d40_10) rfl rfl (XS.iloadN X11.here hx rfl (hb hby d40_11) rfl kk))) ?_
  have cf_12 := (cf_8.other W11 (by first | omega | exact own_ne (by omega) | exact own_le (by omega) | exact own_lt (by omega)))
  obtain ⟨cl13, Ar13, q13, Sz13, Nn13, Hh13, G13⟩ := id (cf_12)
  refine go_of (B := (T11.setTop (mkF m 27 #[.val (.ref s'), .val (.int (3 : Int32)), .val (.ref d), .val (.int (3 : Int32)), .val (.int (4 : Int32)), .val (.int (3 : Int32)), .val (.int c3)] [(.ref d)]))) (fun _ kk => X11.caload hx (j := (3 : Int32)) (v := (.int c3)) (by rw [e11]; exact Ar13.1) (State.isArrayOf_alike hZ.alike Ar13.2.1) Ar13.2.2 (inb_of Sz13 ⟨by decide, by decide⟩) (Hh13.at (inb_of Sz13 ⟨by decide, by decide⟩) rfl) (g := (mkF m 12 #[.val (.ref s'), .val (.int (3 : Int32)), .val (.ref d), .val (.int (3 : Int32)), .val (.int (4 : Int32)), .val (.int (3 : Int32)), .val (.int c2)] [(.int (3 : Int32)), (.ref s')])) rfl rfl (hb hby d40_12) _ (XS.istore X11.here hx rfl (hb hby d40_13) rfl rfl (XS.iload X11.here hx rfl (hb hby d40_15) rfl (XS.sipush X11.here hx rfl (hb hby d40_17) (XS.icmpYes X11.here hx rfl (pc0 := 20) (pc' := 26) rfl (hb hby d40_20) rfl (flt hc3.2).2.2.2 (by decide) (by decide) (XS.aloadN X11.here hx rfl (hb hby d40_26) rfl rfl kk)))))) ?_
  refine go_of (B := (T11.setTop (mkF m 31 #[.val (.ref s'), .val (.int (3 : Int32)), .val (.ref d), .val (.int (3 : Int32)), .val (.int (4 : Int32)), .val (.int (3 : Int32)), .val (.int c3)] [(.int (c3.toInt8.toInt32)), (.int (3 : Int32)), (.ref d)]))) (fun _ kk => XS.iloadN X11.here hx rfl (hb hby d40_27) rfl (XS.iload X11.here hx rfl (hb hby d40_28) rfl (XS.i2b X11.here hx rfl (hb hby d40_30) rfl kk))) ?_
  obtain ⟨cl14, Ar14, q14, Sz14, Nn14, Hh14, G14⟩ := id (V11)
  obtain ⟨T15, h15, X15, e15, W15, st15⟩ := stB X11 hx hZ e11 Ar14 (j := (3 : Int32)) (inb_of Sz14 ⟨by decide, by decide⟩) (g := (mkF m 31 #[.val (.ref s'), .val (.int (3 : Int32)), .val (.ref d), .val (.int (3 : Int32)), .val (.int (4 : Int32)), .val (.int (3 : Int32)), .val (.int c3)] [(.int (c3.toInt8.toInt32)), (.int (3 : Int32)), (.ref d)])) rfl rfl (hb hby d40_31)
  have sz15 := W15.size
  have N15 := Fr.snoc X15 N11 (g : n0 ≤ d)
  have V15 : Arv Z h15 d kd .byte (4 : Int32) [(.int (c0.toInt8.toInt32)), (.int (c1.toInt8.toInt32)), (.int (c2.toInt8.toInt32)), (.int ((c3.toInt8.toInt32).toInt8.toInt32))] (.int (0 : Int32)) := Arv.set Ar14 q14 Sz14 Nn14 Hh14 G14 (fits_nar_byte _) W15 3 rfl (Nat.le_of_ble_eq_true rfl)
  rw [own_bb] at V15
  refine go_of (B := (T15.setTop (mkF m 32 #[.val (.ref s'), .val (.int (3 : Int32)), .val (.ref d), .val (.int (3 : Int32)), .val (.int (4 : Int32)), .val (.int (3 : Int32)), .val (.int c3)] []))) (st15) ?_
  refine go_of (B := (T15.setTop (mkF m 7 #[.val (.ref s'), .val (.int (4 : Int32)), .val (.ref d), .val (.int (4 : Int32)), .val (.int (4 : Int32)), .val (.int (4 : Int32)), .val (.int c3)] [(.int (4 : Int32)), (.int (4 : Int32))]))) (fun _ kk => XS.iinc X15.here hx rfl (hb hby d40_32) rfl rfl (XS.iinc X15.here hx rfl (hb hby d40_35) rfl rfl (XS.iinc X15.here hx rfl (hb hby d40_38) rfl rfl (XS.goto X15.here hx rfl (pc0 := 41) (pc' := 3) rfl (hb hby d40_41) (by decide) (by decide) (XS.iload X15.here hx rfl (hb hby d40_3) rfl (XS.iload X15.here hx rfl (hb hby d40_5) rfl kk)))))) ?_
  refine go_of (B := (T15.setTop (mkF m 46 #[.val (.ref s'), .val (.int (4 : Int32)), .val (.ref d), .val (.int (4 : Int32)), .val (.int (4 : Int32)), .val (.int (4 : Int32)), .val (.int c3)] [(.int (4 : Int32))]))) (fun _ kk => XS.icmpYes X15.here hx rfl (pc0 := 7) (pc' := 44) rfl (hb hby d40_7) rfl (flt (by decide : ¬ ((4 : Int32) < (4 : Int32)))).2.1 (by decide) (by decide) (XS.iload X15.here hx rfl (hb hby d40_44) rfl kk)) ?_
  refine go_end X15 (v := some (.int (4 : Int32))) (fun h => by rw [Bd.returns] at h; cases h) Bd.notSynchronized (by decide) (by decide) (Q := (Q_str_c5_4 Z s' d c0 c1 c2 c3 ks kd h0 n0)) ?_ (fun fs hr => own_retI X15 hx Bd.returns (hb hby d40_46) hr)
  unfold Q_str_c5_4
  try rw [e15]
  exact ⟨rfl, N15, (((((Keep.refl h0 [d]).wr W3 (Or.inl (List.mem_of_getElem? (i := 0) rfl))).wr W7 (Or.inl (List.mem_of_getElem? (i := 0) rfl))).wr W11 (Or.inl (List.mem_of_getElem? (i := 0) rfl))).wr W15 (Or.inl (List.mem_of_getElem? (i := 0) rfl))), V15⟩
def Q_str_c3_4 (Z : State) (s' : Addr) (c0 : Int32) (c1 : Int32) (c2 : Int32) (c3 : Int32) (ks : ClassId) (h0 : Heap) (n0 : Nat) (v : Option Value) (h : Heap) (L : List Loc) : Prop := ∃ (t : Addr) (k : ClassId), v = some (.ref t) ∧ Fr n0 L ∧ h0.size ≤ t ∧ Keep h0 h [] ∧ Arv Z h t k .byte 4 [(.int (own_b8 c0)), (.int (own_b8 c1)), (.int (own_b8 c2)), (.int (own_b8 c3))] (.int 0)
theorem ef_str_c3_4 (m : MethodId) (s' : Addr)  : entryFrame m #[(.ref s'), (.int (0 : Int32)), (.int (4 : Int32))] 6 = mkF m 0 #[.val (.ref s'), .val (.int (0 : Int32)), .val (.int (4 : Int32)), .unset, .unset, .unset] [] := by first | (simp [entryFrame, mkF, argsToLocals, Value.category]; done) | rfl
theorem str_c3_4 (l : Launch) (Z : State) (a0 : Array Value) (hw : TW a0 Z) (ws : List Jvm.Cond) (s' : Addr) (c0 : Int32) (c1 : Int32) (c2 : Int32) (c3 : Int32) (ks : ClassId) (h0 : Heap) (n0 : Nat) (Z0 : n0 ≤ h0.size) (Vs : Arv Z h0 s' ks .char 4 [(.int c0), (.int c1), (.int c2), (.int c3)] (.int 0)) (hc0 : ¬ c0 < 0 ∧ ¬ (255 : Int32) < c0) (hc1 : ¬ c1 < 0 ∧ ¬ (255 : Int32) < c1) (hc2 : ¬ c2 < 0 ∧ ¬ (255 : Int32) < c2) (hc3 : ¬ c3 < 0 ∧ ¬ (255 : Int32) < c3) :
    own_MF l Z MN27 jdk_52_method_16_code 6 (some (.array .byte)) ws (own_R 1 1 4 18) #[(.ref s'), (.int (0 : Int32)), (.int (4 : Int32))] h0 (Q_str_c3_4 Z s' c0 c1 c2 c3 ks h0 n0) := by
  have wd := @own_wd _ _ hw
  refine MetFree.of_bodySF (plainFor_of_name pn_java_lang_StringUTF16) hisR ?_
  intro p e s m args below meth c s₁ Bd hml0 hP hK
  obtain ⟨rfl, hZ, hh⟩ := hP
  have hx := Bd.exec
  have hby := Bd.bytes
  have hml : c.maxLocals = 6 := hml0
  have hown : s.vm.findClass "java/lang/StringUTF16" = some m.cls := findClass_of_methodNamed Bd.named
  have hnm := (name_of_methodNamed Bd.named Bd.method).1
  have X0 : Stand p l e (own_R 1 1 4 18) s m #[(.ref s'), (.int (0 : Int32)), (.int (4 : Int32))] below meth c s₁ [] 0 0 := Stand.of_body Bd
  have e0 : s₁.heap = h0 := by rw [← hh, Bd.state]; rfl
  have N0 := Fr.nil n0
  have lts := own_nlt (Vs.lt)
  refine go_of (A := s₁.setTop (entryFrame m #[(.ref s'), (.int (0 : Int32)), (.int (4 : Int32))] 6)) (B := s₁.setTop (mkF m 0 #[.val (.ref s'), .val (.int (0 : Int32)), .val (.int (4 : Int32)), .unset, .unset, .unset] [])) (fun _ kk' => castTop (ef_str_c3_4 m s') kk') ?_
  refine go_of (B := (s₁.setTop (mkF m 1 #[.val (.ref s'), .val (.int (0 : Int32)), .val (.int (4 : Int32)), .unset, .unset, .unset] [(.int (4 : Int32))]))) (fun _ kk => XS.iloadN X0.here hx rfl (hb hby d39_0) rfl kk) ?_
  obtain ⟨T1, h1, k1, X1, e1, E1, A1, st1⟩ := newP X0 hx hZ (wd 20 rfl) e0 (g := (mkF m 1 #[.val (.ref s'), .val (.int (0 : Int32)), .val (.int (4 : Int32)), .unset, .unset, .unset] [(.int (4 : Int32))])) rfl (hb hby d39_1) rfl (by decide) (cap := 4) (by decide) (by decide) (by decide) (by decide)
  obtain ⟨b1, g1⟩ : ∃ z, z = h0.size := ⟨_, rfl⟩
  rw [← g1] at A1 st1
  have hi1 := own_nlt A1.lt
  have sz1 := E1.1
  have V1 : Arv Z h1 b1 k1 .byte (4 : Int32) [(.int (0 : Int32)), (.int (0 : Int32)), (.int (0 : Int32)), (.int (0 : Int32))] (.int (0 : Int32)) := (Arv.new A1 (by decide)).pad (pad_rep [] (.int (0 : Int32)) 4)
  refine go_of (B := (T1.setTop (mkF m 3 #[.val (.ref s'), .val (.int (0 : Int32)), .val (.int (4 : Int32)), .unset, .unset, .unset] [(.ref b1)]))) (st1) ?_
  refine go_of (B := (T1.setTop (mkF m 9 #[.val (.ref s'), .val (.int (0 : Int32)), .val (.int (4 : Int32)), .val (.ref b1), .unset, .unset] [(.int (4 : Int32)), (.int (0 : Int32)), (.ref b1), (.int (0 : Int32)), (.ref s')]))) (fun _ kk => XS.astoreN X1.here hx rfl (hb hby d39_3) rfl rfl rfl (XS.aloadN X1.here hx rfl (hb hby d39_4) rfl rfl (XS.iloadN X1.here hx rfl (hb hby d39_5) rfl (XS.aloadN X1.here hx rfl (hb hby d39_6) rfl rfl (XS.iconst X1.here hx rfl (hb hby d39_7) (XS.iloadN X1.here hx rfl (hb hby d39_8) rfl kk)))))) ?_
  have cf_2 := (Vs.ext E1)
  obtain ⟨_, _, ⟨T3, L3, k3, n3⟩, -, X3, ⟨Lc3, hQ3, l3, y3, z3⟩, st3⟩ := Jvm.LawKit.callS X1 hx (y := MN28) hown (mvT hZ (wd 193 rfl)) (mvT hZ (wd 194 rfl)) (mvT hZ (wd 191 rfl)) (mvT hZ (wd 195 rfl)) (by decide) (backOf (W := 0) (str_c5_4 l Z a0 hw [] s' b1 c0 c1 c2 c3 ks k1 h1 n0 (by omega) cf_2 V1 (by first | omega | exact own_ne (by omega) | exact own_le (by omega) | exact own_lt (by omega)) (by first | omega | exact own_ne (by omega) | exact own_le (by omega) | exact own_lt (by omega)) hc0 hc1 hc2 hc3) hZ (wd 195 rfl) (wd 191 rfl) (by decide) (by decide)) (g := (mkF m 9 #[.val (.ref s'), .val (.int (0 : Int32)), .val (.int (4 : Int32)), .val (.ref b1), .unset, .unset] [(.int (4 : Int32)), (.int (0 : Int32)), (.ref b1), (.int (0 : Int32)), (.ref s')])) rfl (by rw [hml]; rfl) (argsL := [(.ref s'), (.int (0 : Int32)), (.ref b1), (.int (0 : Int32)), (.int (4 : Int32))]) (rest := []) (lenOf pd___CI_BII_I rfl) rfl (by show 2 * 0 + _ ≤ _; exact Nat.le_of_eq rfl) (hb hby d39_9) (fun _ _ => ⟨rfl, e1, (by decide : 1 + 0 ≤ _), (by decide : 4 + 0 ≤ _)⟩)
  dsimp only [Pt.U, Pt.locs, Pt.cells, Pt.slots] at X3 l3 y3 z3 st3 hQ3
  subst l3 y3 z3
  obtain ⟨rfl, N3q, K3, V3⟩ := hQ3
  have N3 := Fr.app N0 N3q
  have sz3 := K3.1
  refine go_of (B := (T3.setTop (mkF m 12 #[.val (.ref s'), .val (.int (0 : Int32)), .val (.int (4 : Int32)), .val (.ref b1), .unset, .unset] [(.int (4 : Int32))]))) (st3) ?_
  refine go_of (B := (T3.setTop (mkF m 58 #[.val (.ref s'), .val (.int (0 : Int32)), .val (.int (4 : Int32)), .val (.ref b1), .val (.int (4 : Int32)), .unset] [(.ref b1)]))) (fun _ kk => XS.istore X3.here hx rfl (hb hby d39_12) rfl rfl (XS.iload X3.here hx rfl (hb hby d39_14) rfl (XS.iloadN X3.here hx rfl (hb hby d39_16) rfl (XS.icmpYes X3.here hx rfl (pc0 := 17) (pc' := 57) rfl (hb hby d39_17) rfl (teq (by decide : (4 : Int32) = (4 : Int32))).1 (by decide) (by decide) (XS.aloadN X3.here hx rfl (hb hby d39_57) rfl rfl kk))))) ?_
  refine go_end X3 (v := some (.ref b1)) (fun h => by rw [Bd.returns] at h; cases h) Bd.notSynchronized (by decide) (by decide) (Q := (Q_str_c3_4 Z s' c0 c1 c2 c3 ks h0 n0)) ?_ (fun fs hr => own_retA X3 hx Bd.returns rfl rfl (hb hby d39_58) hr)
  unfold Q_str_c3_4
  exact ⟨b1, k1, rfl, N3, by omega, (((Keep.refl h0 []).ext E1).trans K3 (allS (Or.inr (by first | omega | exact own_ne (by omega) | exact own_le (by omega) | exact own_lt (by omega))) all0)), V3⟩
def Q_str_cf_4 (Z : State) (t : Addr) (k : ClassId) (vs : List Value) (h0 : Heap) (n0 : Nat) (v : Option Value) (h : Heap) (L : List Loc) : Prop := v = some (.int 0) ∧ Fr n0 L ∧ h = h0
theorem ef_str_cf_4 (m : MethodId) (t : Addr)  : entryFrame m #[(.ref t), (.int (4 : Int32))] 2 = mkF m 0 #[.val (.ref t), .val (.int (4 : Int32))] [] := by first | (simp [entryFrame, mkF, argsToLocals, Value.category]; done) | rfl
theorem str_cf_4 (l : Launch) (Z : State) (a0 : Array Value) (hw : TW a0 Z) (ws : List Jvm.Cond) (t : Addr) (k : ClassId) (vs : List Value) (h0 : Heap) (n0 : Nat) (Z0 : n0 ≤ h0.size) (V : Arv Z h0 t k .byte 4 vs (.int 0)) :
    own_MF l Z MN26 jdk_52_method_15_code 2 (some .byte) ws (own_R 0 0 0 0) #[(.ref t), (.int (4 : Int32))] h0 (Q_str_cf_4 Z t k vs h0 n0) := by
  have wd := @own_wd _ _ hw
  refine MetFree.of_bodySF (plainFor_of_name pn_java_lang_StringUTF16) hisR ?_
  intro p e s m args below meth c s₁ Bd hml0 hP hK
  obtain ⟨rfl, hZ, hh⟩ := hP
  have hx := Bd.exec
  have hby := Bd.bytes
  have hml : c.maxLocals = 2 := hml0
  have hown : s.vm.findClass "java/lang/StringUTF16" = some m.cls := findClass_of_methodNamed Bd.named
  have hnm := (name_of_methodNamed Bd.named Bd.method).1
  have X0 : Stand p l e (own_R 0 0 0 0) s m #[(.ref t), (.int (4 : Int32))] below meth c s₁ [] 0 0 := Stand.of_body Bd
  have e0 : s₁.heap = h0 := by rw [← hh, Bd.state]; rfl
  have N0 := Fr.nil n0
  refine go_of (A := s₁.setTop (entryFrame m #[(.ref t), (.int (4 : Int32))] 2)) (B := s₁.setTop (mkF m 0 #[.val (.ref t), .val (.int (4 : Int32))] [])) (fun _ kk' => castTop (ef_str_cf_4 m t) kk') ?_
  refine go_of (B := (s₁.setTop (mkF m 2 #[.val (.ref t), .val (.int (4 : Int32))] [(.ref t), (.int (4 : Int32))]))) (fun _ kk => XS.iloadN X0.here hx rfl (hb hby d41_0) rfl (XS.aloadN X0.here hx rfl (hb hby d41_1) rfl rfl kk)) ?_
  obtain ⟨cl1, Ar1, q1, Sz1, Nn1, Hh1, G1⟩ := id (V)
  have ln1 := len_of Sz1 Nn1
  refine go_of (B := (s₁.setTop (mkF m 3 #[.val (.ref t), .val (.int (4 : Int32))] [(.int (4 : Int32)), (.int (4 : Int32))]))) (fun _ kk => X0.arraylength hx (by rw [e0]; exact Ar1.1) (State.isArrayOf_alike hZ.alike Ar1.2.1) (g := (mkF m 2 #[.val (.ref t), .val (.int (4 : Int32))] [(.ref t), (.int (4 : Int32))])) rfl rfl (hb hby d41_2) _ (by rw [ln1]; exact kk)) ?_
  refine go_of (B := (s₁.setTop (mkF m 8 #[.val (.ref t), .val (.int (4 : Int32))] [(.int (0 : Int32))]))) (fun _ kk => XS.isub X0.here hx rfl (hb hby d41_3) rfl (XS.bipush X0.here hx rfl (hb hby d41_4) (XS.iushr X0.here hx rfl (hb hby d41_6) rfl (XS.i2b X0.here hx rfl (hb hby d41_7) rfl kk)))) ?_
  refine go_end X0 (v := some (.int (nar .byte (0 : Int32)))) (fun h => by rw [Bd.returns] at h; cases h) Bd.notSynchronized (by decide) (by decide) (Q := (Q_str_cf_4 Z t k vs h0 n0)) ?_ (fun fs hr => retN X0 hx (t := .byte) Bd.returns (by simp) (hb hby d41_8) hr)
  unfold Q_str_cf_4
  try rw [e0]
  exact ⟨rfl, N0, rfl⟩
def Q_str_i4_4 (Z : State) (a : Addr) (s' : Addr) (c0 : Int32) (c1 : Int32) (c2 : Int32) (c3 : Int32) (ks : ClassId) (gC : Int32) (u : Value) (u2 : Value) (h0 : Heap) (n0 : Nat) (v : Option Value) (h : Heap) (L : List Loc) : Prop := v = none ∧ Fr n0 L ∧ Keep h0 h [a] ∧ Str Z h a 4 [c0, c1, c2, c3]
theorem ef_str_i4_4 (m : MethodId) (a : Addr) (s' : Addr)  : entryFrame m #[(.ref a), (.ref s'), (.int (0 : Int32)), (.int (4 : Int32)), .null] 6 = mkF m 0 #[.val (.ref a), .val (.ref s'), .val (.int (0 : Int32)), .val (.int (4 : Int32)), .val .null, .unset] [] := by first | (simp [entryFrame, mkF, argsToLocals, Value.category]; done) | rfl
theorem str_i4_4 (l : Launch) (Z : State) (a0 : Array Value) (hw : TW a0 Z) (ws : List Jvm.Cond) (a : Addr) (s' : Addr) (c0 : Int32) (c1 : Int32) (c2 : Int32) (c3 : Int32) (ks : ClassId) (gC : Int32) (u : Value) (u2 : Value) (h0 : Heap) (n0 : Nat) (Z0 : n0 ≤ h0.size) (O : Old Z n0 h0) (SC : Sta Z Z.heap "java/lang/String" "COMPACT_STRINGS" "Z" (.int gC)) (hgC : ¬ gC = (0 : Int32)) (E : Exa Z h0 a "java/lang/String") (F : Fld Z h0 a "java/lang/String" "value" "[B" u) (F2 : Fld Z h0 a "java/lang/String" "coder" "B" u2) (g : n0 ≤ a) (Vs : Arv Z h0 s' ks .char 4 [(.int c0), (.int c1), (.int c2), (.int c3)] (.int 0)) (hc0 : ¬ c0 < 0 ∧ ¬ (255 : Int32) < c0) (hc1 : ¬ c1 < 0 ∧ ¬ (255 : Int32) < c1) (hc2 : ¬ c2 < 0 ∧ ¬ (255 : Int32) < c2) (hc3 : ¬ c3 < 0 ∧ ¬ (255 : Int32) < c3) :
    own_MF l Z MN13 jdk_42_method_149_code 6 none ws (own_R 2 1 4 35) #[(.ref a), (.ref s'), (.int (0 : Int32)), (.int (4 : Int32)), .null] h0 (Q_str_i4_4 Z a s' c0 c1 c2 c3 ks gC u u2 h0 n0) := by
  have wd := @own_wd _ _ hw
  refine MetFree.of_bodySF (plainFor_of_name pn_java_lang_String) hisR ?_
  intro p e s m args below meth c s₁ Bd hml0 hP hK
  obtain ⟨rfl, hZ, hh⟩ := hP
  have hx := Bd.exec
  have hby := Bd.bytes
  have hml : c.maxLocals = 6 := hml0
  have hown : s.vm.findClass "java/lang/String" = some m.cls := findClass_of_methodNamed Bd.named
  have hnm := (name_of_methodNamed Bd.named Bd.method).1
  have X0 : Stand p l e (own_R 2 1 4 35) s m #[(.ref a), (.ref s'), (.int (0 : Int32)), (.int (4 : Int32)), .null] below meth c s₁ [] 0 0 := Stand.of_body Bd
  have e0 : s₁.heap = h0 := by rw [← hh, Bd.state]; rfl
  have N0 := Fr.nil n0
  have lta := own_nlt (E.lt)
  have lts := own_nlt (Vs.lt)
  refine go_of (A := s₁.setTop (entryFrame m #[(.ref a), (.ref s'), (.int (0 : Int32)), (.int (4 : Int32)), .null] 6)) (B := s₁.setTop (mkF m 0 #[.val (.ref a), .val (.ref s'), .val (.int (0 : Int32)), .val (.int (4 : Int32)), .val .null, .unset] [])) (fun _ kk' => castTop (ef_str_i4_4 m a s') kk') ?_
  refine go_of (B := (s₁.setTop (mkF m 1 #[.val (.ref a), .val (.ref s'), .val (.int (0 : Int32)), .val (.int (4 : Int32)), .val .null, .unset] [(.ref a)]))) (fun _ kk => XS.aloadN X0.here hx rfl (hb hby d3_0) rfl rfl kk) ?_
  obtain ⟨T1, X1, e1, st1⟩ := initO X0 hx hZ hown (wd 16 rfl) (wd 17 rfl) (wd 18 rfl) e0 (g := (mkF m 1 #[.val (.ref a), .val (.ref s'), .val (.int (0 : Int32)), .val (.int (4 : Int32)), .val .null, .unset] [(.ref a)])) rfl (by rw [hml]; rfl) rfl (hb hby d3_1) (by decide) (W := 0) (by show 2 * 0 + _ ≤ _; exact Nat.le_of_eq rfl) (by decide)
  refine go_of (B := (T1.setTop (mkF m 4 #[.val (.ref a), .val (.ref s'), .val (.int (0 : Int32)), .val (.int (4 : Int32)), .val .null, .unset] []))) (st1) ?_
  refine go_of (B := (T1.setTop (mkF m 27 #[.val (.ref a), .val (.ref s'), .val (.int (0 : Int32)), .val (.int (4 : Int32)), .val .null, .unset] []))) (fun _ kk => XS.iloadN X1.here hx rfl (hb hby d3_4) rfl (XS.ifYes X1.here hx rfl (pc0 := 5) (pc' := 27) rfl (hb hby d3_5) rfl ((if0 _ _).trans (feq (by decide : ¬ ((4 : Int32) = (0 : Int32)))).2) (by decide) (by decide) kk)) ?_
  obtain ⟨T2, X2, e2, st2⟩ := getS2 X1 hx hZ hown (host := "") (Or.inl (wd 46 rfl)) Via.refl e1 (SC.ext O.2) (g := (mkF m 27 #[.val (.ref a), .val (.ref s'), .val (.int (0 : Int32)), .val (.int (4 : Int32)), .val .null, .unset] [])) rfl (hb hby d3_27)
  refine go_of (B := (T2.setTop (mkF m 30 #[.val (.ref a), .val (.ref s'), .val (.int (0 : Int32)), .val (.int (4 : Int32)), .val .null, .unset] [(.int gC)]))) (st2) ?_
  refine go_of (B := (T2.setTop (mkF m 36 #[.val (.ref a), .val (.ref s'), .val (.int (0 : Int32)), .val (.int (4 : Int32)), .val .null, .unset] [(.int (4 : Int32)), (.int (0 : Int32)), (.ref s')]))) (fun _ kk => XS.ifNo X2.here hx rfl (hb hby d3_30) rfl ((if0 _ _).trans (feq hgC).1) (XS.aloadN X2.here hx rfl (hb hby d3_33) rfl rfl (XS.iloadN X2.here hx rfl (hb hby d3_34) rfl (XS.iloadN X2.here hx rfl (hb hby d3_35) rfl kk)))) ?_
  obtain ⟨_, _, ⟨T3, L3, k3, n3⟩, -, X3, ⟨Lc3, hQ3, l3, y3, z3⟩, st3⟩ := Jvm.LawKit.callS X2 hx (y := MN27) hown (mvT hZ (wd 189 rfl)) (mvT hZ (wd 190 rfl)) (mvT hZ (wd 191 rfl)) (mvT hZ (wd 192 rfl)) (by decide) (backOf (W := 0) (str_c3_4 l Z a0 hw [] s' c0 c1 c2 c3 ks h0 n0 (by omega) Vs hc0 hc1 hc2 hc3) hZ (wd 192 rfl) (wd 191 rfl) (by decide) (by decide)) (g := (mkF m 36 #[.val (.ref a), .val (.ref s'), .val (.int (0 : Int32)), .val (.int (4 : Int32)), .val .null, .unset] [(.int (4 : Int32)), (.int (0 : Int32)), (.ref s')])) rfl (by rw [hml]; rfl) (argsL := [(.ref s'), (.int (0 : Int32)), (.int (4 : Int32))]) (rest := []) (lenOf pd___CII__B rfl) rfl (by show 2 * 0 + _ ≤ _; exact Nat.le_of_eq rfl) (hb hby d3_36) (fun _ _ => ⟨rfl, e2, (by decide : 0 + 1 ≤ _), (by decide : 0 + 4 ≤ _)⟩)
  dsimp only [Pt.U, Pt.locs, Pt.cells, Pt.slots] at X3 l3 y3 z3 st3 hQ3
  subst l3 y3 z3
  obtain ⟨b3, k3, rfl, N3q, lo3, K3, V3⟩ := hQ3
  have lo3 := own_nle lo3
  have N3 := Fr.app N0 N3q
  have hi3 := own_nlt (V3.lt)
  have sz3 := K3.1
  refine go_of (B := (T3.setTop (mkF m 39 #[.val (.ref a), .val (.ref s'), .val (.int (0 : Int32)), .val (.int (4 : Int32)), .val .null, .unset] [(.ref b3)]))) (st3) ?_
  refine go_of (B := (T3.setTop (mkF m 45 #[.val (.ref a), .val (.ref s'), .val (.int (0 : Int32)), .val (.int (4 : Int32)), .val .null, .val (.ref b3)] [(.int (4 : Int32)), (.ref b3), (.ref a)]))) (fun _ kk => XS.astore X3.here hx rfl (hb hby d3_39) rfl rfl rfl (XS.aloadN X3.here hx rfl (hb hby d3_41) rfl rfl (XS.aload X3.here hx rfl (hb hby d3_42) rfl rfl (XS.iloadN X3.here hx rfl (hb hby d3_44) rfl kk)))) ?_
  obtain ⟨_, _, ⟨T4, L4, k4, n4⟩, -, X4, ⟨Lc4, hQ4, l4, y4, z4⟩, st4⟩ := Jvm.LawKit.callS X3 hx (y := MN26) hown (mvT hZ (wd 196 rfl)) (mvT hZ (wd 197 rfl)) (mvT hZ (wd 191 rfl)) (mvT hZ (wd 198 rfl)) (by decide) (backOf (W := 1) (str_cf_4 l Z a0 hw [] b3 k3 _ T3.heap n0 (by omega) V3) hZ (wd 198 rfl) (wd 191 rfl) (by decide) (by decide)) (g := (mkF m 45 #[.val (.ref a), .val (.ref s'), .val (.int (0 : Int32)), .val (.int (4 : Int32)), .val .null, .val (.ref b3)] [(.int (4 : Int32)), (.ref b3), (.ref a)])) rfl (by rw [hml]; rfl) (argsL := [(.ref b3), (.int (4 : Int32))]) (rest := [(.ref a)]) (lenOf pd___BI_B rfl) rfl (by show 2 * 0 + _ ≤ _; exact Nat.le_of_eq rfl) (hb hby d3_45) (fun _ _ => ⟨rfl, rfl, (by decide : 1 + 0 ≤ _), (by decide : 4 + 0 ≤ _)⟩)
  dsimp only [Pt.U, Pt.locs, Pt.cells, Pt.slots] at X4 l4 y4 z4 st4 hQ4
  subst l4 y4 z4
  obtain ⟨rfl, N4q, e4⟩ := hQ4
  have N4 := Fr.app N3 N4q
  refine go_of (B := (T4.setTop (mkF m 48 #[.val (.ref a), .val (.ref s'), .val (.int (0 : Int32)), .val (.int (4 : Int32)), .val .null, .val (.ref b3)] [(.int (0 : Int32)), (.ref a)]))) (st4) ?_
  have cf_5 := (E.keep K3)
  have cf_6 := (F2.keep K3 nin0)
  obtain ⟨T7, h7, X7, e7, W7, st7⟩ := putFN X4 hx hZ hown (wd 26 rfl) Via.refl e4 cf_6 cf_5 (Or.inr ⟨(wd 22 rfl), rfl, hnm⟩) (wd 6 rfl) (ty := .byte) (v' := (.int (nar .byte (0 : Int32)))) (by decide) rfl (fits_nar_byte _) (g := (mkF m 48 #[.val (.ref a), .val (.ref s'), .val (.int (0 : Int32)), .val (.int (4 : Int32)), .val .null, .val (.ref b3)] [(.int (0 : Int32)), (.ref a)])) rfl rfl (hb hby d3_48)
  have sz7 := W7.size
  have Fw7 := cf_6.same W7
  have N7 := Fr.snoc X7 N4 (g : n0 ≤ a)
  refine go_of (B := (T7.setTop (mkF m 51 #[.val (.ref a), .val (.ref s'), .val (.int (0 : Int32)), .val (.int (4 : Int32)), .val .null, .val (.ref b3)] []))) (st7) ?_
  refine go_of (B := (T7.setTop (mkF m 54 #[.val (.ref a), .val (.ref s'), .val (.int (0 : Int32)), .val (.int (4 : Int32)), .val .null, .val (.ref b3)] [(.ref b3), (.ref a)]))) (fun _ kk => XS.aloadN X7.here hx rfl (hb hby d3_51) rfl rfl (XS.aload X7.here hx rfl (hb hby d3_52) rfl rfl kk)) ?_
  have cf_8 := (cf_5.wr W7)
  have cf_9 := ((F.keep K3 nin0).other W7 (Or.inr (slot_ne (Or.inr (wd 21 rfl)) (Or.inr (wd 22 rfl)) (by decide) (t := (.array .byte)) (t' := .byte) (by decide) (by decide))))
  obtain ⟨T10, h10, X10, e10, W10, st10⟩ := putF X7 hx hZ hown (host := "") (Or.inl (wd 25 rfl)) Via.refl e7 cf_9 cf_8 (Or.inr ⟨(wd 21 rfl), rfl, hnm⟩) (wd 6 rfl) (ty := (.array .byte)) (by decide) rfl rfl (g := (mkF m 54 #[.val (.ref a), .val (.ref s'), .val (.int (0 : Int32)), .val (.int (4 : Int32)), .val .null, .val (.ref b3)] [(.ref b3), (.ref a)])) rfl rfl (hb hby d3_54)
  have sz10 := W10.size
  have Fw10 := cf_9.same W10
  have N10 := Fr.snoc X10 N7 (g : n0 ≤ a)
  refine go_of (B := (T10.setTop (mkF m 57 #[.val (.ref a), .val (.ref s'), .val (.int (0 : Int32)), .val (.int (4 : Int32)), .val .null, .val (.ref b3)] []))) (st10) ?_
  have cf_11 := ((V3.other W7 (by first | omega | exact own_ne (by omega) | exact own_le (by omega) | exact own_lt (by omega))).other W10 (by first | omega | exact own_ne (by omega) | exact own_le (by omega) | exact own_lt (by omega)))
  have cf_12 := (Fw7.other W10 (Or.inr (slot_ne (Or.inr (wd 22 rfl)) (Or.inr (wd 21 rfl)) (by decide) (t := .byte) (t' := (.array .byte)) (by decide) (by decide))))
  have cf_13 := (cf_8.wr W10)
  refine go_end X10 (v := none) (fun _ => rfl) Bd.notSynchronized (by decide) (by decide) (Q := (Q_str_i4_4 Z a s' c0 c1 c2 c3 ks gC u u2 h0 n0)) ?_ (fun fs hr => X10.returnOut hx Bd.returns (hb hby d3_57) hr)
  unfold Q_str_i4_4
  try rw [e10]
  exact ⟨rfl, N10, ((((Keep.refl h0 [a]).trans K3 all0).wr W7 (Or.inl (List.mem_of_getElem? (i := 0) rfl))).wr W10 (Or.inl (List.mem_of_getElem? (i := 0) rfl))), ⟨b3, k3, cf_13, cf_12, Fw10, cf_11, (own_allc hc0 (own_allc hc1 (own_allc hc2 (own_allc hc3 (fun _ q => nomatch q)))))⟩⟩
def Q_str_i1_4 (Z : State) (a : Addr) (s' : Addr) (c0 : Int32) (c1 : Int32) (c2 : Int32) (c3 : Int32) (ks : ClassId) (gC : Int32) (u : Value) (u2 : Value) (h0 : Heap) (n0 : Nat) (v : Option Value) (h : Heap) (L : List Loc) : Prop := v = none ∧ Fr n0 L ∧ Keep h0 h [a] ∧ Str Z h a 4 [c0, c1, c2, c3]
theorem ef_str_i1_4 (m : MethodId) (a : Addr) (s' : Addr)  : entryFrame m #[(.ref a), (.ref s')] 2 = mkF m 0 #[.val (.ref a), .val (.ref s')] [] := by first | (simp [entryFrame, mkF, argsToLocals, Value.category]; done) | rfl
theorem str_i1_4 (l : Launch) (Z : State) (a0 : Array Value) (hw : TW a0 Z) (ws : List Jvm.Cond) (a : Addr) (s' : Addr) (c0 : Int32) (c1 : Int32) (c2 : Int32) (c3 : Int32) (ks : ClassId) (gC : Int32) (u : Value) (u2 : Value) (h0 : Heap) (n0 : Nat) (Z0 : n0 ≤ h0.size) (O : Old Z n0 h0) (SC : Sta Z Z.heap "java/lang/String" "COMPACT_STRINGS" "Z" (.int gC)) (hgC : ¬ gC = (0 : Int32)) (E : Exa Z h0 a "java/lang/String") (F : Fld Z h0 a "java/lang/String" "value" "[B" u) (F2 : Fld Z h0 a "java/lang/String" "coder" "B" u2) (g : n0 ≤ a) (Vs : Arv Z h0 s' ks .char 4 [(.int c0), (.int c1), (.int c2), (.int c3)] (.int 0)) (hc0 : ¬ c0 < 0 ∧ ¬ (255 : Int32) < c0) (hc1 : ¬ c1 < 0 ∧ ¬ (255 : Int32) < c1) (hc2 : ¬ c2 < 0 ∧ ¬ (255 : Int32) < c2) (hc3 : ¬ c3 < 0 ∧ ¬ (255 : Int32) < c3) :
    own_MF l Z MN12 jdk_42_method_3_code 2 none ws (own_R 3 1 4 52) #[(.ref a), (.ref s')] h0 (Q_str_i1_4 Z a s' c0 c1 c2 c3 ks gC u u2 h0 n0) := by
  have wd := @own_wd _ _ hw
  refine MetFree.of_bodySF (plainFor_of_name pn_java_lang_String) hisR ?_
  intro p e s m args below meth c s₁ Bd hml0 hP hK
  obtain ⟨rfl, hZ, hh⟩ := hP
  have hx := Bd.exec
  have hby := Bd.bytes
  have hml : c.maxLocals = 2 := hml0
  have hown : s.vm.findClass "java/lang/String" = some m.cls := findClass_of_methodNamed Bd.named
  have hnm := (name_of_methodNamed Bd.named Bd.method).1
  have X0 : Stand p l e (own_R 3 1 4 52) s m #[(.ref a), (.ref s')] below meth c s₁ [] 0 0 := Stand.of_body Bd
  have e0 : s₁.heap = h0 := by rw [← hh, Bd.state]; rfl
  have N0 := Fr.nil n0
  have lta := own_nlt (E.lt)
  have lts := own_nlt (Vs.lt)
  refine go_of (A := s₁.setTop (entryFrame m #[(.ref a), (.ref s')] 2)) (B := s₁.setTop (mkF m 0 #[.val (.ref a), .val (.ref s')] [])) (fun _ kk' => castTop (ef_str_i1_4 m a s') kk') ?_
  refine go_of (B := (s₁.setTop (mkF m 4 #[.val (.ref a), .val (.ref s')] [(.ref s'), (.int (0 : Int32)), (.ref s'), (.ref a)]))) (fun _ kk => XS.aloadN X0.here hx rfl (hb hby d2_0) rfl rfl (XS.aloadN X0.here hx rfl (hb hby d2_1) rfl rfl (XS.iconst X0.here hx rfl (hb hby d2_2) (XS.aloadN X0.here hx rfl (hb hby d2_3) rfl rfl kk)))) ?_
  obtain ⟨cl1, Ar1, q1, Sz1, Nn1, Hh1, G1⟩ := id (Vs)
  have ln1 := len_of Sz1 Nn1
  refine go_of (B := (s₁.setTop (mkF m 5 #[.val (.ref a), .val (.ref s')] [(.int (4 : Int32)), (.int (0 : Int32)), (.ref s'), (.ref a)]))) (fun _ kk => X0.arraylength hx (by rw [e0]; exact Ar1.1) (State.isArrayOf_alike hZ.alike Ar1.2.1) (g := (mkF m 4 #[.val (.ref a), .val (.ref s')] [(.ref s'), (.int (0 : Int32)), (.ref s'), (.ref a)])) rfl rfl (hb hby d2_4) _ (by rw [ln1]; exact kk)) ?_
  refine go_of (B := (s₁.setTop (mkF m 6 #[.val (.ref a), .val (.ref s')] [.null, (.int (4 : Int32)), (.int (0 : Int32)), (.ref s'), (.ref a)]))) (fun _ kk => XS.aconstNull X0.here hx rfl (hb hby d2_5) kk) ?_
  obtain ⟨_, _, ⟨T2, L2, k2, n2⟩, -, X2, ⟨Lc2, hQ2, l2, y2, z2⟩, st2⟩ := X0.specialBack hx (y := MN13) rfl hown (mvT hZ (wd 12 rfl)) (mvT hZ (wd 13 rfl)) (mvT hZ (wd 15 rfl)) (by decide) (backOf (W := 0) (str_i4_4 l Z a0 hw [] a s' c0 c1 c2 c3 ks gC u u2 h0 n0 Z0 O SC hgC E F F2 g Vs hc0 hc1 hc2 hc3) hZ (wd 15 rfl) (wd 7 rfl) (by decide) (by decide)) (g := (mkF m 6 #[.val (.ref a), .val (.ref s')] [.null, (.int (4 : Int32)), (.int (0 : Int32)), (.ref s'), (.ref a)])) rfl (by rw [hml]; rfl) (Steps.refl _) (a := a) (argsL := [(.ref s'), (.int (0 : Int32)), (.int (4 : Int32)), .null]) (rest := []) (lenOf pd___CIILjava_lang_Void__V rfl) rfl (by show 2 * 0 + _ ≤ _; exact Nat.le_of_eq rfl) (hb hby d2_6) (fun _ _ => ⟨rfl, e0, (by decide : 0 + 1 ≤ _), (by decide : 0 + 4 ≤ _)⟩)
  dsimp only [Pt.U, Pt.locs, Pt.cells, Pt.slots] at X2 l2 y2 z2 st2 hQ2
  subst l2 y2 z2
  obtain ⟨rfl, N2q, K2, S2⟩ := hQ2
  have N2 := Fr.app N0 N2q
  have sz2 := K2.1
  refine go_tr (B := (T2.setTop (mkF m 9 #[.val (.ref a), .val (.ref s')] []))) (st2) ?_
  refine go_end X2 (v := none) (fun _ => rfl) Bd.notSynchronized (by decide) (by decide) (Q := (Q_str_i1_4 Z a s' c0 c1 c2 c3 ks gC u u2 h0 n0)) ?_ (fun fs hr => X2.returnOut hx Bd.returns (hb hby d2_9) hr)
  unfold Q_str_i1_4
  exact ⟨rfl, N2, ((Keep.refl h0 [a]).trans K2 (allS (Or.inl (List.mem_of_getElem? (i := 0) rfl)) all0)), S2⟩
theorem pd__I_C : parseMethodDescriptor "(I)C" = some ⟨[.int], some .char⟩ := by decide +kernel
theorem pd___C_V : parseMethodDescriptor "([C)V" = some ⟨[(.array .char)], none⟩ := by decide +kernel
theorem pd__Ljava_lang_String__Z : parseMethodDescriptor "(Ljava/lang/String;)Z" = some ⟨[(.object "java/lang/String")], some .boolean⟩ := by decide +kernel
theorem pd__C_Ljava_lang_String_ : parseMethodDescriptor "(C)Ljava/lang/String;" = some ⟨[.char], some (.object "java/lang/String")⟩ := by decide +kernel
theorem pd__Ljava_lang_String_Ljava_lang_String__Ljava_lang_String_ : parseMethodDescriptor "(Ljava/lang/String;Ljava/lang/String;)Ljava/lang/String;" = some ⟨[(.object "java/lang/String"), (.object "java/lang/String")], some (.object "java/lang/String")⟩ := by decide +kernel
def Q_rm0 (Z : State) (aa : Int32) (ba : Int32) (ca : Int32) (da : Int32) (nn : Int32) (ea : Int32) (gC : Int32) (h0 : Heap) (n0 : Nat) (v : Option Value) (h : Heap) (L : List Loc) : Prop := v = some (.int 1) ∧ Fr n0 L
theorem lw0 {p : Program} {l : Launch} {e : Env} {s : State} {m : MethodId} {args : Array Value} {below : List Frame} {meth : Method} {c : Code} {Z : State} {a0 : Array Value} {h0 : Heap} {n0 : Nat} (aa : Int32) (ba : Int32) (ca : Int32) (da : Int32) (nn : Int32) (ea : Int32) (gC : Int32) {T0 : State} {locs : List Loc}
    (X0 : Stand p l e room_1 s m args below meth c T0 locs 0 0) (hx : p.tables.exec = Jvm.exec) (hZ : Z.Warmed39 s.vm) (hw : TW a0 Z) (hby : c.code = code) (hml : c.maxLocals = 16) (hown : s.vm.findClass "com/example/holdfast/holdfast/ExclusiveNamesAnOwnerPinLaw" = some m.cls) (hret : meth.sig.returnType = (some .boolean)) (hlk : meth.locks = false) (e0 : T0.heap = h0) (N0 : Fr n0 locs) (Z0 : n0 ≤ h0.size) (O : Old Z n0 h0) (SC : Sta Z Z.heap "java/lang/String" "COMPACT_STRINGS" "Z" (.int gC)) (hgC : ¬ gC = (0 : Int32)) (hh0 : s.heap = h0) (hCH : CHv Z own_EL s.vm h0) :
    Go p e below (T0.setTop (mkF m 9 #[.val (.int aa), .val (.int ba), .val (.int ca), .val (.int da), .val (.int nn), .val (.int ea), .val (.int (0 : Int32)), .unset, .unset, .unset, .unset, .unset, .unset, .unset, .unset, .unset] [])) (fun oo' U2' => ∃ vv' LL', oo' = .returned vv' ∧ (Q_rm0 Z aa ba ca da nn ea gC h0 n0) vv' U2'.heap LL' ∧ CHr Z own_EL s.vm s.heap U2'.vm U2'.heap ∧ ReturnedEndW s oo' U2' LL' room_1.cells room_1.slots) := by
  have wd := @own_wd _ _ hw
  have X0 : Stand p l e room_1 (s.setVm s.vm) m args below meth c T0 locs 0 0 := X0
  have hS : s.Since s.vm 0 := (State.WarmedH.refl s).since 0
  have hEL := own_EW hw
  have HC0 := CHr.refl hCH
  refine go_of (B := (T0.setTop (mkF m 10 #[.val (.int aa), .val (.int ba), .val (.int ca), .val (.int da), .val (.int nn), .val (.int ea), .val (.int (0 : Int32)), .unset, .unset, .unset, .unset, .unset, .unset, .unset, .unset, .unset] [(.int aa)]))) (fun _ kk => XS.iloadN X0.here hx rfl (hb hby at_9) rfl kk) ?_
  obtain ⟨_, _, ⟨T1, L1, k1, n1⟩, -, X1, ⟨Lc1, hQ1, l1, y1, z1⟩, st1⟩ := Jvm.LawKit.callS X0 hx (y := MN0) hown (mvT hZ (wd 1 rfl)) (mvT hZ (wd 2 rfl)) (mvT hZ (wd 3 rfl)) (mvT hZ (wd 4 rfl)) (by decide) (backOf (W := 0) (ch l Z a0 hw [] aa h0 n0 (by omega)) hZ (wd 4 rfl) (wd 3 rfl) (by decide) (by decide)) (g := (mkF m 10 #[.val (.int aa), .val (.int ba), .val (.int ca), .val (.int da), .val (.int nn), .val (.int ea), .val (.int (0 : Int32)), .unset, .unset, .unset, .unset, .unset, .unset, .unset, .unset, .unset] [(.int aa)])) rfl (by rw [hml]; rfl) (argsL := [(.int aa)]) (rest := []) (lenOf pd__I_C rfl) rfl (by show 2 * 0 + _ ≤ _; exact Nat.le_of_eq rfl) (hb hby at_10) (fun _ _ => ⟨rfl, e0, (by decide : 0 + 0 ≤ _), (by decide : 0 + 0 ≤ _)⟩)
  dsimp only [Pt.U, Pt.locs, Pt.cells, Pt.slots] at X1 l1 y1 z1 st1 hQ1
  subst l1 y1 z1
  obtain ⟨rfl, N1q, e1⟩ := hQ1
  have N1 := Fr.app N0 N1q
  refine go_of (B := (T1.setTop (mkF m 13 #[.val (.int aa), .val (.int ba), .val (.int ca), .val (.int da), .val (.int nn), .val (.int ea), .val (.int (0 : Int32)), .unset, .unset, .unset, .unset, .unset, .unset, .unset, .unset, .unset] [(.int (own_cx aa))]))) (st1) ?_
  refine go_of (B := (T1.setTop (mkF m 16 #[.val (.int aa), .val (.int ba), .val (.int ca), .val (.int da), .val (.int nn), .val (.int ea), .val (.int (0 : Int32)), .val (.int (own_cx aa)), .unset, .unset, .unset, .unset, .unset, .unset, .unset, .unset] [(.int ba)]))) (fun _ kk => XS.istore X1.here hx rfl (hb hby at_13) rfl rfl (XS.iloadN X1.here hx rfl (hb hby at_15) rfl kk)) ?_
  obtain ⟨_, _, ⟨T2, L2, k2, n2⟩, -, X2, ⟨Lc2, hQ2, l2, y2, z2⟩, st2⟩ := Jvm.LawKit.callS X1 hx (y := MN0) hown (mvT hZ (wd 1 rfl)) (mvT hZ (wd 2 rfl)) (mvT hZ (wd 3 rfl)) (mvT hZ (wd 4 rfl)) (by decide) (backOf (W := 0) (ch l Z a0 hw [] ba h0 n0 (by omega)) hZ (wd 4 rfl) (wd 3 rfl) (by decide) (by decide)) (g := (mkF m 16 #[.val (.int aa), .val (.int ba), .val (.int ca), .val (.int da), .val (.int nn), .val (.int ea), .val (.int (0 : Int32)), .val (.int (own_cx aa)), .unset, .unset, .unset, .unset, .unset, .unset, .unset, .unset] [(.int ba)])) rfl (by rw [hml]; rfl) (argsL := [(.int ba)]) (rest := []) (lenOf pd__I_C rfl) rfl (by show 2 * 0 + _ ≤ _; exact Nat.le_of_eq rfl) (hb hby at_16) (fun _ _ => ⟨rfl, e1, (by decide : 0 + 0 ≤ _), (by decide : 0 + 0 ≤ _)⟩)
  dsimp only [Pt.U, Pt.locs, Pt.cells, Pt.slots] at X2 l2 y2 z2 st2 hQ2
  subst l2 y2 z2
  obtain ⟨rfl, N2q, e2⟩ := hQ2
  have N2 := Fr.app N1 N2q
  refine go_of (B := (T2.setTop (mkF m 19 #[.val (.int aa), .val (.int ba), .val (.int ca), .val (.int da), .val (.int nn), .val (.int ea), .val (.int (0 : Int32)), .val (.int (own_cx aa)), .unset, .unset, .unset, .unset, .unset, .unset, .unset, .unset] [(.int (own_cx ba))]))) (st2) ?_
  refine go_of (B := (T2.setTop (mkF m 22 #[.val (.int aa), .val (.int ba), .val (.int ca), .val (.int da), .val (.int nn), .val (.int ea), .val (.int (0 : Int32)), .val (.int (own_cx aa)), .val (.int (own_cx ba)), .unset, .unset, .unset, .unset, .unset, .unset, .unset] [(.int ca)]))) (fun _ kk => XS.istore X2.here hx rfl (hb hby at_19) rfl rfl (XS.iloadN X2.here hx rfl (hb hby at_21) rfl kk)) ?_
  obtain ⟨_, _, ⟨T3, L3, k3, n3⟩, -, X3, ⟨Lc3, hQ3, l3, y3, z3⟩, st3⟩ := Jvm.LawKit.callS X2 hx (y := MN0) hown (mvT hZ (wd 1 rfl)) (mvT hZ (wd 2 rfl)) (mvT hZ (wd 3 rfl)) (mvT hZ (wd 4 rfl)) (by decide) (backOf (W := 0) (ch l Z a0 hw [] ca h0 n0 (by omega)) hZ (wd 4 rfl) (wd 3 rfl) (by decide) (by decide)) (g := (mkF m 22 #[.val (.int aa), .val (.int ba), .val (.int ca), .val (.int da), .val (.int nn), .val (.int ea), .val (.int (0 : Int32)), .val (.int (own_cx aa)), .val (.int (own_cx ba)), .unset, .unset, .unset, .unset, .unset, .unset, .unset] [(.int ca)])) rfl (by rw [hml]; rfl) (argsL := [(.int ca)]) (rest := []) (lenOf pd__I_C rfl) rfl (by show 2 * 0 + _ ≤ _; exact Nat.le_of_eq rfl) (hb hby at_22) (fun _ _ => ⟨rfl, e2, (by decide : 0 + 0 ≤ _), (by decide : 0 + 0 ≤ _)⟩)
  dsimp only [Pt.U, Pt.locs, Pt.cells, Pt.slots] at X3 l3 y3 z3 st3 hQ3
  subst l3 y3 z3
  obtain ⟨rfl, N3q, e3⟩ := hQ3
  have N3 := Fr.app N2 N3q
  refine go_of (B := (T3.setTop (mkF m 25 #[.val (.int aa), .val (.int ba), .val (.int ca), .val (.int da), .val (.int nn), .val (.int ea), .val (.int (0 : Int32)), .val (.int (own_cx aa)), .val (.int (own_cx ba)), .unset, .unset, .unset, .unset, .unset, .unset, .unset] [(.int (own_cx ca))]))) (st3) ?_
  refine go_of (B := (T3.setTop (mkF m 28 #[.val (.int aa), .val (.int ba), .val (.int ca), .val (.int da), .val (.int nn), .val (.int ea), .val (.int (0 : Int32)), .val (.int (own_cx aa)), .val (.int (own_cx ba)), .val (.int (own_cx ca)), .unset, .unset, .unset, .unset, .unset, .unset] [(.int da)]))) (fun _ kk => XS.istore X3.here hx rfl (hb hby at_25) rfl rfl (XS.iloadN X3.here hx rfl (hb hby at_27) rfl kk)) ?_
  obtain ⟨_, _, ⟨T4, L4, k4, n4⟩, -, X4, ⟨Lc4, hQ4, l4, y4, z4⟩, st4⟩ := Jvm.LawKit.callS X3 hx (y := MN0) hown (mvT hZ (wd 1 rfl)) (mvT hZ (wd 2 rfl)) (mvT hZ (wd 3 rfl)) (mvT hZ (wd 4 rfl)) (by decide) (backOf (W := 0) (ch l Z a0 hw [] da h0 n0 (by omega)) hZ (wd 4 rfl) (wd 3 rfl) (by decide) (by decide)) (g := (mkF m 28 #[.val (.int aa), .val (.int ba), .val (.int ca), .val (.int da), .val (.int nn), .val (.int ea), .val (.int (0 : Int32)), .val (.int (own_cx aa)), .val (.int (own_cx ba)), .val (.int (own_cx ca)), .unset, .unset, .unset, .unset, .unset, .unset] [(.int da)])) rfl (by rw [hml]; rfl) (argsL := [(.int da)]) (rest := []) (lenOf pd__I_C rfl) rfl (by show 2 * 0 + _ ≤ _; exact Nat.le_of_eq rfl) (hb hby at_28) (fun _ _ => ⟨rfl, e3, (by decide : 0 + 0 ≤ _), (by decide : 0 + 0 ≤ _)⟩)
  dsimp only [Pt.U, Pt.locs, Pt.cells, Pt.slots] at X4 l4 y4 z4 st4 hQ4
  subst l4 y4 z4
  obtain ⟨rfl, N4q, e4⟩ := hQ4
  have N4 := Fr.app N3 N4q
  refine go_of (B := (T4.setTop (mkF m 31 #[.val (.int aa), .val (.int ba), .val (.int ca), .val (.int da), .val (.int nn), .val (.int ea), .val (.int (0 : Int32)), .val (.int (own_cx aa)), .val (.int (own_cx ba)), .val (.int (own_cx ca)), .unset, .unset, .unset, .unset, .unset, .unset] [(.int (own_cx da))]))) (st4) ?_
  refine go_of (B := (T4.setTop (mkF m 38 #[.val (.int aa), .val (.int ba), .val (.int ca), .val (.int da), .val (.int nn), .val (.int ea), .val (.int (0 : Int32)), .val (.int (own_cx aa)), .val (.int (own_cx ba)), .val (.int (own_cx ca)), .val (.int (own_cx da)), .unset, .unset, .unset, .unset, .unset] []))) (fun _ kk => XS.istore X4.here hx rfl (hb hby at_31) rfl rfl (XS.iload X4.here hx rfl (hb hby at_33) rfl (XS.ifNo X4.here hx rfl (hb hby at_35) rfl ((if0 _ _).trans (teq (by decide : (0 : Int32) = (0 : Int32))).2) kk))) ?_
  obtain ⟨T5, h5, X5, e5, E5, A5, D5, -, st5⟩ := newO X4 hx hZ hown (wd 5 rfl) (wd 6 rfl) (wd 7 rfl) e4 (g := (mkF m 38 #[.val (.int aa), .val (.int ba), .val (.int ca), .val (.int da), .val (.int nn), .val (.int ea), .val (.int (0 : Int32)), .val (.int (own_cx aa)), .val (.int (own_cx ba)), .val (.int (own_cx ca)), .val (.int (own_cx da)), .unset, .unset, .unset, .unset, .unset] [])) rfl (hb hby at_38) (by decide) (by decide)
  obtain ⟨b5, g5⟩ : ∃ z, z = h0.size := ⟨_, rfl⟩
  rw [← g5] at A5 D5 st5
  have hi5 := own_nlt A5.lt
  have sz5 := E5.1
  have HC5 := HC0.trans (CHr.ext E5 HC0.1)
  have F5_value : Fld Z h5 b5 "java/lang/String" "value" "[B" .null := D5 (Or.inr (wd 21 rfl)) (ty := (.array .byte)) (by decide)
  have F5_coder : Fld Z h5 b5 "java/lang/String" "coder" "B" (.int (0 : Int32)) := D5 (Or.inr (wd 22 rfl)) (ty := .byte) (by decide)
  refine go_of (B := (T5.setTop (mkF m 41 #[.val (.int aa), .val (.int ba), .val (.int ca), .val (.int da), .val (.int nn), .val (.int ea), .val (.int (0 : Int32)), .val (.int (own_cx aa)), .val (.int (own_cx ba)), .val (.int (own_cx ca)), .val (.int (own_cx da)), .unset, .unset, .unset, .unset, .unset] [(.ref b5)]))) (st5) ?_
  refine go_of (B := (T5.setTop (mkF m 43 #[.val (.int aa), .val (.int ba), .val (.int ca), .val (.int da), .val (.int nn), .val (.int ea), .val (.int (0 : Int32)), .val (.int (own_cx aa)), .val (.int (own_cx ba)), .val (.int (own_cx ca)), .val (.int (own_cx da)), .unset, .unset, .unset, .unset, .unset] [(.int (0 : Int32)), (.ref b5), (.ref b5)]))) (fun _ kk => XS.dup X5.here hx rfl (hb hby at_41) rfl rfl (XS.iconst X5.here hx rfl (hb hby at_42) kk)) ?_
  obtain ⟨T6, h6, k6, X6, e6, E6, A6, st6⟩ := newP X5 hx hZ (wd 8 rfl) e5 (g := (mkF m 43 #[.val (.int aa), .val (.int ba), .val (.int ca), .val (.int da), .val (.int nn), .val (.int ea), .val (.int (0 : Int32)), .val (.int (own_cx aa)), .val (.int (own_cx ba)), .val (.int (own_cx ca)), .val (.int (own_cx da)), .unset, .unset, .unset, .unset, .unset] [(.int (0 : Int32)), (.ref b5), (.ref b5)])) rfl (hb hby at_43) rfl (by decide) (cap := 0) (by decide) (by decide) (by decide) (by decide)
  obtain ⟨b6, g6⟩ : ∃ z, z = h5.size := ⟨_, rfl⟩
  rw [← g6] at A6 st6
  have hi6 := own_nlt A6.lt
  have sz6 := E6.1
  have HC6 := HC5.trans (CHr.ext E6 HC5.1)
  have V6 : Arv Z h6 b6 k6 .char (0 : Int32) [] (.int (0 : Int32)) := (Arv.new A6 (by decide)).pad (pad_rep [] (.int (0 : Int32)) 0)
  refine go_of (B := (T6.setTop (mkF m 45 #[.val (.int aa), .val (.int ba), .val (.int ca), .val (.int da), .val (.int nn), .val (.int ea), .val (.int (0 : Int32)), .val (.int (own_cx aa)), .val (.int (own_cx ba)), .val (.int (own_cx ca)), .val (.int (own_cx da)), .unset, .unset, .unset, .unset, .unset] [(.ref b6), (.ref b5), (.ref b5)]))) (st6) ?_
  have cf_7 := (A5.ext E6)
  have cf_8 := (F5_value.ext E6)
  have cf_9 := (F5_coder.ext E6)
  obtain ⟨_, _, ⟨T10, L10, k10, n10⟩, -, X10', hS10', gr10, ⟨Lc10, hQ10, l10, y10, z10, HR10⟩, st10⟩ := X6.specialBackS hx (y := MN12) rfl hown (mvT hZ (wd 9 rfl)) (mvT hZ (wd 10 rfl)) (mvT hZ (wd 11 rfl)) (by decide) (backOfSH (W := 1) (str_i1_0 l Z a0 hw [] b5 b6 _ k6 h6 n0 (by omega) cf_7 cf_8 cf_9 (by first | omega | exact own_ne (by omega) | exact own_le (by omega) | exact own_lt (by omega)) V6) hZ (wd 11 rfl) (wd 7 rfl) (by decide) (by decide) hEL HC6.1) (g := (mkF m 45 #[.val (.int aa), .val (.int ba), .val (.int ca), .val (.int da), .val (.int nn), .val (.int ea), .val (.int (0 : Int32)), .val (.int (own_cx aa)), .val (.int (own_cx ba)), .val (.int (own_cx ca)), .val (.int (own_cx da)), .unset, .unset, .unset, .unset, .unset] [(.ref b6), (.ref b5), (.ref b5)])) rfl (by rw [hml]; rfl) (Steps.refl _) (a := b5) (argsL := [(.ref b6)]) (rest := [(.ref b5)]) (lenOf pd___C_V rfl) rfl (by show 2 * 0 + _ ≤ _; exact Nat.le_of_eq rfl) (hb hby at_45) (fun _ _ => ⟨rfl, e6, (by decide : 2 + 4 ≤ _), (by decide : 4 + 8 ≤ _)⟩)
  dsimp only [Pt.U, Pt.locs, Pt.cells, Pt.slots] at X10' hS10' gr10 l10 y10 z10 st10 hQ10 HR10
  subst l10 y10 z10
  have X10 : Stand _ _ _ _ (s.setVm T10.vm) _ _ _ _ _ T10 _ _ _ := X10'
  have hS : s.Since T10.vm T10.heap.size := foldS hS (by rw [e6]; omega) hS10' gr10
  have hZ : Z.Warmed39 (s.setVm T10.vm).vm := State.Warmed39.trans (t := s.setVm s.vm) hZ hS10'.1
  have hown : (s.setVm T10.vm).vm.findClass "com/example/holdfast/holdfast/ExclusiveNamesAnOwnerPinLaw" = some m.cls := by rw [show (s.setVm T10.vm).vm = T10.vm from rfl, hS10'.1.alike.findClass]; exact hown
  obtain ⟨rfl, N10q, K10, S10⟩ := hQ10
  have N10 := Fr.app N4 N10q
  have sz10 := K10.1
  have HC10 := HC6.trans HR10
  refine go_tr (B := (T10.setTop (mkF m 48 #[.val (.int aa), .val (.int ba), .val (.int ca), .val (.int da), .val (.int nn), .val (.int ea), .val (.int (0 : Int32)), .val (.int (own_cx aa)), .val (.int (own_cx ba)), .val (.int (own_cx ca)), .val (.int (own_cx da)), .unset, .unset, .unset, .unset, .unset] [(.ref b5)]))) (st10) ?_
  refine go_of (B := (T10.setTop (mkF m 168 #[.val (.int aa), .val (.int ba), .val (.int ca), .val (.int da), .val (.int nn), .val (.int ea), .val (.int (0 : Int32)), .val (.int (own_cx aa)), .val (.int (own_cx ba)), .val (.int (own_cx ca)), .val (.int (own_cx da)), .val (.ref b5), .unset, .unset, .unset, .unset] []))) (fun _ kk => XS.astore X10.here hx rfl (hb hby at_48) rfl rfl rfl (XS.goto X10.here hx rfl (pc0 := 50) (pc' := 168) rfl (hb hby at_50) (by decide) (by decide) kk)) ?_
  have HJ11 : ∀ (xe : Int32), xe = own_no [] → Go p e below (T10.setTop (mkF m 227 #[.val (.int aa), .val (.int ba), .val (.int ca), .val (.int da), .val (.int nn), .val (.int ea), .val (.int (0 : Int32)), .val (.int (own_cx aa)), .val (.int (own_cx ba)), .val (.int (own_cx ca)), .val (.int (own_cx da)), .val (.ref b5), .val (.int xe), .unset, .unset, .unset] [])) (fun oo' U2' => ∃ vv' LL', oo' = .returned vv' ∧ (Q_rm0 Z aa ba ca da nn ea gC h0 n0) vv' U2'.heap LL' ∧ CHr Z own_EL s.vm s.heap U2'.vm U2'.heap ∧ ReturnedEndW s oo' U2' LL' room_1.cells room_1.slots) := by
    intro xe hjHJ11
    refine go_of (B := (T10.setTop (mkF m 229 #[.val (.int aa), .val (.int ba), .val (.int ca), .val (.int da), .val (.int nn), .val (.int ea), .val (.int (0 : Int32)), .val (.int (own_cx aa)), .val (.int (own_cx ba)), .val (.int (own_cx ca)), .val (.int (own_cx da)), .val (.ref b5), .val (.int xe), .unset, .unset, .unset] [(.ref b5)]))) (fun _ kk => XS.aload X10.here hx rfl (hb hby at_227) rfl rfl kk) ?_
    have cf_12 := (((O.ext E5).ext E6).keep K10 (allS (by first | omega | exact own_ne (by omega) | exact own_le (by omega) | exact own_lt (by omega)) all0))
    obtain ⟨_, _, ⟨T13, L13, k13, n13⟩, -, X13, ⟨Lc13, hQ13, l13, y13, z13⟩, st13⟩ := Jvm.LawKit.callS X10 hx (y := MN2) hown (mvT hZ (wd 27 rfl)) (mvT hZ (wd 28 rfl)) (mvT hZ (wd 29 rfl)) (mvT hZ (wd 30 rfl)) (by decide) (backOf (W := 0) (no_0 l Z a0 hw [] b5  gC T10.heap n0 (by omega) cf_12 SC hgC S10) hZ (wd 30 rfl) (wd 29 rfl) (by decide) (by decide)) (g := (mkF m 229 #[.val (.int aa), .val (.int ba), .val (.int ca), .val (.int da), .val (.int nn), .val (.int ea), .val (.int (0 : Int32)), .val (.int (own_cx aa)), .val (.int (own_cx ba)), .val (.int (own_cx ca)), .val (.int (own_cx da)), .val (.ref b5), .val (.int xe), .unset, .unset, .unset] [(.ref b5)])) rfl (by rw [hml]; rfl) (argsL := [(.ref b5)]) (rest := []) (lenOf pd__Ljava_lang_String__Z rfl) rfl (by show 2 * 0 + _ ≤ _; exact Nat.le_of_eq rfl) (hb hby at_229) (fun _ _ => ⟨rfl, rfl, (by decide : 6 + 0 ≤ _), (by decide : 12 + 0 ≤ _)⟩)
    dsimp only [Pt.U, Pt.locs, Pt.cells, Pt.slots] at X13 l13 y13 z13 st13 hQ13
    subst l13 y13 z13
    obtain ⟨rfl, N13q, e13⟩ := hQ13
    have N13 := Fr.app N10 N13q
    refine go_of (B := (T13.setTop (mkF m 232 #[.val (.int aa), .val (.int ba), .val (.int ca), .val (.int da), .val (.int nn), .val (.int ea), .val (.int (0 : Int32)), .val (.int (own_cx aa)), .val (.int (own_cx ba)), .val (.int (own_cx ca)), .val (.int (own_cx da)), .val (.ref b5), .val (.int xe), .unset, .unset, .unset] [(.int (own_no []))]))) (st13) ?_
    refine go_of (B := (T13.setTop (mkF m 246 #[.val (.int aa), .val (.int ba), .val (.int ca), .val (.int da), .val (.int nn), .val (.int ea), .val (.int (0 : Int32)), .val (.int (own_cx aa)), .val (.int (own_cx ba)), .val (.int (own_cx ca)), .val (.int (own_cx da)), .val (.ref b5), .val (.int xe), .val (.int (1 : Int32)), .unset, .unset] [(.int ea)]))) (fun _ kk => XS.iload X13.here hx rfl (hb hby at_232) rfl (XS.icmpNo X13.here hx rfl (hb hby at_234) rfl (teq hjHJ11.symm).2 (XS.iconst X13.here hx rfl (hb hby at_237) (XS.goto X13.here hx rfl (pc0 := 238) (pc' := 242) rfl (hb hby at_238) (by decide) (by decide) (XS.istore X13.here hx rfl (hb hby at_242) rfl rfl (XS.iload X13.here hx rfl (hb hby at_244) rfl kk)))))) ?_
    obtain ⟨_, _, ⟨T14, L14, k14, n14⟩, -, X14, ⟨Lc14, hQ14, l14, y14, z14⟩, st14⟩ := Jvm.LawKit.callS X13 hx (y := MN0) hown (mvT hZ (wd 1 rfl)) (mvT hZ (wd 2 rfl)) (mvT hZ (wd 3 rfl)) (mvT hZ (wd 4 rfl)) (by decide) (backOf (W := 0) (ch l Z a0 hw [] ea T10.heap n0 (by omega)) hZ (wd 4 rfl) (wd 3 rfl) (by decide) (by decide)) (g := (mkF m 246 #[.val (.int aa), .val (.int ba), .val (.int ca), .val (.int da), .val (.int nn), .val (.int ea), .val (.int (0 : Int32)), .val (.int (own_cx aa)), .val (.int (own_cx ba)), .val (.int (own_cx ca)), .val (.int (own_cx da)), .val (.ref b5), .val (.int xe), .val (.int (1 : Int32)), .unset, .unset] [(.int ea)])) rfl (by rw [hml]; rfl) (argsL := [(.int ea)]) (rest := []) (lenOf pd__I_C rfl) rfl (by show 2 * 0 + _ ≤ _; exact Nat.le_of_eq rfl) (hb hby at_246) (fun _ _ => ⟨rfl, e13, (by decide : 6 + 0 ≤ _), (by decide : 12 + 0 ≤ _)⟩)
    dsimp only [Pt.U, Pt.locs, Pt.cells, Pt.slots] at X14 l14 y14 z14 st14 hQ14
    subst l14 y14 z14
    obtain ⟨rfl, N14q, e14⟩ := hQ14
    have N14 := Fr.app N13 N14q
    refine go_of (B := (T14.setTop (mkF m 249 #[.val (.int aa), .val (.int ba), .val (.int ca), .val (.int da), .val (.int nn), .val (.int ea), .val (.int (0 : Int32)), .val (.int (own_cx aa)), .val (.int (own_cx ba)), .val (.int (own_cx ca)), .val (.int (own_cx da)), .val (.ref b5), .val (.int xe), .val (.int (1 : Int32)), .unset, .unset] [(.int (own_cx ea))]))) (st14) ?_
    obtain ⟨_, _, ⟨T15, L15, k15, n15⟩, -, X15, ⟨Lc15, hQ15, l15, y15, z15⟩, st15⟩ := Jvm.LawKit.callS X14 hx (y := MN20) hown (mvT hZ (wd 71 rfl)) (mvT hZ (wd 72 rfl)) (mvT hZ (wd 7 rfl)) (mvT hZ (wd 73 rfl)) (by decide) (backOf (W := 0) (v_vof l Z a0 hw [] (own_cx ea) gC T10.heap n0 (by omega) cf_12 SC hgC (own_cxr ea)) hZ (wd 73 rfl) (wd 7 rfl) (by decide) (by decide)) (g := (mkF m 249 #[.val (.int aa), .val (.int ba), .val (.int ca), .val (.int da), .val (.int nn), .val (.int ea), .val (.int (0 : Int32)), .val (.int (own_cx aa)), .val (.int (own_cx ba)), .val (.int (own_cx ca)), .val (.int (own_cx da)), .val (.ref b5), .val (.int xe), .val (.int (1 : Int32)), .unset, .unset] [(.int (own_cx ea))])) rfl (by rw [hml]; rfl) (argsL := [(.int (own_cx ea))]) (rest := []) (lenOf pd__C_Ljava_lang_String_ rfl) rfl (by show 2 * 0 + _ ≤ _; exact Nat.le_of_eq rfl) (hb hby at_249) (fun _ _ => ⟨rfl, e14, (by decide : 6 + 2 ≤ _), (by decide : 12 + 5 ≤ _)⟩)
    dsimp only [Pt.U, Pt.locs, Pt.cells, Pt.slots] at X15 l15 y15 z15 st15 hQ15
    subst l15 y15 z15
    obtain ⟨b15, rfl, N15q, lo15, K15, S15⟩ := hQ15
    have lo15 := own_nle lo15
    have N15 := Fr.app N14 N15q
    have hi15 := own_nlt (S15.exa.lt)
    have sz15 := K15.1
    have SK15 : ∀ x ∈ ([] : List Addr), Safe Z own_EL T10.vm T10.heap x := all0
    have HC15 := HC10.trans (CHr.keep K15 SK15 HC10.1)
    refine go_of (B := (T15.setTop (mkF m 252 #[.val (.int aa), .val (.int ba), .val (.int ca), .val (.int da), .val (.int nn), .val (.int ea), .val (.int (0 : Int32)), .val (.int (own_cx aa)), .val (.int (own_cx ba)), .val (.int (own_cx ca)), .val (.int (own_cx da)), .val (.ref b5), .val (.int xe), .val (.int (1 : Int32)), .unset, .unset] [(.ref b15)]))) (st15) ?_
    refine go_of (B := (T15.setTop (mkF m 258 #[.val (.int aa), .val (.int ba), .val (.int ca), .val (.int da), .val (.int nn), .val (.int ea), .val (.int (0 : Int32)), .val (.int (own_cx aa)), .val (.int (own_cx ba)), .val (.int (own_cx ca)), .val (.int (own_cx da)), .val (.ref b5), .val (.int xe), .val (.int (1 : Int32)), .val (.ref b15), .unset] [(.ref b15), (.ref b5)]))) (fun _ kk => XS.astore X15.here hx rfl (hb hby at_252) rfl rfl rfl (XS.aload X15.here hx rfl (hb hby at_254) rfl rfl (XS.aload X15.here hx rfl (hb hby at_256) rfl rfl kk))) ?_
    have cf_16 := (cf_12.keep K15 all0)
    have cf_17 := S10.ext (own_kx ((Keep.refl T10.heap []).trans K15 all0))
    obtain ⟨_, _, ⟨T18, L18, k18, n18⟩, -, X18', hS18', gr18, ⟨Lc18, hQ18, l18, y18, z18, HR18⟩, st18⟩ := callSS X15 hx (y := MN1) hown (mvT hZ (wd 84 rfl)) (mvT hZ (wd 85 rfl)) (mvT hZ (wd 29 rfl)) (mvT hZ (wd 86 rfl)) (by decide) (backOfSH (W := 0) (emN l Z a0 hw [] b5 b15 (0 : Int32) (own_cx ea) gC T15.heap n0 (by omega) cf_16 SC hgC (StrN.of cf_17) (by unfold N5; decide) S15) hZ (wd 86 rfl) (wd 29 rfl) (by decide) (by decide) hEL HC15.1) (g := (mkF m 258 #[.val (.int aa), .val (.int ba), .val (.int ca), .val (.int da), .val (.int nn), .val (.int ea), .val (.int (0 : Int32)), .val (.int (own_cx aa)), .val (.int (own_cx ba)), .val (.int (own_cx ca)), .val (.int (own_cx da)), .val (.ref b5), .val (.int xe), .val (.int (1 : Int32)), .val (.ref b15), .unset] [(.ref b15), (.ref b5)])) rfl (by rw [hml]; rfl) (argsL := [(.ref b5), (.ref b15)]) (rest := []) (lenOf pd__Ljava_lang_String_Ljava_lang_String__Ljava_lang_String_ rfl) rfl (by show 2 * 0 + _ ≤ _; exact Nat.le_of_eq rfl) (hb hby at_258) (fun _ _ => ⟨rfl, rfl, (by decide : 8 + 6 ≤ _), (by decide : 17 + 38 ≤ _)⟩)
    dsimp only [Pt.U, Pt.locs, Pt.cells, Pt.slots] at X18' hS18' gr18 l18 y18 z18 st18 hQ18 HR18
    subst l18 y18 z18
    have X18 : Stand _ _ _ _ (s.setVm T18.vm) _ _ _ _ _ T18 _ _ _ := X18'
    have hS : s.Since T18.vm T18.heap.size := foldS hS (by first | omega | exact own_ne (by omega) | exact own_le (by omega) | exact own_lt (by omega)) hS18' gr18
    have hZ : Z.Warmed39 (s.setVm T18.vm).vm := State.Warmed39.trans (t := s.setVm T10.vm) hZ hS18'.1
    have hown : (s.setVm T18.vm).vm.findClass "com/example/holdfast/holdfast/ExclusiveNamesAnOwnerPinLaw" = some m.cls := by rw [show (s.setVm T18.vm).vm = T18.vm from rfl, hS18'.1.alike.findClass]; exact hown
    obtain ⟨b18, rfl, N18q, lo18, K18, S18⟩ := hQ18
    have lo18 := own_nle lo18
    have N18 := Fr.app N15 N18q
    have hi18 := own_nlt (S18.exa.lt)
    have sz18 := K18.1
    have HC18 := HC15.trans HR18
    refine go_tr (B := (T18.setTop (mkF m 261 #[.val (.int aa), .val (.int ba), .val (.int ca), .val (.int da), .val (.int nn), .val (.int ea), .val (.int (0 : Int32)), .val (.int (own_cx aa)), .val (.int (own_cx ba)), .val (.int (own_cx ca)), .val (.int (own_cx da)), .val (.ref b5), .val (.int xe), .val (.int (1 : Int32)), .val (.ref b15), .unset] [(.ref b18)]))) (st18) ?_
    have cf_19 := (cf_16.keep K18 all0)
    obtain ⟨_, _, ⟨T20, L20, k20, n20⟩, -, X20, ⟨Lc20, hQ20, l20, y20, z20⟩, st20⟩ := Jvm.LawKit.callS X18 hx (y := MN2) hown (mvT hZ (wd 27 rfl)) (mvT hZ (wd 28 rfl)) (mvT hZ (wd 29 rfl)) (mvT hZ (wd 30 rfl)) (by decide) (backOf (W := 0) (noH l Z a0 hw [] b18 ((2 : Int32) + (0 : Int32)) (own_cx ea) gC T18.heap n0 (by omega) cf_19 SC hgC S18 (N5.m (by unfold N5; decide))) hZ (wd 30 rfl) (wd 29 rfl) (by decide) (by decide)) (g := (mkF m 261 #[.val (.int aa), .val (.int ba), .val (.int ca), .val (.int da), .val (.int nn), .val (.int ea), .val (.int (0 : Int32)), .val (.int (own_cx aa)), .val (.int (own_cx ba)), .val (.int (own_cx ca)), .val (.int (own_cx da)), .val (.ref b5), .val (.int xe), .val (.int (1 : Int32)), .val (.ref b15), .unset] [(.ref b18)])) rfl (by rw [hml]; rfl) (argsL := [(.ref b18)]) (rest := []) (lenOf pd__Ljava_lang_String__Z rfl) rfl (by show 2 * 0 + _ ≤ _; exact Nat.le_of_eq rfl) (hb hby at_261) (fun _ _ => ⟨rfl, rfl, (by decide : 14 + 0 ≤ _), (by decide : 55 + 0 ≤ _)⟩)
    dsimp only [Pt.U, Pt.locs, Pt.cells, Pt.slots] at X20 l20 y20 z20 st20 hQ20
    subst l20 y20 z20
    obtain ⟨rfl, N20q, e20⟩ := hQ20
    have N20 := Fr.app N18 N20q
    refine go_of (B := (T20.setTop (mkF m 264 #[.val (.int aa), .val (.int ba), .val (.int ca), .val (.int da), .val (.int nn), .val (.int ea), .val (.int (0 : Int32)), .val (.int (own_cx aa)), .val (.int (own_cx ba)), .val (.int (own_cx ca)), .val (.int (own_cx da)), .val (.ref b5), .val (.int xe), .val (.int (1 : Int32)), .val (.ref b15), .unset] [(.int (1 : Int32))]))) (st20) ?_
    refine go_of (B := (T20.setTop (mkF m 277 #[.val (.int aa), .val (.int ba), .val (.int ca), .val (.int da), .val (.int nn), .val (.int ea), .val (.int (0 : Int32)), .val (.int (own_cx aa)), .val (.int (own_cx ba)), .val (.int (own_cx ca)), .val (.int (own_cx da)), .val (.ref b5), .val (.int xe), .val (.int (1 : Int32)), .val (.ref b15), .val (.int (1 : Int32))] [(.int (1 : Int32))]))) (fun _ kk => XS.istore X20.here hx rfl (hb hby at_264) rfl rfl (XS.iload X20.here hx rfl (hb hby at_266) rfl (XS.ifNo X20.here hx rfl (hb hby at_268) rfl ((if0 _ _).trans (feq (by decide : ¬ ((1 : Int32) = (0 : Int32)))).1) (XS.iload X20.here hx rfl (hb hby at_271) rfl (XS.ifNo X20.here hx rfl (hb hby at_273) rfl ((if0 _ _).trans (feq (by decide : ¬ ((1 : Int32) = (0 : Int32)))).1) (XS.iconst X20.here hx rfl (hb hby at_276) kk)))))) ?_
    refine go_of (B := (T20.setTop (mkF m 281 #[.val (.int aa), .val (.int ba), .val (.int ca), .val (.int da), .val (.int nn), .val (.int ea), .val (.int (0 : Int32)), .val (.int (own_cx aa)), .val (.int (own_cx ba)), .val (.int (own_cx ca)), .val (.int (own_cx da)), .val (.ref b5), .val (.int xe), .val (.int (1 : Int32)), .val (.ref b15), .val (.int (1 : Int32))] [(.int (1 : Int32))]))) (fun _ kk => XS.goto X20.here hx rfl (pc0 := 277) (pc' := 281) rfl (hb hby at_277) (by decide) (by decide) kk) ?_
    refine go_endH X20 hZ hEL HC18 hh0 e20 hS (by rw [e20]; omega) (v := some (.int (nar .boolean (1 : Int32)))) (fun h => by rw [hret] at h; cases h) hlk (by decide) (by decide) (Q := (Q_rm0 Z aa ba ca da nn ea gC h0 n0)) ?_ (fun fs hr => retN X20 hx (t := .boolean) hret (by simp) (hb hby at_281) hr)
    unfold Q_rm0
    try rw [e20]
    exact ⟨rfl, N20⟩
  refine go_of (B := (T10.setTop (mkF m 194 #[.val (.int aa), .val (.int ba), .val (.int ca), .val (.int da), .val (.int nn), .val (.int ea), .val (.int (0 : Int32)), .val (.int (own_cx aa)), .val (.int (own_cx ba)), .val (.int (own_cx ca)), .val (.int (own_cx da)), .val (.ref b5), .unset, .unset, .unset, .unset] []))) (fun _ kk => XS.iload X10.here hx rfl (hb hby at_168) rfl (XS.iconst X10.here hx rfl (hb hby at_170) (XS.icmpYes X10.here hx rfl (pc0 := 171) (pc' := 181) rfl (hb hby at_171) rfl (tlt (by decide : (0 : Int32) < (1 : Int32))).1 (by decide) (by decide) (XS.iload X10.here hx rfl (hb hby at_181) rfl (XS.iconst X10.here hx rfl (hb hby at_183) (XS.icmpYes X10.here hx rfl (pc0 := 184) (pc' := 194) rfl (hb hby at_184) rfl (tlt (by decide : (0 : Int32) < (2 : Int32))).1 (by decide) (by decide) kk)))))) ?_
  refine go_of (B := (T10.setTop (mkF m 224 #[.val (.int aa), .val (.int ba), .val (.int ca), .val (.int da), .val (.int nn), .val (.int ea), .val (.int (0 : Int32)), .val (.int (own_cx aa)), .val (.int (own_cx ba)), .val (.int (own_cx ca)), .val (.int (own_cx da)), .val (.ref b5), .unset, .unset, .unset, .unset] []))) (fun _ kk => XS.iload X10.here hx rfl (hb hby at_194) rfl (XS.iconst X10.here hx rfl (hb hby at_196) (XS.icmpYes X10.here hx rfl (pc0 := 197) (pc' := 207) rfl (hb hby at_197) rfl (tlt (by decide : (0 : Int32) < (3 : Int32))).1 (by decide) (by decide) (XS.iload X10.here hx rfl (hb hby at_207) rfl (XS.iconst X10.here hx rfl (hb hby at_209) (XS.icmpYes X10.here hx rfl (pc0 := 210) (pc' := 224) rfl (hb hby at_210) rfl (tlt (by decide : (0 : Int32) < (4 : Int32))).1 (by decide) (by decide) kk)))))) ?_
  refine go_of (B := (T10.setTop (mkF m 227 #[.val (.int aa), .val (.int ba), .val (.int ca), .val (.int da), .val (.int nn), .val (.int ea), .val (.int (0 : Int32)), .val (.int (own_cx aa)), .val (.int (own_cx ba)), .val (.int (own_cx ca)), .val (.int (own_cx da)), .val (.ref b5), .val (.int (0 : Int32)), .unset, .unset, .unset] []))) (fun _ kk => XS.iconst X10.here hx rfl (hb hby at_224) (XS.istore X10.here hx rfl (hb hby at_225) rfl rfl kk)) ?_
  exact HJ11 (0 : Int32) (by simp [own_no, own_hs])
theorem lw1 {p : Program} {l : Launch} {e : Env} {s : State} {m : MethodId} {args : Array Value} {below : List Frame} {meth : Method} {c : Code} {Z : State} {a0 : Array Value} {h0 : Heap} {n0 : Nat} (aa : Int32) (ba : Int32) (ca : Int32) (da : Int32) (nn : Int32) (ea : Int32) (gC : Int32) {T0 : State} {locs : List Loc}
    (X0 : Stand p l e room_1 s m args below meth c T0 locs 0 0) (hx : p.tables.exec = Jvm.exec) (hZ : Z.Warmed39 s.vm) (hw : TW a0 Z) (hby : c.code = code) (hml : c.maxLocals = 16) (hown : s.vm.findClass "com/example/holdfast/holdfast/ExclusiveNamesAnOwnerPinLaw" = some m.cls) (hret : meth.sig.returnType = (some .boolean)) (hlk : meth.locks = false) (e0 : T0.heap = h0) (N0 : Fr n0 locs) (Z0 : n0 ≤ h0.size) (O : Old Z n0 h0) (SC : Sta Z Z.heap "java/lang/String" "COMPACT_STRINGS" "Z" (.int gC)) (hgC : ¬ gC = (0 : Int32)) (hh0 : s.heap = h0) (hCH : CHv Z own_EL s.vm h0) :
    Go p e below (T0.setTop (mkF m 9 #[.val (.int aa), .val (.int ba), .val (.int ca), .val (.int da), .val (.int nn), .val (.int ea), .val (.int (1 : Int32)), .unset, .unset, .unset, .unset, .unset, .unset, .unset, .unset, .unset] [])) (fun oo' U2' => ∃ vv' LL', oo' = .returned vv' ∧ (Q_rm0 Z aa ba ca da nn ea gC h0 n0) vv' U2'.heap LL' ∧ CHr Z own_EL s.vm s.heap U2'.vm U2'.heap ∧ ReturnedEndW s oo' U2' LL' room_1.cells room_1.slots) := by
  have wd := @own_wd _ _ hw
  have X0 : Stand p l e room_1 (s.setVm s.vm) m args below meth c T0 locs 0 0 := X0
  have hS : s.Since s.vm 0 := (State.WarmedH.refl s).since 0
  have hEL := own_EW hw
  have HC0 := CHr.refl hCH
  refine go_of (B := (T0.setTop (mkF m 10 #[.val (.int aa), .val (.int ba), .val (.int ca), .val (.int da), .val (.int nn), .val (.int ea), .val (.int (1 : Int32)), .unset, .unset, .unset, .unset, .unset, .unset, .unset, .unset, .unset] [(.int aa)]))) (fun _ kk => XS.iloadN X0.here hx rfl (hb hby at_9) rfl kk) ?_
  obtain ⟨_, _, ⟨T21, L21, k21, n21⟩, -, X21, ⟨Lc21, hQ21, l21, y21, z21⟩, st21⟩ := Jvm.LawKit.callS X0 hx (y := MN0) hown (mvT hZ (wd 1 rfl)) (mvT hZ (wd 2 rfl)) (mvT hZ (wd 3 rfl)) (mvT hZ (wd 4 rfl)) (by decide) (backOf (W := 0) (ch l Z a0 hw [] aa h0 n0 (by omega)) hZ (wd 4 rfl) (wd 3 rfl) (by decide) (by decide)) (g := (mkF m 10 #[.val (.int aa), .val (.int ba), .val (.int ca), .val (.int da), .val (.int nn), .val (.int ea), .val (.int (1 : Int32)), .unset, .unset, .unset, .unset, .unset, .unset, .unset, .unset, .unset] [(.int aa)])) rfl (by rw [hml]; rfl) (argsL := [(.int aa)]) (rest := []) (lenOf pd__I_C rfl) rfl (by show 2 * 0 + _ ≤ _; exact Nat.le_of_eq rfl) (hb hby at_10) (fun _ _ => ⟨rfl, e0, (by decide : 0 + 0 ≤ _), (by decide : 0 + 0 ≤ _)⟩)
  dsimp only [Pt.U, Pt.locs, Pt.cells, Pt.slots] at X21 l21 y21 z21 st21 hQ21
  subst l21 y21 z21
  obtain ⟨rfl, N21q, e21⟩ := hQ21
  have N21 := Fr.app N0 N21q
  refine go_of (B := (T21.setTop (mkF m 13 #[.val (.int aa), .val (.int ba), .val (.int ca), .val (.int da), .val (.int nn), .val (.int ea), .val (.int (1 : Int32)), .unset, .unset, .unset, .unset, .unset, .unset, .unset, .unset, .unset] [(.int (own_cx aa))]))) (st21) ?_
  refine go_of (B := (T21.setTop (mkF m 16 #[.val (.int aa), .val (.int ba), .val (.int ca), .val (.int da), .val (.int nn), .val (.int ea), .val (.int (1 : Int32)), .val (.int (own_cx aa)), .unset, .unset, .unset, .unset, .unset, .unset, .unset, .unset] [(.int ba)]))) (fun _ kk => XS.istore X21.here hx rfl (hb hby at_13) rfl rfl (XS.iloadN X21.here hx rfl (hb hby at_15) rfl kk)) ?_
  obtain ⟨_, _, ⟨T22, L22, k22, n22⟩, -, X22, ⟨Lc22, hQ22, l22, y22, z22⟩, st22⟩ := Jvm.LawKit.callS X21 hx (y := MN0) hown (mvT hZ (wd 1 rfl)) (mvT hZ (wd 2 rfl)) (mvT hZ (wd 3 rfl)) (mvT hZ (wd 4 rfl)) (by decide) (backOf (W := 0) (ch l Z a0 hw [] ba h0 n0 (by omega)) hZ (wd 4 rfl) (wd 3 rfl) (by decide) (by decide)) (g := (mkF m 16 #[.val (.int aa), .val (.int ba), .val (.int ca), .val (.int da), .val (.int nn), .val (.int ea), .val (.int (1 : Int32)), .val (.int (own_cx aa)), .unset, .unset, .unset, .unset, .unset, .unset, .unset, .unset] [(.int ba)])) rfl (by rw [hml]; rfl) (argsL := [(.int ba)]) (rest := []) (lenOf pd__I_C rfl) rfl (by show 2 * 0 + _ ≤ _; exact Nat.le_of_eq rfl) (hb hby at_16) (fun _ _ => ⟨rfl, e21, (by decide : 0 + 0 ≤ _), (by decide : 0 + 0 ≤ _)⟩)
  dsimp only [Pt.U, Pt.locs, Pt.cells, Pt.slots] at X22 l22 y22 z22 st22 hQ22
  subst l22 y22 z22
  obtain ⟨rfl, N22q, e22⟩ := hQ22
  have N22 := Fr.app N21 N22q
  refine go_of (B := (T22.setTop (mkF m 19 #[.val (.int aa), .val (.int ba), .val (.int ca), .val (.int da), .val (.int nn), .val (.int ea), .val (.int (1 : Int32)), .val (.int (own_cx aa)), .unset, .unset, .unset, .unset, .unset, .unset, .unset, .unset] [(.int (own_cx ba))]))) (st22) ?_
  refine go_of (B := (T22.setTop (mkF m 22 #[.val (.int aa), .val (.int ba), .val (.int ca), .val (.int da), .val (.int nn), .val (.int ea), .val (.int (1 : Int32)), .val (.int (own_cx aa)), .val (.int (own_cx ba)), .unset, .unset, .unset, .unset, .unset, .unset, .unset] [(.int ca)]))) (fun _ kk => XS.istore X22.here hx rfl (hb hby at_19) rfl rfl (XS.iloadN X22.here hx rfl (hb hby at_21) rfl kk)) ?_
  obtain ⟨_, _, ⟨T23, L23, k23, n23⟩, -, X23, ⟨Lc23, hQ23, l23, y23, z23⟩, st23⟩ := Jvm.LawKit.callS X22 hx (y := MN0) hown (mvT hZ (wd 1 rfl)) (mvT hZ (wd 2 rfl)) (mvT hZ (wd 3 rfl)) (mvT hZ (wd 4 rfl)) (by decide) (backOf (W := 0) (ch l Z a0 hw [] ca h0 n0 (by omega)) hZ (wd 4 rfl) (wd 3 rfl) (by decide) (by decide)) (g := (mkF m 22 #[.val (.int aa), .val (.int ba), .val (.int ca), .val (.int da), .val (.int nn), .val (.int ea), .val (.int (1 : Int32)), .val (.int (own_cx aa)), .val (.int (own_cx ba)), .unset, .unset, .unset, .unset, .unset, .unset, .unset] [(.int ca)])) rfl (by rw [hml]; rfl) (argsL := [(.int ca)]) (rest := []) (lenOf pd__I_C rfl) rfl (by show 2 * 0 + _ ≤ _; exact Nat.le_of_eq rfl) (hb hby at_22) (fun _ _ => ⟨rfl, e22, (by decide : 0 + 0 ≤ _), (by decide : 0 + 0 ≤ _)⟩)
  dsimp only [Pt.U, Pt.locs, Pt.cells, Pt.slots] at X23 l23 y23 z23 st23 hQ23
  subst l23 y23 z23
  obtain ⟨rfl, N23q, e23⟩ := hQ23
  have N23 := Fr.app N22 N23q
  refine go_of (B := (T23.setTop (mkF m 25 #[.val (.int aa), .val (.int ba), .val (.int ca), .val (.int da), .val (.int nn), .val (.int ea), .val (.int (1 : Int32)), .val (.int (own_cx aa)), .val (.int (own_cx ba)), .unset, .unset, .unset, .unset, .unset, .unset, .unset] [(.int (own_cx ca))]))) (st23) ?_
  refine go_of (B := (T23.setTop (mkF m 28 #[.val (.int aa), .val (.int ba), .val (.int ca), .val (.int da), .val (.int nn), .val (.int ea), .val (.int (1 : Int32)), .val (.int (own_cx aa)), .val (.int (own_cx ba)), .val (.int (own_cx ca)), .unset, .unset, .unset, .unset, .unset, .unset] [(.int da)]))) (fun _ kk => XS.istore X23.here hx rfl (hb hby at_25) rfl rfl (XS.iloadN X23.here hx rfl (hb hby at_27) rfl kk)) ?_
  obtain ⟨_, _, ⟨T24, L24, k24, n24⟩, -, X24, ⟨Lc24, hQ24, l24, y24, z24⟩, st24⟩ := Jvm.LawKit.callS X23 hx (y := MN0) hown (mvT hZ (wd 1 rfl)) (mvT hZ (wd 2 rfl)) (mvT hZ (wd 3 rfl)) (mvT hZ (wd 4 rfl)) (by decide) (backOf (W := 0) (ch l Z a0 hw [] da h0 n0 (by omega)) hZ (wd 4 rfl) (wd 3 rfl) (by decide) (by decide)) (g := (mkF m 28 #[.val (.int aa), .val (.int ba), .val (.int ca), .val (.int da), .val (.int nn), .val (.int ea), .val (.int (1 : Int32)), .val (.int (own_cx aa)), .val (.int (own_cx ba)), .val (.int (own_cx ca)), .unset, .unset, .unset, .unset, .unset, .unset] [(.int da)])) rfl (by rw [hml]; rfl) (argsL := [(.int da)]) (rest := []) (lenOf pd__I_C rfl) rfl (by show 2 * 0 + _ ≤ _; exact Nat.le_of_eq rfl) (hb hby at_28) (fun _ _ => ⟨rfl, e23, (by decide : 0 + 0 ≤ _), (by decide : 0 + 0 ≤ _)⟩)
  dsimp only [Pt.U, Pt.locs, Pt.cells, Pt.slots] at X24 l24 y24 z24 st24 hQ24
  subst l24 y24 z24
  obtain ⟨rfl, N24q, e24⟩ := hQ24
  have N24 := Fr.app N23 N24q
  refine go_of (B := (T24.setTop (mkF m 31 #[.val (.int aa), .val (.int ba), .val (.int ca), .val (.int da), .val (.int nn), .val (.int ea), .val (.int (1 : Int32)), .val (.int (own_cx aa)), .val (.int (own_cx ba)), .val (.int (own_cx ca)), .unset, .unset, .unset, .unset, .unset, .unset] [(.int (own_cx da))]))) (st24) ?_
  refine go_of (B := (T24.setTop (mkF m 59 #[.val (.int aa), .val (.int ba), .val (.int ca), .val (.int da), .val (.int nn), .val (.int ea), .val (.int (1 : Int32)), .val (.int (own_cx aa)), .val (.int (own_cx ba)), .val (.int (own_cx ca)), .val (.int (own_cx da)), .unset, .unset, .unset, .unset, .unset] []))) (fun _ kk => XS.istore X24.here hx rfl (hb hby at_31) rfl rfl (XS.iload X24.here hx rfl (hb hby at_33) rfl (XS.ifYes X24.here hx rfl (pc0 := 35) (pc' := 53) rfl (hb hby at_35) rfl ((if0 _ _).trans (feq (by decide : ¬ ((1 : Int32) = (0 : Int32)))).2) (by decide) (by decide) (XS.iload X24.here hx rfl (hb hby at_53) rfl (XS.iconst X24.here hx rfl (hb hby at_55) (XS.icmpNo X24.here hx rfl (hb hby at_56) rfl (teq (by decide : (1 : Int32) = (1 : Int32))).2 kk)))))) ?_
  refine go_of (B := (T24.setTop (mkF m 61 #[.val (.int aa), .val (.int ba), .val (.int ca), .val (.int da), .val (.int nn), .val (.int ea), .val (.int (1 : Int32)), .val (.int (own_cx aa)), .val (.int (own_cx ba)), .val (.int (own_cx ca)), .val (.int (own_cx da)), .unset, .unset, .unset, .unset, .unset] [(.int (own_cx aa))]))) (fun _ kk => XS.iload X24.here hx rfl (hb hby at_59) rfl kk) ?_
  obtain ⟨_, _, ⟨T25, L25, k25, n25⟩, -, X25, ⟨Lc25, hQ25, l25, y25, z25⟩, st25⟩ := Jvm.LawKit.callS X24 hx (y := MN20) hown (mvT hZ (wd 71 rfl)) (mvT hZ (wd 72 rfl)) (mvT hZ (wd 7 rfl)) (mvT hZ (wd 73 rfl)) (by decide) (backOf (W := 0) (v_vof l Z a0 hw [] (own_cx aa) gC h0 n0 (by omega) O SC hgC (own_cxr aa)) hZ (wd 73 rfl) (wd 7 rfl) (by decide) (by decide)) (g := (mkF m 61 #[.val (.int aa), .val (.int ba), .val (.int ca), .val (.int da), .val (.int nn), .val (.int ea), .val (.int (1 : Int32)), .val (.int (own_cx aa)), .val (.int (own_cx ba)), .val (.int (own_cx ca)), .val (.int (own_cx da)), .unset, .unset, .unset, .unset, .unset] [(.int (own_cx aa))])) rfl (by rw [hml]; rfl) (argsL := [(.int (own_cx aa))]) (rest := []) (lenOf pd__C_Ljava_lang_String_ rfl) rfl (by show 2 * 0 + _ ≤ _; exact Nat.le_of_eq rfl) (hb hby at_61) (fun _ _ => ⟨rfl, e24, (by decide : 0 + 2 ≤ _), (by decide : 0 + 5 ≤ _)⟩)
  dsimp only [Pt.U, Pt.locs, Pt.cells, Pt.slots] at X25 l25 y25 z25 st25 hQ25
  subst l25 y25 z25
  obtain ⟨b25, rfl, N25q, lo25, K25, S25⟩ := hQ25
  have lo25 := own_nle lo25
  have N25 := Fr.app N24 N25q
  have hi25 := own_nlt (S25.exa.lt)
  have sz25 := K25.1
  have SK25 : ∀ x ∈ ([] : List Addr), Safe Z own_EL s.vm h0 x := all0
  have HC25 := HC0.trans (CHr.keep K25 SK25 HC0.1)
  refine go_of (B := (T25.setTop (mkF m 64 #[.val (.int aa), .val (.int ba), .val (.int ca), .val (.int da), .val (.int nn), .val (.int ea), .val (.int (1 : Int32)), .val (.int (own_cx aa)), .val (.int (own_cx ba)), .val (.int (own_cx ca)), .val (.int (own_cx da)), .unset, .unset, .unset, .unset, .unset] [(.ref b25)]))) (st25) ?_
  refine go_of (B := (T25.setTop (mkF m 168 #[.val (.int aa), .val (.int ba), .val (.int ca), .val (.int da), .val (.int nn), .val (.int ea), .val (.int (1 : Int32)), .val (.int (own_cx aa)), .val (.int (own_cx ba)), .val (.int (own_cx ca)), .val (.int (own_cx da)), .val (.ref b25), .unset, .unset, .unset, .unset] []))) (fun _ kk => XS.astore X25.here hx rfl (hb hby at_64) rfl rfl rfl (XS.goto X25.here hx rfl (pc0 := 66) (pc' := 168) rfl (hb hby at_66) (by decide) (by decide) kk)) ?_
  have HJ26 : ∀ (xe : Int32), xe = own_no [(own_cx aa)] → Go p e below (T25.setTop (mkF m 227 #[.val (.int aa), .val (.int ba), .val (.int ca), .val (.int da), .val (.int nn), .val (.int ea), .val (.int (1 : Int32)), .val (.int (own_cx aa)), .val (.int (own_cx ba)), .val (.int (own_cx ca)), .val (.int (own_cx da)), .val (.ref b25), .val (.int xe), .unset, .unset, .unset] [])) (fun oo' U2' => ∃ vv' LL', oo' = .returned vv' ∧ (Q_rm0 Z aa ba ca da nn ea gC h0 n0) vv' U2'.heap LL' ∧ CHr Z own_EL s.vm s.heap U2'.vm U2'.heap ∧ ReturnedEndW s oo' U2' LL' room_1.cells room_1.slots) := by
    intro xe hjHJ26
    refine go_of (B := (T25.setTop (mkF m 229 #[.val (.int aa), .val (.int ba), .val (.int ca), .val (.int da), .val (.int nn), .val (.int ea), .val (.int (1 : Int32)), .val (.int (own_cx aa)), .val (.int (own_cx ba)), .val (.int (own_cx ca)), .val (.int (own_cx da)), .val (.ref b25), .val (.int xe), .unset, .unset, .unset] [(.ref b25)]))) (fun _ kk => XS.aload X25.here hx rfl (hb hby at_227) rfl rfl kk) ?_
    have cf_27 := (O.keep K25 all0)
    obtain ⟨_, _, ⟨T28, L28, k28, n28⟩, -, X28, ⟨Lc28, hQ28, l28, y28, z28⟩, st28⟩ := Jvm.LawKit.callS X25 hx (y := MN2) hown (mvT hZ (wd 27 rfl)) (mvT hZ (wd 28 rfl)) (mvT hZ (wd 29 rfl)) (mvT hZ (wd 30 rfl)) (by decide) (backOf (W := 0) (no_1 l Z a0 hw [] b25 (own_cx aa) gC T25.heap n0 (by omega) cf_27 SC hgC S25) hZ (wd 30 rfl) (wd 29 rfl) (by decide) (by decide)) (g := (mkF m 229 #[.val (.int aa), .val (.int ba), .val (.int ca), .val (.int da), .val (.int nn), .val (.int ea), .val (.int (1 : Int32)), .val (.int (own_cx aa)), .val (.int (own_cx ba)), .val (.int (own_cx ca)), .val (.int (own_cx da)), .val (.ref b25), .val (.int xe), .unset, .unset, .unset] [(.ref b25)])) rfl (by rw [hml]; rfl) (argsL := [(.ref b25)]) (rest := []) (lenOf pd__Ljava_lang_String__Z rfl) rfl (by show 2 * 0 + _ ≤ _; exact Nat.le_of_eq rfl) (hb hby at_229) (fun _ _ => ⟨rfl, rfl, (by decide : 2 + 0 ≤ _), (by decide : 5 + 0 ≤ _)⟩)
    dsimp only [Pt.U, Pt.locs, Pt.cells, Pt.slots] at X28 l28 y28 z28 st28 hQ28
    subst l28 y28 z28
    obtain ⟨rfl, N28q, e28⟩ := hQ28
    have N28 := Fr.app N25 N28q
    refine go_of (B := (T28.setTop (mkF m 232 #[.val (.int aa), .val (.int ba), .val (.int ca), .val (.int da), .val (.int nn), .val (.int ea), .val (.int (1 : Int32)), .val (.int (own_cx aa)), .val (.int (own_cx ba)), .val (.int (own_cx ca)), .val (.int (own_cx da)), .val (.ref b25), .val (.int xe), .unset, .unset, .unset] [(.int (own_no [(own_cx aa)]))]))) (st28) ?_
    refine go_of (B := (T28.setTop (mkF m 246 #[.val (.int aa), .val (.int ba), .val (.int ca), .val (.int da), .val (.int nn), .val (.int ea), .val (.int (1 : Int32)), .val (.int (own_cx aa)), .val (.int (own_cx ba)), .val (.int (own_cx ca)), .val (.int (own_cx da)), .val (.ref b25), .val (.int xe), .val (.int (1 : Int32)), .unset, .unset] [(.int ea)]))) (fun _ kk => XS.iload X28.here hx rfl (hb hby at_232) rfl (XS.icmpNo X28.here hx rfl (hb hby at_234) rfl (teq hjHJ26.symm).2 (XS.iconst X28.here hx rfl (hb hby at_237) (XS.goto X28.here hx rfl (pc0 := 238) (pc' := 242) rfl (hb hby at_238) (by decide) (by decide) (XS.istore X28.here hx rfl (hb hby at_242) rfl rfl (XS.iload X28.here hx rfl (hb hby at_244) rfl kk)))))) ?_
    obtain ⟨_, _, ⟨T29, L29, k29, n29⟩, -, X29, ⟨Lc29, hQ29, l29, y29, z29⟩, st29⟩ := Jvm.LawKit.callS X28 hx (y := MN0) hown (mvT hZ (wd 1 rfl)) (mvT hZ (wd 2 rfl)) (mvT hZ (wd 3 rfl)) (mvT hZ (wd 4 rfl)) (by decide) (backOf (W := 0) (ch l Z a0 hw [] ea T25.heap n0 (by omega)) hZ (wd 4 rfl) (wd 3 rfl) (by decide) (by decide)) (g := (mkF m 246 #[.val (.int aa), .val (.int ba), .val (.int ca), .val (.int da), .val (.int nn), .val (.int ea), .val (.int (1 : Int32)), .val (.int (own_cx aa)), .val (.int (own_cx ba)), .val (.int (own_cx ca)), .val (.int (own_cx da)), .val (.ref b25), .val (.int xe), .val (.int (1 : Int32)), .unset, .unset] [(.int ea)])) rfl (by rw [hml]; rfl) (argsL := [(.int ea)]) (rest := []) (lenOf pd__I_C rfl) rfl (by show 2 * 0 + _ ≤ _; exact Nat.le_of_eq rfl) (hb hby at_246) (fun _ _ => ⟨rfl, e28, (by decide : 2 + 0 ≤ _), (by decide : 5 + 0 ≤ _)⟩)
    dsimp only [Pt.U, Pt.locs, Pt.cells, Pt.slots] at X29 l29 y29 z29 st29 hQ29
    subst l29 y29 z29
    obtain ⟨rfl, N29q, e29⟩ := hQ29
    have N29 := Fr.app N28 N29q
    refine go_of (B := (T29.setTop (mkF m 249 #[.val (.int aa), .val (.int ba), .val (.int ca), .val (.int da), .val (.int nn), .val (.int ea), .val (.int (1 : Int32)), .val (.int (own_cx aa)), .val (.int (own_cx ba)), .val (.int (own_cx ca)), .val (.int (own_cx da)), .val (.ref b25), .val (.int xe), .val (.int (1 : Int32)), .unset, .unset] [(.int (own_cx ea))]))) (st29) ?_
    obtain ⟨_, _, ⟨T30, L30, k30, n30⟩, -, X30, ⟨Lc30, hQ30, l30, y30, z30⟩, st30⟩ := Jvm.LawKit.callS X29 hx (y := MN20) hown (mvT hZ (wd 71 rfl)) (mvT hZ (wd 72 rfl)) (mvT hZ (wd 7 rfl)) (mvT hZ (wd 73 rfl)) (by decide) (backOf (W := 0) (v_vof l Z a0 hw [] (own_cx ea) gC T25.heap n0 (by omega) cf_27 SC hgC (own_cxr ea)) hZ (wd 73 rfl) (wd 7 rfl) (by decide) (by decide)) (g := (mkF m 249 #[.val (.int aa), .val (.int ba), .val (.int ca), .val (.int da), .val (.int nn), .val (.int ea), .val (.int (1 : Int32)), .val (.int (own_cx aa)), .val (.int (own_cx ba)), .val (.int (own_cx ca)), .val (.int (own_cx da)), .val (.ref b25), .val (.int xe), .val (.int (1 : Int32)), .unset, .unset] [(.int (own_cx ea))])) rfl (by rw [hml]; rfl) (argsL := [(.int (own_cx ea))]) (rest := []) (lenOf pd__C_Ljava_lang_String_ rfl) rfl (by show 2 * 0 + _ ≤ _; exact Nat.le_of_eq rfl) (hb hby at_249) (fun _ _ => ⟨rfl, e29, (by decide : 2 + 2 ≤ _), (by decide : 5 + 5 ≤ _)⟩)
    dsimp only [Pt.U, Pt.locs, Pt.cells, Pt.slots] at X30 l30 y30 z30 st30 hQ30
    subst l30 y30 z30
    obtain ⟨b30, rfl, N30q, lo30, K30, S30⟩ := hQ30
    have lo30 := own_nle lo30
    have N30 := Fr.app N29 N30q
    have hi30 := own_nlt (S30.exa.lt)
    have sz30 := K30.1
    have SK30 : ∀ x ∈ ([] : List Addr), Safe Z own_EL s.vm T25.heap x := all0
    have HC30 := HC25.trans (CHr.keep K30 SK30 HC25.1)
    refine go_of (B := (T30.setTop (mkF m 252 #[.val (.int aa), .val (.int ba), .val (.int ca), .val (.int da), .val (.int nn), .val (.int ea), .val (.int (1 : Int32)), .val (.int (own_cx aa)), .val (.int (own_cx ba)), .val (.int (own_cx ca)), .val (.int (own_cx da)), .val (.ref b25), .val (.int xe), .val (.int (1 : Int32)), .unset, .unset] [(.ref b30)]))) (st30) ?_
    refine go_of (B := (T30.setTop (mkF m 258 #[.val (.int aa), .val (.int ba), .val (.int ca), .val (.int da), .val (.int nn), .val (.int ea), .val (.int (1 : Int32)), .val (.int (own_cx aa)), .val (.int (own_cx ba)), .val (.int (own_cx ca)), .val (.int (own_cx da)), .val (.ref b25), .val (.int xe), .val (.int (1 : Int32)), .val (.ref b30), .unset] [(.ref b30), (.ref b25)]))) (fun _ kk => XS.astore X30.here hx rfl (hb hby at_252) rfl rfl rfl (XS.aload X30.here hx rfl (hb hby at_254) rfl rfl (XS.aload X30.here hx rfl (hb hby at_256) rfl rfl kk))) ?_
    have cf_31 := (cf_27.keep K30 all0)
    have cf_32 := S25.ext (own_kx ((Keep.refl T25.heap []).trans K30 all0))
    obtain ⟨_, _, ⟨T33, L33, k33, n33⟩, -, X33', hS33', gr33, ⟨Lc33, hQ33, l33, y33, z33, HR33⟩, st33⟩ := callSS X30 hx (y := MN1) hown (mvT hZ (wd 84 rfl)) (mvT hZ (wd 85 rfl)) (mvT hZ (wd 29 rfl)) (mvT hZ (wd 86 rfl)) (by decide) (backOfSH (W := 0) (emN l Z a0 hw [] b25 b30 (1 : Int32) (own_cx ea) gC T30.heap n0 (by omega) cf_31 SC hgC (StrN.of cf_32) (by unfold N5; decide) S30) hZ (wd 86 rfl) (wd 29 rfl) (by decide) (by decide) hEL HC30.1) (g := (mkF m 258 #[.val (.int aa), .val (.int ba), .val (.int ca), .val (.int da), .val (.int nn), .val (.int ea), .val (.int (1 : Int32)), .val (.int (own_cx aa)), .val (.int (own_cx ba)), .val (.int (own_cx ca)), .val (.int (own_cx da)), .val (.ref b25), .val (.int xe), .val (.int (1 : Int32)), .val (.ref b30), .unset] [(.ref b30), (.ref b25)])) rfl (by rw [hml]; rfl) (argsL := [(.ref b25), (.ref b30)]) (rest := []) (lenOf pd__Ljava_lang_String_Ljava_lang_String__Ljava_lang_String_ rfl) rfl (by show 2 * 0 + _ ≤ _; exact Nat.le_of_eq rfl) (hb hby at_258) (fun _ _ => ⟨rfl, rfl, (by decide : 4 + 6 ≤ _), (by decide : 10 + 38 ≤ _)⟩)
    dsimp only [Pt.U, Pt.locs, Pt.cells, Pt.slots] at X33' hS33' gr33 l33 y33 z33 st33 hQ33 HR33
    subst l33 y33 z33
    have X33 : Stand _ _ _ _ (s.setVm T33.vm) _ _ _ _ _ T33 _ _ _ := X33'
    have hS : s.Since T33.vm T33.heap.size := foldS hS (by first | omega | exact own_ne (by omega) | exact own_le (by omega) | exact own_lt (by omega)) hS33' gr33
    have hZ : Z.Warmed39 (s.setVm T33.vm).vm := State.Warmed39.trans (t := s.setVm s.vm) hZ hS33'.1
    have hown : (s.setVm T33.vm).vm.findClass "com/example/holdfast/holdfast/ExclusiveNamesAnOwnerPinLaw" = some m.cls := by rw [show (s.setVm T33.vm).vm = T33.vm from rfl, hS33'.1.alike.findClass]; exact hown
    obtain ⟨b33, rfl, N33q, lo33, K33, S33⟩ := hQ33
    have lo33 := own_nle lo33
    have N33 := Fr.app N30 N33q
    have hi33 := own_nlt (S33.exa.lt)
    have sz33 := K33.1
    have HC33 := HC30.trans HR33
    refine go_tr (B := (T33.setTop (mkF m 261 #[.val (.int aa), .val (.int ba), .val (.int ca), .val (.int da), .val (.int nn), .val (.int ea), .val (.int (1 : Int32)), .val (.int (own_cx aa)), .val (.int (own_cx ba)), .val (.int (own_cx ca)), .val (.int (own_cx da)), .val (.ref b25), .val (.int xe), .val (.int (1 : Int32)), .val (.ref b30), .unset] [(.ref b33)]))) (st33) ?_
    have cf_34 := (cf_31.keep K33 all0)
    obtain ⟨_, _, ⟨T35, L35, k35, n35⟩, -, X35, ⟨Lc35, hQ35, l35, y35, z35⟩, st35⟩ := Jvm.LawKit.callS X33 hx (y := MN2) hown (mvT hZ (wd 27 rfl)) (mvT hZ (wd 28 rfl)) (mvT hZ (wd 29 rfl)) (mvT hZ (wd 30 rfl)) (by decide) (backOf (W := 0) (noH l Z a0 hw [] b33 ((2 : Int32) + (1 : Int32)) (own_cx ea) gC T33.heap n0 (by omega) cf_34 SC hgC S33 (N5.m (by unfold N5; decide))) hZ (wd 30 rfl) (wd 29 rfl) (by decide) (by decide)) (g := (mkF m 261 #[.val (.int aa), .val (.int ba), .val (.int ca), .val (.int da), .val (.int nn), .val (.int ea), .val (.int (1 : Int32)), .val (.int (own_cx aa)), .val (.int (own_cx ba)), .val (.int (own_cx ca)), .val (.int (own_cx da)), .val (.ref b25), .val (.int xe), .val (.int (1 : Int32)), .val (.ref b30), .unset] [(.ref b33)])) rfl (by rw [hml]; rfl) (argsL := [(.ref b33)]) (rest := []) (lenOf pd__Ljava_lang_String__Z rfl) rfl (by show 2 * 0 + _ ≤ _; exact Nat.le_of_eq rfl) (hb hby at_261) (fun _ _ => ⟨rfl, rfl, (by decide : 10 + 0 ≤ _), (by decide : 48 + 0 ≤ _)⟩)
    dsimp only [Pt.U, Pt.locs, Pt.cells, Pt.slots] at X35 l35 y35 z35 st35 hQ35
    subst l35 y35 z35
    obtain ⟨rfl, N35q, e35⟩ := hQ35
    have N35 := Fr.app N33 N35q
    refine go_of (B := (T35.setTop (mkF m 264 #[.val (.int aa), .val (.int ba), .val (.int ca), .val (.int da), .val (.int nn), .val (.int ea), .val (.int (1 : Int32)), .val (.int (own_cx aa)), .val (.int (own_cx ba)), .val (.int (own_cx ca)), .val (.int (own_cx da)), .val (.ref b25), .val (.int xe), .val (.int (1 : Int32)), .val (.ref b30), .unset] [(.int (1 : Int32))]))) (st35) ?_
    refine go_of (B := (T35.setTop (mkF m 277 #[.val (.int aa), .val (.int ba), .val (.int ca), .val (.int da), .val (.int nn), .val (.int ea), .val (.int (1 : Int32)), .val (.int (own_cx aa)), .val (.int (own_cx ba)), .val (.int (own_cx ca)), .val (.int (own_cx da)), .val (.ref b25), .val (.int xe), .val (.int (1 : Int32)), .val (.ref b30), .val (.int (1 : Int32))] [(.int (1 : Int32))]))) (fun _ kk => XS.istore X35.here hx rfl (hb hby at_264) rfl rfl (XS.iload X35.here hx rfl (hb hby at_266) rfl (XS.ifNo X35.here hx rfl (hb hby at_268) rfl ((if0 _ _).trans (feq (by decide : ¬ ((1 : Int32) = (0 : Int32)))).1) (XS.iload X35.here hx rfl (hb hby at_271) rfl (XS.ifNo X35.here hx rfl (hb hby at_273) rfl ((if0 _ _).trans (feq (by decide : ¬ ((1 : Int32) = (0 : Int32)))).1) (XS.iconst X35.here hx rfl (hb hby at_276) kk)))))) ?_
    refine go_of (B := (T35.setTop (mkF m 281 #[.val (.int aa), .val (.int ba), .val (.int ca), .val (.int da), .val (.int nn), .val (.int ea), .val (.int (1 : Int32)), .val (.int (own_cx aa)), .val (.int (own_cx ba)), .val (.int (own_cx ca)), .val (.int (own_cx da)), .val (.ref b25), .val (.int xe), .val (.int (1 : Int32)), .val (.ref b30), .val (.int (1 : Int32))] [(.int (1 : Int32))]))) (fun _ kk => XS.goto X35.here hx rfl (pc0 := 277) (pc' := 281) rfl (hb hby at_277) (by decide) (by decide) kk) ?_
    refine go_endH X35 hZ hEL HC33 hh0 e35 hS (by rw [e35]; omega) (v := some (.int (nar .boolean (1 : Int32)))) (fun h => by rw [hret] at h; cases h) hlk (by decide) (by decide) (Q := (Q_rm0 Z aa ba ca da nn ea gC h0 n0)) ?_ (fun fs hr => retN X35 hx (t := .boolean) hret (by simp) (hb hby at_281) hr)
    unfold Q_rm0
    try rw [e35]
    exact ⟨rfl, N35⟩
  refine go_of (B := (T25.setTop (mkF m 178 #[.val (.int aa), .val (.int ba), .val (.int ca), .val (.int da), .val (.int nn), .val (.int ea), .val (.int (1 : Int32)), .val (.int (own_cx aa)), .val (.int (own_cx ba)), .val (.int (own_cx ca)), .val (.int (own_cx da)), .val (.ref b25), .unset, .unset, .unset, .unset] [(.int (32 : Int32)), (.int (own_cx aa))]))) (fun _ kk => XS.iload X25.here hx rfl (hb hby at_168) rfl (XS.iconst X25.here hx rfl (hb hby at_170) (XS.icmpNo X25.here hx rfl (hb hby at_171) rfl (flt (by decide : ¬ ((1 : Int32) < (1 : Int32)))).1 (XS.iload X25.here hx rfl (hb hby at_174) rfl (XS.bipush X25.here hx rfl (hb hby at_176) kk))))) ?_
  by_cases hcc36 : (own_cx aa) = (32 : Int32)
  · refine go_of (B := (T25.setTop (mkF m 227 #[.val (.int aa), .val (.int ba), .val (.int ca), .val (.int da), .val (.int nn), .val (.int ea), .val (.int (1 : Int32)), .val (.int (own_cx aa)), .val (.int (own_cx ba)), .val (.int (own_cx ca)), .val (.int (own_cx da)), .val (.ref b25), .val (.int (1 : Int32)), .unset, .unset, .unset] []))) (fun _ kk => XS.icmpYes X25.here hx rfl (pc0 := 178) (pc' := 220) rfl (hb hby at_178) rfl (teq hcc36).1 (by decide) (by decide) (XS.iconst X25.here hx rfl (hb hby at_220) (XS.goto X25.here hx rfl (pc0 := 221) (pc' := 225) rfl (hb hby at_221) (by decide) (by decide) (XS.istore X25.here hx rfl (hb hby at_225) rfl rfl kk)))) ?_
    exact HJ26 (1 : Int32) (by simp [own_no, own_hs, hcc36])
  · refine go_of (B := (T25.setTop (mkF m 197 #[.val (.int aa), .val (.int ba), .val (.int ca), .val (.int da), .val (.int nn), .val (.int ea), .val (.int (1 : Int32)), .val (.int (own_cx aa)), .val (.int (own_cx ba)), .val (.int (own_cx ca)), .val (.int (own_cx da)), .val (.ref b25), .unset, .unset, .unset, .unset] [(.int (3 : Int32)), (.int (1 : Int32))]))) (fun _ kk => XS.icmpNo X25.here hx rfl (hb hby at_178) rfl (feq hcc36).1 (XS.iload X25.here hx rfl (hb hby at_181) rfl (XS.iconst X25.here hx rfl (hb hby at_183) (XS.icmpYes X25.here hx rfl (pc0 := 184) (pc' := 194) rfl (hb hby at_184) rfl (tlt (by decide : (1 : Int32) < (2 : Int32))).1 (by decide) (by decide) (XS.iload X25.here hx rfl (hb hby at_194) rfl (XS.iconst X25.here hx rfl (hb hby at_196) kk)))))) ?_
    refine go_of (B := (T25.setTop (mkF m 227 #[.val (.int aa), .val (.int ba), .val (.int ca), .val (.int da), .val (.int nn), .val (.int ea), .val (.int (1 : Int32)), .val (.int (own_cx aa)), .val (.int (own_cx ba)), .val (.int (own_cx ca)), .val (.int (own_cx da)), .val (.ref b25), .val (.int (0 : Int32)), .unset, .unset, .unset] []))) (fun _ kk => XS.icmpYes X25.here hx rfl (pc0 := 197) (pc' := 207) rfl (hb hby at_197) rfl (tlt (by decide : (1 : Int32) < (3 : Int32))).1 (by decide) (by decide) (XS.iload X25.here hx rfl (hb hby at_207) rfl (XS.iconst X25.here hx rfl (hb hby at_209) (XS.icmpYes X25.here hx rfl (pc0 := 210) (pc' := 224) rfl (hb hby at_210) rfl (tlt (by decide : (1 : Int32) < (4 : Int32))).1 (by decide) (by decide) (XS.iconst X25.here hx rfl (hb hby at_224) (XS.istore X25.here hx rfl (hb hby at_225) rfl rfl kk)))))) ?_
    exact HJ26 (0 : Int32) (by simp [own_no, own_hs, hcc36])
theorem lw2 {p : Program} {l : Launch} {e : Env} {s : State} {m : MethodId} {args : Array Value} {below : List Frame} {meth : Method} {c : Code} {Z : State} {a0 : Array Value} {h0 : Heap} {n0 : Nat} (aa : Int32) (ba : Int32) (ca : Int32) (da : Int32) (nn : Int32) (ea : Int32) (gC : Int32) {T0 : State} {locs : List Loc}
    (X0 : Stand p l e room_1 s m args below meth c T0 locs 0 0) (hx : p.tables.exec = Jvm.exec) (hZ : Z.Warmed39 s.vm) (hw : TW a0 Z) (hby : c.code = code) (hml : c.maxLocals = 16) (hown : s.vm.findClass "com/example/holdfast/holdfast/ExclusiveNamesAnOwnerPinLaw" = some m.cls) (hret : meth.sig.returnType = (some .boolean)) (hlk : meth.locks = false) (e0 : T0.heap = h0) (N0 : Fr n0 locs) (Z0 : n0 ≤ h0.size) (O : Old Z n0 h0) (SC : Sta Z Z.heap "java/lang/String" "COMPACT_STRINGS" "Z" (.int gC)) (hgC : ¬ gC = (0 : Int32)) (hh0 : s.heap = h0) (hCH : CHv Z own_EL s.vm h0) :
    Go p e below (T0.setTop (mkF m 9 #[.val (.int aa), .val (.int ba), .val (.int ca), .val (.int da), .val (.int nn), .val (.int ea), .val (.int (2 : Int32)), .unset, .unset, .unset, .unset, .unset, .unset, .unset, .unset, .unset] [])) (fun oo' U2' => ∃ vv' LL', oo' = .returned vv' ∧ (Q_rm0 Z aa ba ca da nn ea gC h0 n0) vv' U2'.heap LL' ∧ CHr Z own_EL s.vm s.heap U2'.vm U2'.heap ∧ ReturnedEndW s oo' U2' LL' room_1.cells room_1.slots) := by
  have wd := @own_wd _ _ hw
  have X0 : Stand p l e room_1 (s.setVm s.vm) m args below meth c T0 locs 0 0 := X0
  have hS : s.Since s.vm 0 := (State.WarmedH.refl s).since 0
  have hEL := own_EW hw
  have HC0 := CHr.refl hCH
  refine go_of (B := (T0.setTop (mkF m 10 #[.val (.int aa), .val (.int ba), .val (.int ca), .val (.int da), .val (.int nn), .val (.int ea), .val (.int (2 : Int32)), .unset, .unset, .unset, .unset, .unset, .unset, .unset, .unset, .unset] [(.int aa)]))) (fun _ kk => XS.iloadN X0.here hx rfl (hb hby at_9) rfl kk) ?_
  obtain ⟨_, _, ⟨T37, L37, k37, n37⟩, -, X37, ⟨Lc37, hQ37, l37, y37, z37⟩, st37⟩ := Jvm.LawKit.callS X0 hx (y := MN0) hown (mvT hZ (wd 1 rfl)) (mvT hZ (wd 2 rfl)) (mvT hZ (wd 3 rfl)) (mvT hZ (wd 4 rfl)) (by decide) (backOf (W := 0) (ch l Z a0 hw [] aa h0 n0 (by omega)) hZ (wd 4 rfl) (wd 3 rfl) (by decide) (by decide)) (g := (mkF m 10 #[.val (.int aa), .val (.int ba), .val (.int ca), .val (.int da), .val (.int nn), .val (.int ea), .val (.int (2 : Int32)), .unset, .unset, .unset, .unset, .unset, .unset, .unset, .unset, .unset] [(.int aa)])) rfl (by rw [hml]; rfl) (argsL := [(.int aa)]) (rest := []) (lenOf pd__I_C rfl) rfl (by show 2 * 0 + _ ≤ _; exact Nat.le_of_eq rfl) (hb hby at_10) (fun _ _ => ⟨rfl, e0, (by decide : 0 + 0 ≤ _), (by decide : 0 + 0 ≤ _)⟩)
  dsimp only [Pt.U, Pt.locs, Pt.cells, Pt.slots] at X37 l37 y37 z37 st37 hQ37
  subst l37 y37 z37
  obtain ⟨rfl, N37q, e37⟩ := hQ37
  have N37 := Fr.app N0 N37q
  refine go_of (B := (T37.setTop (mkF m 13 #[.val (.int aa), .val (.int ba), .val (.int ca), .val (.int da), .val (.int nn), .val (.int ea), .val (.int (2 : Int32)), .unset, .unset, .unset, .unset, .unset, .unset, .unset, .unset, .unset] [(.int (own_cx aa))]))) (st37) ?_
  refine go_of (B := (T37.setTop (mkF m 16 #[.val (.int aa), .val (.int ba), .val (.int ca), .val (.int da), .val (.int nn), .val (.int ea), .val (.int (2 : Int32)), .val (.int (own_cx aa)), .unset, .unset, .unset, .unset, .unset, .unset, .unset, .unset] [(.int ba)]))) (fun _ kk => XS.istore X37.here hx rfl (hb hby at_13) rfl rfl (XS.iloadN X37.here hx rfl (hb hby at_15) rfl kk)) ?_
  obtain ⟨_, _, ⟨T38, L38, k38, n38⟩, -, X38, ⟨Lc38, hQ38, l38, y38, z38⟩, st38⟩ := Jvm.LawKit.callS X37 hx (y := MN0) hown (mvT hZ (wd 1 rfl)) (mvT hZ (wd 2 rfl)) (mvT hZ (wd 3 rfl)) (mvT hZ (wd 4 rfl)) (by decide) (backOf (W := 0) (ch l Z a0 hw [] ba h0 n0 (by omega)) hZ (wd 4 rfl) (wd 3 rfl) (by decide) (by decide)) (g := (mkF m 16 #[.val (.int aa), .val (.int ba), .val (.int ca), .val (.int da), .val (.int nn), .val (.int ea), .val (.int (2 : Int32)), .val (.int (own_cx aa)), .unset, .unset, .unset, .unset, .unset, .unset, .unset, .unset] [(.int ba)])) rfl (by rw [hml]; rfl) (argsL := [(.int ba)]) (rest := []) (lenOf pd__I_C rfl) rfl (by show 2 * 0 + _ ≤ _; exact Nat.le_of_eq rfl) (hb hby at_16) (fun _ _ => ⟨rfl, e37, (by decide : 0 + 0 ≤ _), (by decide : 0 + 0 ≤ _)⟩)
  dsimp only [Pt.U, Pt.locs, Pt.cells, Pt.slots] at X38 l38 y38 z38 st38 hQ38
  subst l38 y38 z38
  obtain ⟨rfl, N38q, e38⟩ := hQ38
  have N38 := Fr.app N37 N38q
  refine go_of (B := (T38.setTop (mkF m 19 #[.val (.int aa), .val (.int ba), .val (.int ca), .val (.int da), .val (.int nn), .val (.int ea), .val (.int (2 : Int32)), .val (.int (own_cx aa)), .unset, .unset, .unset, .unset, .unset, .unset, .unset, .unset] [(.int (own_cx ba))]))) (st38) ?_
  refine go_of (B := (T38.setTop (mkF m 22 #[.val (.int aa), .val (.int ba), .val (.int ca), .val (.int da), .val (.int nn), .val (.int ea), .val (.int (2 : Int32)), .val (.int (own_cx aa)), .val (.int (own_cx ba)), .unset, .unset, .unset, .unset, .unset, .unset, .unset] [(.int ca)]))) (fun _ kk => XS.istore X38.here hx rfl (hb hby at_19) rfl rfl (XS.iloadN X38.here hx rfl (hb hby at_21) rfl kk)) ?_
  obtain ⟨_, _, ⟨T39, L39, k39, n39⟩, -, X39, ⟨Lc39, hQ39, l39, y39, z39⟩, st39⟩ := Jvm.LawKit.callS X38 hx (y := MN0) hown (mvT hZ (wd 1 rfl)) (mvT hZ (wd 2 rfl)) (mvT hZ (wd 3 rfl)) (mvT hZ (wd 4 rfl)) (by decide) (backOf (W := 0) (ch l Z a0 hw [] ca h0 n0 (by omega)) hZ (wd 4 rfl) (wd 3 rfl) (by decide) (by decide)) (g := (mkF m 22 #[.val (.int aa), .val (.int ba), .val (.int ca), .val (.int da), .val (.int nn), .val (.int ea), .val (.int (2 : Int32)), .val (.int (own_cx aa)), .val (.int (own_cx ba)), .unset, .unset, .unset, .unset, .unset, .unset, .unset] [(.int ca)])) rfl (by rw [hml]; rfl) (argsL := [(.int ca)]) (rest := []) (lenOf pd__I_C rfl) rfl (by show 2 * 0 + _ ≤ _; exact Nat.le_of_eq rfl) (hb hby at_22) (fun _ _ => ⟨rfl, e38, (by decide : 0 + 0 ≤ _), (by decide : 0 + 0 ≤ _)⟩)
  dsimp only [Pt.U, Pt.locs, Pt.cells, Pt.slots] at X39 l39 y39 z39 st39 hQ39
  subst l39 y39 z39
  obtain ⟨rfl, N39q, e39⟩ := hQ39
  have N39 := Fr.app N38 N39q
  refine go_of (B := (T39.setTop (mkF m 25 #[.val (.int aa), .val (.int ba), .val (.int ca), .val (.int da), .val (.int nn), .val (.int ea), .val (.int (2 : Int32)), .val (.int (own_cx aa)), .val (.int (own_cx ba)), .unset, .unset, .unset, .unset, .unset, .unset, .unset] [(.int (own_cx ca))]))) (st39) ?_
  refine go_of (B := (T39.setTop (mkF m 28 #[.val (.int aa), .val (.int ba), .val (.int ca), .val (.int da), .val (.int nn), .val (.int ea), .val (.int (2 : Int32)), .val (.int (own_cx aa)), .val (.int (own_cx ba)), .val (.int (own_cx ca)), .unset, .unset, .unset, .unset, .unset, .unset] [(.int da)]))) (fun _ kk => XS.istore X39.here hx rfl (hb hby at_25) rfl rfl (XS.iloadN X39.here hx rfl (hb hby at_27) rfl kk)) ?_
  obtain ⟨_, _, ⟨T40, L40, k40, n40⟩, -, X40, ⟨Lc40, hQ40, l40, y40, z40⟩, st40⟩ := Jvm.LawKit.callS X39 hx (y := MN0) hown (mvT hZ (wd 1 rfl)) (mvT hZ (wd 2 rfl)) (mvT hZ (wd 3 rfl)) (mvT hZ (wd 4 rfl)) (by decide) (backOf (W := 0) (ch l Z a0 hw [] da h0 n0 (by omega)) hZ (wd 4 rfl) (wd 3 rfl) (by decide) (by decide)) (g := (mkF m 28 #[.val (.int aa), .val (.int ba), .val (.int ca), .val (.int da), .val (.int nn), .val (.int ea), .val (.int (2 : Int32)), .val (.int (own_cx aa)), .val (.int (own_cx ba)), .val (.int (own_cx ca)), .unset, .unset, .unset, .unset, .unset, .unset] [(.int da)])) rfl (by rw [hml]; rfl) (argsL := [(.int da)]) (rest := []) (lenOf pd__I_C rfl) rfl (by show 2 * 0 + _ ≤ _; exact Nat.le_of_eq rfl) (hb hby at_28) (fun _ _ => ⟨rfl, e39, (by decide : 0 + 0 ≤ _), (by decide : 0 + 0 ≤ _)⟩)
  dsimp only [Pt.U, Pt.locs, Pt.cells, Pt.slots] at X40 l40 y40 z40 st40 hQ40
  subst l40 y40 z40
  obtain ⟨rfl, N40q, e40⟩ := hQ40
  have N40 := Fr.app N39 N40q
  refine go_of (B := (T40.setTop (mkF m 31 #[.val (.int aa), .val (.int ba), .val (.int ca), .val (.int da), .val (.int nn), .val (.int ea), .val (.int (2 : Int32)), .val (.int (own_cx aa)), .val (.int (own_cx ba)), .val (.int (own_cx ca)), .unset, .unset, .unset, .unset, .unset, .unset] [(.int (own_cx da))]))) (st40) ?_
  refine go_of (B := (T40.setTop (mkF m 69 #[.val (.int aa), .val (.int ba), .val (.int ca), .val (.int da), .val (.int nn), .val (.int ea), .val (.int (2 : Int32)), .val (.int (own_cx aa)), .val (.int (own_cx ba)), .val (.int (own_cx ca)), .val (.int (own_cx da)), .unset, .unset, .unset, .unset, .unset] []))) (fun _ kk => XS.istore X40.here hx rfl (hb hby at_31) rfl rfl (XS.iload X40.here hx rfl (hb hby at_33) rfl (XS.ifYes X40.here hx rfl (pc0 := 35) (pc' := 53) rfl (hb hby at_35) rfl ((if0 _ _).trans (feq (by decide : ¬ ((2 : Int32) = (0 : Int32)))).2) (by decide) (by decide) (XS.iload X40.here hx rfl (hb hby at_53) rfl (XS.iconst X40.here hx rfl (hb hby at_55) (XS.icmpYes X40.here hx rfl (pc0 := 56) (pc' := 69) rfl (hb hby at_56) rfl (feq (by decide : ¬ ((2 : Int32) = (1 : Int32)))).2 (by decide) (by decide) kk)))))) ?_
  refine go_of (B := (T40.setTop (mkF m 75 #[.val (.int aa), .val (.int ba), .val (.int ca), .val (.int da), .val (.int nn), .val (.int ea), .val (.int (2 : Int32)), .val (.int (own_cx aa)), .val (.int (own_cx ba)), .val (.int (own_cx ca)), .val (.int (own_cx da)), .unset, .unset, .unset, .unset, .unset] []))) (fun _ kk => XS.iload X40.here hx rfl (hb hby at_69) rfl (XS.iconst X40.here hx rfl (hb hby at_71) (XS.icmpNo X40.here hx rfl (hb hby at_72) rfl (teq (by decide : (2 : Int32) = (2 : Int32))).2 kk))) ?_
  obtain ⟨T41, h41, X41, e41, E41, A41, D41, -, st41⟩ := newO X40 hx hZ hown (wd 5 rfl) (wd 6 rfl) (wd 7 rfl) e40 (g := (mkF m 75 #[.val (.int aa), .val (.int ba), .val (.int ca), .val (.int da), .val (.int nn), .val (.int ea), .val (.int (2 : Int32)), .val (.int (own_cx aa)), .val (.int (own_cx ba)), .val (.int (own_cx ca)), .val (.int (own_cx da)), .unset, .unset, .unset, .unset, .unset] [])) rfl (hb hby at_75) (by decide) (by decide)
  obtain ⟨b41, g41⟩ : ∃ z, z = h0.size := ⟨_, rfl⟩
  rw [← g41] at A41 D41 st41
  have hi41 := own_nlt A41.lt
  have sz41 := E41.1
  have HC41 := HC0.trans (CHr.ext E41 HC0.1)
  have F41_value : Fld Z h41 b41 "java/lang/String" "value" "[B" .null := D41 (Or.inr (wd 21 rfl)) (ty := (.array .byte)) (by decide)
  have F41_coder : Fld Z h41 b41 "java/lang/String" "coder" "B" (.int (0 : Int32)) := D41 (Or.inr (wd 22 rfl)) (ty := .byte) (by decide)
  refine go_of (B := (T41.setTop (mkF m 78 #[.val (.int aa), .val (.int ba), .val (.int ca), .val (.int da), .val (.int nn), .val (.int ea), .val (.int (2 : Int32)), .val (.int (own_cx aa)), .val (.int (own_cx ba)), .val (.int (own_cx ca)), .val (.int (own_cx da)), .unset, .unset, .unset, .unset, .unset] [(.ref b41)]))) (st41) ?_
  refine go_of (B := (T41.setTop (mkF m 80 #[.val (.int aa), .val (.int ba), .val (.int ca), .val (.int da), .val (.int nn), .val (.int ea), .val (.int (2 : Int32)), .val (.int (own_cx aa)), .val (.int (own_cx ba)), .val (.int (own_cx ca)), .val (.int (own_cx da)), .unset, .unset, .unset, .unset, .unset] [(.int (2 : Int32)), (.ref b41), (.ref b41)]))) (fun _ kk => XS.dup X41.here hx rfl (hb hby at_78) rfl rfl (XS.iconst X41.here hx rfl (hb hby at_79) kk)) ?_
  obtain ⟨T42, h42, k42, X42, e42, E42, A42, st42⟩ := newP X41 hx hZ (wd 8 rfl) e41 (g := (mkF m 80 #[.val (.int aa), .val (.int ba), .val (.int ca), .val (.int da), .val (.int nn), .val (.int ea), .val (.int (2 : Int32)), .val (.int (own_cx aa)), .val (.int (own_cx ba)), .val (.int (own_cx ca)), .val (.int (own_cx da)), .unset, .unset, .unset, .unset, .unset] [(.int (2 : Int32)), (.ref b41), (.ref b41)])) rfl (hb hby at_80) rfl (by decide) (cap := 2) (by decide) (by decide) (by decide) (by decide)
  obtain ⟨b42, g42⟩ : ∃ z, z = h41.size := ⟨_, rfl⟩
  rw [← g42] at A42 st42
  have hi42 := own_nlt A42.lt
  have sz42 := E42.1
  have HC42 := HC41.trans (CHr.ext E42 HC41.1)
  have V42 : Arv Z h42 b42 k42 .char (2 : Int32) [(.int (0 : Int32)), (.int (0 : Int32))] (.int (0 : Int32)) := (Arv.new A42 (by decide)).pad (pad_rep [] (.int (0 : Int32)) 2)
  refine go_of (B := (T42.setTop (mkF m 82 #[.val (.int aa), .val (.int ba), .val (.int ca), .val (.int da), .val (.int nn), .val (.int ea), .val (.int (2 : Int32)), .val (.int (own_cx aa)), .val (.int (own_cx ba)), .val (.int (own_cx ca)), .val (.int (own_cx da)), .unset, .unset, .unset, .unset, .unset] [(.ref b42), (.ref b41), (.ref b41)]))) (st42) ?_
  refine go_of (B := (T42.setTop (mkF m 86 #[.val (.int aa), .val (.int ba), .val (.int ca), .val (.int da), .val (.int nn), .val (.int ea), .val (.int (2 : Int32)), .val (.int (own_cx aa)), .val (.int (own_cx ba)), .val (.int (own_cx ca)), .val (.int (own_cx da)), .unset, .unset, .unset, .unset, .unset] [(.int (own_cx aa)), (.int (0 : Int32)), (.ref b42), (.ref b42), (.ref b41), (.ref b41)]))) (fun _ kk => XS.dup X42.here hx rfl (hb hby at_82) rfl rfl (XS.iconst X42.here hx rfl (hb hby at_83) (XS.iload X42.here hx rfl (hb hby at_84) rfl kk))) ?_
  obtain ⟨cl43, Ar43, q43, Sz43, Nn43, Hh43, G43⟩ := id (V42)
  obtain ⟨T44, h44, X44, e44, W44, st44⟩ := stC X42 hx hZ e42 Ar43 (j := (0 : Int32)) (inb_of Sz43 ⟨by decide, by decide⟩) (g := (mkF m 86 #[.val (.int aa), .val (.int ba), .val (.int ca), .val (.int da), .val (.int nn), .val (.int ea), .val (.int (2 : Int32)), .val (.int (own_cx aa)), .val (.int (own_cx ba)), .val (.int (own_cx ca)), .val (.int (own_cx da)), .unset, .unset, .unset, .unset, .unset] [(.int (own_cx aa)), (.int (0 : Int32)), (.ref b42), (.ref b42), (.ref b41), (.ref b41)])) rfl rfl (hb hby at_86)
  have sz44 := W44.size
  have N44 := Fr.snoc X44 N40 ((by first | omega | exact own_ne (by omega) | exact own_le (by omega) | exact own_lt (by omega)) : n0 ≤ b42)
  have V44 : Arv Z h44 b42 k42 .char (2 : Int32) [(.int (nar .char (own_cx aa))), (.int (0 : Int32))] (.int (0 : Int32)) := Arv.set Ar43 q43 Sz43 Nn43 Hh43 G43 (fits_nar_char _) W44 0 rfl (Nat.le_of_ble_eq_true rfl)
  rw [own_narc (own_cxr aa)] at V44
  have SF44 := (own_safe_arv hZ.alike V42 (by decide) : (Safe Z own_EL _ h42 b42))
  have HC44 := HC42.trans (CHr.wr W44 SF44 HC42.1)
  refine go_of (B := (T44.setTop (mkF m 87 #[.val (.int aa), .val (.int ba), .val (.int ca), .val (.int da), .val (.int nn), .val (.int ea), .val (.int (2 : Int32)), .val (.int (own_cx aa)), .val (.int (own_cx ba)), .val (.int (own_cx ca)), .val (.int (own_cx da)), .unset, .unset, .unset, .unset, .unset] [(.ref b42), (.ref b41), (.ref b41)]))) (st44) ?_
  refine go_of (B := (T44.setTop (mkF m 91 #[.val (.int aa), .val (.int ba), .val (.int ca), .val (.int da), .val (.int nn), .val (.int ea), .val (.int (2 : Int32)), .val (.int (own_cx aa)), .val (.int (own_cx ba)), .val (.int (own_cx ca)), .val (.int (own_cx da)), .unset, .unset, .unset, .unset, .unset] [(.int (own_cx ba)), (.int (1 : Int32)), (.ref b42), (.ref b42), (.ref b41), (.ref b41)]))) (fun _ kk => XS.dup X44.here hx rfl (hb hby at_87) rfl rfl (XS.iconst X44.here hx rfl (hb hby at_88) (XS.iload X44.here hx rfl (hb hby at_89) rfl kk))) ?_
  obtain ⟨cl45, Ar45, q45, Sz45, Nn45, Hh45, G45⟩ := id (V44)
  obtain ⟨T46, h46, X46, e46, W46, st46⟩ := stC X44 hx hZ e44 Ar45 (j := (1 : Int32)) (inb_of Sz45 ⟨by decide, by decide⟩) (g := (mkF m 91 #[.val (.int aa), .val (.int ba), .val (.int ca), .val (.int da), .val (.int nn), .val (.int ea), .val (.int (2 : Int32)), .val (.int (own_cx aa)), .val (.int (own_cx ba)), .val (.int (own_cx ca)), .val (.int (own_cx da)), .unset, .unset, .unset, .unset, .unset] [(.int (own_cx ba)), (.int (1 : Int32)), (.ref b42), (.ref b42), (.ref b41), (.ref b41)])) rfl rfl (hb hby at_91)
  have sz46 := W46.size
  have N46 := Fr.snoc X46 N44 ((by first | omega | exact own_ne (by omega) | exact own_le (by omega) | exact own_lt (by omega)) : n0 ≤ b42)
  have V46 : Arv Z h46 b42 k42 .char (2 : Int32) [(.int (own_cx aa)), (.int (nar .char (own_cx ba)))] (.int (0 : Int32)) := Arv.set Ar45 q45 Sz45 Nn45 Hh45 G45 (fits_nar_char _) W46 1 rfl (Nat.le_of_ble_eq_true rfl)
  rw [own_narc (own_cxr ba)] at V46
  have SF46 := (own_safe_arv hZ.alike V44 (by decide) : (Safe Z own_EL _ h44 b42))
  have HC46 := HC44.trans (CHr.wr W46 SF46 HC44.1)
  refine go_of (B := (T46.setTop (mkF m 92 #[.val (.int aa), .val (.int ba), .val (.int ca), .val (.int da), .val (.int nn), .val (.int ea), .val (.int (2 : Int32)), .val (.int (own_cx aa)), .val (.int (own_cx ba)), .val (.int (own_cx ca)), .val (.int (own_cx da)), .unset, .unset, .unset, .unset, .unset] [(.ref b42), (.ref b41), (.ref b41)]))) (st46) ?_
  have cf_47 := (((A41.ext E42).wr W44).wr W46)
  have cf_48 := (((F41_value.ext E42).other W44 (Or.inl (by first | omega | exact own_ne (by omega) | exact own_le (by omega) | exact own_lt (by omega)))).other W46 (Or.inl (by first | omega | exact own_ne (by omega) | exact own_le (by omega) | exact own_lt (by omega))))
  have sf_49 := (own_safe_null hZ.alike cf_47 cf_48 : (Safe Z own_EL _ h46 b41))
  have cf_50 := ((((O.ext E41).ext E42).wr W44 (by first | omega | exact own_ne (by omega) | exact own_le (by omega) | exact own_lt (by omega))).wr W46 (by first | omega | exact own_ne (by omega) | exact own_le (by omega) | exact own_lt (by omega)))
  have cf_51 := (((F41_coder.ext E42).other W44 (Or.inl (by first | omega | exact own_ne (by omega) | exact own_le (by omega) | exact own_lt (by omega)))).other W46 (Or.inl (by first | omega | exact own_ne (by omega) | exact own_le (by omega) | exact own_lt (by omega))))
  obtain ⟨_, _, ⟨T52, L52, k52, n52⟩, -, X52, ⟨Lc52, hQ52, l52, y52, z52⟩, st52⟩ := X46.specialBack hx (y := MN12) rfl hown (mvT hZ (wd 9 rfl)) (mvT hZ (wd 10 rfl)) (mvT hZ (wd 11 rfl)) (by decide) (backOf (W := 1) (str_i1_2 l Z a0 hw [] b41 b42 (own_cx aa) (own_cx ba) k42 gC _ _ h46 n0 (by omega) cf_50 SC hgC cf_47 cf_48 cf_51 (by first | omega | exact own_ne (by omega) | exact own_le (by omega) | exact own_lt (by omega)) V46 (own_cxr aa) (own_cxr ba)) hZ (wd 11 rfl) (wd 7 rfl) (by decide) (by decide)) (g := (mkF m 92 #[.val (.int aa), .val (.int ba), .val (.int ca), .val (.int da), .val (.int nn), .val (.int ea), .val (.int (2 : Int32)), .val (.int (own_cx aa)), .val (.int (own_cx ba)), .val (.int (own_cx ca)), .val (.int (own_cx da)), .unset, .unset, .unset, .unset, .unset] [(.ref b42), (.ref b41), (.ref b41)])) rfl (by rw [hml]; rfl) (Steps.refl _) (a := b41) (argsL := [(.ref b42)]) (rest := [(.ref b41)]) (lenOf pd___C_V rfl) rfl (by show 2 * 0 + _ ≤ _; exact Nat.le_of_eq rfl) (hb hby at_92) (fun _ _ => ⟨rfl, e46, (by decide : 2 + 1 ≤ _), (by decide : 6 + 2 ≤ _)⟩)
  dsimp only [Pt.U, Pt.locs, Pt.cells, Pt.slots] at X52 l52 y52 z52 st52 hQ52
  subst l52 y52 z52
  obtain ⟨rfl, N52q, K52, S52⟩ := hQ52
  have N52 := Fr.app N46 N52q
  have sz52 := K52.1
  have SK52 : ∀ x ∈ [b41], Safe Z own_EL _ h46 x := (allS sf_49 all0)
  have HC52 := HC46.trans (CHr.keep K52 SK52 HC46.1)
  refine go_tr (B := (T52.setTop (mkF m 95 #[.val (.int aa), .val (.int ba), .val (.int ca), .val (.int da), .val (.int nn), .val (.int ea), .val (.int (2 : Int32)), .val (.int (own_cx aa)), .val (.int (own_cx ba)), .val (.int (own_cx ca)), .val (.int (own_cx da)), .unset, .unset, .unset, .unset, .unset] [(.ref b41)]))) (st52) ?_
  refine go_of (B := (T52.setTop (mkF m 168 #[.val (.int aa), .val (.int ba), .val (.int ca), .val (.int da), .val (.int nn), .val (.int ea), .val (.int (2 : Int32)), .val (.int (own_cx aa)), .val (.int (own_cx ba)), .val (.int (own_cx ca)), .val (.int (own_cx da)), .val (.ref b41), .unset, .unset, .unset, .unset] []))) (fun _ kk => XS.astore X52.here hx rfl (hb hby at_95) rfl rfl rfl (XS.goto X52.here hx rfl (pc0 := 97) (pc' := 168) rfl (hb hby at_97) (by decide) (by decide) kk)) ?_
  have HJ53 : ∀ (xe : Int32), xe = own_no [(own_cx aa), (own_cx ba)] → Go p e below (T52.setTop (mkF m 227 #[.val (.int aa), .val (.int ba), .val (.int ca), .val (.int da), .val (.int nn), .val (.int ea), .val (.int (2 : Int32)), .val (.int (own_cx aa)), .val (.int (own_cx ba)), .val (.int (own_cx ca)), .val (.int (own_cx da)), .val (.ref b41), .val (.int xe), .unset, .unset, .unset] [])) (fun oo' U2' => ∃ vv' LL', oo' = .returned vv' ∧ (Q_rm0 Z aa ba ca da nn ea gC h0 n0) vv' U2'.heap LL' ∧ CHr Z own_EL s.vm s.heap U2'.vm U2'.heap ∧ ReturnedEndW s oo' U2' LL' room_1.cells room_1.slots) := by
    intro xe hjHJ53
    refine go_of (B := (T52.setTop (mkF m 229 #[.val (.int aa), .val (.int ba), .val (.int ca), .val (.int da), .val (.int nn), .val (.int ea), .val (.int (2 : Int32)), .val (.int (own_cx aa)), .val (.int (own_cx ba)), .val (.int (own_cx ca)), .val (.int (own_cx da)), .val (.ref b41), .val (.int xe), .unset, .unset, .unset] [(.ref b41)]))) (fun _ kk => XS.aload X52.here hx rfl (hb hby at_227) rfl rfl kk) ?_
    have cf_54 := (cf_50.keep K52 (allS (by first | omega | exact own_ne (by omega) | exact own_le (by omega) | exact own_lt (by omega)) all0))
    obtain ⟨_, _, ⟨T55, L55, k55, n55⟩, -, X55, ⟨Lc55, hQ55, l55, y55, z55⟩, st55⟩ := Jvm.LawKit.callS X52 hx (y := MN2) hown (mvT hZ (wd 27 rfl)) (mvT hZ (wd 28 rfl)) (mvT hZ (wd 29 rfl)) (mvT hZ (wd 30 rfl)) (by decide) (backOf (W := 0) (no_2 l Z a0 hw [] b41 (own_cx aa) (own_cx ba) gC T52.heap n0 (by omega) cf_54 SC hgC S52) hZ (wd 30 rfl) (wd 29 rfl) (by decide) (by decide)) (g := (mkF m 229 #[.val (.int aa), .val (.int ba), .val (.int ca), .val (.int da), .val (.int nn), .val (.int ea), .val (.int (2 : Int32)), .val (.int (own_cx aa)), .val (.int (own_cx ba)), .val (.int (own_cx ca)), .val (.int (own_cx da)), .val (.ref b41), .val (.int xe), .unset, .unset, .unset] [(.ref b41)])) rfl (by rw [hml]; rfl) (argsL := [(.ref b41)]) (rest := []) (lenOf pd__Ljava_lang_String__Z rfl) rfl (by show 2 * 0 + _ ≤ _; exact Nat.le_of_eq rfl) (hb hby at_229) (fun _ _ => ⟨rfl, rfl, (by decide : 3 + 0 ≤ _), (by decide : 8 + 0 ≤ _)⟩)
    dsimp only [Pt.U, Pt.locs, Pt.cells, Pt.slots] at X55 l55 y55 z55 st55 hQ55
    subst l55 y55 z55
    obtain ⟨rfl, N55q, e55⟩ := hQ55
    have N55 := Fr.app N52 N55q
    refine go_of (B := (T55.setTop (mkF m 232 #[.val (.int aa), .val (.int ba), .val (.int ca), .val (.int da), .val (.int nn), .val (.int ea), .val (.int (2 : Int32)), .val (.int (own_cx aa)), .val (.int (own_cx ba)), .val (.int (own_cx ca)), .val (.int (own_cx da)), .val (.ref b41), .val (.int xe), .unset, .unset, .unset] [(.int (own_no [(own_cx aa), (own_cx ba)]))]))) (st55) ?_
    refine go_of (B := (T55.setTop (mkF m 246 #[.val (.int aa), .val (.int ba), .val (.int ca), .val (.int da), .val (.int nn), .val (.int ea), .val (.int (2 : Int32)), .val (.int (own_cx aa)), .val (.int (own_cx ba)), .val (.int (own_cx ca)), .val (.int (own_cx da)), .val (.ref b41), .val (.int xe), .val (.int (1 : Int32)), .unset, .unset] [(.int ea)]))) (fun _ kk => XS.iload X55.here hx rfl (hb hby at_232) rfl (XS.icmpNo X55.here hx rfl (hb hby at_234) rfl (teq hjHJ53.symm).2 (XS.iconst X55.here hx rfl (hb hby at_237) (XS.goto X55.here hx rfl (pc0 := 238) (pc' := 242) rfl (hb hby at_238) (by decide) (by decide) (XS.istore X55.here hx rfl (hb hby at_242) rfl rfl (XS.iload X55.here hx rfl (hb hby at_244) rfl kk)))))) ?_
    obtain ⟨_, _, ⟨T56, L56, k56, n56⟩, -, X56, ⟨Lc56, hQ56, l56, y56, z56⟩, st56⟩ := Jvm.LawKit.callS X55 hx (y := MN0) hown (mvT hZ (wd 1 rfl)) (mvT hZ (wd 2 rfl)) (mvT hZ (wd 3 rfl)) (mvT hZ (wd 4 rfl)) (by decide) (backOf (W := 0) (ch l Z a0 hw [] ea T52.heap n0 (by omega)) hZ (wd 4 rfl) (wd 3 rfl) (by decide) (by decide)) (g := (mkF m 246 #[.val (.int aa), .val (.int ba), .val (.int ca), .val (.int da), .val (.int nn), .val (.int ea), .val (.int (2 : Int32)), .val (.int (own_cx aa)), .val (.int (own_cx ba)), .val (.int (own_cx ca)), .val (.int (own_cx da)), .val (.ref b41), .val (.int xe), .val (.int (1 : Int32)), .unset, .unset] [(.int ea)])) rfl (by rw [hml]; rfl) (argsL := [(.int ea)]) (rest := []) (lenOf pd__I_C rfl) rfl (by show 2 * 0 + _ ≤ _; exact Nat.le_of_eq rfl) (hb hby at_246) (fun _ _ => ⟨rfl, e55, (by decide : 3 + 0 ≤ _), (by decide : 8 + 0 ≤ _)⟩)
    dsimp only [Pt.U, Pt.locs, Pt.cells, Pt.slots] at X56 l56 y56 z56 st56 hQ56
    subst l56 y56 z56
    obtain ⟨rfl, N56q, e56⟩ := hQ56
    have N56 := Fr.app N55 N56q
    refine go_of (B := (T56.setTop (mkF m 249 #[.val (.int aa), .val (.int ba), .val (.int ca), .val (.int da), .val (.int nn), .val (.int ea), .val (.int (2 : Int32)), .val (.int (own_cx aa)), .val (.int (own_cx ba)), .val (.int (own_cx ca)), .val (.int (own_cx da)), .val (.ref b41), .val (.int xe), .val (.int (1 : Int32)), .unset, .unset] [(.int (own_cx ea))]))) (st56) ?_
    obtain ⟨_, _, ⟨T57, L57, k57, n57⟩, -, X57, ⟨Lc57, hQ57, l57, y57, z57⟩, st57⟩ := Jvm.LawKit.callS X56 hx (y := MN20) hown (mvT hZ (wd 71 rfl)) (mvT hZ (wd 72 rfl)) (mvT hZ (wd 7 rfl)) (mvT hZ (wd 73 rfl)) (by decide) (backOf (W := 0) (v_vof l Z a0 hw [] (own_cx ea) gC T52.heap n0 (by omega) cf_54 SC hgC (own_cxr ea)) hZ (wd 73 rfl) (wd 7 rfl) (by decide) (by decide)) (g := (mkF m 249 #[.val (.int aa), .val (.int ba), .val (.int ca), .val (.int da), .val (.int nn), .val (.int ea), .val (.int (2 : Int32)), .val (.int (own_cx aa)), .val (.int (own_cx ba)), .val (.int (own_cx ca)), .val (.int (own_cx da)), .val (.ref b41), .val (.int xe), .val (.int (1 : Int32)), .unset, .unset] [(.int (own_cx ea))])) rfl (by rw [hml]; rfl) (argsL := [(.int (own_cx ea))]) (rest := []) (lenOf pd__C_Ljava_lang_String_ rfl) rfl (by show 2 * 0 + _ ≤ _; exact Nat.le_of_eq rfl) (hb hby at_249) (fun _ _ => ⟨rfl, e56, (by decide : 3 + 2 ≤ _), (by decide : 8 + 5 ≤ _)⟩)
    dsimp only [Pt.U, Pt.locs, Pt.cells, Pt.slots] at X57 l57 y57 z57 st57 hQ57
    subst l57 y57 z57
    obtain ⟨b57, rfl, N57q, lo57, K57, S57⟩ := hQ57
    have lo57 := own_nle lo57
    have N57 := Fr.app N56 N57q
    have hi57 := own_nlt (S57.exa.lt)
    have sz57 := K57.1
    have SK57 : ∀ x ∈ ([] : List Addr), Safe Z own_EL s.vm T52.heap x := all0
    have HC57 := HC52.trans (CHr.keep K57 SK57 HC52.1)
    refine go_of (B := (T57.setTop (mkF m 252 #[.val (.int aa), .val (.int ba), .val (.int ca), .val (.int da), .val (.int nn), .val (.int ea), .val (.int (2 : Int32)), .val (.int (own_cx aa)), .val (.int (own_cx ba)), .val (.int (own_cx ca)), .val (.int (own_cx da)), .val (.ref b41), .val (.int xe), .val (.int (1 : Int32)), .unset, .unset] [(.ref b57)]))) (st57) ?_
    refine go_of (B := (T57.setTop (mkF m 258 #[.val (.int aa), .val (.int ba), .val (.int ca), .val (.int da), .val (.int nn), .val (.int ea), .val (.int (2 : Int32)), .val (.int (own_cx aa)), .val (.int (own_cx ba)), .val (.int (own_cx ca)), .val (.int (own_cx da)), .val (.ref b41), .val (.int xe), .val (.int (1 : Int32)), .val (.ref b57), .unset] [(.ref b57), (.ref b41)]))) (fun _ kk => XS.astore X57.here hx rfl (hb hby at_252) rfl rfl rfl (XS.aload X57.here hx rfl (hb hby at_254) rfl rfl (XS.aload X57.here hx rfl (hb hby at_256) rfl rfl kk))) ?_
    have cf_58 := (cf_54.keep K57 all0)
    have cf_59 := S52.ext (own_kx ((Keep.refl T52.heap []).trans K57 all0))
    obtain ⟨_, _, ⟨T60, L60, k60, n60⟩, -, X60', hS60', gr60, ⟨Lc60, hQ60, l60, y60, z60, HR60⟩, st60⟩ := callSS X57 hx (y := MN1) hown (mvT hZ (wd 84 rfl)) (mvT hZ (wd 85 rfl)) (mvT hZ (wd 29 rfl)) (mvT hZ (wd 86 rfl)) (by decide) (backOfSH (W := 0) (emN l Z a0 hw [] b41 b57 (2 : Int32) (own_cx ea) gC T57.heap n0 (by omega) cf_58 SC hgC (StrN.of cf_59) (by unfold N5; decide) S57) hZ (wd 86 rfl) (wd 29 rfl) (by decide) (by decide) hEL HC57.1) (g := (mkF m 258 #[.val (.int aa), .val (.int ba), .val (.int ca), .val (.int da), .val (.int nn), .val (.int ea), .val (.int (2 : Int32)), .val (.int (own_cx aa)), .val (.int (own_cx ba)), .val (.int (own_cx ca)), .val (.int (own_cx da)), .val (.ref b41), .val (.int xe), .val (.int (1 : Int32)), .val (.ref b57), .unset] [(.ref b57), (.ref b41)])) rfl (by rw [hml]; rfl) (argsL := [(.ref b41), (.ref b57)]) (rest := []) (lenOf pd__Ljava_lang_String_Ljava_lang_String__Ljava_lang_String_ rfl) rfl (by show 2 * 0 + _ ≤ _; exact Nat.le_of_eq rfl) (hb hby at_258) (fun _ _ => ⟨rfl, rfl, (by decide : 5 + 6 ≤ _), (by decide : 13 + 38 ≤ _)⟩)
    dsimp only [Pt.U, Pt.locs, Pt.cells, Pt.slots] at X60' hS60' gr60 l60 y60 z60 st60 hQ60 HR60
    subst l60 y60 z60
    have X60 : Stand _ _ _ _ (s.setVm T60.vm) _ _ _ _ _ T60 _ _ _ := X60'
    have hS : s.Since T60.vm T60.heap.size := foldS hS (by first | omega | exact own_ne (by omega) | exact own_le (by omega) | exact own_lt (by omega)) hS60' gr60
    have hZ : Z.Warmed39 (s.setVm T60.vm).vm := State.Warmed39.trans (t := s.setVm s.vm) hZ hS60'.1
    have hown : (s.setVm T60.vm).vm.findClass "com/example/holdfast/holdfast/ExclusiveNamesAnOwnerPinLaw" = some m.cls := by rw [show (s.setVm T60.vm).vm = T60.vm from rfl, hS60'.1.alike.findClass]; exact hown
    obtain ⟨b60, rfl, N60q, lo60, K60, S60⟩ := hQ60
    have lo60 := own_nle lo60
    have N60 := Fr.app N57 N60q
    have hi60 := own_nlt (S60.exa.lt)
    have sz60 := K60.1
    have HC60 := HC57.trans HR60
    refine go_tr (B := (T60.setTop (mkF m 261 #[.val (.int aa), .val (.int ba), .val (.int ca), .val (.int da), .val (.int nn), .val (.int ea), .val (.int (2 : Int32)), .val (.int (own_cx aa)), .val (.int (own_cx ba)), .val (.int (own_cx ca)), .val (.int (own_cx da)), .val (.ref b41), .val (.int xe), .val (.int (1 : Int32)), .val (.ref b57), .unset] [(.ref b60)]))) (st60) ?_
    have cf_61 := (cf_58.keep K60 all0)
    obtain ⟨_, _, ⟨T62, L62, k62, n62⟩, -, X62, ⟨Lc62, hQ62, l62, y62, z62⟩, st62⟩ := Jvm.LawKit.callS X60 hx (y := MN2) hown (mvT hZ (wd 27 rfl)) (mvT hZ (wd 28 rfl)) (mvT hZ (wd 29 rfl)) (mvT hZ (wd 30 rfl)) (by decide) (backOf (W := 0) (noH l Z a0 hw [] b60 ((2 : Int32) + (2 : Int32)) (own_cx ea) gC T60.heap n0 (by omega) cf_61 SC hgC S60 (N5.m (by unfold N5; decide))) hZ (wd 30 rfl) (wd 29 rfl) (by decide) (by decide)) (g := (mkF m 261 #[.val (.int aa), .val (.int ba), .val (.int ca), .val (.int da), .val (.int nn), .val (.int ea), .val (.int (2 : Int32)), .val (.int (own_cx aa)), .val (.int (own_cx ba)), .val (.int (own_cx ca)), .val (.int (own_cx da)), .val (.ref b41), .val (.int xe), .val (.int (1 : Int32)), .val (.ref b57), .unset] [(.ref b60)])) rfl (by rw [hml]; rfl) (argsL := [(.ref b60)]) (rest := []) (lenOf pd__Ljava_lang_String__Z rfl) rfl (by show 2 * 0 + _ ≤ _; exact Nat.le_of_eq rfl) (hb hby at_261) (fun _ _ => ⟨rfl, rfl, (by decide : 11 + 0 ≤ _), (by decide : 51 + 0 ≤ _)⟩)
    dsimp only [Pt.U, Pt.locs, Pt.cells, Pt.slots] at X62 l62 y62 z62 st62 hQ62
    subst l62 y62 z62
    obtain ⟨rfl, N62q, e62⟩ := hQ62
    have N62 := Fr.app N60 N62q
    refine go_of (B := (T62.setTop (mkF m 264 #[.val (.int aa), .val (.int ba), .val (.int ca), .val (.int da), .val (.int nn), .val (.int ea), .val (.int (2 : Int32)), .val (.int (own_cx aa)), .val (.int (own_cx ba)), .val (.int (own_cx ca)), .val (.int (own_cx da)), .val (.ref b41), .val (.int xe), .val (.int (1 : Int32)), .val (.ref b57), .unset] [(.int (1 : Int32))]))) (st62) ?_
    refine go_of (B := (T62.setTop (mkF m 277 #[.val (.int aa), .val (.int ba), .val (.int ca), .val (.int da), .val (.int nn), .val (.int ea), .val (.int (2 : Int32)), .val (.int (own_cx aa)), .val (.int (own_cx ba)), .val (.int (own_cx ca)), .val (.int (own_cx da)), .val (.ref b41), .val (.int xe), .val (.int (1 : Int32)), .val (.ref b57), .val (.int (1 : Int32))] [(.int (1 : Int32))]))) (fun _ kk => XS.istore X62.here hx rfl (hb hby at_264) rfl rfl (XS.iload X62.here hx rfl (hb hby at_266) rfl (XS.ifNo X62.here hx rfl (hb hby at_268) rfl ((if0 _ _).trans (feq (by decide : ¬ ((1 : Int32) = (0 : Int32)))).1) (XS.iload X62.here hx rfl (hb hby at_271) rfl (XS.ifNo X62.here hx rfl (hb hby at_273) rfl ((if0 _ _).trans (feq (by decide : ¬ ((1 : Int32) = (0 : Int32)))).1) (XS.iconst X62.here hx rfl (hb hby at_276) kk)))))) ?_
    refine go_of (B := (T62.setTop (mkF m 281 #[.val (.int aa), .val (.int ba), .val (.int ca), .val (.int da), .val (.int nn), .val (.int ea), .val (.int (2 : Int32)), .val (.int (own_cx aa)), .val (.int (own_cx ba)), .val (.int (own_cx ca)), .val (.int (own_cx da)), .val (.ref b41), .val (.int xe), .val (.int (1 : Int32)), .val (.ref b57), .val (.int (1 : Int32))] [(.int (1 : Int32))]))) (fun _ kk => XS.goto X62.here hx rfl (pc0 := 277) (pc' := 281) rfl (hb hby at_277) (by decide) (by decide) kk) ?_
    refine go_endH X62 hZ hEL HC60 hh0 e62 hS (by rw [e62]; omega) (v := some (.int (nar .boolean (1 : Int32)))) (fun h => by rw [hret] at h; cases h) hlk (by decide) (by decide) (Q := (Q_rm0 Z aa ba ca da nn ea gC h0 n0)) ?_ (fun fs hr => retN X62 hx (t := .boolean) hret (by simp) (hb hby at_281) hr)
    unfold Q_rm0
    try rw [e62]
    exact ⟨rfl, N62⟩
  refine go_of (B := (T52.setTop (mkF m 178 #[.val (.int aa), .val (.int ba), .val (.int ca), .val (.int da), .val (.int nn), .val (.int ea), .val (.int (2 : Int32)), .val (.int (own_cx aa)), .val (.int (own_cx ba)), .val (.int (own_cx ca)), .val (.int (own_cx da)), .val (.ref b41), .unset, .unset, .unset, .unset] [(.int (32 : Int32)), (.int (own_cx aa))]))) (fun _ kk => XS.iload X52.here hx rfl (hb hby at_168) rfl (XS.iconst X52.here hx rfl (hb hby at_170) (XS.icmpNo X52.here hx rfl (hb hby at_171) rfl (flt (by decide : ¬ ((2 : Int32) < (1 : Int32)))).1 (XS.iload X52.here hx rfl (hb hby at_174) rfl (XS.bipush X52.here hx rfl (hb hby at_176) kk))))) ?_
  by_cases hcc63 : (own_cx aa) = (32 : Int32)
  · refine go_of (B := (T52.setTop (mkF m 227 #[.val (.int aa), .val (.int ba), .val (.int ca), .val (.int da), .val (.int nn), .val (.int ea), .val (.int (2 : Int32)), .val (.int (own_cx aa)), .val (.int (own_cx ba)), .val (.int (own_cx ca)), .val (.int (own_cx da)), .val (.ref b41), .val (.int (1 : Int32)), .unset, .unset, .unset] []))) (fun _ kk => XS.icmpYes X52.here hx rfl (pc0 := 178) (pc' := 220) rfl (hb hby at_178) rfl (teq hcc63).1 (by decide) (by decide) (XS.iconst X52.here hx rfl (hb hby at_220) (XS.goto X52.here hx rfl (pc0 := 221) (pc' := 225) rfl (hb hby at_221) (by decide) (by decide) (XS.istore X52.here hx rfl (hb hby at_225) rfl rfl kk)))) ?_
    exact HJ53 (1 : Int32) (by simp [own_no, own_hs, hcc63])
  · refine go_of (B := (T52.setTop (mkF m 191 #[.val (.int aa), .val (.int ba), .val (.int ca), .val (.int da), .val (.int nn), .val (.int ea), .val (.int (2 : Int32)), .val (.int (own_cx aa)), .val (.int (own_cx ba)), .val (.int (own_cx ca)), .val (.int (own_cx da)), .val (.ref b41), .unset, .unset, .unset, .unset] [(.int (32 : Int32)), (.int (own_cx ba))]))) (fun _ kk => XS.icmpNo X52.here hx rfl (hb hby at_178) rfl (feq hcc63).1 (XS.iload X52.here hx rfl (hb hby at_181) rfl (XS.iconst X52.here hx rfl (hb hby at_183) (XS.icmpNo X52.here hx rfl (hb hby at_184) rfl (flt (by decide : ¬ ((2 : Int32) < (2 : Int32)))).1 (XS.iload X52.here hx rfl (hb hby at_187) rfl (XS.bipush X52.here hx rfl (hb hby at_189) kk)))))) ?_
    by_cases hcc64 : (own_cx ba) = (32 : Int32)
    · refine go_of (B := (T52.setTop (mkF m 227 #[.val (.int aa), .val (.int ba), .val (.int ca), .val (.int da), .val (.int nn), .val (.int ea), .val (.int (2 : Int32)), .val (.int (own_cx aa)), .val (.int (own_cx ba)), .val (.int (own_cx ca)), .val (.int (own_cx da)), .val (.ref b41), .val (.int (1 : Int32)), .unset, .unset, .unset] []))) (fun _ kk => XS.icmpYes X52.here hx rfl (pc0 := 191) (pc' := 220) rfl (hb hby at_191) rfl (teq hcc64).1 (by decide) (by decide) (XS.iconst X52.here hx rfl (hb hby at_220) (XS.goto X52.here hx rfl (pc0 := 221) (pc' := 225) rfl (hb hby at_221) (by decide) (by decide) (XS.istore X52.here hx rfl (hb hby at_225) rfl rfl kk)))) ?_
      exact HJ53 (1 : Int32) (by simp [own_no, own_hs, hcc63, hcc64])
    · refine go_of (B := (T52.setTop (mkF m 210 #[.val (.int aa), .val (.int ba), .val (.int ca), .val (.int da), .val (.int nn), .val (.int ea), .val (.int (2 : Int32)), .val (.int (own_cx aa)), .val (.int (own_cx ba)), .val (.int (own_cx ca)), .val (.int (own_cx da)), .val (.ref b41), .unset, .unset, .unset, .unset] [(.int (4 : Int32)), (.int (2 : Int32))]))) (fun _ kk => XS.icmpNo X52.here hx rfl (hb hby at_191) rfl (feq hcc64).1 (XS.iload X52.here hx rfl (hb hby at_194) rfl (XS.iconst X52.here hx rfl (hb hby at_196) (XS.icmpYes X52.here hx rfl (pc0 := 197) (pc' := 207) rfl (hb hby at_197) rfl (tlt (by decide : (2 : Int32) < (3 : Int32))).1 (by decide) (by decide) (XS.iload X52.here hx rfl (hb hby at_207) rfl (XS.iconst X52.here hx rfl (hb hby at_209) kk)))))) ?_
      refine go_of (B := (T52.setTop (mkF m 227 #[.val (.int aa), .val (.int ba), .val (.int ca), .val (.int da), .val (.int nn), .val (.int ea), .val (.int (2 : Int32)), .val (.int (own_cx aa)), .val (.int (own_cx ba)), .val (.int (own_cx ca)), .val (.int (own_cx da)), .val (.ref b41), .val (.int (0 : Int32)), .unset, .unset, .unset] []))) (fun _ kk => XS.icmpYes X52.here hx rfl (pc0 := 210) (pc' := 224) rfl (hb hby at_210) rfl (tlt (by decide : (2 : Int32) < (4 : Int32))).1 (by decide) (by decide) (XS.iconst X52.here hx rfl (hb hby at_224) (XS.istore X52.here hx rfl (hb hby at_225) rfl rfl kk))) ?_
      exact HJ53 (0 : Int32) (by simp [own_no, own_hs, hcc63, hcc64])
theorem lw3 {p : Program} {l : Launch} {e : Env} {s : State} {m : MethodId} {args : Array Value} {below : List Frame} {meth : Method} {c : Code} {Z : State} {a0 : Array Value} {h0 : Heap} {n0 : Nat} (aa : Int32) (ba : Int32) (ca : Int32) (da : Int32) (nn : Int32) (ea : Int32) (gC : Int32) {T0 : State} {locs : List Loc}
    (X0 : Stand p l e room_1 s m args below meth c T0 locs 0 0) (hx : p.tables.exec = Jvm.exec) (hZ : Z.Warmed39 s.vm) (hw : TW a0 Z) (hby : c.code = code) (hml : c.maxLocals = 16) (hown : s.vm.findClass "com/example/holdfast/holdfast/ExclusiveNamesAnOwnerPinLaw" = some m.cls) (hret : meth.sig.returnType = (some .boolean)) (hlk : meth.locks = false) (e0 : T0.heap = h0) (N0 : Fr n0 locs) (Z0 : n0 ≤ h0.size) (O : Old Z n0 h0) (SC : Sta Z Z.heap "java/lang/String" "COMPACT_STRINGS" "Z" (.int gC)) (hgC : ¬ gC = (0 : Int32)) (hh0 : s.heap = h0) (hCH : CHv Z own_EL s.vm h0) :
    Go p e below (T0.setTop (mkF m 9 #[.val (.int aa), .val (.int ba), .val (.int ca), .val (.int da), .val (.int nn), .val (.int ea), .val (.int (3 : Int32)), .unset, .unset, .unset, .unset, .unset, .unset, .unset, .unset, .unset] [])) (fun oo' U2' => ∃ vv' LL', oo' = .returned vv' ∧ (Q_rm0 Z aa ba ca da nn ea gC h0 n0) vv' U2'.heap LL' ∧ CHr Z own_EL s.vm s.heap U2'.vm U2'.heap ∧ ReturnedEndW s oo' U2' LL' room_1.cells room_1.slots) := by
  have wd := @own_wd _ _ hw
  have X0 : Stand p l e room_1 (s.setVm s.vm) m args below meth c T0 locs 0 0 := X0
  have hS : s.Since s.vm 0 := (State.WarmedH.refl s).since 0
  have hEL := own_EW hw
  have HC0 := CHr.refl hCH
  refine go_of (B := (T0.setTop (mkF m 10 #[.val (.int aa), .val (.int ba), .val (.int ca), .val (.int da), .val (.int nn), .val (.int ea), .val (.int (3 : Int32)), .unset, .unset, .unset, .unset, .unset, .unset, .unset, .unset, .unset] [(.int aa)]))) (fun _ kk => XS.iloadN X0.here hx rfl (hb hby at_9) rfl kk) ?_
  obtain ⟨_, _, ⟨T65, L65, k65, n65⟩, -, X65, ⟨Lc65, hQ65, l65, y65, z65⟩, st65⟩ := Jvm.LawKit.callS X0 hx (y := MN0) hown (mvT hZ (wd 1 rfl)) (mvT hZ (wd 2 rfl)) (mvT hZ (wd 3 rfl)) (mvT hZ (wd 4 rfl)) (by decide) (backOf (W := 0) (ch l Z a0 hw [] aa h0 n0 (by omega)) hZ (wd 4 rfl) (wd 3 rfl) (by decide) (by decide)) (g := (mkF m 10 #[.val (.int aa), .val (.int ba), .val (.int ca), .val (.int da), .val (.int nn), .val (.int ea), .val (.int (3 : Int32)), .unset, .unset, .unset, .unset, .unset, .unset, .unset, .unset, .unset] [(.int aa)])) rfl (by rw [hml]; rfl) (argsL := [(.int aa)]) (rest := []) (lenOf pd__I_C rfl) rfl (by show 2 * 0 + _ ≤ _; exact Nat.le_of_eq rfl) (hb hby at_10) (fun _ _ => ⟨rfl, e0, (by decide : 0 + 0 ≤ _), (by decide : 0 + 0 ≤ _)⟩)
  dsimp only [Pt.U, Pt.locs, Pt.cells, Pt.slots] at X65 l65 y65 z65 st65 hQ65
  subst l65 y65 z65
  obtain ⟨rfl, N65q, e65⟩ := hQ65
  have N65 := Fr.app N0 N65q
  refine go_of (B := (T65.setTop (mkF m 13 #[.val (.int aa), .val (.int ba), .val (.int ca), .val (.int da), .val (.int nn), .val (.int ea), .val (.int (3 : Int32)), .unset, .unset, .unset, .unset, .unset, .unset, .unset, .unset, .unset] [(.int (own_cx aa))]))) (st65) ?_
  refine go_of (B := (T65.setTop (mkF m 16 #[.val (.int aa), .val (.int ba), .val (.int ca), .val (.int da), .val (.int nn), .val (.int ea), .val (.int (3 : Int32)), .val (.int (own_cx aa)), .unset, .unset, .unset, .unset, .unset, .unset, .unset, .unset] [(.int ba)]))) (fun _ kk => XS.istore X65.here hx rfl (hb hby at_13) rfl rfl (XS.iloadN X65.here hx rfl (hb hby at_15) rfl kk)) ?_
  obtain ⟨_, _, ⟨T66, L66, k66, n66⟩, -, X66, ⟨Lc66, hQ66, l66, y66, z66⟩, st66⟩ := Jvm.LawKit.callS X65 hx (y := MN0) hown (mvT hZ (wd 1 rfl)) (mvT hZ (wd 2 rfl)) (mvT hZ (wd 3 rfl)) (mvT hZ (wd 4 rfl)) (by decide) (backOf (W := 0) (ch l Z a0 hw [] ba h0 n0 (by omega)) hZ (wd 4 rfl) (wd 3 rfl) (by decide) (by decide)) (g := (mkF m 16 #[.val (.int aa), .val (.int ba), .val (.int ca), .val (.int da), .val (.int nn), .val (.int ea), .val (.int (3 : Int32)), .val (.int (own_cx aa)), .unset, .unset, .unset, .unset, .unset, .unset, .unset, .unset] [(.int ba)])) rfl (by rw [hml]; rfl) (argsL := [(.int ba)]) (rest := []) (lenOf pd__I_C rfl) rfl (by show 2 * 0 + _ ≤ _; exact Nat.le_of_eq rfl) (hb hby at_16) (fun _ _ => ⟨rfl, e65, (by decide : 0 + 0 ≤ _), (by decide : 0 + 0 ≤ _)⟩)
  dsimp only [Pt.U, Pt.locs, Pt.cells, Pt.slots] at X66 l66 y66 z66 st66 hQ66
  subst l66 y66 z66
  obtain ⟨rfl, N66q, e66⟩ := hQ66
  have N66 := Fr.app N65 N66q
  refine go_of (B := (T66.setTop (mkF m 19 #[.val (.int aa), .val (.int ba), .val (.int ca), .val (.int da), .val (.int nn), .val (.int ea), .val (.int (3 : Int32)), .val (.int (own_cx aa)), .unset, .unset, .unset, .unset, .unset, .unset, .unset, .unset] [(.int (own_cx ba))]))) (st66) ?_
  refine go_of (B := (T66.setTop (mkF m 22 #[.val (.int aa), .val (.int ba), .val (.int ca), .val (.int da), .val (.int nn), .val (.int ea), .val (.int (3 : Int32)), .val (.int (own_cx aa)), .val (.int (own_cx ba)), .unset, .unset, .unset, .unset, .unset, .unset, .unset] [(.int ca)]))) (fun _ kk => XS.istore X66.here hx rfl (hb hby at_19) rfl rfl (XS.iloadN X66.here hx rfl (hb hby at_21) rfl kk)) ?_
  obtain ⟨_, _, ⟨T67, L67, k67, n67⟩, -, X67, ⟨Lc67, hQ67, l67, y67, z67⟩, st67⟩ := Jvm.LawKit.callS X66 hx (y := MN0) hown (mvT hZ (wd 1 rfl)) (mvT hZ (wd 2 rfl)) (mvT hZ (wd 3 rfl)) (mvT hZ (wd 4 rfl)) (by decide) (backOf (W := 0) (ch l Z a0 hw [] ca h0 n0 (by omega)) hZ (wd 4 rfl) (wd 3 rfl) (by decide) (by decide)) (g := (mkF m 22 #[.val (.int aa), .val (.int ba), .val (.int ca), .val (.int da), .val (.int nn), .val (.int ea), .val (.int (3 : Int32)), .val (.int (own_cx aa)), .val (.int (own_cx ba)), .unset, .unset, .unset, .unset, .unset, .unset, .unset] [(.int ca)])) rfl (by rw [hml]; rfl) (argsL := [(.int ca)]) (rest := []) (lenOf pd__I_C rfl) rfl (by show 2 * 0 + _ ≤ _; exact Nat.le_of_eq rfl) (hb hby at_22) (fun _ _ => ⟨rfl, e66, (by decide : 0 + 0 ≤ _), (by decide : 0 + 0 ≤ _)⟩)
  dsimp only [Pt.U, Pt.locs, Pt.cells, Pt.slots] at X67 l67 y67 z67 st67 hQ67
  subst l67 y67 z67
  obtain ⟨rfl, N67q, e67⟩ := hQ67
  have N67 := Fr.app N66 N67q
  refine go_of (B := (T67.setTop (mkF m 25 #[.val (.int aa), .val (.int ba), .val (.int ca), .val (.int da), .val (.int nn), .val (.int ea), .val (.int (3 : Int32)), .val (.int (own_cx aa)), .val (.int (own_cx ba)), .unset, .unset, .unset, .unset, .unset, .unset, .unset] [(.int (own_cx ca))]))) (st67) ?_
  refine go_of (B := (T67.setTop (mkF m 28 #[.val (.int aa), .val (.int ba), .val (.int ca), .val (.int da), .val (.int nn), .val (.int ea), .val (.int (3 : Int32)), .val (.int (own_cx aa)), .val (.int (own_cx ba)), .val (.int (own_cx ca)), .unset, .unset, .unset, .unset, .unset, .unset] [(.int da)]))) (fun _ kk => XS.istore X67.here hx rfl (hb hby at_25) rfl rfl (XS.iloadN X67.here hx rfl (hb hby at_27) rfl kk)) ?_
  obtain ⟨_, _, ⟨T68, L68, k68, n68⟩, -, X68, ⟨Lc68, hQ68, l68, y68, z68⟩, st68⟩ := Jvm.LawKit.callS X67 hx (y := MN0) hown (mvT hZ (wd 1 rfl)) (mvT hZ (wd 2 rfl)) (mvT hZ (wd 3 rfl)) (mvT hZ (wd 4 rfl)) (by decide) (backOf (W := 0) (ch l Z a0 hw [] da h0 n0 (by omega)) hZ (wd 4 rfl) (wd 3 rfl) (by decide) (by decide)) (g := (mkF m 28 #[.val (.int aa), .val (.int ba), .val (.int ca), .val (.int da), .val (.int nn), .val (.int ea), .val (.int (3 : Int32)), .val (.int (own_cx aa)), .val (.int (own_cx ba)), .val (.int (own_cx ca)), .unset, .unset, .unset, .unset, .unset, .unset] [(.int da)])) rfl (by rw [hml]; rfl) (argsL := [(.int da)]) (rest := []) (lenOf pd__I_C rfl) rfl (by show 2 * 0 + _ ≤ _; exact Nat.le_of_eq rfl) (hb hby at_28) (fun _ _ => ⟨rfl, e67, (by decide : 0 + 0 ≤ _), (by decide : 0 + 0 ≤ _)⟩)
  dsimp only [Pt.U, Pt.locs, Pt.cells, Pt.slots] at X68 l68 y68 z68 st68 hQ68
  subst l68 y68 z68
  obtain ⟨rfl, N68q, e68⟩ := hQ68
  have N68 := Fr.app N67 N68q
  refine go_of (B := (T68.setTop (mkF m 31 #[.val (.int aa), .val (.int ba), .val (.int ca), .val (.int da), .val (.int nn), .val (.int ea), .val (.int (3 : Int32)), .val (.int (own_cx aa)), .val (.int (own_cx ba)), .val (.int (own_cx ca)), .unset, .unset, .unset, .unset, .unset, .unset] [(.int (own_cx da))]))) (st68) ?_
  refine go_of (B := (T68.setTop (mkF m 69 #[.val (.int aa), .val (.int ba), .val (.int ca), .val (.int da), .val (.int nn), .val (.int ea), .val (.int (3 : Int32)), .val (.int (own_cx aa)), .val (.int (own_cx ba)), .val (.int (own_cx ca)), .val (.int (own_cx da)), .unset, .unset, .unset, .unset, .unset] []))) (fun _ kk => XS.istore X68.here hx rfl (hb hby at_31) rfl rfl (XS.iload X68.here hx rfl (hb hby at_33) rfl (XS.ifYes X68.here hx rfl (pc0 := 35) (pc' := 53) rfl (hb hby at_35) rfl ((if0 _ _).trans (feq (by decide : ¬ ((3 : Int32) = (0 : Int32)))).2) (by decide) (by decide) (XS.iload X68.here hx rfl (hb hby at_53) rfl (XS.iconst X68.here hx rfl (hb hby at_55) (XS.icmpYes X68.here hx rfl (pc0 := 56) (pc' := 69) rfl (hb hby at_56) rfl (feq (by decide : ¬ ((3 : Int32) = (1 : Int32)))).2 (by decide) (by decide) kk)))))) ?_
  refine go_of (B := (T68.setTop (mkF m 106 #[.val (.int aa), .val (.int ba), .val (.int ca), .val (.int da), .val (.int nn), .val (.int ea), .val (.int (3 : Int32)), .val (.int (own_cx aa)), .val (.int (own_cx ba)), .val (.int (own_cx ca)), .val (.int (own_cx da)), .unset, .unset, .unset, .unset, .unset] []))) (fun _ kk => XS.iload X68.here hx rfl (hb hby at_69) rfl (XS.iconst X68.here hx rfl (hb hby at_71) (XS.icmpYes X68.here hx rfl (pc0 := 72) (pc' := 100) rfl (hb hby at_72) rfl (feq (by decide : ¬ ((3 : Int32) = (2 : Int32)))).2 (by decide) (by decide) (XS.iload X68.here hx rfl (hb hby at_100) rfl (XS.iconst X68.here hx rfl (hb hby at_102) (XS.icmpNo X68.here hx rfl (hb hby at_103) rfl (teq (by decide : (3 : Int32) = (3 : Int32))).2 kk)))))) ?_
  obtain ⟨T69, h69, X69, e69, E69, A69, D69, -, st69⟩ := newO X68 hx hZ hown (wd 5 rfl) (wd 6 rfl) (wd 7 rfl) e68 (g := (mkF m 106 #[.val (.int aa), .val (.int ba), .val (.int ca), .val (.int da), .val (.int nn), .val (.int ea), .val (.int (3 : Int32)), .val (.int (own_cx aa)), .val (.int (own_cx ba)), .val (.int (own_cx ca)), .val (.int (own_cx da)), .unset, .unset, .unset, .unset, .unset] [])) rfl (hb hby at_106) (by decide) (by decide)
  obtain ⟨b69, g69⟩ : ∃ z, z = h0.size := ⟨_, rfl⟩
  rw [← g69] at A69 D69 st69
  have hi69 := own_nlt A69.lt
  have sz69 := E69.1
  have HC69 := HC0.trans (CHr.ext E69 HC0.1)
  have F69_value : Fld Z h69 b69 "java/lang/String" "value" "[B" .null := D69 (Or.inr (wd 21 rfl)) (ty := (.array .byte)) (by decide)
  have F69_coder : Fld Z h69 b69 "java/lang/String" "coder" "B" (.int (0 : Int32)) := D69 (Or.inr (wd 22 rfl)) (ty := .byte) (by decide)
  refine go_of (B := (T69.setTop (mkF m 109 #[.val (.int aa), .val (.int ba), .val (.int ca), .val (.int da), .val (.int nn), .val (.int ea), .val (.int (3 : Int32)), .val (.int (own_cx aa)), .val (.int (own_cx ba)), .val (.int (own_cx ca)), .val (.int (own_cx da)), .unset, .unset, .unset, .unset, .unset] [(.ref b69)]))) (st69) ?_
  refine go_of (B := (T69.setTop (mkF m 111 #[.val (.int aa), .val (.int ba), .val (.int ca), .val (.int da), .val (.int nn), .val (.int ea), .val (.int (3 : Int32)), .val (.int (own_cx aa)), .val (.int (own_cx ba)), .val (.int (own_cx ca)), .val (.int (own_cx da)), .unset, .unset, .unset, .unset, .unset] [(.int (3 : Int32)), (.ref b69), (.ref b69)]))) (fun _ kk => XS.dup X69.here hx rfl (hb hby at_109) rfl rfl (XS.iconst X69.here hx rfl (hb hby at_110) kk)) ?_
  obtain ⟨T70, h70, k70, X70, e70, E70, A70, st70⟩ := newP X69 hx hZ (wd 8 rfl) e69 (g := (mkF m 111 #[.val (.int aa), .val (.int ba), .val (.int ca), .val (.int da), .val (.int nn), .val (.int ea), .val (.int (3 : Int32)), .val (.int (own_cx aa)), .val (.int (own_cx ba)), .val (.int (own_cx ca)), .val (.int (own_cx da)), .unset, .unset, .unset, .unset, .unset] [(.int (3 : Int32)), (.ref b69), (.ref b69)])) rfl (hb hby at_111) rfl (by decide) (cap := 3) (by decide) (by decide) (by decide) (by decide)
  obtain ⟨b70, g70⟩ : ∃ z, z = h69.size := ⟨_, rfl⟩
  rw [← g70] at A70 st70
  have hi70 := own_nlt A70.lt
  have sz70 := E70.1
  have HC70 := HC69.trans (CHr.ext E70 HC69.1)
  have V70 : Arv Z h70 b70 k70 .char (3 : Int32) [(.int (0 : Int32)), (.int (0 : Int32)), (.int (0 : Int32))] (.int (0 : Int32)) := (Arv.new A70 (by decide)).pad (pad_rep [] (.int (0 : Int32)) 3)
  refine go_of (B := (T70.setTop (mkF m 113 #[.val (.int aa), .val (.int ba), .val (.int ca), .val (.int da), .val (.int nn), .val (.int ea), .val (.int (3 : Int32)), .val (.int (own_cx aa)), .val (.int (own_cx ba)), .val (.int (own_cx ca)), .val (.int (own_cx da)), .unset, .unset, .unset, .unset, .unset] [(.ref b70), (.ref b69), (.ref b69)]))) (st70) ?_
  refine go_of (B := (T70.setTop (mkF m 117 #[.val (.int aa), .val (.int ba), .val (.int ca), .val (.int da), .val (.int nn), .val (.int ea), .val (.int (3 : Int32)), .val (.int (own_cx aa)), .val (.int (own_cx ba)), .val (.int (own_cx ca)), .val (.int (own_cx da)), .unset, .unset, .unset, .unset, .unset] [(.int (own_cx aa)), (.int (0 : Int32)), (.ref b70), (.ref b70), (.ref b69), (.ref b69)]))) (fun _ kk => XS.dup X70.here hx rfl (hb hby at_113) rfl rfl (XS.iconst X70.here hx rfl (hb hby at_114) (XS.iload X70.here hx rfl (hb hby at_115) rfl kk))) ?_
  obtain ⟨cl71, Ar71, q71, Sz71, Nn71, Hh71, G71⟩ := id (V70)
  obtain ⟨T72, h72, X72, e72, W72, st72⟩ := stC X70 hx hZ e70 Ar71 (j := (0 : Int32)) (inb_of Sz71 ⟨by decide, by decide⟩) (g := (mkF m 117 #[.val (.int aa), .val (.int ba), .val (.int ca), .val (.int da), .val (.int nn), .val (.int ea), .val (.int (3 : Int32)), .val (.int (own_cx aa)), .val (.int (own_cx ba)), .val (.int (own_cx ca)), .val (.int (own_cx da)), .unset, .unset, .unset, .unset, .unset] [(.int (own_cx aa)), (.int (0 : Int32)), (.ref b70), (.ref b70), (.ref b69), (.ref b69)])) rfl rfl (hb hby at_117)
  have sz72 := W72.size
  have N72 := Fr.snoc X72 N68 ((by first | omega | exact own_ne (by omega) | exact own_le (by omega) | exact own_lt (by omega)) : n0 ≤ b70)
  have V72 : Arv Z h72 b70 k70 .char (3 : Int32) [(.int (nar .char (own_cx aa))), (.int (0 : Int32)), (.int (0 : Int32))] (.int (0 : Int32)) := Arv.set Ar71 q71 Sz71 Nn71 Hh71 G71 (fits_nar_char _) W72 0 rfl (Nat.le_of_ble_eq_true rfl)
  rw [own_narc (own_cxr aa)] at V72
  have SF72 := (own_safe_arv hZ.alike V70 (by decide) : (Safe Z own_EL _ h70 b70))
  have HC72 := HC70.trans (CHr.wr W72 SF72 HC70.1)
  refine go_of (B := (T72.setTop (mkF m 118 #[.val (.int aa), .val (.int ba), .val (.int ca), .val (.int da), .val (.int nn), .val (.int ea), .val (.int (3 : Int32)), .val (.int (own_cx aa)), .val (.int (own_cx ba)), .val (.int (own_cx ca)), .val (.int (own_cx da)), .unset, .unset, .unset, .unset, .unset] [(.ref b70), (.ref b69), (.ref b69)]))) (st72) ?_
  refine go_of (B := (T72.setTop (mkF m 122 #[.val (.int aa), .val (.int ba), .val (.int ca), .val (.int da), .val (.int nn), .val (.int ea), .val (.int (3 : Int32)), .val (.int (own_cx aa)), .val (.int (own_cx ba)), .val (.int (own_cx ca)), .val (.int (own_cx da)), .unset, .unset, .unset, .unset, .unset] [(.int (own_cx ba)), (.int (1 : Int32)), (.ref b70), (.ref b70), (.ref b69), (.ref b69)]))) (fun _ kk => XS.dup X72.here hx rfl (hb hby at_118) rfl rfl (XS.iconst X72.here hx rfl (hb hby at_119) (XS.iload X72.here hx rfl (hb hby at_120) rfl kk))) ?_
  obtain ⟨cl73, Ar73, q73, Sz73, Nn73, Hh73, G73⟩ := id (V72)
  obtain ⟨T74, h74, X74, e74, W74, st74⟩ := stC X72 hx hZ e72 Ar73 (j := (1 : Int32)) (inb_of Sz73 ⟨by decide, by decide⟩) (g := (mkF m 122 #[.val (.int aa), .val (.int ba), .val (.int ca), .val (.int da), .val (.int nn), .val (.int ea), .val (.int (3 : Int32)), .val (.int (own_cx aa)), .val (.int (own_cx ba)), .val (.int (own_cx ca)), .val (.int (own_cx da)), .unset, .unset, .unset, .unset, .unset] [(.int (own_cx ba)), (.int (1 : Int32)), (.ref b70), (.ref b70), (.ref b69), (.ref b69)])) rfl rfl (hb hby at_122)
  have sz74 := W74.size
  have N74 := Fr.snoc X74 N72 ((by first | omega | exact own_ne (by omega) | exact own_le (by omega) | exact own_lt (by omega)) : n0 ≤ b70)
  have V74 : Arv Z h74 b70 k70 .char (3 : Int32) [(.int (own_cx aa)), (.int (nar .char (own_cx ba))), (.int (0 : Int32))] (.int (0 : Int32)) := Arv.set Ar73 q73 Sz73 Nn73 Hh73 G73 (fits_nar_char _) W74 1 rfl (Nat.le_of_ble_eq_true rfl)
  rw [own_narc (own_cxr ba)] at V74
  have SF74 := (own_safe_arv hZ.alike V72 (by decide) : (Safe Z own_EL _ h72 b70))
  have HC74 := HC72.trans (CHr.wr W74 SF74 HC72.1)
  refine go_of (B := (T74.setTop (mkF m 123 #[.val (.int aa), .val (.int ba), .val (.int ca), .val (.int da), .val (.int nn), .val (.int ea), .val (.int (3 : Int32)), .val (.int (own_cx aa)), .val (.int (own_cx ba)), .val (.int (own_cx ca)), .val (.int (own_cx da)), .unset, .unset, .unset, .unset, .unset] [(.ref b70), (.ref b69), (.ref b69)]))) (st74) ?_
  refine go_of (B := (T74.setTop (mkF m 127 #[.val (.int aa), .val (.int ba), .val (.int ca), .val (.int da), .val (.int nn), .val (.int ea), .val (.int (3 : Int32)), .val (.int (own_cx aa)), .val (.int (own_cx ba)), .val (.int (own_cx ca)), .val (.int (own_cx da)), .unset, .unset, .unset, .unset, .unset] [(.int (own_cx ca)), (.int (2 : Int32)), (.ref b70), (.ref b70), (.ref b69), (.ref b69)]))) (fun _ kk => XS.dup X74.here hx rfl (hb hby at_123) rfl rfl (XS.iconst X74.here hx rfl (hb hby at_124) (XS.iload X74.here hx rfl (hb hby at_125) rfl kk))) ?_
  obtain ⟨cl75, Ar75, q75, Sz75, Nn75, Hh75, G75⟩ := id (V74)
  obtain ⟨T76, h76, X76, e76, W76, st76⟩ := stC X74 hx hZ e74 Ar75 (j := (2 : Int32)) (inb_of Sz75 ⟨by decide, by decide⟩) (g := (mkF m 127 #[.val (.int aa), .val (.int ba), .val (.int ca), .val (.int da), .val (.int nn), .val (.int ea), .val (.int (3 : Int32)), .val (.int (own_cx aa)), .val (.int (own_cx ba)), .val (.int (own_cx ca)), .val (.int (own_cx da)), .unset, .unset, .unset, .unset, .unset] [(.int (own_cx ca)), (.int (2 : Int32)), (.ref b70), (.ref b70), (.ref b69), (.ref b69)])) rfl rfl (hb hby at_127)
  have sz76 := W76.size
  have N76 := Fr.snoc X76 N74 ((by first | omega | exact own_ne (by omega) | exact own_le (by omega) | exact own_lt (by omega)) : n0 ≤ b70)
  have V76 : Arv Z h76 b70 k70 .char (3 : Int32) [(.int (own_cx aa)), (.int (own_cx ba)), (.int (nar .char (own_cx ca)))] (.int (0 : Int32)) := Arv.set Ar75 q75 Sz75 Nn75 Hh75 G75 (fits_nar_char _) W76 2 rfl (Nat.le_of_ble_eq_true rfl)
  rw [own_narc (own_cxr ca)] at V76
  have SF76 := (own_safe_arv hZ.alike V74 (by decide) : (Safe Z own_EL _ h74 b70))
  have HC76 := HC74.trans (CHr.wr W76 SF76 HC74.1)
  refine go_of (B := (T76.setTop (mkF m 128 #[.val (.int aa), .val (.int ba), .val (.int ca), .val (.int da), .val (.int nn), .val (.int ea), .val (.int (3 : Int32)), .val (.int (own_cx aa)), .val (.int (own_cx ba)), .val (.int (own_cx ca)), .val (.int (own_cx da)), .unset, .unset, .unset, .unset, .unset] [(.ref b70), (.ref b69), (.ref b69)]))) (st76) ?_
  have cf_77 := ((((A69.ext E70).wr W72).wr W74).wr W76)
  have cf_78 := ((((F69_value.ext E70).other W72 (Or.inl (by first | omega | exact own_ne (by omega) | exact own_le (by omega) | exact own_lt (by omega)))).other W74 (Or.inl (by first | omega | exact own_ne (by omega) | exact own_le (by omega) | exact own_lt (by omega)))).other W76 (Or.inl (by first | omega | exact own_ne (by omega) | exact own_le (by omega) | exact own_lt (by omega))))
  have sf_79 := (own_safe_null hZ.alike cf_77 cf_78 : (Safe Z own_EL _ h76 b69))
  have cf_80 := (((((O.ext E69).ext E70).wr W72 (by first | omega | exact own_ne (by omega) | exact own_le (by omega) | exact own_lt (by omega))).wr W74 (by first | omega | exact own_ne (by omega) | exact own_le (by omega) | exact own_lt (by omega))).wr W76 (by first | omega | exact own_ne (by omega) | exact own_le (by omega) | exact own_lt (by omega)))
  have cf_81 := ((((F69_coder.ext E70).other W72 (Or.inl (by first | omega | exact own_ne (by omega) | exact own_le (by omega) | exact own_lt (by omega)))).other W74 (Or.inl (by first | omega | exact own_ne (by omega) | exact own_le (by omega) | exact own_lt (by omega)))).other W76 (Or.inl (by first | omega | exact own_ne (by omega) | exact own_le (by omega) | exact own_lt (by omega))))
  obtain ⟨_, _, ⟨T82, L82, k82, n82⟩, -, X82, ⟨Lc82, hQ82, l82, y82, z82⟩, st82⟩ := X76.specialBack hx (y := MN12) rfl hown (mvT hZ (wd 9 rfl)) (mvT hZ (wd 10 rfl)) (mvT hZ (wd 11 rfl)) (by decide) (backOf (W := 1) (str_i1_3 l Z a0 hw [] b69 b70 (own_cx aa) (own_cx ba) (own_cx ca) k70 gC _ _ h76 n0 (by omega) cf_80 SC hgC cf_77 cf_78 cf_81 (by first | omega | exact own_ne (by omega) | exact own_le (by omega) | exact own_lt (by omega)) V76 (own_cxr aa) (own_cxr ba) (own_cxr ca)) hZ (wd 11 rfl) (wd 7 rfl) (by decide) (by decide)) (g := (mkF m 128 #[.val (.int aa), .val (.int ba), .val (.int ca), .val (.int da), .val (.int nn), .val (.int ea), .val (.int (3 : Int32)), .val (.int (own_cx aa)), .val (.int (own_cx ba)), .val (.int (own_cx ca)), .val (.int (own_cx da)), .unset, .unset, .unset, .unset, .unset] [(.ref b70), (.ref b69), (.ref b69)])) rfl (by rw [hml]; rfl) (Steps.refl _) (a := b69) (argsL := [(.ref b70)]) (rest := [(.ref b69)]) (lenOf pd___C_V rfl) rfl (by show 2 * 0 + _ ≤ _; exact Nat.le_of_eq rfl) (hb hby at_128) (fun _ _ => ⟨rfl, e76, (by decide : 2 + 1 ≤ _), (by decide : 7 + 3 ≤ _)⟩)
  dsimp only [Pt.U, Pt.locs, Pt.cells, Pt.slots] at X82 l82 y82 z82 st82 hQ82
  subst l82 y82 z82
  obtain ⟨rfl, N82q, K82, S82⟩ := hQ82
  have N82 := Fr.app N76 N82q
  have sz82 := K82.1
  have SK82 : ∀ x ∈ [b69], Safe Z own_EL _ h76 x := (allS sf_79 all0)
  have HC82 := HC76.trans (CHr.keep K82 SK82 HC76.1)
  refine go_tr (B := (T82.setTop (mkF m 131 #[.val (.int aa), .val (.int ba), .val (.int ca), .val (.int da), .val (.int nn), .val (.int ea), .val (.int (3 : Int32)), .val (.int (own_cx aa)), .val (.int (own_cx ba)), .val (.int (own_cx ca)), .val (.int (own_cx da)), .unset, .unset, .unset, .unset, .unset] [(.ref b69)]))) (st82) ?_
  refine go_of (B := (T82.setTop (mkF m 168 #[.val (.int aa), .val (.int ba), .val (.int ca), .val (.int da), .val (.int nn), .val (.int ea), .val (.int (3 : Int32)), .val (.int (own_cx aa)), .val (.int (own_cx ba)), .val (.int (own_cx ca)), .val (.int (own_cx da)), .val (.ref b69), .unset, .unset, .unset, .unset] []))) (fun _ kk => XS.astore X82.here hx rfl (hb hby at_131) rfl rfl rfl (XS.goto X82.here hx rfl (pc0 := 133) (pc' := 168) rfl (hb hby at_133) (by decide) (by decide) kk)) ?_
  have HJ83 : ∀ (xe : Int32), xe = own_no [(own_cx aa), (own_cx ba), (own_cx ca)] → Go p e below (T82.setTop (mkF m 227 #[.val (.int aa), .val (.int ba), .val (.int ca), .val (.int da), .val (.int nn), .val (.int ea), .val (.int (3 : Int32)), .val (.int (own_cx aa)), .val (.int (own_cx ba)), .val (.int (own_cx ca)), .val (.int (own_cx da)), .val (.ref b69), .val (.int xe), .unset, .unset, .unset] [])) (fun oo' U2' => ∃ vv' LL', oo' = .returned vv' ∧ (Q_rm0 Z aa ba ca da nn ea gC h0 n0) vv' U2'.heap LL' ∧ CHr Z own_EL s.vm s.heap U2'.vm U2'.heap ∧ ReturnedEndW s oo' U2' LL' room_1.cells room_1.slots) := by
    intro xe hjHJ83
    refine go_of (B := (T82.setTop (mkF m 229 #[.val (.int aa), .val (.int ba), .val (.int ca), .val (.int da), .val (.int nn), .val (.int ea), .val (.int (3 : Int32)), .val (.int (own_cx aa)), .val (.int (own_cx ba)), .val (.int (own_cx ca)), .val (.int (own_cx da)), .val (.ref b69), .val (.int xe), .unset, .unset, .unset] [(.ref b69)]))) (fun _ kk => XS.aload X82.here hx rfl (hb hby at_227) rfl rfl kk) ?_
    have cf_84 := (cf_80.keep K82 (allS (by first | omega | exact own_ne (by omega) | exact own_le (by omega) | exact own_lt (by omega)) all0))
    obtain ⟨_, _, ⟨T85, L85, k85, n85⟩, -, X85, ⟨Lc85, hQ85, l85, y85, z85⟩, st85⟩ := Jvm.LawKit.callS X82 hx (y := MN2) hown (mvT hZ (wd 27 rfl)) (mvT hZ (wd 28 rfl)) (mvT hZ (wd 29 rfl)) (mvT hZ (wd 30 rfl)) (by decide) (backOf (W := 0) (no_3 l Z a0 hw [] b69 (own_cx aa) (own_cx ba) (own_cx ca) gC T82.heap n0 (by omega) cf_84 SC hgC S82) hZ (wd 30 rfl) (wd 29 rfl) (by decide) (by decide)) (g := (mkF m 229 #[.val (.int aa), .val (.int ba), .val (.int ca), .val (.int da), .val (.int nn), .val (.int ea), .val (.int (3 : Int32)), .val (.int (own_cx aa)), .val (.int (own_cx ba)), .val (.int (own_cx ca)), .val (.int (own_cx da)), .val (.ref b69), .val (.int xe), .unset, .unset, .unset] [(.ref b69)])) rfl (by rw [hml]; rfl) (argsL := [(.ref b69)]) (rest := []) (lenOf pd__Ljava_lang_String__Z rfl) rfl (by show 2 * 0 + _ ≤ _; exact Nat.le_of_eq rfl) (hb hby at_229) (fun _ _ => ⟨rfl, rfl, (by decide : 3 + 0 ≤ _), (by decide : 10 + 0 ≤ _)⟩)
    dsimp only [Pt.U, Pt.locs, Pt.cells, Pt.slots] at X85 l85 y85 z85 st85 hQ85
    subst l85 y85 z85
    obtain ⟨rfl, N85q, e85⟩ := hQ85
    have N85 := Fr.app N82 N85q
    refine go_of (B := (T85.setTop (mkF m 232 #[.val (.int aa), .val (.int ba), .val (.int ca), .val (.int da), .val (.int nn), .val (.int ea), .val (.int (3 : Int32)), .val (.int (own_cx aa)), .val (.int (own_cx ba)), .val (.int (own_cx ca)), .val (.int (own_cx da)), .val (.ref b69), .val (.int xe), .unset, .unset, .unset] [(.int (own_no [(own_cx aa), (own_cx ba), (own_cx ca)]))]))) (st85) ?_
    refine go_of (B := (T85.setTop (mkF m 246 #[.val (.int aa), .val (.int ba), .val (.int ca), .val (.int da), .val (.int nn), .val (.int ea), .val (.int (3 : Int32)), .val (.int (own_cx aa)), .val (.int (own_cx ba)), .val (.int (own_cx ca)), .val (.int (own_cx da)), .val (.ref b69), .val (.int xe), .val (.int (1 : Int32)), .unset, .unset] [(.int ea)]))) (fun _ kk => XS.iload X85.here hx rfl (hb hby at_232) rfl (XS.icmpNo X85.here hx rfl (hb hby at_234) rfl (teq hjHJ83.symm).2 (XS.iconst X85.here hx rfl (hb hby at_237) (XS.goto X85.here hx rfl (pc0 := 238) (pc' := 242) rfl (hb hby at_238) (by decide) (by decide) (XS.istore X85.here hx rfl (hb hby at_242) rfl rfl (XS.iload X85.here hx rfl (hb hby at_244) rfl kk)))))) ?_
    obtain ⟨_, _, ⟨T86, L86, k86, n86⟩, -, X86, ⟨Lc86, hQ86, l86, y86, z86⟩, st86⟩ := Jvm.LawKit.callS X85 hx (y := MN0) hown (mvT hZ (wd 1 rfl)) (mvT hZ (wd 2 rfl)) (mvT hZ (wd 3 rfl)) (mvT hZ (wd 4 rfl)) (by decide) (backOf (W := 0) (ch l Z a0 hw [] ea T82.heap n0 (by omega)) hZ (wd 4 rfl) (wd 3 rfl) (by decide) (by decide)) (g := (mkF m 246 #[.val (.int aa), .val (.int ba), .val (.int ca), .val (.int da), .val (.int nn), .val (.int ea), .val (.int (3 : Int32)), .val (.int (own_cx aa)), .val (.int (own_cx ba)), .val (.int (own_cx ca)), .val (.int (own_cx da)), .val (.ref b69), .val (.int xe), .val (.int (1 : Int32)), .unset, .unset] [(.int ea)])) rfl (by rw [hml]; rfl) (argsL := [(.int ea)]) (rest := []) (lenOf pd__I_C rfl) rfl (by show 2 * 0 + _ ≤ _; exact Nat.le_of_eq rfl) (hb hby at_246) (fun _ _ => ⟨rfl, e85, (by decide : 3 + 0 ≤ _), (by decide : 10 + 0 ≤ _)⟩)
    dsimp only [Pt.U, Pt.locs, Pt.cells, Pt.slots] at X86 l86 y86 z86 st86 hQ86
    subst l86 y86 z86
    obtain ⟨rfl, N86q, e86⟩ := hQ86
    have N86 := Fr.app N85 N86q
    refine go_of (B := (T86.setTop (mkF m 249 #[.val (.int aa), .val (.int ba), .val (.int ca), .val (.int da), .val (.int nn), .val (.int ea), .val (.int (3 : Int32)), .val (.int (own_cx aa)), .val (.int (own_cx ba)), .val (.int (own_cx ca)), .val (.int (own_cx da)), .val (.ref b69), .val (.int xe), .val (.int (1 : Int32)), .unset, .unset] [(.int (own_cx ea))]))) (st86) ?_
    obtain ⟨_, _, ⟨T87, L87, k87, n87⟩, -, X87, ⟨Lc87, hQ87, l87, y87, z87⟩, st87⟩ := Jvm.LawKit.callS X86 hx (y := MN20) hown (mvT hZ (wd 71 rfl)) (mvT hZ (wd 72 rfl)) (mvT hZ (wd 7 rfl)) (mvT hZ (wd 73 rfl)) (by decide) (backOf (W := 0) (v_vof l Z a0 hw [] (own_cx ea) gC T82.heap n0 (by omega) cf_84 SC hgC (own_cxr ea)) hZ (wd 73 rfl) (wd 7 rfl) (by decide) (by decide)) (g := (mkF m 249 #[.val (.int aa), .val (.int ba), .val (.int ca), .val (.int da), .val (.int nn), .val (.int ea), .val (.int (3 : Int32)), .val (.int (own_cx aa)), .val (.int (own_cx ba)), .val (.int (own_cx ca)), .val (.int (own_cx da)), .val (.ref b69), .val (.int xe), .val (.int (1 : Int32)), .unset, .unset] [(.int (own_cx ea))])) rfl (by rw [hml]; rfl) (argsL := [(.int (own_cx ea))]) (rest := []) (lenOf pd__C_Ljava_lang_String_ rfl) rfl (by show 2 * 0 + _ ≤ _; exact Nat.le_of_eq rfl) (hb hby at_249) (fun _ _ => ⟨rfl, e86, (by decide : 3 + 2 ≤ _), (by decide : 10 + 5 ≤ _)⟩)
    dsimp only [Pt.U, Pt.locs, Pt.cells, Pt.slots] at X87 l87 y87 z87 st87 hQ87
    subst l87 y87 z87
    obtain ⟨b87, rfl, N87q, lo87, K87, S87⟩ := hQ87
    have lo87 := own_nle lo87
    have N87 := Fr.app N86 N87q
    have hi87 := own_nlt (S87.exa.lt)
    have sz87 := K87.1
    have SK87 : ∀ x ∈ ([] : List Addr), Safe Z own_EL s.vm T82.heap x := all0
    have HC87 := HC82.trans (CHr.keep K87 SK87 HC82.1)
    refine go_of (B := (T87.setTop (mkF m 252 #[.val (.int aa), .val (.int ba), .val (.int ca), .val (.int da), .val (.int nn), .val (.int ea), .val (.int (3 : Int32)), .val (.int (own_cx aa)), .val (.int (own_cx ba)), .val (.int (own_cx ca)), .val (.int (own_cx da)), .val (.ref b69), .val (.int xe), .val (.int (1 : Int32)), .unset, .unset] [(.ref b87)]))) (st87) ?_
    refine go_of (B := (T87.setTop (mkF m 258 #[.val (.int aa), .val (.int ba), .val (.int ca), .val (.int da), .val (.int nn), .val (.int ea), .val (.int (3 : Int32)), .val (.int (own_cx aa)), .val (.int (own_cx ba)), .val (.int (own_cx ca)), .val (.int (own_cx da)), .val (.ref b69), .val (.int xe), .val (.int (1 : Int32)), .val (.ref b87), .unset] [(.ref b87), (.ref b69)]))) (fun _ kk => XS.astore X87.here hx rfl (hb hby at_252) rfl rfl rfl (XS.aload X87.here hx rfl (hb hby at_254) rfl rfl (XS.aload X87.here hx rfl (hb hby at_256) rfl rfl kk))) ?_
    have cf_88 := (cf_84.keep K87 all0)
    have cf_89 := S82.ext (own_kx ((Keep.refl T82.heap []).trans K87 all0))
    obtain ⟨_, _, ⟨T90, L90, k90, n90⟩, -, X90', hS90', gr90, ⟨Lc90, hQ90, l90, y90, z90, HR90⟩, st90⟩ := callSS X87 hx (y := MN1) hown (mvT hZ (wd 84 rfl)) (mvT hZ (wd 85 rfl)) (mvT hZ (wd 29 rfl)) (mvT hZ (wd 86 rfl)) (by decide) (backOfSH (W := 0) (emN l Z a0 hw [] b69 b87 (3 : Int32) (own_cx ea) gC T87.heap n0 (by omega) cf_88 SC hgC (StrN.of cf_89) (by unfold N5; decide) S87) hZ (wd 86 rfl) (wd 29 rfl) (by decide) (by decide) hEL HC87.1) (g := (mkF m 258 #[.val (.int aa), .val (.int ba), .val (.int ca), .val (.int da), .val (.int nn), .val (.int ea), .val (.int (3 : Int32)), .val (.int (own_cx aa)), .val (.int (own_cx ba)), .val (.int (own_cx ca)), .val (.int (own_cx da)), .val (.ref b69), .val (.int xe), .val (.int (1 : Int32)), .val (.ref b87), .unset] [(.ref b87), (.ref b69)])) rfl (by rw [hml]; rfl) (argsL := [(.ref b69), (.ref b87)]) (rest := []) (lenOf pd__Ljava_lang_String_Ljava_lang_String__Ljava_lang_String_ rfl) rfl (by show 2 * 0 + _ ≤ _; exact Nat.le_of_eq rfl) (hb hby at_258) (fun _ _ => ⟨rfl, rfl, (by decide : 5 + 6 ≤ _), (by decide : 15 + 38 ≤ _)⟩)
    dsimp only [Pt.U, Pt.locs, Pt.cells, Pt.slots] at X90' hS90' gr90 l90 y90 z90 st90 hQ90 HR90
    subst l90 y90 z90
    have X90 : Stand _ _ _ _ (s.setVm T90.vm) _ _ _ _ _ T90 _ _ _ := X90'
    have hS : s.Since T90.vm T90.heap.size := foldS hS (by first | omega | exact own_ne (by omega) | exact own_le (by omega) | exact own_lt (by omega)) hS90' gr90
    have hZ : Z.Warmed39 (s.setVm T90.vm).vm := State.Warmed39.trans (t := s.setVm s.vm) hZ hS90'.1
    have hown : (s.setVm T90.vm).vm.findClass "com/example/holdfast/holdfast/ExclusiveNamesAnOwnerPinLaw" = some m.cls := by rw [show (s.setVm T90.vm).vm = T90.vm from rfl, hS90'.1.alike.findClass]; exact hown
    obtain ⟨b90, rfl, N90q, lo90, K90, S90⟩ := hQ90
    have lo90 := own_nle lo90
    have N90 := Fr.app N87 N90q
    have hi90 := own_nlt (S90.exa.lt)
    have sz90 := K90.1
    have HC90 := HC87.trans HR90
    refine go_tr (B := (T90.setTop (mkF m 261 #[.val (.int aa), .val (.int ba), .val (.int ca), .val (.int da), .val (.int nn), .val (.int ea), .val (.int (3 : Int32)), .val (.int (own_cx aa)), .val (.int (own_cx ba)), .val (.int (own_cx ca)), .val (.int (own_cx da)), .val (.ref b69), .val (.int xe), .val (.int (1 : Int32)), .val (.ref b87), .unset] [(.ref b90)]))) (st90) ?_
    have cf_91 := (cf_88.keep K90 all0)
    obtain ⟨_, _, ⟨T92, L92, k92, n92⟩, -, X92, ⟨Lc92, hQ92, l92, y92, z92⟩, st92⟩ := Jvm.LawKit.callS X90 hx (y := MN2) hown (mvT hZ (wd 27 rfl)) (mvT hZ (wd 28 rfl)) (mvT hZ (wd 29 rfl)) (mvT hZ (wd 30 rfl)) (by decide) (backOf (W := 0) (noH l Z a0 hw [] b90 ((2 : Int32) + (3 : Int32)) (own_cx ea) gC T90.heap n0 (by omega) cf_91 SC hgC S90 (N5.m (by unfold N5; decide))) hZ (wd 30 rfl) (wd 29 rfl) (by decide) (by decide)) (g := (mkF m 261 #[.val (.int aa), .val (.int ba), .val (.int ca), .val (.int da), .val (.int nn), .val (.int ea), .val (.int (3 : Int32)), .val (.int (own_cx aa)), .val (.int (own_cx ba)), .val (.int (own_cx ca)), .val (.int (own_cx da)), .val (.ref b69), .val (.int xe), .val (.int (1 : Int32)), .val (.ref b87), .unset] [(.ref b90)])) rfl (by rw [hml]; rfl) (argsL := [(.ref b90)]) (rest := []) (lenOf pd__Ljava_lang_String__Z rfl) rfl (by show 2 * 0 + _ ≤ _; exact Nat.le_of_eq rfl) (hb hby at_261) (fun _ _ => ⟨rfl, rfl, (by decide : 11 + 0 ≤ _), (by decide : 53 + 0 ≤ _)⟩)
    dsimp only [Pt.U, Pt.locs, Pt.cells, Pt.slots] at X92 l92 y92 z92 st92 hQ92
    subst l92 y92 z92
    obtain ⟨rfl, N92q, e92⟩ := hQ92
    have N92 := Fr.app N90 N92q
    refine go_of (B := (T92.setTop (mkF m 264 #[.val (.int aa), .val (.int ba), .val (.int ca), .val (.int da), .val (.int nn), .val (.int ea), .val (.int (3 : Int32)), .val (.int (own_cx aa)), .val (.int (own_cx ba)), .val (.int (own_cx ca)), .val (.int (own_cx da)), .val (.ref b69), .val (.int xe), .val (.int (1 : Int32)), .val (.ref b87), .unset] [(.int (1 : Int32))]))) (st92) ?_
    refine go_of (B := (T92.setTop (mkF m 277 #[.val (.int aa), .val (.int ba), .val (.int ca), .val (.int da), .val (.int nn), .val (.int ea), .val (.int (3 : Int32)), .val (.int (own_cx aa)), .val (.int (own_cx ba)), .val (.int (own_cx ca)), .val (.int (own_cx da)), .val (.ref b69), .val (.int xe), .val (.int (1 : Int32)), .val (.ref b87), .val (.int (1 : Int32))] [(.int (1 : Int32))]))) (fun _ kk => XS.istore X92.here hx rfl (hb hby at_264) rfl rfl (XS.iload X92.here hx rfl (hb hby at_266) rfl (XS.ifNo X92.here hx rfl (hb hby at_268) rfl ((if0 _ _).trans (feq (by decide : ¬ ((1 : Int32) = (0 : Int32)))).1) (XS.iload X92.here hx rfl (hb hby at_271) rfl (XS.ifNo X92.here hx rfl (hb hby at_273) rfl ((if0 _ _).trans (feq (by decide : ¬ ((1 : Int32) = (0 : Int32)))).1) (XS.iconst X92.here hx rfl (hb hby at_276) kk)))))) ?_
    refine go_of (B := (T92.setTop (mkF m 281 #[.val (.int aa), .val (.int ba), .val (.int ca), .val (.int da), .val (.int nn), .val (.int ea), .val (.int (3 : Int32)), .val (.int (own_cx aa)), .val (.int (own_cx ba)), .val (.int (own_cx ca)), .val (.int (own_cx da)), .val (.ref b69), .val (.int xe), .val (.int (1 : Int32)), .val (.ref b87), .val (.int (1 : Int32))] [(.int (1 : Int32))]))) (fun _ kk => XS.goto X92.here hx rfl (pc0 := 277) (pc' := 281) rfl (hb hby at_277) (by decide) (by decide) kk) ?_
    refine go_endH X92 hZ hEL HC90 hh0 e92 hS (by rw [e92]; omega) (v := some (.int (nar .boolean (1 : Int32)))) (fun h => by rw [hret] at h; cases h) hlk (by decide) (by decide) (Q := (Q_rm0 Z aa ba ca da nn ea gC h0 n0)) ?_ (fun fs hr => retN X92 hx (t := .boolean) hret (by simp) (hb hby at_281) hr)
    unfold Q_rm0
    try rw [e92]
    exact ⟨rfl, N92⟩
  refine go_of (B := (T82.setTop (mkF m 178 #[.val (.int aa), .val (.int ba), .val (.int ca), .val (.int da), .val (.int nn), .val (.int ea), .val (.int (3 : Int32)), .val (.int (own_cx aa)), .val (.int (own_cx ba)), .val (.int (own_cx ca)), .val (.int (own_cx da)), .val (.ref b69), .unset, .unset, .unset, .unset] [(.int (32 : Int32)), (.int (own_cx aa))]))) (fun _ kk => XS.iload X82.here hx rfl (hb hby at_168) rfl (XS.iconst X82.here hx rfl (hb hby at_170) (XS.icmpNo X82.here hx rfl (hb hby at_171) rfl (flt (by decide : ¬ ((3 : Int32) < (1 : Int32)))).1 (XS.iload X82.here hx rfl (hb hby at_174) rfl (XS.bipush X82.here hx rfl (hb hby at_176) kk))))) ?_
  by_cases hcc93 : (own_cx aa) = (32 : Int32)
  · refine go_of (B := (T82.setTop (mkF m 227 #[.val (.int aa), .val (.int ba), .val (.int ca), .val (.int da), .val (.int nn), .val (.int ea), .val (.int (3 : Int32)), .val (.int (own_cx aa)), .val (.int (own_cx ba)), .val (.int (own_cx ca)), .val (.int (own_cx da)), .val (.ref b69), .val (.int (1 : Int32)), .unset, .unset, .unset] []))) (fun _ kk => XS.icmpYes X82.here hx rfl (pc0 := 178) (pc' := 220) rfl (hb hby at_178) rfl (teq hcc93).1 (by decide) (by decide) (XS.iconst X82.here hx rfl (hb hby at_220) (XS.goto X82.here hx rfl (pc0 := 221) (pc' := 225) rfl (hb hby at_221) (by decide) (by decide) (XS.istore X82.here hx rfl (hb hby at_225) rfl rfl kk)))) ?_
    exact HJ83 (1 : Int32) (by simp [own_no, own_hs, hcc93])
  · refine go_of (B := (T82.setTop (mkF m 191 #[.val (.int aa), .val (.int ba), .val (.int ca), .val (.int da), .val (.int nn), .val (.int ea), .val (.int (3 : Int32)), .val (.int (own_cx aa)), .val (.int (own_cx ba)), .val (.int (own_cx ca)), .val (.int (own_cx da)), .val (.ref b69), .unset, .unset, .unset, .unset] [(.int (32 : Int32)), (.int (own_cx ba))]))) (fun _ kk => XS.icmpNo X82.here hx rfl (hb hby at_178) rfl (feq hcc93).1 (XS.iload X82.here hx rfl (hb hby at_181) rfl (XS.iconst X82.here hx rfl (hb hby at_183) (XS.icmpNo X82.here hx rfl (hb hby at_184) rfl (flt (by decide : ¬ ((3 : Int32) < (2 : Int32)))).1 (XS.iload X82.here hx rfl (hb hby at_187) rfl (XS.bipush X82.here hx rfl (hb hby at_189) kk)))))) ?_
    by_cases hcc94 : (own_cx ba) = (32 : Int32)
    · refine go_of (B := (T82.setTop (mkF m 227 #[.val (.int aa), .val (.int ba), .val (.int ca), .val (.int da), .val (.int nn), .val (.int ea), .val (.int (3 : Int32)), .val (.int (own_cx aa)), .val (.int (own_cx ba)), .val (.int (own_cx ca)), .val (.int (own_cx da)), .val (.ref b69), .val (.int (1 : Int32)), .unset, .unset, .unset] []))) (fun _ kk => XS.icmpYes X82.here hx rfl (pc0 := 191) (pc' := 220) rfl (hb hby at_191) rfl (teq hcc94).1 (by decide) (by decide) (XS.iconst X82.here hx rfl (hb hby at_220) (XS.goto X82.here hx rfl (pc0 := 221) (pc' := 225) rfl (hb hby at_221) (by decide) (by decide) (XS.istore X82.here hx rfl (hb hby at_225) rfl rfl kk)))) ?_
      exact HJ83 (1 : Int32) (by simp [own_no, own_hs, hcc93, hcc94])
    · refine go_of (B := (T82.setTop (mkF m 204 #[.val (.int aa), .val (.int ba), .val (.int ca), .val (.int da), .val (.int nn), .val (.int ea), .val (.int (3 : Int32)), .val (.int (own_cx aa)), .val (.int (own_cx ba)), .val (.int (own_cx ca)), .val (.int (own_cx da)), .val (.ref b69), .unset, .unset, .unset, .unset] [(.int (32 : Int32)), (.int (own_cx ca))]))) (fun _ kk => XS.icmpNo X82.here hx rfl (hb hby at_191) rfl (feq hcc94).1 (XS.iload X82.here hx rfl (hb hby at_194) rfl (XS.iconst X82.here hx rfl (hb hby at_196) (XS.icmpNo X82.here hx rfl (hb hby at_197) rfl (flt (by decide : ¬ ((3 : Int32) < (3 : Int32)))).1 (XS.iload X82.here hx rfl (hb hby at_200) rfl (XS.bipush X82.here hx rfl (hb hby at_202) kk)))))) ?_
      by_cases hcc95 : (own_cx ca) = (32 : Int32)
      · refine go_of (B := (T82.setTop (mkF m 227 #[.val (.int aa), .val (.int ba), .val (.int ca), .val (.int da), .val (.int nn), .val (.int ea), .val (.int (3 : Int32)), .val (.int (own_cx aa)), .val (.int (own_cx ba)), .val (.int (own_cx ca)), .val (.int (own_cx da)), .val (.ref b69), .val (.int (1 : Int32)), .unset, .unset, .unset] []))) (fun _ kk => XS.icmpYes X82.here hx rfl (pc0 := 204) (pc' := 220) rfl (hb hby at_204) rfl (teq hcc95).1 (by decide) (by decide) (XS.iconst X82.here hx rfl (hb hby at_220) (XS.goto X82.here hx rfl (pc0 := 221) (pc' := 225) rfl (hb hby at_221) (by decide) (by decide) (XS.istore X82.here hx rfl (hb hby at_225) rfl rfl kk)))) ?_
        exact HJ83 (1 : Int32) (by simp [own_no, own_hs, hcc93, hcc94, hcc95])
      · refine go_of (B := (T82.setTop (mkF m 227 #[.val (.int aa), .val (.int ba), .val (.int ca), .val (.int da), .val (.int nn), .val (.int ea), .val (.int (3 : Int32)), .val (.int (own_cx aa)), .val (.int (own_cx ba)), .val (.int (own_cx ca)), .val (.int (own_cx da)), .val (.ref b69), .val (.int (0 : Int32)), .unset, .unset, .unset] []))) (fun _ kk => XS.icmpNo X82.here hx rfl (hb hby at_204) rfl (feq hcc95).1 (XS.iload X82.here hx rfl (hb hby at_207) rfl (XS.iconst X82.here hx rfl (hb hby at_209) (XS.icmpYes X82.here hx rfl (pc0 := 210) (pc' := 224) rfl (hb hby at_210) rfl (tlt (by decide : (3 : Int32) < (4 : Int32))).1 (by decide) (by decide) (XS.iconst X82.here hx rfl (hb hby at_224) (XS.istore X82.here hx rfl (hb hby at_225) rfl rfl kk)))))) ?_
        exact HJ83 (0 : Int32) (by simp [own_no, own_hs, hcc93, hcc94, hcc95])
theorem lw4 {p : Program} {l : Launch} {e : Env} {s : State} {m : MethodId} {args : Array Value} {below : List Frame} {meth : Method} {c : Code} {Z : State} {a0 : Array Value} {h0 : Heap} {n0 : Nat} (aa : Int32) (ba : Int32) (ca : Int32) (da : Int32) (nn : Int32) (ea : Int32) (gC : Int32) {T0 : State} {locs : List Loc}
    (X0 : Stand p l e room_1 s m args below meth c T0 locs 0 0) (hx : p.tables.exec = Jvm.exec) (hZ : Z.Warmed39 s.vm) (hw : TW a0 Z) (hby : c.code = code) (hml : c.maxLocals = 16) (hown : s.vm.findClass "com/example/holdfast/holdfast/ExclusiveNamesAnOwnerPinLaw" = some m.cls) (hret : meth.sig.returnType = (some .boolean)) (hlk : meth.locks = false) (e0 : T0.heap = h0) (N0 : Fr n0 locs) (Z0 : n0 ≤ h0.size) (O : Old Z n0 h0) (SC : Sta Z Z.heap "java/lang/String" "COMPACT_STRINGS" "Z" (.int gC)) (hgC : ¬ gC = (0 : Int32)) (hh0 : s.heap = h0) (hCH : CHv Z own_EL s.vm h0) :
    Go p e below (T0.setTop (mkF m 9 #[.val (.int aa), .val (.int ba), .val (.int ca), .val (.int da), .val (.int nn), .val (.int ea), .val (.int (4 : Int32)), .unset, .unset, .unset, .unset, .unset, .unset, .unset, .unset, .unset] [])) (fun oo' U2' => ∃ vv' LL', oo' = .returned vv' ∧ (Q_rm0 Z aa ba ca da nn ea gC h0 n0) vv' U2'.heap LL' ∧ CHr Z own_EL s.vm s.heap U2'.vm U2'.heap ∧ ReturnedEndW s oo' U2' LL' room_1.cells room_1.slots) := by
  have wd := @own_wd _ _ hw
  have X0 : Stand p l e room_1 (s.setVm s.vm) m args below meth c T0 locs 0 0 := X0
  have hS : s.Since s.vm 0 := (State.WarmedH.refl s).since 0
  have hEL := own_EW hw
  have HC0 := CHr.refl hCH
  refine go_of (B := (T0.setTop (mkF m 10 #[.val (.int aa), .val (.int ba), .val (.int ca), .val (.int da), .val (.int nn), .val (.int ea), .val (.int (4 : Int32)), .unset, .unset, .unset, .unset, .unset, .unset, .unset, .unset, .unset] [(.int aa)]))) (fun _ kk => XS.iloadN X0.here hx rfl (hb hby at_9) rfl kk) ?_
  obtain ⟨_, _, ⟨T96, L96, k96, n96⟩, -, X96, ⟨Lc96, hQ96, l96, y96, z96⟩, st96⟩ := Jvm.LawKit.callS X0 hx (y := MN0) hown (mvT hZ (wd 1 rfl)) (mvT hZ (wd 2 rfl)) (mvT hZ (wd 3 rfl)) (mvT hZ (wd 4 rfl)) (by decide) (backOf (W := 0) (ch l Z a0 hw [] aa h0 n0 (by omega)) hZ (wd 4 rfl) (wd 3 rfl) (by decide) (by decide)) (g := (mkF m 10 #[.val (.int aa), .val (.int ba), .val (.int ca), .val (.int da), .val (.int nn), .val (.int ea), .val (.int (4 : Int32)), .unset, .unset, .unset, .unset, .unset, .unset, .unset, .unset, .unset] [(.int aa)])) rfl (by rw [hml]; rfl) (argsL := [(.int aa)]) (rest := []) (lenOf pd__I_C rfl) rfl (by show 2 * 0 + _ ≤ _; exact Nat.le_of_eq rfl) (hb hby at_10) (fun _ _ => ⟨rfl, e0, (by decide : 0 + 0 ≤ _), (by decide : 0 + 0 ≤ _)⟩)
  dsimp only [Pt.U, Pt.locs, Pt.cells, Pt.slots] at X96 l96 y96 z96 st96 hQ96
  subst l96 y96 z96
  obtain ⟨rfl, N96q, e96⟩ := hQ96
  have N96 := Fr.app N0 N96q
  refine go_of (B := (T96.setTop (mkF m 13 #[.val (.int aa), .val (.int ba), .val (.int ca), .val (.int da), .val (.int nn), .val (.int ea), .val (.int (4 : Int32)), .unset, .unset, .unset, .unset, .unset, .unset, .unset, .unset, .unset] [(.int (own_cx aa))]))) (st96) ?_
  refine go_of (B := (T96.setTop (mkF m 16 #[.val (.int aa), .val (.int ba), .val (.int ca), .val (.int da), .val (.int nn), .val (.int ea), .val (.int (4 : Int32)), .val (.int (own_cx aa)), .unset, .unset, .unset, .unset, .unset, .unset, .unset, .unset] [(.int ba)]))) (fun _ kk => XS.istore X96.here hx rfl (hb hby at_13) rfl rfl (XS.iloadN X96.here hx rfl (hb hby at_15) rfl kk)) ?_
  obtain ⟨_, _, ⟨T97, L97, k97, n97⟩, -, X97, ⟨Lc97, hQ97, l97, y97, z97⟩, st97⟩ := Jvm.LawKit.callS X96 hx (y := MN0) hown (mvT hZ (wd 1 rfl)) (mvT hZ (wd 2 rfl)) (mvT hZ (wd 3 rfl)) (mvT hZ (wd 4 rfl)) (by decide) (backOf (W := 0) (ch l Z a0 hw [] ba h0 n0 (by omega)) hZ (wd 4 rfl) (wd 3 rfl) (by decide) (by decide)) (g := (mkF m 16 #[.val (.int aa), .val (.int ba), .val (.int ca), .val (.int da), .val (.int nn), .val (.int ea), .val (.int (4 : Int32)), .val (.int (own_cx aa)), .unset, .unset, .unset, .unset, .unset, .unset, .unset, .unset] [(.int ba)])) rfl (by rw [hml]; rfl) (argsL := [(.int ba)]) (rest := []) (lenOf pd__I_C rfl) rfl (by show 2 * 0 + _ ≤ _; exact Nat.le_of_eq rfl) (hb hby at_16) (fun _ _ => ⟨rfl, e96, (by decide : 0 + 0 ≤ _), (by decide : 0 + 0 ≤ _)⟩)
  dsimp only [Pt.U, Pt.locs, Pt.cells, Pt.slots] at X97 l97 y97 z97 st97 hQ97
  subst l97 y97 z97
  obtain ⟨rfl, N97q, e97⟩ := hQ97
  have N97 := Fr.app N96 N97q
  refine go_of (B := (T97.setTop (mkF m 19 #[.val (.int aa), .val (.int ba), .val (.int ca), .val (.int da), .val (.int nn), .val (.int ea), .val (.int (4 : Int32)), .val (.int (own_cx aa)), .unset, .unset, .unset, .unset, .unset, .unset, .unset, .unset] [(.int (own_cx ba))]))) (st97) ?_
  refine go_of (B := (T97.setTop (mkF m 22 #[.val (.int aa), .val (.int ba), .val (.int ca), .val (.int da), .val (.int nn), .val (.int ea), .val (.int (4 : Int32)), .val (.int (own_cx aa)), .val (.int (own_cx ba)), .unset, .unset, .unset, .unset, .unset, .unset, .unset] [(.int ca)]))) (fun _ kk => XS.istore X97.here hx rfl (hb hby at_19) rfl rfl (XS.iloadN X97.here hx rfl (hb hby at_21) rfl kk)) ?_
  obtain ⟨_, _, ⟨T98, L98, k98, n98⟩, -, X98, ⟨Lc98, hQ98, l98, y98, z98⟩, st98⟩ := Jvm.LawKit.callS X97 hx (y := MN0) hown (mvT hZ (wd 1 rfl)) (mvT hZ (wd 2 rfl)) (mvT hZ (wd 3 rfl)) (mvT hZ (wd 4 rfl)) (by decide) (backOf (W := 0) (ch l Z a0 hw [] ca h0 n0 (by omega)) hZ (wd 4 rfl) (wd 3 rfl) (by decide) (by decide)) (g := (mkF m 22 #[.val (.int aa), .val (.int ba), .val (.int ca), .val (.int da), .val (.int nn), .val (.int ea), .val (.int (4 : Int32)), .val (.int (own_cx aa)), .val (.int (own_cx ba)), .unset, .unset, .unset, .unset, .unset, .unset, .unset] [(.int ca)])) rfl (by rw [hml]; rfl) (argsL := [(.int ca)]) (rest := []) (lenOf pd__I_C rfl) rfl (by show 2 * 0 + _ ≤ _; exact Nat.le_of_eq rfl) (hb hby at_22) (fun _ _ => ⟨rfl, e97, (by decide : 0 + 0 ≤ _), (by decide : 0 + 0 ≤ _)⟩)
  dsimp only [Pt.U, Pt.locs, Pt.cells, Pt.slots] at X98 l98 y98 z98 st98 hQ98
  subst l98 y98 z98
  obtain ⟨rfl, N98q, e98⟩ := hQ98
  have N98 := Fr.app N97 N98q
  refine go_of (B := (T98.setTop (mkF m 25 #[.val (.int aa), .val (.int ba), .val (.int ca), .val (.int da), .val (.int nn), .val (.int ea), .val (.int (4 : Int32)), .val (.int (own_cx aa)), .val (.int (own_cx ba)), .unset, .unset, .unset, .unset, .unset, .unset, .unset] [(.int (own_cx ca))]))) (st98) ?_
  refine go_of (B := (T98.setTop (mkF m 28 #[.val (.int aa), .val (.int ba), .val (.int ca), .val (.int da), .val (.int nn), .val (.int ea), .val (.int (4 : Int32)), .val (.int (own_cx aa)), .val (.int (own_cx ba)), .val (.int (own_cx ca)), .unset, .unset, .unset, .unset, .unset, .unset] [(.int da)]))) (fun _ kk => XS.istore X98.here hx rfl (hb hby at_25) rfl rfl (XS.iloadN X98.here hx rfl (hb hby at_27) rfl kk)) ?_
  obtain ⟨_, _, ⟨T99, L99, k99, n99⟩, -, X99, ⟨Lc99, hQ99, l99, y99, z99⟩, st99⟩ := Jvm.LawKit.callS X98 hx (y := MN0) hown (mvT hZ (wd 1 rfl)) (mvT hZ (wd 2 rfl)) (mvT hZ (wd 3 rfl)) (mvT hZ (wd 4 rfl)) (by decide) (backOf (W := 0) (ch l Z a0 hw [] da h0 n0 (by omega)) hZ (wd 4 rfl) (wd 3 rfl) (by decide) (by decide)) (g := (mkF m 28 #[.val (.int aa), .val (.int ba), .val (.int ca), .val (.int da), .val (.int nn), .val (.int ea), .val (.int (4 : Int32)), .val (.int (own_cx aa)), .val (.int (own_cx ba)), .val (.int (own_cx ca)), .unset, .unset, .unset, .unset, .unset, .unset] [(.int da)])) rfl (by rw [hml]; rfl) (argsL := [(.int da)]) (rest := []) (lenOf pd__I_C rfl) rfl (by show 2 * 0 + _ ≤ _; exact Nat.le_of_eq rfl) (hb hby at_28) (fun _ _ => ⟨rfl, e98, (by decide : 0 + 0 ≤ _), (by decide : 0 + 0 ≤ _)⟩)
  dsimp only [Pt.U, Pt.locs, Pt.cells, Pt.slots] at X99 l99 y99 z99 st99 hQ99
  subst l99 y99 z99
  obtain ⟨rfl, N99q, e99⟩ := hQ99
  have N99 := Fr.app N98 N99q
  refine go_of (B := (T99.setTop (mkF m 31 #[.val (.int aa), .val (.int ba), .val (.int ca), .val (.int da), .val (.int nn), .val (.int ea), .val (.int (4 : Int32)), .val (.int (own_cx aa)), .val (.int (own_cx ba)), .val (.int (own_cx ca)), .unset, .unset, .unset, .unset, .unset, .unset] [(.int (own_cx da))]))) (st99) ?_
  refine go_of (B := (T99.setTop (mkF m 69 #[.val (.int aa), .val (.int ba), .val (.int ca), .val (.int da), .val (.int nn), .val (.int ea), .val (.int (4 : Int32)), .val (.int (own_cx aa)), .val (.int (own_cx ba)), .val (.int (own_cx ca)), .val (.int (own_cx da)), .unset, .unset, .unset, .unset, .unset] []))) (fun _ kk => XS.istore X99.here hx rfl (hb hby at_31) rfl rfl (XS.iload X99.here hx rfl (hb hby at_33) rfl (XS.ifYes X99.here hx rfl (pc0 := 35) (pc' := 53) rfl (hb hby at_35) rfl ((if0 _ _).trans (feq (by decide : ¬ ((4 : Int32) = (0 : Int32)))).2) (by decide) (by decide) (XS.iload X99.here hx rfl (hb hby at_53) rfl (XS.iconst X99.here hx rfl (hb hby at_55) (XS.icmpYes X99.here hx rfl (pc0 := 56) (pc' := 69) rfl (hb hby at_56) rfl (feq (by decide : ¬ ((4 : Int32) = (1 : Int32)))).2 (by decide) (by decide) kk)))))) ?_
  refine go_of (B := (T99.setTop (mkF m 136 #[.val (.int aa), .val (.int ba), .val (.int ca), .val (.int da), .val (.int nn), .val (.int ea), .val (.int (4 : Int32)), .val (.int (own_cx aa)), .val (.int (own_cx ba)), .val (.int (own_cx ca)), .val (.int (own_cx da)), .unset, .unset, .unset, .unset, .unset] []))) (fun _ kk => XS.iload X99.here hx rfl (hb hby at_69) rfl (XS.iconst X99.here hx rfl (hb hby at_71) (XS.icmpYes X99.here hx rfl (pc0 := 72) (pc' := 100) rfl (hb hby at_72) rfl (feq (by decide : ¬ ((4 : Int32) = (2 : Int32)))).2 (by decide) (by decide) (XS.iload X99.here hx rfl (hb hby at_100) rfl (XS.iconst X99.here hx rfl (hb hby at_102) (XS.icmpYes X99.here hx rfl (pc0 := 103) (pc' := 136) rfl (hb hby at_103) rfl (feq (by decide : ¬ ((4 : Int32) = (3 : Int32)))).2 (by decide) (by decide) kk)))))) ?_
  obtain ⟨T100, h100, X100, e100, E100, A100, D100, -, st100⟩ := newO X99 hx hZ hown (wd 5 rfl) (wd 6 rfl) (wd 7 rfl) e99 (g := (mkF m 136 #[.val (.int aa), .val (.int ba), .val (.int ca), .val (.int da), .val (.int nn), .val (.int ea), .val (.int (4 : Int32)), .val (.int (own_cx aa)), .val (.int (own_cx ba)), .val (.int (own_cx ca)), .val (.int (own_cx da)), .unset, .unset, .unset, .unset, .unset] [])) rfl (hb hby at_136) (by decide) (by decide)
  obtain ⟨b100, g100⟩ : ∃ z, z = h0.size := ⟨_, rfl⟩
  rw [← g100] at A100 D100 st100
  have hi100 := own_nlt A100.lt
  have sz100 := E100.1
  have HC100 := HC0.trans (CHr.ext E100 HC0.1)
  have F100_value : Fld Z h100 b100 "java/lang/String" "value" "[B" .null := D100 (Or.inr (wd 21 rfl)) (ty := (.array .byte)) (by decide)
  have F100_coder : Fld Z h100 b100 "java/lang/String" "coder" "B" (.int (0 : Int32)) := D100 (Or.inr (wd 22 rfl)) (ty := .byte) (by decide)
  refine go_of (B := (T100.setTop (mkF m 139 #[.val (.int aa), .val (.int ba), .val (.int ca), .val (.int da), .val (.int nn), .val (.int ea), .val (.int (4 : Int32)), .val (.int (own_cx aa)), .val (.int (own_cx ba)), .val (.int (own_cx ca)), .val (.int (own_cx da)), .unset, .unset, .unset, .unset, .unset] [(.ref b100)]))) (st100) ?_
  refine go_of (B := (T100.setTop (mkF m 141 #[.val (.int aa), .val (.int ba), .val (.int ca), .val (.int da), .val (.int nn), .val (.int ea), .val (.int (4 : Int32)), .val (.int (own_cx aa)), .val (.int (own_cx ba)), .val (.int (own_cx ca)), .val (.int (own_cx da)), .unset, .unset, .unset, .unset, .unset] [(.int (4 : Int32)), (.ref b100), (.ref b100)]))) (fun _ kk => XS.dup X100.here hx rfl (hb hby at_139) rfl rfl (XS.iconst X100.here hx rfl (hb hby at_140) kk)) ?_
  obtain ⟨T101, h101, k101, X101, e101, E101, A101, st101⟩ := newP X100 hx hZ (wd 8 rfl) e100 (g := (mkF m 141 #[.val (.int aa), .val (.int ba), .val (.int ca), .val (.int da), .val (.int nn), .val (.int ea), .val (.int (4 : Int32)), .val (.int (own_cx aa)), .val (.int (own_cx ba)), .val (.int (own_cx ca)), .val (.int (own_cx da)), .unset, .unset, .unset, .unset, .unset] [(.int (4 : Int32)), (.ref b100), (.ref b100)])) rfl (hb hby at_141) rfl (by decide) (cap := 4) (by decide) (by decide) (by decide) (by decide)
  obtain ⟨b101, g101⟩ : ∃ z, z = h100.size := ⟨_, rfl⟩
  rw [← g101] at A101 st101
  have hi101 := own_nlt A101.lt
  have sz101 := E101.1
  have HC101 := HC100.trans (CHr.ext E101 HC100.1)
  have V101 : Arv Z h101 b101 k101 .char (4 : Int32) [(.int (0 : Int32)), (.int (0 : Int32)), (.int (0 : Int32)), (.int (0 : Int32))] (.int (0 : Int32)) := (Arv.new A101 (by decide)).pad (pad_rep [] (.int (0 : Int32)) 4)
  refine go_of (B := (T101.setTop (mkF m 143 #[.val (.int aa), .val (.int ba), .val (.int ca), .val (.int da), .val (.int nn), .val (.int ea), .val (.int (4 : Int32)), .val (.int (own_cx aa)), .val (.int (own_cx ba)), .val (.int (own_cx ca)), .val (.int (own_cx da)), .unset, .unset, .unset, .unset, .unset] [(.ref b101), (.ref b100), (.ref b100)]))) (st101) ?_
  refine go_of (B := (T101.setTop (mkF m 147 #[.val (.int aa), .val (.int ba), .val (.int ca), .val (.int da), .val (.int nn), .val (.int ea), .val (.int (4 : Int32)), .val (.int (own_cx aa)), .val (.int (own_cx ba)), .val (.int (own_cx ca)), .val (.int (own_cx da)), .unset, .unset, .unset, .unset, .unset] [(.int (own_cx aa)), (.int (0 : Int32)), (.ref b101), (.ref b101), (.ref b100), (.ref b100)]))) (fun _ kk => XS.dup X101.here hx rfl (hb hby at_143) rfl rfl (XS.iconst X101.here hx rfl (hb hby at_144) (XS.iload X101.here hx rfl (hb hby at_145) rfl kk))) ?_
  obtain ⟨cl102, Ar102, q102, Sz102, Nn102, Hh102, G102⟩ := id (V101)
  obtain ⟨T103, h103, X103, e103, W103, st103⟩ := stC X101 hx hZ e101 Ar102 (j := (0 : Int32)) (inb_of Sz102 ⟨by decide, by decide⟩) (g := (mkF m 147 #[.val (.int aa), .val (.int ba), .val (.int ca), .val (.int da), .val (.int nn), .val (.int ea), .val (.int (4 : Int32)), .val (.int (own_cx aa)), .val (.int (own_cx ba)), .val (.int (own_cx ca)), .val (.int (own_cx da)), .unset, .unset, .unset, .unset, .unset] [(.int (own_cx aa)), (.int (0 : Int32)), (.ref b101), (.ref b101), (.ref b100), (.ref b100)])) rfl rfl (hb hby at_147)
  have sz103 := W103.size
  have N103 := Fr.snoc X103 N99 ((by first | omega | exact own_ne (by omega) | exact own_le (by omega) | exact own_lt (by omega)) : n0 ≤ b101)
  have V103 : Arv Z h103 b101 k101 .char (4 : Int32) [(.int (nar .char (own_cx aa))), (.int (0 : Int32)), (.int (0 : Int32)), (.int (0 : Int32))] (.int (0 : Int32)) := Arv.set Ar102 q102 Sz102 Nn102 Hh102 G102 (fits_nar_char _) W103 0 rfl (Nat.le_of_ble_eq_true rfl)
  rw [own_narc (own_cxr aa)] at V103
  have SF103 := (own_safe_arv hZ.alike V101 (by decide) : (Safe Z own_EL _ h101 b101))
  have HC103 := HC101.trans (CHr.wr W103 SF103 HC101.1)
  refine go_of (B := (T103.setTop (mkF m 148 #[.val (.int aa), .val (.int ba), .val (.int ca), .val (.int da), .val (.int nn), .val (.int ea), .val (.int (4 : Int32)), .val (.int (own_cx aa)), .val (.int (own_cx ba)), .val (.int (own_cx ca)), .val (.int (own_cx da)), .unset, .unset, .unset, .unset, .unset] [(.ref b101), (.ref b100), (.ref b100)]))) (st103) ?_
  refine go_of (B := (T103.setTop (mkF m 152 #[.val (.int aa), .val (.int ba), .val (.int ca), .val (.int da), .val (.int nn), .val (.int ea), .val (.int (4 : Int32)), .val (.int (own_cx aa)), .val (.int (own_cx ba)), .val (.int (own_cx ca)), .val (.int (own_cx da)), .unset, .unset, .unset, .unset, .unset] [(.int (own_cx ba)), (.int (1 : Int32)), (.ref b101), (.ref b101), (.ref b100), (.ref b100)]))) (fun _ kk => XS.dup X103.here hx rfl (hb hby at_148) rfl rfl (XS.iconst X103.here hx rfl (hb hby at_149) (XS.iload X103.here hx rfl (hb hby at_150) rfl kk))) ?_
  obtain ⟨cl104, Ar104, q104, Sz104, Nn104, Hh104, G104⟩ := id (V103)
  obtain ⟨T105, h105, X105, e105, W105, st105⟩ := stC X103 hx hZ e103 Ar104 (j := (1 : Int32)) (inb_of Sz104 ⟨by decide, by decide⟩) (g := (mkF m 152 #[.val (.int aa), .val (.int ba), .val (.int ca), .val (.int da), .val (.int nn), .val (.int ea), .val (.int (4 : Int32)), .val (.int (own_cx aa)), .val (.int (own_cx ba)), .val (.int (own_cx ca)), .val (.int (own_cx da)), .unset, .unset, .unset, .unset, .unset] [(.int (own_cx ba)), (.int (1 : Int32)), (.ref b101), (.ref b101), (.ref b100), (.ref b100)])) rfl rfl (hb hby at_152)
  have sz105 := W105.size
  have N105 := Fr.snoc X105 N103 ((by first | omega | exact own_ne (by omega) | exact own_le (by omega) | exact own_lt (by omega)) : n0 ≤ b101)
  have V105 : Arv Z h105 b101 k101 .char (4 : Int32) [(.int (own_cx aa)), (.int (nar .char (own_cx ba))), (.int (0 : Int32)), (.int (0 : Int32))] (.int (0 : Int32)) := Arv.set Ar104 q104 Sz104 Nn104 Hh104 G104 (fits_nar_char _) W105 1 rfl (Nat.le_of_ble_eq_true rfl)
  rw [own_narc (own_cxr ba)] at V105
  have SF105 := (own_safe_arv hZ.alike V103 (by decide) : (Safe Z own_EL _ h103 b101))
  have HC105 := HC103.trans (CHr.wr W105 SF105 HC103.1)
  refine go_of (B := (T105.setTop (mkF m 153 #[.val (.int aa), .val (.int ba), .val (.int ca), .val (.int da), .val (.int nn), .val (.int ea), .val (.int (4 : Int32)), .val (.int (own_cx aa)), .val (.int (own_cx ba)), .val (.int (own_cx ca)), .val (.int (own_cx da)), .unset, .unset, .unset, .unset, .unset] [(.ref b101), (.ref b100), (.ref b100)]))) (st105) ?_
  refine go_of (B := (T105.setTop (mkF m 157 #[.val (.int aa), .val (.int ba), .val (.int ca), .val (.int da), .val (.int nn), .val (.int ea), .val (.int (4 : Int32)), .val (.int (own_cx aa)), .val (.int (own_cx ba)), .val (.int (own_cx ca)), .val (.int (own_cx da)), .unset, .unset, .unset, .unset, .unset] [(.int (own_cx ca)), (.int (2 : Int32)), (.ref b101), (.ref b101), (.ref b100), (.ref b100)]))) (fun _ kk => XS.dup X105.here hx rfl (hb hby at_153) rfl rfl (XS.iconst X105.here hx rfl (hb hby at_154) (XS.iload X105.here hx rfl (hb hby at_155) rfl kk))) ?_
  obtain ⟨cl106, Ar106, q106, Sz106, Nn106, Hh106, G106⟩ := id (V105)
  obtain ⟨T107, h107, X107, e107, W107, st107⟩ := stC X105 hx hZ e105 Ar106 (j := (2 : Int32)) (inb_of Sz106 ⟨by decide, by decide⟩) (g := (mkF m 157 #[.val (.int aa), .val (.int ba), .val (.int ca), .val (.int da), .val (.int nn), .val (.int ea), .val (.int (4 : Int32)), .val (.int (own_cx aa)), .val (.int (own_cx ba)), .val (.int (own_cx ca)), .val (.int (own_cx da)), .unset, .unset, .unset, .unset, .unset] [(.int (own_cx ca)), (.int (2 : Int32)), (.ref b101), (.ref b101), (.ref b100), (.ref b100)])) rfl rfl (hb hby at_157)
  have sz107 := W107.size
  have N107 := Fr.snoc X107 N105 ((by first | omega | exact own_ne (by omega) | exact own_le (by omega) | exact own_lt (by omega)) : n0 ≤ b101)
  have V107 : Arv Z h107 b101 k101 .char (4 : Int32) [(.int (own_cx aa)), (.int (own_cx ba)), (.int (nar .char (own_cx ca))), (.int (0 : Int32))] (.int (0 : Int32)) := Arv.set Ar106 q106 Sz106 Nn106 Hh106 G106 (fits_nar_char _) W107 2 rfl (Nat.le_of_ble_eq_true rfl)
  rw [own_narc (own_cxr ca)] at V107
  have SF107 := (own_safe_arv hZ.alike V105 (by decide) : (Safe Z own_EL _ h105 b101))
  have HC107 := HC105.trans (CHr.wr W107 SF107 HC105.1)
  refine go_of (B := (T107.setTop (mkF m 158 #[.val (.int aa), .val (.int ba), .val (.int ca), .val (.int da), .val (.int nn), .val (.int ea), .val (.int (4 : Int32)), .val (.int (own_cx aa)), .val (.int (own_cx ba)), .val (.int (own_cx ca)), .val (.int (own_cx da)), .unset, .unset, .unset, .unset, .unset] [(.ref b101), (.ref b100), (.ref b100)]))) (st107) ?_
  refine go_of (B := (T107.setTop (mkF m 162 #[.val (.int aa), .val (.int ba), .val (.int ca), .val (.int da), .val (.int nn), .val (.int ea), .val (.int (4 : Int32)), .val (.int (own_cx aa)), .val (.int (own_cx ba)), .val (.int (own_cx ca)), .val (.int (own_cx da)), .unset, .unset, .unset, .unset, .unset] [(.int (own_cx da)), (.int (3 : Int32)), (.ref b101), (.ref b101), (.ref b100), (.ref b100)]))) (fun _ kk => XS.dup X107.here hx rfl (hb hby at_158) rfl rfl (XS.iconst X107.here hx rfl (hb hby at_159) (XS.iload X107.here hx rfl (hb hby at_160) rfl kk))) ?_
  obtain ⟨cl108, Ar108, q108, Sz108, Nn108, Hh108, G108⟩ := id (V107)
  obtain ⟨T109, h109, X109, e109, W109, st109⟩ := stC X107 hx hZ e107 Ar108 (j := (3 : Int32)) (inb_of Sz108 ⟨by decide, by decide⟩) (g := (mkF m 162 #[.val (.int aa), .val (.int ba), .val (.int ca), .val (.int da), .val (.int nn), .val (.int ea), .val (.int (4 : Int32)), .val (.int (own_cx aa)), .val (.int (own_cx ba)), .val (.int (own_cx ca)), .val (.int (own_cx da)), .unset, .unset, .unset, .unset, .unset] [(.int (own_cx da)), (.int (3 : Int32)), (.ref b101), (.ref b101), (.ref b100), (.ref b100)])) rfl rfl (hb hby at_162)
  have sz109 := W109.size
  have N109 := Fr.snoc X109 N107 ((by first | omega | exact own_ne (by omega) | exact own_le (by omega) | exact own_lt (by omega)) : n0 ≤ b101)
  have V109 : Arv Z h109 b101 k101 .char (4 : Int32) [(.int (own_cx aa)), (.int (own_cx ba)), (.int (own_cx ca)), (.int (nar .char (own_cx da)))] (.int (0 : Int32)) := Arv.set Ar108 q108 Sz108 Nn108 Hh108 G108 (fits_nar_char _) W109 3 rfl (Nat.le_of_ble_eq_true rfl)
  rw [own_narc (own_cxr da)] at V109
  have SF109 := (own_safe_arv hZ.alike V107 (by decide) : (Safe Z own_EL _ h107 b101))
  have HC109 := HC107.trans (CHr.wr W109 SF109 HC107.1)
  refine go_of (B := (T109.setTop (mkF m 163 #[.val (.int aa), .val (.int ba), .val (.int ca), .val (.int da), .val (.int nn), .val (.int ea), .val (.int (4 : Int32)), .val (.int (own_cx aa)), .val (.int (own_cx ba)), .val (.int (own_cx ca)), .val (.int (own_cx da)), .unset, .unset, .unset, .unset, .unset] [(.ref b101), (.ref b100), (.ref b100)]))) (st109) ?_
  have cf_110 := (((((A100.ext E101).wr W103).wr W105).wr W107).wr W109)
  have cf_111 := (((((F100_value.ext E101).other W103 (Or.inl (by first | omega | exact own_ne (by omega) | exact own_le (by omega) | exact own_lt (by omega)))).other W105 (Or.inl (by first | omega | exact own_ne (by omega) | exact own_le (by omega) | exact own_lt (by omega)))).other W107 (Or.inl (by first | omega | exact own_ne (by omega) | exact own_le (by omega) | exact own_lt (by omega)))).other W109 (Or.inl (by first | omega | exact own_ne (by omega) | exact own_le (by omega) | exact own_lt (by omega))))
  have sf_112 := (own_safe_null hZ.alike cf_110 cf_111 : (Safe Z own_EL _ h109 b100))
  have cf_113 := ((((((O.ext E100).ext E101).wr W103 (by first | omega | exact own_ne (by omega) | exact own_le (by omega) | exact own_lt (by omega))).wr W105 (by first | omega | exact own_ne (by omega) | exact own_le (by omega) | exact own_lt (by omega))).wr W107 (by first | omega | exact own_ne (by omega) | exact own_le (by omega) | exact own_lt (by omega))).wr W109 (by first | omega | exact own_ne (by omega) | exact own_le (by omega) | exact own_lt (by omega)))
  have cf_114 := (((((F100_coder.ext E101).other W103 (Or.inl (by first | omega | exact own_ne (by omega) | exact own_le (by omega) | exact own_lt (by omega)))).other W105 (Or.inl (by first | omega | exact own_ne (by omega) | exact own_le (by omega) | exact own_lt (by omega)))).other W107 (Or.inl (by first | omega | exact own_ne (by omega) | exact own_le (by omega) | exact own_lt (by omega)))).other W109 (Or.inl (by first | omega | exact own_ne (by omega) | exact own_le (by omega) | exact own_lt (by omega))))
  obtain ⟨_, _, ⟨T115, L115, k115, n115⟩, -, X115, ⟨Lc115, hQ115, l115, y115, z115⟩, st115⟩ := X109.specialBack hx (y := MN12) rfl hown (mvT hZ (wd 9 rfl)) (mvT hZ (wd 10 rfl)) (mvT hZ (wd 11 rfl)) (by decide) (backOf (W := 1) (str_i1_4 l Z a0 hw [] b100 b101 (own_cx aa) (own_cx ba) (own_cx ca) (own_cx da) k101 gC _ _ h109 n0 (by omega) cf_113 SC hgC cf_110 cf_111 cf_114 (by first | omega | exact own_ne (by omega) | exact own_le (by omega) | exact own_lt (by omega)) V109 (own_cxr aa) (own_cxr ba) (own_cxr ca) (own_cxr da)) hZ (wd 11 rfl) (wd 7 rfl) (by decide) (by decide)) (g := (mkF m 163 #[.val (.int aa), .val (.int ba), .val (.int ca), .val (.int da), .val (.int nn), .val (.int ea), .val (.int (4 : Int32)), .val (.int (own_cx aa)), .val (.int (own_cx ba)), .val (.int (own_cx ca)), .val (.int (own_cx da)), .unset, .unset, .unset, .unset, .unset] [(.ref b101), (.ref b100), (.ref b100)])) rfl (by rw [hml]; rfl) (Steps.refl _) (a := b100) (argsL := [(.ref b101)]) (rest := [(.ref b100)]) (lenOf pd___C_V rfl) rfl (by show 2 * 0 + _ ≤ _; exact Nat.le_of_eq rfl) (hb hby at_163) (fun _ _ => ⟨rfl, e109, (by decide : 2 + 1 ≤ _), (by decide : 8 + 4 ≤ _)⟩)
  dsimp only [Pt.U, Pt.locs, Pt.cells, Pt.slots] at X115 l115 y115 z115 st115 hQ115
  subst l115 y115 z115
  obtain ⟨rfl, N115q, K115, S115⟩ := hQ115
  have N115 := Fr.app N109 N115q
  have sz115 := K115.1
  have SK115 : ∀ x ∈ [b100], Safe Z own_EL _ h109 x := (allS sf_112 all0)
  have HC115 := HC109.trans (CHr.keep K115 SK115 HC109.1)
  refine go_tr (B := (T115.setTop (mkF m 166 #[.val (.int aa), .val (.int ba), .val (.int ca), .val (.int da), .val (.int nn), .val (.int ea), .val (.int (4 : Int32)), .val (.int (own_cx aa)), .val (.int (own_cx ba)), .val (.int (own_cx ca)), .val (.int (own_cx da)), .unset, .unset, .unset, .unset, .unset] [(.ref b100)]))) (st115) ?_
  refine go_of (B := (T115.setTop (mkF m 168 #[.val (.int aa), .val (.int ba), .val (.int ca), .val (.int da), .val (.int nn), .val (.int ea), .val (.int (4 : Int32)), .val (.int (own_cx aa)), .val (.int (own_cx ba)), .val (.int (own_cx ca)), .val (.int (own_cx da)), .val (.ref b100), .unset, .unset, .unset, .unset] []))) (fun _ kk => XS.astore X115.here hx rfl (hb hby at_166) rfl rfl rfl kk) ?_
  have HJ116 : ∀ (xe : Int32), xe = own_no [(own_cx aa), (own_cx ba), (own_cx ca), (own_cx da)] → Go p e below (T115.setTop (mkF m 227 #[.val (.int aa), .val (.int ba), .val (.int ca), .val (.int da), .val (.int nn), .val (.int ea), .val (.int (4 : Int32)), .val (.int (own_cx aa)), .val (.int (own_cx ba)), .val (.int (own_cx ca)), .val (.int (own_cx da)), .val (.ref b100), .val (.int xe), .unset, .unset, .unset] [])) (fun oo' U2' => ∃ vv' LL', oo' = .returned vv' ∧ (Q_rm0 Z aa ba ca da nn ea gC h0 n0) vv' U2'.heap LL' ∧ CHr Z own_EL s.vm s.heap U2'.vm U2'.heap ∧ ReturnedEndW s oo' U2' LL' room_1.cells room_1.slots) := by
    intro xe hjHJ116
    refine go_of (B := (T115.setTop (mkF m 229 #[.val (.int aa), .val (.int ba), .val (.int ca), .val (.int da), .val (.int nn), .val (.int ea), .val (.int (4 : Int32)), .val (.int (own_cx aa)), .val (.int (own_cx ba)), .val (.int (own_cx ca)), .val (.int (own_cx da)), .val (.ref b100), .val (.int xe), .unset, .unset, .unset] [(.ref b100)]))) (fun _ kk => XS.aload X115.here hx rfl (hb hby at_227) rfl rfl kk) ?_
    have cf_117 := (cf_113.keep K115 (allS (by first | omega | exact own_ne (by omega) | exact own_le (by omega) | exact own_lt (by omega)) all0))
    obtain ⟨_, _, ⟨T118, L118, k118, n118⟩, -, X118, ⟨Lc118, hQ118, l118, y118, z118⟩, st118⟩ := Jvm.LawKit.callS X115 hx (y := MN2) hown (mvT hZ (wd 27 rfl)) (mvT hZ (wd 28 rfl)) (mvT hZ (wd 29 rfl)) (mvT hZ (wd 30 rfl)) (by decide) (backOf (W := 0) (no_4 l Z a0 hw [] b100 (own_cx aa) (own_cx ba) (own_cx ca) (own_cx da) gC T115.heap n0 (by omega) cf_117 SC hgC S115) hZ (wd 30 rfl) (wd 29 rfl) (by decide) (by decide)) (g := (mkF m 229 #[.val (.int aa), .val (.int ba), .val (.int ca), .val (.int da), .val (.int nn), .val (.int ea), .val (.int (4 : Int32)), .val (.int (own_cx aa)), .val (.int (own_cx ba)), .val (.int (own_cx ca)), .val (.int (own_cx da)), .val (.ref b100), .val (.int xe), .unset, .unset, .unset] [(.ref b100)])) rfl (by rw [hml]; rfl) (argsL := [(.ref b100)]) (rest := []) (lenOf pd__Ljava_lang_String__Z rfl) rfl (by show 2 * 0 + _ ≤ _; exact Nat.le_of_eq rfl) (hb hby at_229) (fun _ _ => ⟨rfl, rfl, (by decide : 3 + 0 ≤ _), (by decide : 12 + 0 ≤ _)⟩)
    dsimp only [Pt.U, Pt.locs, Pt.cells, Pt.slots] at X118 l118 y118 z118 st118 hQ118
    subst l118 y118 z118
    obtain ⟨rfl, N118q, e118⟩ := hQ118
    have N118 := Fr.app N115 N118q
    refine go_of (B := (T118.setTop (mkF m 232 #[.val (.int aa), .val (.int ba), .val (.int ca), .val (.int da), .val (.int nn), .val (.int ea), .val (.int (4 : Int32)), .val (.int (own_cx aa)), .val (.int (own_cx ba)), .val (.int (own_cx ca)), .val (.int (own_cx da)), .val (.ref b100), .val (.int xe), .unset, .unset, .unset] [(.int (own_no [(own_cx aa), (own_cx ba), (own_cx ca), (own_cx da)]))]))) (st118) ?_
    refine go_of (B := (T118.setTop (mkF m 246 #[.val (.int aa), .val (.int ba), .val (.int ca), .val (.int da), .val (.int nn), .val (.int ea), .val (.int (4 : Int32)), .val (.int (own_cx aa)), .val (.int (own_cx ba)), .val (.int (own_cx ca)), .val (.int (own_cx da)), .val (.ref b100), .val (.int xe), .val (.int (1 : Int32)), .unset, .unset] [(.int ea)]))) (fun _ kk => XS.iload X118.here hx rfl (hb hby at_232) rfl (XS.icmpNo X118.here hx rfl (hb hby at_234) rfl (teq hjHJ116.symm).2 (XS.iconst X118.here hx rfl (hb hby at_237) (XS.goto X118.here hx rfl (pc0 := 238) (pc' := 242) rfl (hb hby at_238) (by decide) (by decide) (XS.istore X118.here hx rfl (hb hby at_242) rfl rfl (XS.iload X118.here hx rfl (hb hby at_244) rfl kk)))))) ?_
    obtain ⟨_, _, ⟨T119, L119, k119, n119⟩, -, X119, ⟨Lc119, hQ119, l119, y119, z119⟩, st119⟩ := Jvm.LawKit.callS X118 hx (y := MN0) hown (mvT hZ (wd 1 rfl)) (mvT hZ (wd 2 rfl)) (mvT hZ (wd 3 rfl)) (mvT hZ (wd 4 rfl)) (by decide) (backOf (W := 0) (ch l Z a0 hw [] ea T115.heap n0 (by omega)) hZ (wd 4 rfl) (wd 3 rfl) (by decide) (by decide)) (g := (mkF m 246 #[.val (.int aa), .val (.int ba), .val (.int ca), .val (.int da), .val (.int nn), .val (.int ea), .val (.int (4 : Int32)), .val (.int (own_cx aa)), .val (.int (own_cx ba)), .val (.int (own_cx ca)), .val (.int (own_cx da)), .val (.ref b100), .val (.int xe), .val (.int (1 : Int32)), .unset, .unset] [(.int ea)])) rfl (by rw [hml]; rfl) (argsL := [(.int ea)]) (rest := []) (lenOf pd__I_C rfl) rfl (by show 2 * 0 + _ ≤ _; exact Nat.le_of_eq rfl) (hb hby at_246) (fun _ _ => ⟨rfl, e118, (by decide : 3 + 0 ≤ _), (by decide : 12 + 0 ≤ _)⟩)
    dsimp only [Pt.U, Pt.locs, Pt.cells, Pt.slots] at X119 l119 y119 z119 st119 hQ119
    subst l119 y119 z119
    obtain ⟨rfl, N119q, e119⟩ := hQ119
    have N119 := Fr.app N118 N119q
    refine go_of (B := (T119.setTop (mkF m 249 #[.val (.int aa), .val (.int ba), .val (.int ca), .val (.int da), .val (.int nn), .val (.int ea), .val (.int (4 : Int32)), .val (.int (own_cx aa)), .val (.int (own_cx ba)), .val (.int (own_cx ca)), .val (.int (own_cx da)), .val (.ref b100), .val (.int xe), .val (.int (1 : Int32)), .unset, .unset] [(.int (own_cx ea))]))) (st119) ?_
    obtain ⟨_, _, ⟨T120, L120, k120, n120⟩, -, X120, ⟨Lc120, hQ120, l120, y120, z120⟩, st120⟩ := Jvm.LawKit.callS X119 hx (y := MN20) hown (mvT hZ (wd 71 rfl)) (mvT hZ (wd 72 rfl)) (mvT hZ (wd 7 rfl)) (mvT hZ (wd 73 rfl)) (by decide) (backOf (W := 0) (v_vof l Z a0 hw [] (own_cx ea) gC T115.heap n0 (by omega) cf_117 SC hgC (own_cxr ea)) hZ (wd 73 rfl) (wd 7 rfl) (by decide) (by decide)) (g := (mkF m 249 #[.val (.int aa), .val (.int ba), .val (.int ca), .val (.int da), .val (.int nn), .val (.int ea), .val (.int (4 : Int32)), .val (.int (own_cx aa)), .val (.int (own_cx ba)), .val (.int (own_cx ca)), .val (.int (own_cx da)), .val (.ref b100), .val (.int xe), .val (.int (1 : Int32)), .unset, .unset] [(.int (own_cx ea))])) rfl (by rw [hml]; rfl) (argsL := [(.int (own_cx ea))]) (rest := []) (lenOf pd__C_Ljava_lang_String_ rfl) rfl (by show 2 * 0 + _ ≤ _; exact Nat.le_of_eq rfl) (hb hby at_249) (fun _ _ => ⟨rfl, e119, (by decide : 3 + 2 ≤ _), (by decide : 12 + 5 ≤ _)⟩)
    dsimp only [Pt.U, Pt.locs, Pt.cells, Pt.slots] at X120 l120 y120 z120 st120 hQ120
    subst l120 y120 z120
    obtain ⟨b120, rfl, N120q, lo120, K120, S120⟩ := hQ120
    have lo120 := own_nle lo120
    have N120 := Fr.app N119 N120q
    have hi120 := own_nlt (S120.exa.lt)
    have sz120 := K120.1
    have SK120 : ∀ x ∈ ([] : List Addr), Safe Z own_EL s.vm T115.heap x := all0
    have HC120 := HC115.trans (CHr.keep K120 SK120 HC115.1)
    refine go_of (B := (T120.setTop (mkF m 252 #[.val (.int aa), .val (.int ba), .val (.int ca), .val (.int da), .val (.int nn), .val (.int ea), .val (.int (4 : Int32)), .val (.int (own_cx aa)), .val (.int (own_cx ba)), .val (.int (own_cx ca)), .val (.int (own_cx da)), .val (.ref b100), .val (.int xe), .val (.int (1 : Int32)), .unset, .unset] [(.ref b120)]))) (st120) ?_
    refine go_of (B := (T120.setTop (mkF m 258 #[.val (.int aa), .val (.int ba), .val (.int ca), .val (.int da), .val (.int nn), .val (.int ea), .val (.int (4 : Int32)), .val (.int (own_cx aa)), .val (.int (own_cx ba)), .val (.int (own_cx ca)), .val (.int (own_cx da)), .val (.ref b100), .val (.int xe), .val (.int (1 : Int32)), .val (.ref b120), .unset] [(.ref b120), (.ref b100)]))) (fun _ kk => XS.astore X120.here hx rfl (hb hby at_252) rfl rfl rfl (XS.aload X120.here hx rfl (hb hby at_254) rfl rfl (XS.aload X120.here hx rfl (hb hby at_256) rfl rfl kk))) ?_
    have cf_121 := (cf_117.keep K120 all0)
    have cf_122 := S115.ext (own_kx ((Keep.refl T115.heap []).trans K120 all0))
    obtain ⟨_, _, ⟨T123, L123, k123, n123⟩, -, X123', hS123', gr123, ⟨Lc123, hQ123, l123, y123, z123, HR123⟩, st123⟩ := callSS X120 hx (y := MN1) hown (mvT hZ (wd 84 rfl)) (mvT hZ (wd 85 rfl)) (mvT hZ (wd 29 rfl)) (mvT hZ (wd 86 rfl)) (by decide) (backOfSH (W := 0) (emN l Z a0 hw [] b100 b120 (4 : Int32) (own_cx ea) gC T120.heap n0 (by omega) cf_121 SC hgC (StrN.of cf_122) (by unfold N5; decide) S120) hZ (wd 86 rfl) (wd 29 rfl) (by decide) (by decide) hEL HC120.1) (g := (mkF m 258 #[.val (.int aa), .val (.int ba), .val (.int ca), .val (.int da), .val (.int nn), .val (.int ea), .val (.int (4 : Int32)), .val (.int (own_cx aa)), .val (.int (own_cx ba)), .val (.int (own_cx ca)), .val (.int (own_cx da)), .val (.ref b100), .val (.int xe), .val (.int (1 : Int32)), .val (.ref b120), .unset] [(.ref b120), (.ref b100)])) rfl (by rw [hml]; rfl) (argsL := [(.ref b100), (.ref b120)]) (rest := []) (lenOf pd__Ljava_lang_String_Ljava_lang_String__Ljava_lang_String_ rfl) rfl (by show 2 * 0 + _ ≤ _; exact Nat.le_of_eq rfl) (hb hby at_258) (fun _ _ => ⟨rfl, rfl, (by decide : 5 + 6 ≤ _), (by decide : 17 + 38 ≤ _)⟩)
    dsimp only [Pt.U, Pt.locs, Pt.cells, Pt.slots] at X123' hS123' gr123 l123 y123 z123 st123 hQ123 HR123
    subst l123 y123 z123
    have X123 : Stand _ _ _ _ (s.setVm T123.vm) _ _ _ _ _ T123 _ _ _ := X123'
    have hS : s.Since T123.vm T123.heap.size := foldS hS (by first | omega | exact own_ne (by omega) | exact own_le (by omega) | exact own_lt (by omega)) hS123' gr123
    have hZ : Z.Warmed39 (s.setVm T123.vm).vm := State.Warmed39.trans (t := s.setVm s.vm) hZ hS123'.1
    have hown : (s.setVm T123.vm).vm.findClass "com/example/holdfast/holdfast/ExclusiveNamesAnOwnerPinLaw" = some m.cls := by rw [show (s.setVm T123.vm).vm = T123.vm from rfl, hS123'.1.alike.findClass]; exact hown
    obtain ⟨b123, rfl, N123q, lo123, K123, S123⟩ := hQ123
    have lo123 := own_nle lo123
    have N123 := Fr.app N120 N123q
    have hi123 := own_nlt (S123.exa.lt)
    have sz123 := K123.1
    have HC123 := HC120.trans HR123
    refine go_tr (B := (T123.setTop (mkF m 261 #[.val (.int aa), .val (.int ba), .val (.int ca), .val (.int da), .val (.int nn), .val (.int ea), .val (.int (4 : Int32)), .val (.int (own_cx aa)), .val (.int (own_cx ba)), .val (.int (own_cx ca)), .val (.int (own_cx da)), .val (.ref b100), .val (.int xe), .val (.int (1 : Int32)), .val (.ref b120), .unset] [(.ref b123)]))) (st123) ?_
    have cf_124 := (cf_121.keep K123 all0)
    obtain ⟨_, _, ⟨T125, L125, k125, n125⟩, -, X125, ⟨Lc125, hQ125, l125, y125, z125⟩, st125⟩ := Jvm.LawKit.callS X123 hx (y := MN2) hown (mvT hZ (wd 27 rfl)) (mvT hZ (wd 28 rfl)) (mvT hZ (wd 29 rfl)) (mvT hZ (wd 30 rfl)) (by decide) (backOf (W := 0) (noH l Z a0 hw [] b123 ((2 : Int32) + (4 : Int32)) (own_cx ea) gC T123.heap n0 (by omega) cf_124 SC hgC S123 (N5.m (by unfold N5; decide))) hZ (wd 30 rfl) (wd 29 rfl) (by decide) (by decide)) (g := (mkF m 261 #[.val (.int aa), .val (.int ba), .val (.int ca), .val (.int da), .val (.int nn), .val (.int ea), .val (.int (4 : Int32)), .val (.int (own_cx aa)), .val (.int (own_cx ba)), .val (.int (own_cx ca)), .val (.int (own_cx da)), .val (.ref b100), .val (.int xe), .val (.int (1 : Int32)), .val (.ref b120), .unset] [(.ref b123)])) rfl (by rw [hml]; rfl) (argsL := [(.ref b123)]) (rest := []) (lenOf pd__Ljava_lang_String__Z rfl) rfl (by show 2 * 0 + _ ≤ _; exact Nat.le_of_eq rfl) (hb hby at_261) (fun _ _ => ⟨rfl, rfl, (by decide : 11 + 0 ≤ _), (by decide : 55 + 0 ≤ _)⟩)
    dsimp only [Pt.U, Pt.locs, Pt.cells, Pt.slots] at X125 l125 y125 z125 st125 hQ125
    subst l125 y125 z125
    obtain ⟨rfl, N125q, e125⟩ := hQ125
    have N125 := Fr.app N123 N125q
    refine go_of (B := (T125.setTop (mkF m 264 #[.val (.int aa), .val (.int ba), .val (.int ca), .val (.int da), .val (.int nn), .val (.int ea), .val (.int (4 : Int32)), .val (.int (own_cx aa)), .val (.int (own_cx ba)), .val (.int (own_cx ca)), .val (.int (own_cx da)), .val (.ref b100), .val (.int xe), .val (.int (1 : Int32)), .val (.ref b120), .unset] [(.int (1 : Int32))]))) (st125) ?_
    refine go_of (B := (T125.setTop (mkF m 277 #[.val (.int aa), .val (.int ba), .val (.int ca), .val (.int da), .val (.int nn), .val (.int ea), .val (.int (4 : Int32)), .val (.int (own_cx aa)), .val (.int (own_cx ba)), .val (.int (own_cx ca)), .val (.int (own_cx da)), .val (.ref b100), .val (.int xe), .val (.int (1 : Int32)), .val (.ref b120), .val (.int (1 : Int32))] [(.int (1 : Int32))]))) (fun _ kk => XS.istore X125.here hx rfl (hb hby at_264) rfl rfl (XS.iload X125.here hx rfl (hb hby at_266) rfl (XS.ifNo X125.here hx rfl (hb hby at_268) rfl ((if0 _ _).trans (feq (by decide : ¬ ((1 : Int32) = (0 : Int32)))).1) (XS.iload X125.here hx rfl (hb hby at_271) rfl (XS.ifNo X125.here hx rfl (hb hby at_273) rfl ((if0 _ _).trans (feq (by decide : ¬ ((1 : Int32) = (0 : Int32)))).1) (XS.iconst X125.here hx rfl (hb hby at_276) kk)))))) ?_
    refine go_of (B := (T125.setTop (mkF m 281 #[.val (.int aa), .val (.int ba), .val (.int ca), .val (.int da), .val (.int nn), .val (.int ea), .val (.int (4 : Int32)), .val (.int (own_cx aa)), .val (.int (own_cx ba)), .val (.int (own_cx ca)), .val (.int (own_cx da)), .val (.ref b100), .val (.int xe), .val (.int (1 : Int32)), .val (.ref b120), .val (.int (1 : Int32))] [(.int (1 : Int32))]))) (fun _ kk => XS.goto X125.here hx rfl (pc0 := 277) (pc' := 281) rfl (hb hby at_277) (by decide) (by decide) kk) ?_
    refine go_endH X125 hZ hEL HC123 hh0 e125 hS (by rw [e125]; omega) (v := some (.int (nar .boolean (1 : Int32)))) (fun h => by rw [hret] at h; cases h) hlk (by decide) (by decide) (Q := (Q_rm0 Z aa ba ca da nn ea gC h0 n0)) ?_ (fun fs hr => retN X125 hx (t := .boolean) hret (by simp) (hb hby at_281) hr)
    unfold Q_rm0
    try rw [e125]
    exact ⟨rfl, N125⟩
  refine go_of (B := (T115.setTop (mkF m 178 #[.val (.int aa), .val (.int ba), .val (.int ca), .val (.int da), .val (.int nn), .val (.int ea), .val (.int (4 : Int32)), .val (.int (own_cx aa)), .val (.int (own_cx ba)), .val (.int (own_cx ca)), .val (.int (own_cx da)), .val (.ref b100), .unset, .unset, .unset, .unset] [(.int (32 : Int32)), (.int (own_cx aa))]))) (fun _ kk => XS.iload X115.here hx rfl (hb hby at_168) rfl (XS.iconst X115.here hx rfl (hb hby at_170) (XS.icmpNo X115.here hx rfl (hb hby at_171) rfl (flt (by decide : ¬ ((4 : Int32) < (1 : Int32)))).1 (XS.iload X115.here hx rfl (hb hby at_174) rfl (XS.bipush X115.here hx rfl (hb hby at_176) kk))))) ?_
  by_cases hcc126 : (own_cx aa) = (32 : Int32)
  · refine go_of (B := (T115.setTop (mkF m 227 #[.val (.int aa), .val (.int ba), .val (.int ca), .val (.int da), .val (.int nn), .val (.int ea), .val (.int (4 : Int32)), .val (.int (own_cx aa)), .val (.int (own_cx ba)), .val (.int (own_cx ca)), .val (.int (own_cx da)), .val (.ref b100), .val (.int (1 : Int32)), .unset, .unset, .unset] []))) (fun _ kk => XS.icmpYes X115.here hx rfl (pc0 := 178) (pc' := 220) rfl (hb hby at_178) rfl (teq hcc126).1 (by decide) (by decide) (XS.iconst X115.here hx rfl (hb hby at_220) (XS.goto X115.here hx rfl (pc0 := 221) (pc' := 225) rfl (hb hby at_221) (by decide) (by decide) (XS.istore X115.here hx rfl (hb hby at_225) rfl rfl kk)))) ?_
    exact HJ116 (1 : Int32) (by simp [own_no, own_hs, hcc126])
  · refine go_of (B := (T115.setTop (mkF m 191 #[.val (.int aa), .val (.int ba), .val (.int ca), .val (.int da), .val (.int nn), .val (.int ea), .val (.int (4 : Int32)), .val (.int (own_cx aa)), .val (.int (own_cx ba)), .val (.int (own_cx ca)), .val (.int (own_cx da)), .val (.ref b100), .unset, .unset, .unset, .unset] [(.int (32 : Int32)), (.int (own_cx ba))]))) (fun _ kk => XS.icmpNo X115.here hx rfl (hb hby at_178) rfl (feq hcc126).1 (XS.iload X115.here hx rfl (hb hby at_181) rfl (XS.iconst X115.here hx rfl (hb hby at_183) (XS.icmpNo X115.here hx rfl (hb hby at_184) rfl (flt (by decide : ¬ ((4 : Int32) < (2 : Int32)))).1 (XS.iload X115.here hx rfl (hb hby at_187) rfl (XS.bipush X115.here hx rfl (hb hby at_189) kk)))))) ?_
    by_cases hcc127 : (own_cx ba) = (32 : Int32)
    · refine go_of (B := (T115.setTop (mkF m 227 #[.val (.int aa), .val (.int ba), .val (.int ca), .val (.int da), .val (.int nn), .val (.int ea), .val (.int (4 : Int32)), .val (.int (own_cx aa)), .val (.int (own_cx ba)), .val (.int (own_cx ca)), .val (.int (own_cx da)), .val (.ref b100), .val (.int (1 : Int32)), .unset, .unset, .unset] []))) (fun _ kk => XS.icmpYes X115.here hx rfl (pc0 := 191) (pc' := 220) rfl (hb hby at_191) rfl (teq hcc127).1 (by decide) (by decide) (XS.iconst X115.here hx rfl (hb hby at_220) (XS.goto X115.here hx rfl (pc0 := 221) (pc' := 225) rfl (hb hby at_221) (by decide) (by decide) (XS.istore X115.here hx rfl (hb hby at_225) rfl rfl kk)))) ?_
      exact HJ116 (1 : Int32) (by simp [own_no, own_hs, hcc126, hcc127])
    · refine go_of (B := (T115.setTop (mkF m 204 #[.val (.int aa), .val (.int ba), .val (.int ca), .val (.int da), .val (.int nn), .val (.int ea), .val (.int (4 : Int32)), .val (.int (own_cx aa)), .val (.int (own_cx ba)), .val (.int (own_cx ca)), .val (.int (own_cx da)), .val (.ref b100), .unset, .unset, .unset, .unset] [(.int (32 : Int32)), (.int (own_cx ca))]))) (fun _ kk => XS.icmpNo X115.here hx rfl (hb hby at_191) rfl (feq hcc127).1 (XS.iload X115.here hx rfl (hb hby at_194) rfl (XS.iconst X115.here hx rfl (hb hby at_196) (XS.icmpNo X115.here hx rfl (hb hby at_197) rfl (flt (by decide : ¬ ((4 : Int32) < (3 : Int32)))).1 (XS.iload X115.here hx rfl (hb hby at_200) rfl (XS.bipush X115.here hx rfl (hb hby at_202) kk)))))) ?_
      by_cases hcc128 : (own_cx ca) = (32 : Int32)
      · refine go_of (B := (T115.setTop (mkF m 227 #[.val (.int aa), .val (.int ba), .val (.int ca), .val (.int da), .val (.int nn), .val (.int ea), .val (.int (4 : Int32)), .val (.int (own_cx aa)), .val (.int (own_cx ba)), .val (.int (own_cx ca)), .val (.int (own_cx da)), .val (.ref b100), .val (.int (1 : Int32)), .unset, .unset, .unset] []))) (fun _ kk => XS.icmpYes X115.here hx rfl (pc0 := 204) (pc' := 220) rfl (hb hby at_204) rfl (teq hcc128).1 (by decide) (by decide) (XS.iconst X115.here hx rfl (hb hby at_220) (XS.goto X115.here hx rfl (pc0 := 221) (pc' := 225) rfl (hb hby at_221) (by decide) (by decide) (XS.istore X115.here hx rfl (hb hby at_225) rfl rfl kk)))) ?_
        exact HJ116 (1 : Int32) (by simp [own_no, own_hs, hcc126, hcc127, hcc128])
      · refine go_of (B := (T115.setTop (mkF m 217 #[.val (.int aa), .val (.int ba), .val (.int ca), .val (.int da), .val (.int nn), .val (.int ea), .val (.int (4 : Int32)), .val (.int (own_cx aa)), .val (.int (own_cx ba)), .val (.int (own_cx ca)), .val (.int (own_cx da)), .val (.ref b100), .unset, .unset, .unset, .unset] [(.int (32 : Int32)), (.int (own_cx da))]))) (fun _ kk => XS.icmpNo X115.here hx rfl (hb hby at_204) rfl (feq hcc128).1 (XS.iload X115.here hx rfl (hb hby at_207) rfl (XS.iconst X115.here hx rfl (hb hby at_209) (XS.icmpNo X115.here hx rfl (hb hby at_210) rfl (flt (by decide : ¬ ((4 : Int32) < (4 : Int32)))).1 (XS.iload X115.here hx rfl (hb hby at_213) rfl (XS.bipush X115.here hx rfl (hb hby at_215) kk)))))) ?_
        by_cases hcc129 : (own_cx da) = (32 : Int32)
        · refine go_of (B := (T115.setTop (mkF m 227 #[.val (.int aa), .val (.int ba), .val (.int ca), .val (.int da), .val (.int nn), .val (.int ea), .val (.int (4 : Int32)), .val (.int (own_cx aa)), .val (.int (own_cx ba)), .val (.int (own_cx ca)), .val (.int (own_cx da)), .val (.ref b100), .val (.int (1 : Int32)), .unset, .unset, .unset] []))) (fun _ kk => XS.icmpNo X115.here hx rfl (hb hby at_217) rfl (teq hcc129).2 (XS.iconst X115.here hx rfl (hb hby at_220) (XS.goto X115.here hx rfl (pc0 := 221) (pc' := 225) rfl (hb hby at_221) (by decide) (by decide) (XS.istore X115.here hx rfl (hb hby at_225) rfl rfl kk)))) ?_
          exact HJ116 (1 : Int32) (by simp [own_no, own_hs, hcc126, hcc127, hcc128, hcc129])
        · refine go_of (B := (T115.setTop (mkF m 227 #[.val (.int aa), .val (.int ba), .val (.int ca), .val (.int da), .val (.int nn), .val (.int ea), .val (.int (4 : Int32)), .val (.int (own_cx aa)), .val (.int (own_cx ba)), .val (.int (own_cx ca)), .val (.int (own_cx da)), .val (.ref b100), .val (.int (0 : Int32)), .unset, .unset, .unset] []))) (fun _ kk => XS.icmpYes X115.here hx rfl (pc0 := 217) (pc' := 224) rfl (hb hby at_217) rfl (feq hcc129).2 (by decide) (by decide) (XS.iconst X115.here hx rfl (hb hby at_224) (XS.istore X115.here hx rfl (hb hby at_225) rfl rfl kk))) ?_
          exact HJ116 (0 : Int32) (by simp [own_no, own_hs, hcc126, hcc127, hcc128, hcc129])
theorem ef_rm0 (m : MethodId) (aa : Int32) (ba : Int32) (ca : Int32) (da : Int32) (nn : Int32) (ea : Int32)  : entryFrame m #[(.int aa), (.int ba), (.int ca), (.int da), (.int nn), (.int ea)] maxLocals = mkF m 0 #[.val (.int aa), .val (.int ba), .val (.int ca), .val (.int da), .val (.int nn), .val (.int ea), .unset, .unset, .unset, .unset, .unset, .unset, .unset, .unset, .unset, .unset] [] := by first | (simp [entryFrame, mkF, argsToLocals, Value.category, maxLocals]; done) | rfl
theorem rm0 (l : Launch) (Z : State) (a0 : Array Value) (hw : TW a0 Z) (ws : List Jvm.Cond) (aa : Int32) (ba : Int32) (ca : Int32) (da : Int32) (nn : Int32) (ea : Int32) (gC : Int32) (h0 : Heap) (n0 : Nat) (Z0 : n0 ≤ h0.size) (O : Old Z n0 h0) (SC : Sta Z Z.heap "java/lang/String" "COMPACT_STRINGS" "Z" (.int gC)) (hgC : ¬ gC = (0 : Int32)) :
    own_MFH l Z x code maxLocals ret ws room_1 #[(.int aa), (.int ba), (.int ca), (.int da), (.int nn), (.int ea)] h0 (Q_rm0 Z aa ba ca da nn ea gC h0 n0) := by
  have wd := @own_wd _ _ hw
  refine MetFree.of_bodySF (plainFor_of_name pn_com_example_holdfast_holdfast_ExclusiveNamesAnOwnerPinLaw) hisR ?_
  intro p e s m args below meth c s₁ Bd hml0 hP hK
  obtain ⟨rfl, hZ, hh, hCH⟩ := hP
  have hx := Bd.exec
  have hby := Bd.bytes
  have hml : c.maxLocals = 16 := hml0
  have hown : s.vm.findClass "com/example/holdfast/holdfast/ExclusiveNamesAnOwnerPinLaw" = some m.cls := findClass_of_methodNamed Bd.named
  have hnm := (name_of_methodNamed Bd.named Bd.method).1
  have X0 : Stand p l e room_1 (s.setVm s.vm) m #[(.int aa), (.int ba), (.int ca), (.int da), (.int nn), (.int ea)] below meth c s₁ [] 0 0 := Stand.of_body Bd
  have e0 : s₁.heap = h0 := by rw [← hh, Bd.state]; rfl
  have N0 := Fr.nil n0
  have hS : s.Since s.vm 0 := (State.WarmedH.refl s).since 0
  have hh0 := hh
  have hEL := own_EW hw
  have HC0 := CHr.refl hCH
  refine go_of (A := s₁.setTop (entryFrame m #[(.int aa), (.int ba), (.int ca), (.int da), (.int nn), (.int ea)] maxLocals)) (B := s₁.setTop (mkF m 0 #[.val (.int aa), .val (.int ba), .val (.int ca), .val (.int da), .val (.int nn), .val (.int ea), .unset, .unset, .unset, .unset, .unset, .unset, .unset, .unset, .unset, .unset] [])) (fun _ kk' => castTop (ef_rm0 m aa ba ca da nn ea) kk') ?_
  refine go_of (B := (s₁.setTop (mkF m 9 #[.val (.int aa), .val (.int ba), .val (.int ca), .val (.int da), .val (.int nn), .val (.int ea), .val (.int ((nn &&& (2147483647 : Int32)) % (5 : Int32))), .unset, .unset, .unset, .unset, .unset, .unset, .unset, .unset, .unset] []))) (fun _ kk => XS.iload X0.here hx rfl (hb hby at_0) rfl (X0.ldcInt hx hown (mvT hZ (wd 0 rfl)) (g := (mkF m 2 #[.val (.int aa), .val (.int ba), .val (.int ca), .val (.int da), .val (.int nn), .val (.int ea), .unset, .unset, .unset, .unset, .unset, .unset, .unset, .unset, .unset, .unset] [(.int nn)])) rfl (hb hby at_2) _ (XS.iand X0.here hx rfl (hb hby at_4) rfl (XS.iconst X0.here hx rfl (hb hby at_5) (iremM X0 hx rfl (hb hby at_6) rfl (by decide) (XS.istore X0.here hx rfl (hb hby at_7) rfl rfl kk)))))) ?_
  rcases own_n5 nn with hn | hn | hn | hn | hn
  · rw [hn]
    exact lw0 aa ba ca da nn ea gC X0 hx hZ hw hby hml hown Bd.returns Bd.notSynchronized e0 N0 (by first | omega | exact own_ne (by omega) | exact own_le (by omega) | exact own_lt (by omega)) O SC hgC hh0 hCH
  · rw [hn]
    exact lw1 aa ba ca da nn ea gC X0 hx hZ hw hby hml hown Bd.returns Bd.notSynchronized e0 N0 (by first | omega | exact own_ne (by omega) | exact own_le (by omega) | exact own_lt (by omega)) O SC hgC hh0 hCH
  · rw [hn]
    exact lw2 aa ba ca da nn ea gC X0 hx hZ hw hby hml hown Bd.returns Bd.notSynchronized e0 N0 (by first | omega | exact own_ne (by omega) | exact own_le (by omega) | exact own_lt (by omega)) O SC hgC hh0 hCH
  · rw [hn]
    exact lw3 aa ba ca da nn ea gC X0 hx hZ hw hby hml hown Bd.returns Bd.notSynchronized e0 N0 (by first | omega | exact own_ne (by omega) | exact own_le (by omega) | exact own_lt (by omega)) O SC hgC hh0 hCH
  · rw [hn]
    exact lw4 aa ba ca da nn ea gC X0 hx hZ hw hby hml hown Bd.returns Bd.notSynchronized e0 N0 (by first | omega | exact own_ne (by omega) | exact own_le (by omega) | exact own_lt (by omega)) O SC hgC hh0 hCH
theorem own_ne0 {t : Term} {g : Int32} {args : Array Value} {s : State} (ev : t.eval args s none [] s = some (.int g)) (h : (Jvm.Cond.not (.eq t (.int 0))).value args s none s [] = some true) : ¬ g = (0 : Int32) := by
  have h1 := not_v h
  intro q; subst q
  simp [Cond.value, ev, Term.int_eval] at h1
theorem comes_1 {Post : Tables → Env → Array Value → State → Outcome → State → Prop} (hpost : ∀ tb e args s v u, (limb_1_1.after args s (.returned v) u = true ∧ limb_1_2.after args s (.returned v) u = true ∧ True) → ReturnedEndW s (.returned v) u (Jvm.fieldLocs frame_1_writes args s ++ Jvm.arrayLocs frame_1_arrays args s ++ Jvm.staticLocs frame_1_statics s) 32 2240 → Post tb e args s (.returned v) u) :
    ArmFor flags0 classFile x code maxLocals ret World_1 tables_1 room_1 Calls_1 rest_1 Pre_1 Post := by
  intro l hfl _ _ p e ha hc hk s m args below hf hA hF happ hP
  obtain ⟨hcalls, hrest, hpre⟩ := hP
  obtain ⟨-, -, -, hnamed, -, -, -, hat⟩ := (Spec.applies_iff hf).mp happ
  obtain ⟨hg, hn⟩ := and_e (Cond.before_iff.mp (show (Jvm.Cond.and given_1 narrow_1).before args s = true from hpre))
  obtain ⟨g1, g2⟩ := and_e hg
  obtain ⟨g3, g4⟩ := and_e g2
  obtain ⟨g5, g6⟩ := and_e g4
  obtain ⟨g7, g8⟩ := and_e g6
  obtain ⟨g9, g10⟩ := and_e g8
  obtain ⟨g11, g12⟩ := and_e g10
  obtain ⟨w0, w1, w2, w3, w4, w5, rfl⟩ : ∃ w0 w1 w2 w3 w4 w5 : Value, args = #[w0, w1, w2, w3, w4, w5] := by
    have hs : args.size = 6 := by simpa [Cond.value, given_1] using g1
    obtain ⟨L⟩ := args
    match L, hs with
    | [w0, w1, w2, w3, w4, w5], _ => exact ⟨w0, w1, w2, w3, w4, w5, rfl⟩
  have hw := fun d (hd : d ∈ tables_1) => atoms_spec (ws := Jvm.Cond.code x code maxLocals ret :: tables_1) hat d (List.mem_cons_of_mem _ hd)
  have wd := @own_wd _ _ hw
  have hfit : Fit s := fun {y c} hc i hi => by
    obtain ⟨ha, rfl⟩ := Array.getElem?_eq_some_iff.mp hc
    have q := List.all_eq_true.mp ((Array.all_eq_true_iff_forall_mem.mp hF) _ (Array.getElem_mem ha)) i (List.mem_range.mpr hi)
    simpa [Array.getElem?_eq_getElem hi] using q
  obtain ⟨hsets, hown0⟩ := atoms_of _ (rest_1_c_eq ▸ (show rest_1_c.before _ s = true from hrest))
  have hr0 := Cond.before_iff.mp hown0
  obtain ⟨i0, ei0⟩ := is_v g3
  obtain rfl : w0 = (.int i0) := Option.some.inj ei0
  obtain ⟨i1, ei1⟩ := is_v g5
  obtain rfl : w1 = (.int i1) := Option.some.inj ei1
  obtain ⟨i2, ei2⟩ := is_v g7
  obtain rfl : w2 = (.int i2) := Option.some.inj ei2
  obtain ⟨i3, ei3⟩ := is_v g9
  obtain rfl : w3 = (.int i3) := Option.some.inj ei3
  obtain ⟨i4, ei4⟩ := is_v g11
  obtain rfl : w4 = (.int i4) := Option.some.inj ei4
  obtain ⟨i5, ei5⟩ := is_v g12
  obtain rfl : w5 = (.int i5) := Option.some.inj ei5
  obtain ⟨gC, evC⟩ := is_v (Cond.before_iff.mp (hsets _ (List.mem_of_getElem? (i := 1) rfl)))
  have SC := Sta.start evC (Or.inl (hsets _ (List.mem_of_getElem? (i := 0) rfl)))
  have hgC : ¬ gC = (0 : Int32) := own_ne0 evC (Cond.before_iff.mp (hsets _ (List.mem_of_getElem? (i := 2) rfl)))
  have hHeld : ∀ p ∈ own_EL, Jvm.Lit.constHeld s p.1 p.2 := by
    intro p hp
    simp only [own_EL, List.mem_cons, List.not_mem_nil, or_false] at hp
    rcases hp with rfl | rfl
    · exact hcalls.1 _ (List.mem_of_getElem? (i := 1) rfl)
    · exact hcalls.1 _ (List.mem_of_getElem? (i := 0) rfl)
  have hCH := CHv.start (own_EW hw) hHeld (hsets _ (List.mem_of_getElem? (i := 2) rfl)) (wd 20 rfl) (wd 6 rfl)
  obtain ⟨n, o, h1, h2, h3, _, L, rfl, ⟨rfl, N⟩, -, hq⟩ := rm0 l s _ hw tables_1 i0 i1 i2 i3 i4 i5 gC s.heap s.heap.size (Nat.le_refl _) (Old.start s) SC hgC p e ha hc hk s m _ below hf ((Spec.applies_iff_loose hf).mp happ).1 ⟨rfl, State.Warmed39.refl s, rfl, hCH⟩ trivial
  exact ⟨n, _, h1, h2, h3, hpost _ _ _ _ _ _ ⟨Cond.after_iff.mpr rfl, Cond.after_iff.mpr (eq_i res_at (Term.int_eval (1)) rfl), trivial⟩ ⟨hq.1, hq.2.1, hq.2.2.1, (hq.2.2.2.sift fun y hy => Or.inr (N y hy)).mono (by decide) (by decide)⟩⟩
theorem main_1_1 : Claimed_1_1 := comes_1 fun _ _ _ _ _ _ h hF => ⟨h.1, hF⟩
theorem main_1_2 : Claimed_1_2 := comes_1 fun _ _ _ _ _ _ h hF => ⟨h.2.1, hF⟩
end Jvm.Pilot.@@N@@
namespace Jvm.Pilot.@@N@@
open Jvm Jvm.ClassFile Sem Op Lib Jvm.Free Jvm.Stand Jvm.Pilot.@@N@@.Jvm.D
/-! MADE BY PROGRAM (witnessworld.py) out of the Statement's table words and the real class files: 27 classes; the members and pool entries that the words name. The judged class is class 1, her method 2. -/
namespace start1
open Jvm.ClassFile
def u (s : String) : CpInfo := .utf8 (stringToUtf16 s)
/-- a pool by its gaps: so many unusable entries, then the entry; so many at the end -/
def gap : Nat → List CpInfo → List CpInfo
  | 0, r => r
  | n + 1, r => .unusable :: gap n r
def poolList (es : List (Nat × CpInfo)) (last : Nat) : List CpInfo := es.foldr (fun e r => gap e.1 (e.2 :: r)) (gap last [])
def pool (es : List (Nat × CpInfo)) (last : Nat) : Array CpInfo := ⟨poolList es last⟩
def fileOf (pool : Array CpInfo) (this : Nat) (attrs : Array Attribute := #[]) (ms : Array MethodInfo := #[]) (fl : Nat := 33) (sup : Nat := 0) (ifs : Array Nat := #[]) (fds : Array FieldInfo := #[]) : ClassFile where
  minorVersion := 0
  majorVersion := 65
  constantPool := pool
  accessFlags := fl
  thisClass := this
  superClass := sup
  interfaces := ifs
  fields := fds
  methods := ms
  attributes := attrs
def plain (name : String) (sup : Option ClassId) : Class where
  name := name
  kind := .ordinary
  loader := none
  accessFlags := 33
  super := sup
  interfaces := #[]
  cf := none
  fields := #[]
  methods := #[]
  instanceTypes := #[]
  staticTypes := #[]
  resolved := #[]
  callSites := []
  init := .initialized
  statics := none
  mirror := none

def pool0 : Array CpInfo := pool [(5, u "<init>"), (0, u "()V"), (1, .class_ 10), (1, u "java/lang/Object")] 113

def k0c0 : Code := { maxStack := 0, maxLocals := 1, code := object_method_1_code, exceptionTable := #[], attributes := #[] }
def k0m0 : Method := { name := "<init>", desc := "()V", sig := { parameters := [], returnType := none }, accessFlags := 1, code := some k0c0 }
/-- java/lang/Object -/
def k0 : Class := { plain "java/lang/Object" none with
  accessFlags := 33
  interfaces := #[]
  cf := some (fileOf pool0 8 #[] #[{ accessFlags := 1, nameIndex := 5, descriptorIndex := 6, attributes := #[] }] 33 0 #[] #[])
  fields := #[]
  methods := #[k0m0]
  instanceTypes := #[]
  staticTypes := #[]
  resolved := Array.replicate 124 none
  statics := none }

def pool1 : Array CpInfo := pool [(2, .class_ 4), (1, u "java/lang/Object"), (0, u "<init>"), (0, u "()V"), (0, .integer 2147483647), (0, .methodref 9 10), (0, .class_ 11), (0, .nameAndType 12 13), (0, u "com/example/holdfast/holdfast/ExclusiveNamesAnOwnerPinLaw"), (0, u "ch"), (0, u "(I)C"), (0, .class_ 15), (0, u "java/lang/String"), (0, .methodref 14 17), (0, .nameAndType 5 18), (0, u "([C)V"), (0, .methodref 14 20), (0, .nameAndType 21 22), (0, u "valueOf"), (0, u "(C)Ljava/lang/String;"), (0, .methodref 24 25), (0, .class_ 26), (0, .nameAndType 27 28), (0, u "com/example/holdfast/holdfast/HoldfastLock$Exclusive"), (0, u "namesAnOwner"), (0, u "(Ljava/lang/String;)Z"), (0, .methodref 24 30), (0, .nameAndType 31 32), (0, u "endMessage"), (0, u "(Ljava/lang/String;Ljava/lang/String;)Ljava/lang/String;"), (3, u "law"), (0, u "(IIIIII)Z")] 6

def k1m0 : Method := { name := "<init>", desc := "()V", sig := { parameters := [], returnType := none }, accessFlags := 1, code := none }
def k1c1 : Code := { maxStack := 2, maxLocals := 1, code := method_2_code, exceptionTable := #[], attributes := #[] }
def k1m1 : Method := { name := "ch", desc := "(I)C", sig := { parameters := [.int], returnType := some .char }, accessFlags := 10, code := some k1c1 }
def k1c2 : Code := { maxStack := 6, maxLocals := 16, code := code, exceptionTable := #[], attributes := #[] }
def k1m2 : Method := { name := "law", desc := "(IIIIII)Z", sig := { parameters := [.int, .int, .int, .int, .int, .int], returnType := some .boolean }, accessFlags := 9, code := some k1c2 }
/-- com/example/holdfast/holdfast/ExclusiveNamesAnOwnerPinLaw -/
def k1 : Class := { plain "com/example/holdfast/holdfast/ExclusiveNamesAnOwnerPinLaw" (some 0) with
  accessFlags := 49
  interfaces := #[]
  cf := some (fileOf pool1 9 #[] #[{ accessFlags := 1, nameIndex := 5, descriptorIndex := 6, attributes := #[] }, { accessFlags := 10, nameIndex := 12, descriptorIndex := 13, attributes := #[] }, { accessFlags := 9, nameIndex := 36, descriptorIndex := 37, attributes := #[] }] 49 2 #[] #[])
  fields := #[]
  methods := #[k1m0, k1m1, k1m2]
  instanceTypes := #[]
  staticTypes := #[]
  resolved := Array.replicate 44 none
  statics := none }

def pool2 : Array CpInfo := pool [(1, .class_ 2), (0, u "java/io/Serializable"), (0, .class_ 4), (0, u "java/lang/Object")] 2

/-- java/io/Serializable -/
def k2 : Class := { plain "java/io/Serializable" (some 0) with
  accessFlags := 1537
  interfaces := #[]
  cf := some (fileOf pool2 1 #[] #[] 1537 3 #[] #[])
  fields := #[]
  methods := #[]
  instanceTypes := #[]
  staticTypes := #[]
  resolved := Array.replicate 7 none
  statics := none }

def pool3 : Array CpInfo := pool [(1, .class_ 2), (0, u "java/lang/Comparable"), (0, .class_ 4), (0, u "java/lang/Object")] 7

/-- java/lang/Comparable -/
def k3 : Class := { plain "java/lang/Comparable" (some 0) with
  accessFlags := 1537
  interfaces := #[]
  cf := some (fileOf pool3 1 #[] #[] 1537 3 #[] #[])
  fields := #[]
  methods := #[]
  instanceTypes := #[]
  staticTypes := #[]
  resolved := Array.replicate 12 none
  statics := none }

def pool4 : Array CpInfo := pool [(2, .class_ 4), (1, u "java/lang/CharSequence"), (42, .class_ 48), (0, u "java/lang/CharSequence$1CodePointIterator"), (10, .class_ 60), (0, u "java/lang/CharSequence$1CharIterator"), (5, .class_ 67), (0, u "java/lang/Object")] 63

/-- java/lang/CharSequence -/
def k4 : Class := { plain "java/lang/CharSequence" (some 0) with
  accessFlags := 1537
  interfaces := #[]
  cf := some (fileOf pool4 2 #[.nestMembers #[47, 59]] #[] 1537 66 #[] #[])
  fields := #[]
  methods := #[]
  instanceTypes := #[]
  staticTypes := #[]
  resolved := Array.replicate 131 none
  statics := none }

def pool5 : Array CpInfo := pool [(1, .class_ 2), (0, u "java/lang/constant/Constable"), (0, .class_ 4), (0, u "java/lang/Object")] 6

/-- java/lang/constant/Constable -/
def k5 : Class := { plain "java/lang/constant/Constable" (some 0) with
  accessFlags := 1537
  interfaces := #[]
  cf := some (fileOf pool5 1 #[] #[] 1537 3 #[] #[])
  fields := #[]
  methods := #[]
  instanceTypes := #[]
  staticTypes := #[]
  resolved := Array.replicate 11 none
  statics := none }

def pool6 : Array CpInfo := pool [(1, .class_ 2), (0, u "java/lang/constant/ConstantDesc"), (0, .class_ 4), (0, u "java/lang/Object")] 32

/-- java/lang/constant/ConstantDesc -/
def k6 : Class := { plain "java/lang/constant/ConstantDesc" (some 0) with
  accessFlags := 1537
  interfaces := #[]
  cf := some (fileOf pool6 1 #[] #[] 1537 3 #[] #[])
  fields := #[]
  methods := #[]
  instanceTypes := #[]
  staticTypes := #[]
  resolved := Array.replicate 37 none
  statics := none }

def pool7 : Array CpInfo := pool [(1, .methodref 2 3), (0, .class_ 4), (0, .nameAndType 5 6), (0, u "java/lang/Object"), (0, u "<init>"), (0, u "()V"), (0, .string 8), (0, u ""), (0, .fieldref 10 11), (0, .class_ 12), (0, .nameAndType 13 14), (0, u "java/lang/String"), (0, u "value"), (0, u "[B"), (0, .fieldref 10 16), (0, .nameAndType 17 18), (0, u "coder"), (0, u "B"), (2, u "hash"), (0, u "I"), (2, u "hashIsZero"), (0, u "Z"), (0, .methodref 10 28), (0, .nameAndType 5 29), (0, u "([CIILjava/lang/Void;)V"), (8, .fieldref 10 39), (0, .nameAndType 40 26), (0, u "COMPACT_STRINGS"), (1, .class_ 44), (1, u "java/lang/StringUTF16"), (0, u "compress"), (1, .methodref 42 48), (0, .nameAndType 49 50), (0, u "coderFromArrayLen"), (0, u "([BI)B"), (2, u "toBytes"), (0, .methodref 55 56), (0, .class_ 57), (0, .nameAndType 58 59), (0, u "java/util/Arrays"), (0, u "copyOfRange"), (0, u "([BII)[B"), (47, .class_ 109), (1, u "java/lang/StringLatin1"), (32, u "()Z"), (34, .methodref 42 178), (0, .nameAndType 45 179), (0, u "([CII)[B"), (13, .class_ 195), (1, u "java/lang/System"), (13, .methodref 10 210), (0, .nameAndType 5 211), (0, u "([BB)V"), (0, .methodref 193 213), (0, .nameAndType 214 215), (0, u "arraycopy"), (0, u "(Ljava/lang/Object;ILjava/lang/Object;II)V"), (118, u "()I"), (0, .methodref 10 336), (0, .nameAndType 17 337), (0, u "()B"), (2, u "()[B"), (28, u "(C)Z"), (119, .methodref 10 490), (0, .nameAndType 5 491), (0, u "(Ljava/lang/AbstractStringBuilder;Ljava/lang/Void;)V"), (0, .methodref 10 493), (0, .nameAndType 494 142), (0, u "isLatin1"), (10, .methodref 10 506), (0, .nameAndType 507 334), (0, u "length"), (24, u "getBytes"), (16, .methodref 550 506), (0, .class_ 551), (0, u "java/lang/AbstractStringBuilder"), (0, .methodref 550 553), (0, .nameAndType 554 340), (0, u "getValue"), (20, .class_ 576), (0, u "java/lang/CharSequence"), (22, u "CASE_INSENSITIVE_ORDER"), (0, u "Ljava/util/Comparator;"), (32, .methodref 10 634), (0, .nameAndType 635 636), (0, u "indexOf"), (0, u "(II)I"), (0, .methodref 107 638), (0, .nameAndType 635 639), (0, u "([BIII)I"), (125, u "(I)I"), (16, u "valueOf"), (0, u "(C)Ljava/lang/String;"), (37, u "([BIB)V"), (188, u "([C)V"), (4, .methodref 107 1016), (0, .nameAndType 1017 369), (0, u "canEncode"), (0, .methodref 107 1019), (0, .nameAndType 53 1020), (0, u "(C)[B"), (26, .methodref 550 493), (53, u "serialPersistentFields"), (0, u "[Ljava/io/ObjectStreamField;"), (0, .class_ 1104), (0, u "java/lang/String$CaseInsensitiveComparator"), (1, .class_ 1107), (0, u "java/io/Serializable"), (0, .class_ 1109), (0, u "java/lang/Comparable"), (0, .class_ 1111), (0, u "java/lang/constant/Constable"), (0, .class_ 1113), (0, u "java/lang/constant/ConstantDesc"), (2, u "serialVersionUID"), (0, u "J"), (3, u "REPL"), (0, u "C"), (2, u "LATIN1"), (1, u "UTF16"), (105, u "(Ljava/lang/StringBuilder;)V")] 217

def k7m0 : Method := { name := "<init>", desc := "()V", sig := { parameters := [], returnType := none }, accessFlags := 1, code := none }
def k7c1 : Code := { maxStack := 5, maxLocals := 2, code := jdk_42_method_3_code, exceptionTable := #[], attributes := #[] }
def k7m1 : Method := { name := "<init>", desc := "([C)V", sig := { parameters := [(.array .char)], returnType := none }, accessFlags := 1, code := some k7c1 }
def k7c2 : Code := { maxStack := 3, maxLocals := 2, code := jdk_42_method_53_code, exceptionTable := #[], attributes := #[] }
def k7m2 : Method := { name := "<init>", desc := "(Ljava/lang/StringBuilder;)V", sig := { parameters := [(.object "java/lang/StringBuilder")], returnType := none }, accessFlags := 1, code := some k7c2 }
def k7c3 : Code := { maxStack := 2, maxLocals := 1, code := jdk_42_method_54_code, exceptionTable := #[], attributes := #[] }
def k7m3 : Method := { name := "length", desc := "()I", sig := { parameters := [], returnType := some .int }, accessFlags := 1, code := some k7c3 }
def k7c4 : Code := { maxStack := 3, maxLocals := 2, code := jdk_42_method_79_code, exceptionTable := #[], attributes := #[] }
def k7m4 : Method := { name := "indexOf", desc := "(I)I", sig := { parameters := [.int], returnType := some .int }, accessFlags := 1, code := some k7c4 }
def k7c5 : Code := { maxStack := 4, maxLocals := 3, code := jdk_42_method_80_code, exceptionTable := #[], attributes := #[] }
def k7m5 : Method := { name := "indexOf", desc := "(II)I", sig := { parameters := [.int, .int], returnType := some .int }, accessFlags := 1, code := some k7c5 }
def k7c6 : Code := { maxStack := 4, maxLocals := 1, code := jdk_42_method_139_code, exceptionTable := #[], attributes := #[] }
def k7m6 : Method := { name := "valueOf", desc := "(C)Ljava/lang/String;", sig := { parameters := [.char], returnType := some (.object "java/lang/String") }, accessFlags := 9, code := some k7c6 }
def k7c7 : Code := { maxStack := 5, maxLocals := 4, code := jdk_42_method_147_code, exceptionTable := #[], attributes := #[] }
def k7m7 : Method := { name := "getBytes", desc := "([BIB)V", sig := { parameters := [(.array .byte), .int, .byte], returnType := none }, accessFlags := 0, code := some k7c7 }
def k7c8 : Code := { maxStack := 4, maxLocals := 6, code := jdk_42_method_149_code, exceptionTable := #[], attributes := #[] }
def k7m8 : Method := { name := "<init>", desc := "([CIILjava/lang/Void;)V", sig := { parameters := [(.array .char), .int, .int, (.object "java/lang/Void")], returnType := none }, accessFlags := 2, code := some k7c8 }
def k7c9 : Code := { maxStack := 5, maxLocals := 5, code := jdk_42_method_150_code, exceptionTable := #[], attributes := #[] }
def k7m9 : Method := { name := "<init>", desc := "(Ljava/lang/AbstractStringBuilder;Ljava/lang/Void;)V", sig := { parameters := [(.object "java/lang/AbstractStringBuilder"), (.object "java/lang/Void")], returnType := none }, accessFlags := 0, code := some k7c9 }
def k7c10 : Code := { maxStack := 2, maxLocals := 3, code := jdk_42_method_151_code, exceptionTable := #[], attributes := #[] }
def k7m10 : Method := { name := "<init>", desc := "([BB)V", sig := { parameters := [(.array .byte), .byte], returnType := none }, accessFlags := 0, code := some k7c10 }
def k7c11 : Code := { maxStack := 1, maxLocals := 1, code := jdk_42_method_152_code, exceptionTable := #[], attributes := #[] }
def k7m11 : Method := { name := "coder", desc := "()B", sig := { parameters := [], returnType := some .byte }, accessFlags := 0, code := some k7c11 }
def k7c12 : Code := { maxStack := 1, maxLocals := 1, code := jdk_42_method_154_code, exceptionTable := #[], attributes := #[] }
def k7m12 : Method := { name := "isLatin1", desc := "()Z", sig := { parameters := [], returnType := some .boolean }, accessFlags := 0, code := some k7c12 }
/-- java/lang/String -/
def k7 : Class := { plain "java/lang/String" (some 0) with
  accessFlags := 49
  interfaces := #[2, 3, 4, 5, 6]
  cf := some (fileOf pool7 10 #[.nestMembers #[1103]] #[{ accessFlags := 1, nameIndex := 5, descriptorIndex := 6, attributes := #[] }, { accessFlags := 1, nameIndex := 5, descriptorIndex := 1010, attributes := #[] }, { accessFlags := 1, nameIndex := 5, descriptorIndex := 1233, attributes := #[] }, { accessFlags := 1, nameIndex := 507, descriptorIndex := 334, attributes := #[] }, { accessFlags := 1, nameIndex := 635, descriptorIndex := 765, attributes := #[] }, { accessFlags := 1, nameIndex := 635, descriptorIndex := 636, attributes := #[] }, { accessFlags := 9, nameIndex := 782, descriptorIndex := 783, attributes := #[] }, { accessFlags := 0, nameIndex := 532, descriptorIndex := 821, attributes := #[] }, { accessFlags := 2, nameIndex := 5, descriptorIndex := 29, attributes := #[] }, { accessFlags := 0, nameIndex := 5, descriptorIndex := 491, attributes := #[] }, { accessFlags := 0, nameIndex := 5, descriptorIndex := 211, attributes := #[] }, { accessFlags := 0, nameIndex := 17, descriptorIndex := 337, attributes := #[] }, { accessFlags := 0, nameIndex := 494, descriptorIndex := 142, attributes := #[] }] 49 2 #[1106, 1108, 575, 1110, 1112] #[{ accessFlags := 18, nameIndex := 13, descriptorIndex := 14, attributes := #[] }, { accessFlags := 18, nameIndex := 17, descriptorIndex := 18, attributes := #[] }, { accessFlags := 2, nameIndex := 21, descriptorIndex := 22, attributes := #[] }, { accessFlags := 2, nameIndex := 25, descriptorIndex := 26, attributes := #[] }, { accessFlags := 26, nameIndex := 1116, descriptorIndex := 1117, attributes := #[] }, { accessFlags := 24, nameIndex := 40, descriptorIndex := 26, attributes := #[] }, { accessFlags := 26, nameIndex := 1101, descriptorIndex := 1102, attributes := #[] }, { accessFlags := 26, nameIndex := 1121, descriptorIndex := 1122, attributes := #[] }, { accessFlags := 25, nameIndex := 599, descriptorIndex := 600, attributes := #[] }, { accessFlags := 24, nameIndex := 1125, descriptorIndex := 18, attributes := #[] }, { accessFlags := 24, nameIndex := 1127, descriptorIndex := 18, attributes := #[] }])
  fields := #[{ name := "value", type := (.array .byte), accessFlags := 18, slot := 0, constantValue := 0 }, { name := "coder", type := .byte, accessFlags := 18, slot := 1, constantValue := 0 }, { name := "hash", type := .int, accessFlags := 2, slot := 2, constantValue := 0 }, { name := "hashIsZero", type := .boolean, accessFlags := 2, slot := 3, constantValue := 0 }, { name := "serialVersionUID", type := .long, accessFlags := 26, slot := 0, constantValue := 0 }, { name := "COMPACT_STRINGS", type := .boolean, accessFlags := 24, slot := 1, constantValue := 0 }, { name := "serialPersistentFields", type := (.array (.object "java/io/ObjectStreamField")), accessFlags := 26, slot := 2, constantValue := 0 }, { name := "REPL", type := .char, accessFlags := 26, slot := 3, constantValue := 0 }, { name := "CASE_INSENSITIVE_ORDER", type := (.object "java/util/Comparator"), accessFlags := 25, slot := 4, constantValue := 0 }, { name := "LATIN1", type := .byte, accessFlags := 24, slot := 5, constantValue := 0 }, { name := "UTF16", type := .byte, accessFlags := 24, slot := 6, constantValue := 0 }]
  methods := #[k7m0, k7m1, k7m2, k7m3, k7m4, k7m5, k7m6, k7m7, k7m8, k7m9, k7m10, k7m11, k7m12]
  instanceTypes := #[(.array .byte), .byte, .int, .boolean]
  staticTypes := #[.long, .boolean, (.array (.object "java/io/ObjectStreamField")), .char, (.object "java/util/Comparator"), .byte, .byte]
  resolved := Array.replicate 1451 none
  statics := some 0 }

def pool8 : Array CpInfo := pool [(2, .class_ 4), (1, u "com/example/holdfast/holdfast/HoldfastLock$Commands"), (2, .class_ 8), (0, u "java/lang/Object"), (20, .class_ 30), (0, u "com/example/holdfast/holdfast/HoldfastLock")] 5

/-- com/example/holdfast/holdfast/HoldfastLock$Commands -/
def k8 : Class := { plain "com/example/holdfast/holdfast/HoldfastLock$Commands" (some 0) with
  accessFlags := 1536
  interfaces := #[]
  cf := some (fileOf pool8 2 #[.nestHost 29] #[] 1536 7 #[] #[])
  fields := #[]
  methods := #[]
  instanceTypes := #[]
  staticTypes := #[]
  resolved := Array.replicate 36 none
  statics := none }

def pool9 : Array CpInfo := pool [(2, .class_ 4), (0, .nameAndType 5 6), (0, u "java/lang/Object"), (0, u "<init>"), (0, u "()V"), (1, .class_ 10), (1, u "com/example/holdfast/holdfast/HoldfastLock$Exclusive"), (0, u "connector"), (0, u "Lcom/example/holdfast/holdfast/spi/RedisConnector;"), (8, u "keys"), (0, u "Ljava/util/List;"), (2, u "releasedChannel"), (0, u "Ljava/lang/String;"), (6, .class_ 34), (0, u "java/lang/StringBuilder"), (0, .methodref 33 3), (0, .methodref 33 37), (0, .nameAndType 38 39), (0, u "append"), (0, u "(Ljava/lang/String;)Ljava/lang/StringBuilder;"), (2, .methodref 33 43), (0, .nameAndType 44 45), (0, u "toString"), (0, u "()Ljava/lang/String;"), (9, .class_ 56), (0, u "java/lang/String"), (55, u "endMessage"), (0, u "(Ljava/lang/String;Ljava/lang/String;)Ljava/lang/String;"), (9, .string 124), (0, u " "), (0, .methodref 55 126), (0, .nameAndType 127 128), (0, u "indexOf"), (0, u "(I)I"), (30, .class_ 160), (0, u "com/example/holdfast/holdfast/HoldfastLock$Commands"), (18, u "namesAnOwner"), (0, u "(Ljava/lang/String;)Z"), (10, .class_ 192), (0, u "com/example/holdfast/holdfast/HoldfastLock")] 5

def k9c0 : Code := { maxStack := 2, maxLocals := 2, code := prog_10_method_12_code, exceptionTable := #[], attributes := #[] }
def k9m0 : Method := { name := "endMessage", desc := "(Ljava/lang/String;Ljava/lang/String;)Ljava/lang/String;", sig := { parameters := [(.object "java/lang/String"), (.object "java/lang/String")], returnType := some (.object "java/lang/String") }, accessFlags := 8, code := some k9c0 }
def k9c1 : Code := { maxStack := 2, maxLocals := 1, code := prog_10_method_13_code, exceptionTable := #[], attributes := #[] }
def k9m1 : Method := { name := "namesAnOwner", desc := "(Ljava/lang/String;)Z", sig := { parameters := [(.object "java/lang/String")], returnType := some .boolean }, accessFlags := 8, code := some k9c1 }
/-- com/example/holdfast/holdfast/HoldfastLock$Exclusive -/
def k9 : Class := { plain "com/example/holdfast/holdfast/HoldfastLock$Exclusive" (some 0) with
  accessFlags := 32
  interfaces := #[8]
  cf := some (fileOf pool9 8 #[.nestHost 191] #[{ accessFlags := 8, nameIndex := 112, descriptorIndex := 113, attributes := #[] }, { accessFlags := 8, nameIndex := 179, descriptorIndex := 180, attributes := #[] }] 32 2 #[159] #[{ accessFlags := 18, nameIndex := 11, descriptorIndex := 12, attributes := #[] }, { accessFlags := 18, nameIndex := 21, descriptorIndex := 22, attributes := #[] }, { accessFlags := 18, nameIndex := 25, descriptorIndex := 26, attributes := #[] }])
  fields := #[{ name := "connector", type := (.object "com/example/holdfast/holdfast/spi/RedisConnector"), accessFlags := 18, slot := 0, constantValue := 0 }, { name := "keys", type := (.object "java/util/List"), accessFlags := 18, slot := 1, constantValue := 0 }, { name := "releasedChannel", type := (.object "java/lang/String"), accessFlags := 18, slot := 2, constantValue := 0 }]
  methods := #[k9m0, k9m1]
  instanceTypes := #[(.object "com/example/holdfast/holdfast/spi/RedisConnector"), (.object "java/util/List"), (.object "java/lang/String")]
  staticTypes := #[]
  resolved := Array.replicate 198 none
  statics := none }

def pool10 : Array CpInfo := pool [(4, .class_ 6), (1, u "java/lang/Object"), (0, u "<init>"), (0, u "()V"), (5, .class_ 16), (1, u "java/lang/StringLatin1"), (21, .methodref 39 40), (0, .class_ 41), (0, .nameAndType 42 43), (0, u "java/lang/Math"), (0, u "min"), (0, u "(II)I"), (44, .methodref 14 89), (0, .nameAndType 90 91), (0, u "canEncode"), (0, u "(I)Z"), (0, .methodref 39 93), (0, .nameAndType 94 43), (0, u "max"), (0, .methodref 14 96), (0, .nameAndType 97 98), (0, u "indexOfChar"), (0, u "([BIII)I"), (2, u "indexOf"), (3, u "(C)Z"), (15, u "$assertionsDisabled"), (0, u "Z"), (98, .class_ 223), (1, u "java/lang/StringLatin1$LinesSpliterator"), (156, u "toBytes"), (1, u "(C)[B"), (7, .class_ 391), (0, u "java/lang/StringLatin1$CharsSpliterator")] 3

def k10m0 : Method := { name := "<init>", desc := "()V", sig := { parameters := [], returnType := none }, accessFlags := 0, code := none }
def k10c1 : Code := { maxStack := 2, maxLocals := 1, code := jdk_43_method_3_code, exceptionTable := #[], attributes := #[] }
def k10m1 : Method := { name := "canEncode", desc := "(C)Z", sig := { parameters := [.char], returnType := some .boolean }, accessFlags := 9, code := some k10c1 }
def k10c2 : Code := { maxStack := 2, maxLocals := 1, code := jdk_43_method_4_code, exceptionTable := #[], attributes := #[] }
def k10m2 : Method := { name := "canEncode", desc := "(I)Z", sig := { parameters := [.int], returnType := some .boolean }, accessFlags := 9, code := some k10c2 }
def k10c3 : Code := { maxStack := 4, maxLocals := 4, code := jdk_43_method_22_code, exceptionTable := #[], attributes := #[] }
def k10m3 : Method := { name := "indexOf", desc := "([BIII)I", sig := { parameters := [(.array .byte), .int, .int, .int], returnType := some .int }, accessFlags := 9, code := some k10c3 }
def k10c4 : Code := { maxStack := 2, maxLocals := 6, code := jdk_43_method_23_code, exceptionTable := #[], attributes := #[] }
def k10m4 : Method := { name := "indexOfChar", desc := "([BIII)I", sig := { parameters := [(.array .byte), .int, .int, .int], returnType := some .int }, accessFlags := 10, code := some k10c4 }
def k10c5 : Code := { maxStack := 4, maxLocals := 1, code := jdk_43_method_46_code, exceptionTable := #[], attributes := #[] }
def k10m5 : Method := { name := "toBytes", desc := "(C)[B", sig := { parameters := [.char], returnType := some (.array .byte) }, accessFlags := 9, code := some k10c5 }
/-- java/lang/StringLatin1 -/
def k10 : Class := { plain "java/lang/StringLatin1" (some 0) with
  accessFlags := 48
  interfaces := #[]
  cf := some (fileOf pool10 14 #[.nestMembers #[390, 221]] #[{ accessFlags := 0, nameIndex := 7, descriptorIndex := 8, attributes := #[] }, { accessFlags := 9, nameIndex := 90, descriptorIndex := 105, attributes := #[] }, { accessFlags := 9, nameIndex := 90, descriptorIndex := 91, attributes := #[] }, { accessFlags := 9, nameIndex := 101, descriptorIndex := 98, attributes := #[] }, { accessFlags := 10, nameIndex := 97, descriptorIndex := 98, attributes := #[] }, { accessFlags := 9, nameIndex := 380, descriptorIndex := 382, attributes := #[] }] 48 4 #[] #[{ accessFlags := 4120, nameIndex := 121, descriptorIndex := 122, attributes := #[] }])
  fields := #[{ name := "$assertionsDisabled", type := .boolean, accessFlags := 4120, slot := 0, constantValue := 0 }]
  methods := #[k10m0, k10m1, k10m2, k10m3, k10m4, k10m5]
  instanceTypes := #[]
  staticTypes := #[.boolean]
  resolved := Array.replicate 395 none
  statics := none }

def pool11 : Array CpInfo := pool [(1, .class_ 2), (0, u "java/lang/Math"), (1, .class_ 6), (1, u "java/lang/Object"), (0, u "<init>"), (0, u "()V"), (89, .class_ 100), (1, u "java/lang/Math$RandomNumberGeneratorHolder"), (71, u "negativeZeroFloatBits"), (0, u "J"), (2, u "negativeZeroDoubleBits"), (21, u "max"), (2, u "min"), (43, u "$assertionsDisabled"), (0, u "Z"), (88, u "(II)I"), (2, u "twoToTheDoubleScaleDown"), (0, u "D"), (4, u "twoToTheDoubleScaleUp"), (9, u "E"), (3, u "PI"), (2, u "TAU"), (2, u "DEGREES_TO_RADIANS"), (0, u "RADIANS_TO_DEGREES")] 94

def k11m0 : Method := { name := "<init>", desc := "()V", sig := { parameters := [], returnType := none }, accessFlags := 2, code := none }
def k11c1 : Code := { maxStack := 2, maxLocals := 2, code := jdk_29_method_65_code, exceptionTable := #[], attributes := #[] }
def k11m1 : Method := { name := "max", desc := "(II)I", sig := { parameters := [.int, .int], returnType := some .int }, accessFlags := 9, code := some k11c1 }
def k11c2 : Code := { maxStack := 2, maxLocals := 2, code := jdk_29_method_69_code, exceptionTable := #[], attributes := #[] }
def k11m2 : Method := { name := "min", desc := "(II)I", sig := { parameters := [.int, .int], returnType := some .int }, accessFlags := 9, code := some k11c2 }
/-- java/lang/Math -/
def k11 : Class := { plain "java/lang/Math" (some 0) with
  accessFlags := 49
  interfaces := #[]
  cf := some (fileOf pool11 1 #[.nestMembers #[98]] #[{ accessFlags := 2, nameIndex := 7, descriptorIndex := 8, attributes := #[] }, { accessFlags := 9, nameIndex := 198, descriptorIndex := 335, attributes := #[] }, { accessFlags := 9, nameIndex := 201, descriptorIndex := 335, attributes := #[] }] 49 4 #[] #[{ accessFlags := 25, nameIndex := 354, descriptorIndex := 339, attributes := #[] }, { accessFlags := 25, nameIndex := 358, descriptorIndex := 339, attributes := #[] }, { accessFlags := 25, nameIndex := 361, descriptorIndex := 339, attributes := #[] }, { accessFlags := 26, nameIndex := 364, descriptorIndex := 339, attributes := #[] }, { accessFlags := 26, nameIndex := 365, descriptorIndex := 339, attributes := #[] }, { accessFlags := 26, nameIndex := 172, descriptorIndex := 173, attributes := #[] }, { accessFlags := 26, nameIndex := 176, descriptorIndex := 173, attributes := #[] }, { accessFlags := 8, nameIndex := 344, descriptorIndex := 339, attributes := #[] }, { accessFlags := 8, nameIndex := 338, descriptorIndex := 339, attributes := #[] }, { accessFlags := 4120, nameIndex := 245, descriptorIndex := 246, attributes := #[] }])
  fields := #[{ name := "E", type := .double, accessFlags := 25, slot := 0, constantValue := 0 }, { name := "PI", type := .double, accessFlags := 25, slot := 1, constantValue := 0 }, { name := "TAU", type := .double, accessFlags := 25, slot := 2, constantValue := 0 }, { name := "DEGREES_TO_RADIANS", type := .double, accessFlags := 26, slot := 3, constantValue := 0 }, { name := "RADIANS_TO_DEGREES", type := .double, accessFlags := 26, slot := 4, constantValue := 0 }, { name := "negativeZeroFloatBits", type := .long, accessFlags := 26, slot := 5, constantValue := 0 }, { name := "negativeZeroDoubleBits", type := .long, accessFlags := 26, slot := 6, constantValue := 0 }, { name := "twoToTheDoubleScaleUp", type := .double, accessFlags := 8, slot := 7, constantValue := 0 }, { name := "twoToTheDoubleScaleDown", type := .double, accessFlags := 8, slot := 8, constantValue := 0 }, { name := "$assertionsDisabled", type := .boolean, accessFlags := 4120, slot := 9, constantValue := 0 }]
  methods := #[k11m0, k11m1, k11m2]
  instanceTypes := #[]
  staticTypes := #[.double, .double, .double, .double, .double, .long, .long, .double, .double, .boolean]
  resolved := Array.replicate 460 none
  statics := none }

def pool12 : Array CpInfo := pool [(1, .class_ 2), (0, u "java/lang/Appendable"), (0, .class_ 4), (0, u "java/lang/Object")] 9

/-- java/lang/Appendable -/
def k12 : Class := { plain "java/lang/Appendable" (some 0) with
  accessFlags := 1537
  interfaces := #[]
  cf := some (fileOf pool12 1 #[] #[] 1537 3 #[] #[])
  fields := #[]
  methods := #[]
  instanceTypes := #[]
  staticTypes := #[]
  resolved := Array.replicate 14 none
  statics := none }

def pool13 : Array CpInfo := pool [(1, .class_ 2), (0, u "java/lang/String"), (0, .methodref 4 5), (0, .class_ 6), (0, .nameAndType 7 8), (0, u "java/lang/Object"), (0, u "<init>"), (0, u "()V"), (1, .class_ 12), (1, u "java/lang/AbstractStringBuilder"), (0, u "EMPTYVALUE"), (0, u "[B"), (0, .fieldref 10 16), (0, .nameAndType 17 14), (0, u "value"), (0, .fieldref 1 19), (0, .nameAndType 20 21), (0, u "COMPACT_STRINGS"), (0, u "Z"), (0, .fieldref 10 23), (0, .nameAndType 24 25), (0, u "coder"), (0, u "B"), (6, .methodref 1 33), (0, .nameAndType 34 35), (0, u "length"), (0, u "()I"), (4, .methodref 1 41), (0, .nameAndType 24 42), (0, u "()B"), (2, u "append"), (0, u "(Ljava/lang/String;)Ljava/lang/AbstractStringBuilder;"), (1, .class_ 49), (0, u "java/lang/CharSequence"), (19, u "(Ljava/lang/String;)V"), (5, u "maybeLatin1"), (3, .fieldref 10 80), (0, .nameAndType 81 82), (0, u "count"), (0, u "I"), (2, u "isLatin1"), (0, u "()Z"), (13, .methodref 10 101), (0, .nameAndType 102 103), (0, u "ensureCapacityInternal"), (0, u "(I)V"), (104, .methodref 10 209), (0, .nameAndType 210 211), (0, u "putStringAt"), (0, u "(ILjava/lang/String;)V"), (5, u "inflateIfNeededFor"), (2, .nameAndType 221 222), (0, u "getBytes"), (0, u "([BIB)V"), (174, .methodref 10 398), (0, .nameAndType 217 69), (0, .methodref 1 220), (3, u "()[B"), (40, .class_ 445), (0, u "java/lang/Appendable"), (106, u "getValue")] 56

def k13m0 : Method := { name := "<init>", desc := "()V", sig := { parameters := [], returnType := none }, accessFlags := 0, code := none }
def k13c1 : Code := { maxStack := 2, maxLocals := 2, code := jdk_68_method_2_code, exceptionTable := #[], attributes := #[] }
def k13m1 : Method := { name := "<init>", desc := "(I)V", sig := { parameters := [.int], returnType := none }, accessFlags := 0, code := some k13c1 }
def k13c2 : Code := { maxStack := 1, maxLocals := 1, code := jdk_68_method_6_code, exceptionTable := #[], attributes := #[] }
def k13m2 : Method := { name := "length", desc := "()I", sig := { parameters := [], returnType := some .int }, accessFlags := 1, code := some k13c2 }
def k13c3 : Code := { maxStack := 4, maxLocals := 3, code := jdk_68_method_9_code, exceptionTable := #[], attributes := #[] }
def k13m3 : Method := { name := "ensureCapacityInternal", desc := "(I)V", sig := { parameters := [.int], returnType := none }, accessFlags := 2, code := some k13c3 }
def k13c4 : Code := { maxStack := 3, maxLocals := 3, code := jdk_68_method_22_code, exceptionTable := #[], attributes := #[] }
def k13m4 : Method := { name := "append", desc := "(Ljava/lang/String;)Ljava/lang/AbstractStringBuilder;", sig := { parameters := [(.object "java/lang/String")], returnType := some (.object "java/lang/AbstractStringBuilder") }, accessFlags := 1, code := some k13c4 }
def k13c5 : Code := { maxStack := 1, maxLocals := 1, code := jdk_68_method_64_code, exceptionTable := #[], attributes := #[] }
def k13m5 : Method := { name := "getValue", desc := "()[B", sig := { parameters := [], returnType := some (.array .byte) }, accessFlags := 16, code := some k13c5 }
def k13c6 : Code := { maxStack := 1, maxLocals := 1, code := jdk_68_method_68_code, exceptionTable := #[], attributes := #[] }
def k13m6 : Method := { name := "isLatin1", desc := "()Z", sig := { parameters := [], returnType := some .boolean }, accessFlags := 16, code := some k13c6 }
def k13c7 : Code := { maxStack := 2, maxLocals := 2, code := jdk_68_method_71_code, exceptionTable := #[], attributes := #[] }
def k13m7 : Method := { name := "inflateIfNeededFor", desc := "(Ljava/lang/String;)V", sig := { parameters := [(.object "java/lang/String")], returnType := none }, accessFlags := 2, code := some k13c7 }
def k13c8 : Code := { maxStack := 4, maxLocals := 3, code := jdk_68_method_73_code, exceptionTable := #[], attributes := #[] }
def k13m8 : Method := { name := "putStringAt", desc := "(ILjava/lang/String;)V", sig := { parameters := [.int, (.object "java/lang/String")], returnType := none }, accessFlags := 2, code := some k13c8 }
/-- java/lang/AbstractStringBuilder -/
def k13 : Class := { plain "java/lang/AbstractStringBuilder" (some 0) with
  accessFlags := 1056
  interfaces := #[12, 4]
  cf := some (fileOf pool13 10 #[] #[{ accessFlags := 0, nameIndex := 7, descriptorIndex := 8, attributes := #[] }, { accessFlags := 0, nameIndex := 7, descriptorIndex := 103, attributes := #[] }, { accessFlags := 1, nameIndex := 34, descriptorIndex := 35, attributes := #[] }, { accessFlags := 2, nameIndex := 102, descriptorIndex := 103, attributes := #[] }, { accessFlags := 1, nameIndex := 45, descriptorIndex := 46, attributes := #[] }, { accessFlags := 16, nameIndex := 552, descriptorIndex := 403, attributes := #[] }, { accessFlags := 16, nameIndex := 85, descriptorIndex := 86, attributes := #[] }, { accessFlags := 2, nameIndex := 217, descriptorIndex := 69, attributes := #[] }, { accessFlags := 2, nameIndex := 210, descriptorIndex := 211, attributes := #[] }] 1056 4 #[444, 48] #[{ accessFlags := 0, nameIndex := 17, descriptorIndex := 14, attributes := #[] }, { accessFlags := 0, nameIndex := 24, descriptorIndex := 25, attributes := #[] }, { accessFlags := 0, nameIndex := 75, descriptorIndex := 21, attributes := #[] }, { accessFlags := 0, nameIndex := 81, descriptorIndex := 82, attributes := #[] }, { accessFlags := 26, nameIndex := 13, descriptorIndex := 14, attributes := #[] }])
  fields := #[{ name := "value", type := (.array .byte), accessFlags := 0, slot := 0, constantValue := 0 }, { name := "coder", type := .byte, accessFlags := 0, slot := 1, constantValue := 0 }, { name := "maybeLatin1", type := .boolean, accessFlags := 0, slot := 2, constantValue := 0 }, { name := "count", type := .int, accessFlags := 0, slot := 3, constantValue := 0 }, { name := "EMPTYVALUE", type := (.array .byte), accessFlags := 26, slot := 0, constantValue := 0 }]
  methods := #[k13m0, k13m1, k13m2, k13m3, k13m4, k13m5, k13m6, k13m7, k13m8]
  instanceTypes := #[(.array .byte), .byte, .boolean, .int]
  staticTypes := #[(.array .byte)]
  resolved := Array.replicate 609 none
  statics := none }

def pool14 : Array CpInfo := pool [(1, .methodref 2 3), (0, .class_ 4), (0, .nameAndType 5 6), (0, u "java/lang/AbstractStringBuilder"), (0, u "<init>"), (0, u "(I)V"), (11, .class_ 20), (1, u "java/lang/String"), (3, .class_ 26), (1, u "java/lang/StringBuilder"), (0, u "append"), (0, u "(Ljava/lang/String;)Ljava/lang/StringBuilder;"), (0, .methodref 2 30), (0, .nameAndType 27 31), (0, u "(Ljava/lang/String;)Ljava/lang/AbstractStringBuilder;"), (105, .methodref 18 138), (0, .nameAndType 5 139), (0, u "(Ljava/lang/StringBuilder;)V"), (5, u "()V"), (10, u "()I"), (186, .methodref 2 344), (0, .nameAndType 345 156), (0, u "length"), (3, .class_ 350), (0, u "java/lang/Appendable"), (0, .class_ 352), (0, u "java/io/Serializable"), (0, .class_ 354), (0, u "java/lang/Comparable"), (0, .class_ 356), (0, u "java/lang/CharSequence"), (0, u "serialVersionUID"), (0, u "J"), (40, u "toString"), (0, u "()Ljava/lang/String;")] 21

def k14c0 : Code := { maxStack := 2, maxLocals := 1, code := jdk_67_method_1_code, exceptionTable := #[], attributes := #[] }
def k14m0 : Method := { name := "<init>", desc := "()V", sig := { parameters := [], returnType := none }, accessFlags := 1, code := some k14c0 }
def k14c1 : Code := { maxStack := 2, maxLocals := 2, code := jdk_67_method_7_code, exceptionTable := #[], attributes := #[] }
def k14m1 : Method := { name := "append", desc := "(Ljava/lang/String;)Ljava/lang/StringBuilder;", sig := { parameters := [(.object "java/lang/String")], returnType := some (.object "java/lang/StringBuilder") }, accessFlags := 1, code := some k14c1 }
def k14c2 : Code := { maxStack := 3, maxLocals := 1, code := jdk_67_method_42_code, exceptionTable := #[], attributes := #[] }
def k14m2 : Method := { name := "toString", desc := "()Ljava/lang/String;", sig := { parameters := [], returnType := some (.object "java/lang/String") }, accessFlags := 1, code := some k14c2 }
def k14c3 : Code := { maxStack := 1, maxLocals := 1, code := jdk_67_method_93_code, exceptionTable := #[], attributes := #[] }
def k14m3 : Method := { name := "length", desc := "()I", sig := { parameters := [], returnType := some .int }, accessFlags := 4161, code := some k14c3 }
/-- java/lang/StringBuilder -/
def k14 : Class := { plain "java/lang/StringBuilder" (some 13) with
  accessFlags := 49
  interfaces := #[12, 2, 3, 4]
  cf := some (fileOf pool14 24 #[] #[{ accessFlags := 1, nameIndex := 5, descriptorIndex := 145, attributes := #[] }, { accessFlags := 1, nameIndex := 27, descriptorIndex := 28, attributes := #[] }, { accessFlags := 1, nameIndex := 399, descriptorIndex := 400, attributes := #[] }, { accessFlags := 4161, nameIndex := 345, descriptorIndex := 156, attributes := #[] }] 49 2 #[349, 351, 353, 355] #[{ accessFlags := 24, nameIndex := 357, descriptorIndex := 358, attributes := #[] }])
  fields := #[{ name := "serialVersionUID", type := .long, accessFlags := 24, slot := 0, constantValue := 0 }]
  methods := #[k14m0, k14m1, k14m2, k14m3]
  instanceTypes := #[(.array .byte), .byte, .boolean, .int]
  staticTypes := #[.long]
  resolved := Array.replicate 422 none
  statics := none }

def pool15 : Array CpInfo := pool [(2, .class_ 4), (1, u "java/lang/Object"), (0, u "<init>"), (0, u "()V"), (1, .class_ 10), (1, u "java/lang/System"), (0, u "allowSecurityManager"), (0, u "I"), (16, u "cons"), (0, u "Ljava/io/Console;"), (77, .class_ 110), (1, u "java/lang/System$CallersHolder"), (43, u "initialErrStream"), (0, u "Ljava/io/PrintStream;"), (19, u "security"), (0, u "Ljava/lang/SecurityManager;"), (31, .class_ 209), (0, u "java/lang/System$1"), (7, u "props"), (0, u "Ljava/util/Properties;"), (2, u "lineSeparator"), (0, u "Ljava/lang/String;"), (96, .class_ 321), (1, u "java/lang/System$LoggerFinder"), (5, .class_ 328), (0, u "java/lang/System$Logger"), (67, u "err"), (2, u "out"), (91, u "notSupportedJnuEncoding"), (15, u "in"), (17, u "initialIn"), (0, u "Ljava/io/InputStream;"), (35, u "bootLayer"), (0, u "Ljava/lang/ModuleLayer;"), (99, .class_ 664), (0, u "java/lang/System$2"), (9, u "NEVER"), (2, u "MAYBE"), (49, u "arraycopy"), (0, u "(Ljava/lang/Object;ILjava/lang/Object;II)V"), (72, .class_ 802), (0, u "java/lang/System$Logger$Level")] 31

def k15m0 : Method := { name := "<init>", desc := "()V", sig := { parameters := [], returnType := none }, accessFlags := 2, code := none }
def k15m1 : Method := { name := "arraycopy", desc := "(Ljava/lang/Object;ILjava/lang/Object;II)V", sig := { parameters := [(.object "java/lang/Object"), .int, (.object "java/lang/Object"), .int, .int], returnType := none }, accessFlags := 265, code := none }
/-- java/lang/System -/
def k15 : Class := { plain "java/lang/System" (some 0) with
  accessFlags := 49
  interfaces := #[]
  cf := some (fileOf pool15 8 #[.nestMembers #[319, 327, 801, 108, 663, 208]] #[{ accessFlags := 2, nameIndex := 5, descriptorIndex := 6, attributes := #[] }, { accessFlags := 265, nameIndex := 727, descriptorIndex := 728, attributes := #[] }] 49 2 #[] #[{ accessFlags := 25, nameIndex := 507, descriptorIndex := 526, attributes := #[] }, { accessFlags := 25, nameIndex := 399, descriptorIndex := 155, attributes := #[] }, { accessFlags := 25, nameIndex := 396, descriptorIndex := 155, attributes := #[] }, { accessFlags := 10, nameIndex := 525, descriptorIndex := 526, attributes := #[] }, { accessFlags := 26, nameIndex := 674, descriptorIndex := 12, attributes := #[] }, { accessFlags := 26, nameIndex := 677, descriptorIndex := 12, attributes := #[] }, { accessFlags := 10, nameIndex := 11, descriptorIndex := 12, attributes := #[] }, { accessFlags := 74, nameIndex := 175, descriptorIndex := 176, attributes := #[] }, { accessFlags := 10, nameIndex := 491, descriptorIndex := 222, attributes := #[] }, { accessFlags := 74, nameIndex := 29, descriptorIndex := 30, attributes := #[] }, { accessFlags := 74, nameIndex := 154, descriptorIndex := 155, attributes := #[] }, { accessFlags := 10, nameIndex := 217, descriptorIndex := 218, attributes := #[] }, { accessFlags := 10, nameIndex := 221, descriptorIndex := 222, attributes := #[] }, { accessFlags := 8, nameIndex := 562, descriptorIndex := 563, attributes := #[] }])
  fields := #[{ name := "in", type := (.object "java/io/InputStream"), accessFlags := 25, slot := 0, constantValue := 0 }, { name := "out", type := (.object "java/io/PrintStream"), accessFlags := 25, slot := 1, constantValue := 0 }, { name := "err", type := (.object "java/io/PrintStream"), accessFlags := 25, slot := 2, constantValue := 0 }, { name := "initialIn", type := (.object "java/io/InputStream"), accessFlags := 10, slot := 3, constantValue := 0 }, { name := "NEVER", type := .int, accessFlags := 26, slot := 4, constantValue := 0 }, { name := "MAYBE", type := .int, accessFlags := 26, slot := 5, constantValue := 0 }, { name := "allowSecurityManager", type := .int, accessFlags := 10, slot := 6, constantValue := 0 }, { name := "security", type := (.object "java/lang/SecurityManager"), accessFlags := 74, slot := 7, constantValue := 0 }, { name := "notSupportedJnuEncoding", type := (.object "java/lang/String"), accessFlags := 10, slot := 8, constantValue := 0 }, { name := "cons", type := (.object "java/io/Console"), accessFlags := 74, slot := 9, constantValue := 0 }, { name := "initialErrStream", type := (.object "java/io/PrintStream"), accessFlags := 74, slot := 10, constantValue := 0 }, { name := "props", type := (.object "java/util/Properties"), accessFlags := 10, slot := 11, constantValue := 0 }, { name := "lineSeparator", type := (.object "java/lang/String"), accessFlags := 10, slot := 12, constantValue := 0 }, { name := "bootLayer", type := (.object "java/lang/ModuleLayer"), accessFlags := 8, slot := 13, constantValue := 0 }]
  methods := #[k15m0, k15m1]
  instanceTypes := #[]
  staticTypes := #[(.object "java/io/InputStream"), (.object "java/io/PrintStream"), (.object "java/io/PrintStream"), (.object "java/io/InputStream"), .int, .int, .int, (.object "java/lang/SecurityManager"), (.object "java/lang/String"), (.object "java/io/Console"), (.object "java/io/PrintStream"), (.object "java/util/Properties"), (.object "java/lang/String"), (.object "java/lang/ModuleLayer")]
  resolved := Array.replicate 834 none
  statics := none }

def pool16 : Array CpInfo := pool [(2, .class_ 4), (1, u "java/lang/Object"), (0, u "<init>"), (0, u "()V"), (7, .class_ 16), (1, u "java/util/Arrays"), (57, .class_ 76), (1, u "java/util/Arrays$NaturalOrder"), (36, .class_ 115), (1, u "java/util/Arrays$LegacyMergeSort"), (1, u "Z"), (21, u "copyOfRange"), (10, .methodref 151 152), (0, .class_ 153), (0, .nameAndType 154 155), (0, u "java/lang/System"), (0, u "arraycopy"), (0, u "(Ljava/lang/Object;ILjava/lang/Object;II)V"), (148, .methodref 305 306), (0, .class_ 307), (0, .nameAndType 308 309), (0, u "java/lang/Math"), (0, u "min"), (0, u "(II)I"), (29, .methodref 14 340), (0, .nameAndType 341 342), (0, u "copyOfRangeByte"), (0, u "([BII)[B"), (0, .methodref 14 344), (0, .nameAndType 345 346), (0, u "checkLength"), (0, u "(II)V"), (28, .class_ 376), (0, u "java/util/Arrays$ArrayList"), (68, u "$assertionsDisabled"), (269, u "MIN_ARRAY_SORT_GRAN"), (0, u "I"), (2, u "INSERTIONSORT_THRESHOLD"), (255, .class_ 976), (0, u "java/util/Arrays$ArrayItr")] 52

def k16m0 : Method := { name := "<init>", desc := "()V", sig := { parameters := [], returnType := none }, accessFlags := 2, code := none }
def k16c1 : Code := { maxStack := 4, maxLocals := 2, code := jdk_65_method_131_code, exceptionTable := #[], attributes := #[] }
def k16m1 : Method := { name := "checkLength", desc := "(II)V", sig := { parameters := [.int, .int], returnType := none }, accessFlags := 10, code := some k16c1 }
def k16c2 : Code := { maxStack := 3, maxLocals := 3, code := jdk_65_method_132_code, exceptionTable := #[], attributes := #[] }
def k16m2 : Method := { name := "copyOfRange", desc := "([BII)[B", sig := { parameters := [(.array .byte), .int, .int], returnType := some (.array .byte) }, accessFlags := 9, code := some k16c2 }
def k16c3 : Code := { maxStack := 6, maxLocals := 5, code := jdk_65_method_133_code, exceptionTable := #[], attributes := #[] }
def k16m3 : Method := { name := "copyOfRangeByte", desc := "([BII)[B", sig := { parameters := [(.array .byte), .int, .int], returnType := some (.array .byte) }, accessFlags := 10, code := some k16c3 }
/-- java/util/Arrays -/
def k16 : Class := { plain "java/util/Arrays" (some 0) with
  accessFlags := 49
  interfaces := #[]
  cf := some (fileOf pool16 14 #[.nestMembers #[975, 375, 113, 74]] #[{ accessFlags := 2, nameIndex := 5, descriptorIndex := 6, attributes := #[] }, { accessFlags := 10, nameIndex := 345, descriptorIndex := 346, attributes := #[] }, { accessFlags := 9, nameIndex := 139, descriptorIndex := 342, attributes := #[] }, { accessFlags := 10, nameIndex := 341, descriptorIndex := 342, attributes := #[] }] 49 2 #[] #[{ accessFlags := 26, nameIndex := 715, descriptorIndex := 716, attributes := #[] }, { accessFlags := 26, nameIndex := 719, descriptorIndex := 716, attributes := #[] }, { accessFlags := 4120, nameIndex := 445, descriptorIndex := 117, attributes := #[] }])
  fields := #[{ name := "MIN_ARRAY_SORT_GRAN", type := .int, accessFlags := 26, slot := 0, constantValue := 0 }, { name := "INSERTIONSORT_THRESHOLD", type := .int, accessFlags := 26, slot := 1, constantValue := 0 }, { name := "$assertionsDisabled", type := .boolean, accessFlags := 4120, slot := 2, constantValue := 0 }]
  methods := #[k16m0, k16m1, k16m2, k16m3]
  instanceTypes := #[]
  staticTypes := #[.int, .int, .boolean]
  resolved := Array.replicate 1029 none
  statics := none }

def pool17 : Array CpInfo := pool [(6, .class_ 8), (1, u "java/lang/Object"), (0, u "<init>"), (0, u "()V"), (1, .class_ 14), (1, u "java/lang/StringUTF16"), (31, u "$assertionsDisabled"), (0, u "Z"), (13, u "HI_BYTE_SHIFT"), (0, u "I"), (2, u "LO_BYTE_SHIFT"), (49, .methodref 12 116), (0, .nameAndType 117 118), (0, u "compress"), (0, u "([CI[BII)I"), (3, u "([CII)[B"), (138, u "coderFromArrayLen"), (0, u "([BI)B"), (106, .class_ 371), (1, u "java/lang/StringUTF16$LinesSpliterator"), (58, u "MAX_LENGTH"), (196, .class_ 628), (0, u "java/lang/StringUTF16$CodePointsSpliterator"), (0, .class_ 630), (0, u "java/lang/StringUTF16$CharsSpliterator")] 4

def k17m0 : Method := { name := "<init>", desc := "()V", sig := { parameters := [], returnType := none }, accessFlags := 0, code := none }
def k17c1 : Code := { maxStack := 2, maxLocals := 2, code := jdk_52_method_15_code, exceptionTable := #[], attributes := #[] }
def k17m1 : Method := { name := "coderFromArrayLen", desc := "([BI)B", sig := { parameters := [(.array .byte), .int], returnType := some .byte }, accessFlags := 8, code := some k17c1 }
def k17c2 : Code := { maxStack := 5, maxLocals := 6, code := jdk_52_method_16_code, exceptionTable := #[], attributes := #[] }
def k17m2 : Method := { name := "compress", desc := "([CII)[B", sig := { parameters := [(.array .char), .int, .int], returnType := some (.array .byte) }, accessFlags := 9, code := some k17c2 }
def k17c3 : Code := { maxStack := 3, maxLocals := 7, code := jdk_52_method_21_code, exceptionTable := #[], attributes := #[] }
def k17m3 : Method := { name := "compress", desc := "([CI[BII)I", sig := { parameters := [(.array .char), .int, (.array .byte), .int, .int], returnType := some .int }, accessFlags := 9, code := some k17c3 }
/-- java/lang/StringUTF16 -/
def k17 : Class := { plain "java/lang/StringUTF16" (some 0) with
  accessFlags := 48
  interfaces := #[]
  cf := some (fileOf pool17 12 #[.nestMembers #[627, 629, 369]] #[{ accessFlags := 0, nameIndex := 9, descriptorIndex := 10, attributes := #[] }, { accessFlags := 8, nameIndex := 261, descriptorIndex := 262, attributes := #[] }, { accessFlags := 9, nameIndex := 117, descriptorIndex := 122, attributes := #[] }, { accessFlags := 9, nameIndex := 117, descriptorIndex := 118, attributes := #[] }] 48 6 #[] #[{ accessFlags := 26, nameIndex := 61, descriptorIndex := 62, attributes := #[] }, { accessFlags := 26, nameIndex := 65, descriptorIndex := 62, attributes := #[] }, { accessFlags := 24, nameIndex := 430, descriptorIndex := 62, attributes := #[] }, { accessFlags := 4120, nameIndex := 46, descriptorIndex := 47, attributes := #[] }])
  fields := #[{ name := "HI_BYTE_SHIFT", type := .int, accessFlags := 26, slot := 0, constantValue := 0 }, { name := "LO_BYTE_SHIFT", type := .int, accessFlags := 26, slot := 1, constantValue := 0 }, { name := "MAX_LENGTH", type := .int, accessFlags := 24, slot := 2, constantValue := 0 }, { name := "$assertionsDisabled", type := .boolean, accessFlags := 4120, slot := 3, constantValue := 0 }]
  methods := #[k17m0, k17m1, k17m2, k17m3]
  instanceTypes := #[]
  staticTypes := #[.int, .int, .int, .boolean]
  resolved := Array.replicate 635 none
  statics := none }

def pool18 : Array CpInfo := pool [(2, .class_ 4), (1, u "java/lang/Object"), (0, u "<init>"), (0, u "()V"), (17, .class_ 26), (1, u "jdk/internal/util/Preconditions"), (28, .class_ 56), (0, u "jdk/internal/util/Preconditions$4"), (57, .class_ 115), (0, u "jdk/internal/util/Preconditions$1"), (7, u "SIOOBE_FORMATTER"), (0, u "Ljava/util/function/BiFunction;"), (0, .class_ 126), (0, u "jdk/internal/util/Preconditions$2"), (3, u "AIOOBE_FORMATTER"), (0, .class_ 132), (0, u "jdk/internal/util/Preconditions$3"), (3, u "IOOBE_FORMATTER")] 57

def k18m0 : Method := { name := "<init>", desc := "()V", sig := { parameters := [], returnType := none }, accessFlags := 1, code := none }
/-- jdk/internal/util/Preconditions -/
def k18 : Class := { plain "jdk/internal/util/Preconditions" (some 0) with
  accessFlags := 33
  interfaces := #[]
  cf := some (fileOf pool18 24 #[.nestMembers #[55, 131, 125, 114]] #[{ accessFlags := 1, nameIndex := 5, descriptorIndex := 6, attributes := #[] }] 33 2 #[] #[{ accessFlags := 25, nameIndex := 123, descriptorIndex := 124, attributes := #[] }, { accessFlags := 25, nameIndex := 130, descriptorIndex := 124, attributes := #[] }, { accessFlags := 25, nameIndex := 136, descriptorIndex := 124, attributes := #[] }])
  fields := #[{ name := "SIOOBE_FORMATTER", type := (.object "java/util/function/BiFunction"), accessFlags := 25, slot := 0, constantValue := 0 }, { name := "AIOOBE_FORMATTER", type := (.object "java/util/function/BiFunction"), accessFlags := 25, slot := 1, constantValue := 0 }, { name := "IOOBE_FORMATTER", type := (.object "java/util/function/BiFunction"), accessFlags := 25, slot := 2, constantValue := 0 }]
  methods := #[k18m0]
  instanceTypes := #[]
  staticTypes := #[(.object "java/util/function/BiFunction"), (.object "java/util/function/BiFunction"), (.object "java/util/function/BiFunction")]
  resolved := Array.replicate 194 none
  statics := some 1 }

def pool19 : Array CpInfo := pool [(9, u "<init>"), (6, .class_ 18), (1, u "java/lang/Object"), (0, u "()V"), (1, .class_ 23), (1, u "jdk/internal/util/ArraysSupport"), (0, u "LOG2_ARRAY_LONG_INDEX_SCALE"), (0, u "I"), (2, u "U"), (0, u "Ljdk/internal/misc/Unsafe;"), (8, u "BIG_ENDIAN"), (0, u "Z"), (8, u "LOG2_BYTE_BIT_SIZE"), (4, u "LOG2_ARRAY_INT_INDEX_SCALE"), (54, u "JLA"), (0, u "Ljdk/internal/access/JavaLangAccess;"), (11, u "LOG2_ARRAY_BOOLEAN_INDEX_SCALE"), (9, u "LOG2_ARRAY_BYTE_INDEX_SCALE"), (5, u "LOG2_ARRAY_CHAR_INDEX_SCALE"), (5, u "LOG2_ARRAY_SHORT_INDEX_SCALE"), (18, u "LOG2_ARRAY_FLOAT_INDEX_SCALE"), (24, u "LOG2_ARRAY_DOUBLE_INDEX_SCALE"), (89, u "T_BOOLEAN"), (2, u "T_CHAR"), (1, u "T_FLOAT"), (1, u "T_DOUBLE"), (1, u "T_BYTE"), (1, u "T_SHORT"), (1, u "T_INT"), (1, u "T_LONG"), (1, u "SOFT_MAX_ARRAY_LENGTH")] 83

def k19m0 : Method := { name := "<init>", desc := "()V", sig := { parameters := [], returnType := none }, accessFlags := 2, code := none }
/-- jdk/internal/util/ArraysSupport -/
def k19 : Class := { plain "jdk/internal/util/ArraysSupport" (some 0) with
  accessFlags := 33
  interfaces := #[]
  cf := some (fileOf pool19 21 #[] #[{ accessFlags := 2, nameIndex := 9, descriptorIndex := 19, attributes := #[] }] 33 16 #[] #[{ accessFlags := 24, nameIndex := 28, descriptorIndex := 29, attributes := #[] }, { accessFlags := 26, nameIndex := 38, descriptorIndex := 39, attributes := #[] }, { accessFlags := 25, nameIndex := 121, descriptorIndex := 25, attributes := #[] }, { accessFlags := 25, nameIndex := 131, descriptorIndex := 25, attributes := #[] }, { accessFlags := 25, nameIndex := 137, descriptorIndex := 25, attributes := #[] }, { accessFlags := 25, nameIndex := 143, descriptorIndex := 25, attributes := #[] }, { accessFlags := 25, nameIndex := 53, descriptorIndex := 25, attributes := #[] }, { accessFlags := 25, nameIndex := 24, descriptorIndex := 25, attributes := #[] }, { accessFlags := 25, nameIndex := 162, descriptorIndex := 25, attributes := #[] }, { accessFlags := 25, nameIndex := 187, descriptorIndex := 25, attributes := #[] }, { accessFlags := 26, nameIndex := 48, descriptorIndex := 25, attributes := #[] }, { accessFlags := 25, nameIndex := 277, descriptorIndex := 25, attributes := #[] }, { accessFlags := 25, nameIndex := 280, descriptorIndex := 25, attributes := #[] }, { accessFlags := 25, nameIndex := 282, descriptorIndex := 25, attributes := #[] }, { accessFlags := 25, nameIndex := 284, descriptorIndex := 25, attributes := #[] }, { accessFlags := 25, nameIndex := 286, descriptorIndex := 25, attributes := #[] }, { accessFlags := 25, nameIndex := 288, descriptorIndex := 25, attributes := #[] }, { accessFlags := 25, nameIndex := 290, descriptorIndex := 25, attributes := #[] }, { accessFlags := 25, nameIndex := 292, descriptorIndex := 25, attributes := #[] }, { accessFlags := 26, nameIndex := 108, descriptorIndex := 109, attributes := #[] }, { accessFlags := 25, nameIndex := 294, descriptorIndex := 25, attributes := #[] }])
  fields := #[{ name := "U", type := (.object "jdk/internal/misc/Unsafe"), accessFlags := 24, slot := 0, constantValue := 0 }, { name := "BIG_ENDIAN", type := .boolean, accessFlags := 26, slot := 1, constantValue := 0 }, { name := "LOG2_ARRAY_BOOLEAN_INDEX_SCALE", type := .int, accessFlags := 25, slot := 2, constantValue := 0 }, { name := "LOG2_ARRAY_BYTE_INDEX_SCALE", type := .int, accessFlags := 25, slot := 3, constantValue := 0 }, { name := "LOG2_ARRAY_CHAR_INDEX_SCALE", type := .int, accessFlags := 25, slot := 4, constantValue := 0 }, { name := "LOG2_ARRAY_SHORT_INDEX_SCALE", type := .int, accessFlags := 25, slot := 5, constantValue := 0 }, { name := "LOG2_ARRAY_INT_INDEX_SCALE", type := .int, accessFlags := 25, slot := 6, constantValue := 0 }, { name := "LOG2_ARRAY_LONG_INDEX_SCALE", type := .int, accessFlags := 25, slot := 7, constantValue := 0 }, { name := "LOG2_ARRAY_FLOAT_INDEX_SCALE", type := .int, accessFlags := 25, slot := 8, constantValue := 0 }, { name := "LOG2_ARRAY_DOUBLE_INDEX_SCALE", type := .int, accessFlags := 25, slot := 9, constantValue := 0 }, { name := "LOG2_BYTE_BIT_SIZE", type := .int, accessFlags := 26, slot := 10, constantValue := 0 }, { name := "T_BOOLEAN", type := .int, accessFlags := 25, slot := 11, constantValue := 0 }, { name := "T_CHAR", type := .int, accessFlags := 25, slot := 12, constantValue := 0 }, { name := "T_FLOAT", type := .int, accessFlags := 25, slot := 13, constantValue := 0 }, { name := "T_DOUBLE", type := .int, accessFlags := 25, slot := 14, constantValue := 0 }, { name := "T_BYTE", type := .int, accessFlags := 25, slot := 15, constantValue := 0 }, { name := "T_SHORT", type := .int, accessFlags := 25, slot := 16, constantValue := 0 }, { name := "T_INT", type := .int, accessFlags := 25, slot := 17, constantValue := 0 }, { name := "T_LONG", type := .int, accessFlags := 25, slot := 18, constantValue := 0 }, { name := "JLA", type := (.object "jdk/internal/access/JavaLangAccess"), accessFlags := 26, slot := 19, constantValue := 0 }, { name := "SOFT_MAX_ARRAY_LENGTH", type := .int, accessFlags := 25, slot := 20, constantValue := 0 }]
  methods := #[k19m0]
  instanceTypes := #[]
  staticTypes := #[(.object "jdk/internal/misc/Unsafe"), .boolean, .int, .int, .int, .int, .int, .int, .int, .int, .int, .int, .int, .int, .int, .int, .int, .int, .int, (.object "jdk/internal/access/JavaLangAccess"), .int]
  resolved := Array.replicate 378 none
  statics := none }

def pool20 : Array CpInfo := pool [(1, u "java/lang/Cloneable"), (0, .class_ 1), (0, u "java/lang/Object"), (0, .class_ 3)] 3

/-- java/lang/Cloneable -/
def k20 : Class := { plain "java/lang/Cloneable" (some 0) with
  accessFlags := 1537
  interfaces := #[]
  cf := some (fileOf pool20 2 #[] #[] 1537 4 #[] #[])
  fields := #[]
  methods := #[]
  instanceTypes := #[]
  staticTypes := #[]
  resolved := Array.replicate 8 none
  statics := none }

/-- the primitive byte -/
def k21 : Class := { plain "byte" none with kind := .primitive 'B', accessFlags := 0x411 }
/-- [B -/
def k22 : Class := { plain "[B" (some 0) with kind := .array 21 .byte, interfaces := #[20, 2], accessFlags := 1041 }

/-- the primitive char -/
def k23 : Class := { plain "char" none with kind := .primitive 'C', accessFlags := 0x411 }
/-- [C -/
def k24 : Class := { plain "[C" (some 0) with kind := .array 23 .char, interfaces := #[20, 2], accessFlags := 1041 }

/-- the primitive int -/
def k25 : Class := { plain "int" none with kind := .primitive 'I', accessFlags := 0x411 }
/-- [I -/
def k26 : Class := { plain "[I" (some 0) with kind := .array 25 .int, interfaces := #[20, 2], accessFlags := 1041 }

def heap : Heap := #[{ cls := 7, slots := #[.long 0, .int 1, .null, .int 0, .null, .int 0, .int 0], vm := .statics 7 },
  { cls := 18, slots := #[.null, .null, .null], vm := .statics 18 }]
def classes : Array Class := #[k0, k1, k2, k3, k4, k5, k6, k7, k8, k9, k10, k11, k12, k13, k14, k15, k16, k17, k18, k19, k20, k21, k22, k23, k24, k25, k26]
def interned : List (Array UInt16 × Addr) := []
def slotsUsed : Nat := 10
def theMethod : MethodId := ⟨1, 2⟩
def args0 : Array Value := #[.int 5, .int 6, .int 7, .int 1, .int 2, .int 3]
def aboutOver (below : List Frame) : State where
  vm := { classes := classes, interned := interned.toArray }
  heap := heap
  slotsUsed := slotsUsed
  threads := #[{ frames := .invoking theMethod args0 :: below }]
def below0 : List Frame := [.native { method := ⟨0, 0⟩, args := #[] }]
def about1 : State := aboutOver below0
def p0 : Program := .bare "" "" ""
def e0 : Env := launch0.env 0 0 0
theorem w_frames : about1.frames = Frame.invoking theMethod args0 :: below0 := rfl
set_option maxRecDepth 65536 in
theorem w_args : argsFit about1.vm theMethod args0 = true := by decide +kernel
set_option maxRecDepth 65536 in
theorem w_heap : heapFits about1 = true := by decide +kernel
set_option maxRecDepth 65536 in
theorem w_runnable : about1.curStatus? = some .runnable := by decide +kernel
set_option maxRecDepth 65536 in
theorem w_alone : about1.alone = true := by decide +kernel
set_option maxRecDepth 65536 in
theorem w_named : about1.methodNamed? x = some theMethod := by decide +kernel
set_option maxRecDepth 65536 in
theorem w_hears : about1.hears theMethod below0 = true := by decide +kernel
set_option maxRecDepth 65536 in
theorem w_ripe : about1.ripe theMethod args0 below0 = true := by decide +kernel
theorem w_running : about1.status = .running := rfl
set_option maxRecDepth 65536 in
theorem w_room : about1.hasRoom e0.platform room_1 = true :=
  launch0.hasRoom_least _ room_1 (by decide +kernel) (by decide +kernel) (by decide +kernel) (by decide +kernel) (by decide +kernel) (by decide +kernel)
theorem allAtoms_all (ts : List Jvm.Cond) (a : Array Jvm.Value) (st : Jvm.State) : (allAtoms ts).before a st = ts.all (fun c => c.before a st) := by
  induction ts with
  | nil => rfl
  | cons c t ih =>
    show (Jvm.Cond.and c (allAtoms t)).before a st = _
    rw [Jvm.Cond.before_and, ih, List.all_cons]
def words1 : List Jvm.Cond := Jvm.Cond.code x code maxLocals ret :: tables_1
/-- a 'code' word, met by the world's own term for the bytes: nothing is compared byte by byte -/
theorem code_word {y : MethodName} {bytes : ByteArray} {mx : Nat} {rt : Option FieldType} {a : Array Value} {s : State} {m : MethodId} {meth : Method} {c : Code} (h1 : s.methodNamed? y = some m) (h2 : s.vm.method? m = some meth) (h3 : meth.code = some c) (h4 : c.code = bytes)
    (h5 : (c.maxLocals == mx && c.exceptionTable.isEmpty && decide (c.maxStack ≤ mostOperands) && decide (meth.sig.returnType = rt) && !meth.locks && decide (parseMethodDescriptor y.desc = some meth.sig)) = true) : (Jvm.Cond.code y bytes mx rt).before a s = true := by
  simp only [Bool.and_eq_true, beq_iff_eq, Bool.not_eq_true', decide_eq_true_eq] at h5
  obtain ⟨⟨⟨⟨⟨g1, g2⟩, g3⟩, g4⟩, g5⟩, g6⟩ := h5
  simp [Cond.before, Cond.holds, Cond.value, h1, h2, h3, h4, g1, g2, g3, g4, g5, g6]
def isCode : Jvm.Cond → Bool
  | .code _ _ _ _ => true
  | _ => false
theorem all_split {L : List Jvm.Cond} {P : Jvm.Cond → Bool} (h1 : L.all (fun c => isCode c || P c) = true) (h2 : ∀ c ∈ L.filter isCode, P c = true) : L.all P = true := by
  refine List.all_eq_true.mpr fun c hc => ?_
  have h := List.all_eq_true.mp h1 c hc
  rcases Bool.eq_false_or_eq_true (isCode c) with hi | hi
  · exact h2 c (List.mem_filter.mpr ⟨hc, hi⟩)
  · simpa [hi] using h
set_option maxRecDepth 65536 in
theorem w_c0 : (Jvm.Cond.code x code maxLocals ret).before args0 about1 = true := code_word (m := ⟨1, 2⟩) (meth := k1m2) (c := k1c2) (by decide +kernel) rfl rfl rfl (by decide +kernel)
set_option maxRecDepth 65536 in
theorem w_c1 : (Jvm.Cond.code ({ cls := "com/example/holdfast/holdfast/ExclusiveNamesAnOwnerPinLaw", name := "ch", desc := "(I)C" } : Jvm.MethodName) method_2_code (1 : Nat) (Option.some Jvm.ClassFile.FieldType.char)).before args0 about1 = true := code_word (m := ⟨1, 1⟩) (meth := k1m1) (c := k1c1) (by decide +kernel) rfl rfl rfl (by decide +kernel)
set_option maxRecDepth 65536 in
theorem w_c2 : (Jvm.Cond.code ({ cls := "java/lang/String", name := "<init>", desc := "([C)V" } : Jvm.MethodName) jdk_42_method_3_code (2 : Nat) (Option.none : Option Jvm.ClassFile.FieldType)).before args0 about1 = true := code_word (m := ⟨7, 1⟩) (meth := k7m1) (c := k7c1) (by decide +kernel) rfl rfl rfl (by decide +kernel)
set_option maxRecDepth 65536 in
theorem w_c3 : (Jvm.Cond.code ({ cls := "java/lang/String", name := "<init>", desc := "([CIILjava/lang/Void;)V" } : Jvm.MethodName) jdk_42_method_149_code (6 : Nat) (Option.none : Option Jvm.ClassFile.FieldType)).before args0 about1 = true := code_word (m := ⟨7, 8⟩) (meth := k7m8) (c := k7c8) (by decide +kernel) rfl rfl rfl (by decide +kernel)
set_option maxRecDepth 65536 in
theorem w_c4 : (Jvm.Cond.code ({ cls := "java/lang/Object", name := "<init>", desc := "()V" } : Jvm.MethodName) object_method_1_code (1 : Nat) (Option.none : Option Jvm.ClassFile.FieldType)).before args0 about1 = true := code_word (m := ⟨0, 0⟩) (meth := k0m0) (c := k0c0) (by decide +kernel) rfl rfl rfl (by decide +kernel)
set_option maxRecDepth 65536 in
theorem w_c5 : (Jvm.Cond.code ({ cls := "com/example/holdfast/holdfast/HoldfastLock$Exclusive", name := "namesAnOwner", desc := "(Ljava/lang/String;)Z" } : Jvm.MethodName) prog_10_method_13_code (1 : Nat) (Option.some Jvm.ClassFile.FieldType.boolean)).before args0 about1 = true := code_word (m := ⟨9, 1⟩) (meth := k9m1) (c := k9c1) (by decide +kernel) rfl rfl rfl (by decide +kernel)
set_option maxRecDepth 65536 in
theorem w_c6 : (Jvm.Cond.code ({ cls := "java/lang/String", name := "indexOf", desc := "(I)I" } : Jvm.MethodName) jdk_42_method_79_code (2 : Nat) (Option.some Jvm.ClassFile.FieldType.int)).before args0 about1 = true := code_word (m := ⟨7, 4⟩) (meth := k7m4) (c := k7c4) (by decide +kernel) rfl rfl rfl (by decide +kernel)
set_option maxRecDepth 65536 in
theorem w_c7 : (Jvm.Cond.code ({ cls := "java/lang/String", name := "indexOf", desc := "(II)I" } : Jvm.MethodName) jdk_42_method_80_code (3 : Nat) (Option.some Jvm.ClassFile.FieldType.int)).before args0 about1 = true := code_word (m := ⟨7, 5⟩) (meth := k7m5) (c := k7c5) (by decide +kernel) rfl rfl rfl (by decide +kernel)
set_option maxRecDepth 65536 in
theorem w_c8 : (Jvm.Cond.code ({ cls := "java/lang/String", name := "isLatin1", desc := "()Z" } : Jvm.MethodName) jdk_42_method_154_code (1 : Nat) (Option.some Jvm.ClassFile.FieldType.boolean)).before args0 about1 = true := code_word (m := ⟨7, 12⟩) (meth := k7m12) (c := k7c12) (by decide +kernel) rfl rfl rfl (by decide +kernel)
set_option maxRecDepth 65536 in
theorem w_c9 : (Jvm.Cond.code ({ cls := "java/lang/String", name := "length", desc := "()I" } : Jvm.MethodName) jdk_42_method_54_code (1 : Nat) (Option.some Jvm.ClassFile.FieldType.int)).before args0 about1 = true := code_word (m := ⟨7, 3⟩) (meth := k7m3) (c := k7c3) (by decide +kernel) rfl rfl rfl (by decide +kernel)
set_option maxRecDepth 65536 in
theorem w_c10 : (Jvm.Cond.code ({ cls := "java/lang/String", name := "coder", desc := "()B" } : Jvm.MethodName) jdk_42_method_152_code (1 : Nat) (Option.some Jvm.ClassFile.FieldType.byte)).before args0 about1 = true := code_word (m := ⟨7, 11⟩) (meth := k7m11) (c := k7c11) (by decide +kernel) rfl rfl rfl (by decide +kernel)
set_option maxRecDepth 65536 in
theorem w_c11 : (Jvm.Cond.code ({ cls := "java/lang/StringLatin1", name := "indexOf", desc := "([BIII)I" } : Jvm.MethodName) jdk_43_method_22_code (4 : Nat) (Option.some Jvm.ClassFile.FieldType.int)).before args0 about1 = true := code_word (m := ⟨10, 3⟩) (meth := k10m3) (c := k10c3) (by decide +kernel) rfl rfl rfl (by decide +kernel)
set_option maxRecDepth 65536 in
theorem w_c12 : (Jvm.Cond.code ({ cls := "java/lang/StringLatin1", name := "canEncode", desc := "(I)Z" } : Jvm.MethodName) jdk_43_method_4_code (1 : Nat) (Option.some Jvm.ClassFile.FieldType.boolean)).before args0 about1 = true := code_word (m := ⟨10, 2⟩) (meth := k10m2) (c := k10c2) (by decide +kernel) rfl rfl rfl (by decide +kernel)
set_option maxRecDepth 65536 in
theorem w_c13 : (Jvm.Cond.code ({ cls := "java/lang/Math", name := "max", desc := "(II)I" } : Jvm.MethodName) jdk_29_method_65_code (2 : Nat) (Option.some Jvm.ClassFile.FieldType.int)).before args0 about1 = true := code_word (m := ⟨11, 1⟩) (meth := k11m1) (c := k11c1) (by decide +kernel) rfl rfl rfl (by decide +kernel)
set_option maxRecDepth 65536 in
theorem w_c14 : (Jvm.Cond.code ({ cls := "java/lang/Math", name := "min", desc := "(II)I" } : Jvm.MethodName) jdk_29_method_69_code (2 : Nat) (Option.some Jvm.ClassFile.FieldType.int)).before args0 about1 = true := code_word (m := ⟨11, 2⟩) (meth := k11m2) (c := k11c2) (by decide +kernel) rfl rfl rfl (by decide +kernel)
set_option maxRecDepth 65536 in
theorem w_c15 : (Jvm.Cond.code ({ cls := "java/lang/String", name := "valueOf", desc := "(C)Ljava/lang/String;" } : Jvm.MethodName) jdk_42_method_139_code (1 : Nat) (Option.some (Jvm.ClassFile.FieldType.object "java/lang/String"))).before args0 about1 = true := code_word (m := ⟨7, 6⟩) (meth := k7m6) (c := k7c6) (by decide +kernel) rfl rfl rfl (by decide +kernel)
set_option maxRecDepth 65536 in
theorem w_c16 : (Jvm.Cond.code ({ cls := "java/lang/StringLatin1", name := "canEncode", desc := "(C)Z" } : Jvm.MethodName) jdk_43_method_3_code (1 : Nat) (Option.some Jvm.ClassFile.FieldType.boolean)).before args0 about1 = true := code_word (m := ⟨10, 1⟩) (meth := k10m1) (c := k10c1) (by decide +kernel) rfl rfl rfl (by decide +kernel)
set_option maxRecDepth 65536 in
theorem w_c17 : (Jvm.Cond.code ({ cls := "java/lang/StringLatin1", name := "toBytes", desc := "(C)[B" } : Jvm.MethodName) jdk_43_method_46_code (1 : Nat) (Option.some (Jvm.ClassFile.FieldType.array Jvm.ClassFile.FieldType.byte))).before args0 about1 = true := code_word (m := ⟨10, 5⟩) (meth := k10m5) (c := k10c5) (by decide +kernel) rfl rfl rfl (by decide +kernel)
set_option maxRecDepth 65536 in
theorem w_c18 : (Jvm.Cond.code ({ cls := "java/lang/String", name := "<init>", desc := "([BB)V" } : Jvm.MethodName) jdk_42_method_151_code (3 : Nat) (Option.none : Option Jvm.ClassFile.FieldType)).before args0 about1 = true := code_word (m := ⟨7, 10⟩) (meth := k7m10) (c := k7c10) (by decide +kernel) rfl rfl rfl (by decide +kernel)
set_option maxRecDepth 65536 in
theorem w_c19 : (Jvm.Cond.code ({ cls := "com/example/holdfast/holdfast/HoldfastLock$Exclusive", name := "endMessage", desc := "(Ljava/lang/String;Ljava/lang/String;)Ljava/lang/String;" } : Jvm.MethodName) prog_10_method_12_code (2 : Nat) (Option.some (Jvm.ClassFile.FieldType.object "java/lang/String"))).before args0 about1 = true := code_word (m := ⟨9, 0⟩) (meth := k9m0) (c := k9c0) (by decide +kernel) rfl rfl rfl (by decide +kernel)
set_option maxRecDepth 65536 in
theorem w_c20 : (Jvm.Cond.code ({ cls := "java/lang/StringBuilder", name := "<init>", desc := "()V" } : Jvm.MethodName) jdk_67_method_1_code (1 : Nat) (Option.none : Option Jvm.ClassFile.FieldType)).before args0 about1 = true := code_word (m := ⟨14, 0⟩) (meth := k14m0) (c := k14c0) (by decide +kernel) rfl rfl rfl (by decide +kernel)
set_option maxRecDepth 65536 in
theorem w_c21 : (Jvm.Cond.code ({ cls := "java/lang/AbstractStringBuilder", name := "<init>", desc := "(I)V" } : Jvm.MethodName) jdk_68_method_2_code (2 : Nat) (Option.none : Option Jvm.ClassFile.FieldType)).before args0 about1 = true := code_word (m := ⟨13, 1⟩) (meth := k13m1) (c := k13c1) (by decide +kernel) rfl rfl rfl (by decide +kernel)
set_option maxRecDepth 65536 in
theorem w_c22 : (Jvm.Cond.code ({ cls := "java/lang/StringBuilder", name := "append", desc := "(Ljava/lang/String;)Ljava/lang/StringBuilder;" } : Jvm.MethodName) jdk_67_method_7_code (2 : Nat) (Option.some (Jvm.ClassFile.FieldType.object "java/lang/StringBuilder"))).before args0 about1 = true := code_word (m := ⟨14, 1⟩) (meth := k14m1) (c := k14c1) (by decide +kernel) rfl rfl rfl (by decide +kernel)
set_option maxRecDepth 65536 in
theorem w_c23 : (Jvm.Cond.code ({ cls := "java/lang/AbstractStringBuilder", name := "append", desc := "(Ljava/lang/String;)Ljava/lang/AbstractStringBuilder;" } : Jvm.MethodName) jdk_68_method_22_code (3 : Nat) (Option.some (Jvm.ClassFile.FieldType.object "java/lang/AbstractStringBuilder"))).before args0 about1 = true := code_word (m := ⟨13, 4⟩) (meth := k13m4) (c := k13c4) (by decide +kernel) rfl rfl rfl (by decide +kernel)
set_option maxRecDepth 65536 in
theorem w_c24 : (Jvm.Cond.code ({ cls := "java/lang/AbstractStringBuilder", name := "ensureCapacityInternal", desc := "(I)V" } : Jvm.MethodName) jdk_68_method_9_code (3 : Nat) (Option.none : Option Jvm.ClassFile.FieldType)).before args0 about1 = true := code_word (m := ⟨13, 3⟩) (meth := k13m3) (c := k13c3) (by decide +kernel) rfl rfl rfl (by decide +kernel)
set_option maxRecDepth 65536 in
theorem w_c25 : (Jvm.Cond.code ({ cls := "java/lang/AbstractStringBuilder", name := "putStringAt", desc := "(ILjava/lang/String;)V" } : Jvm.MethodName) jdk_68_method_73_code (3 : Nat) (Option.none : Option Jvm.ClassFile.FieldType)).before args0 about1 = true := code_word (m := ⟨13, 8⟩) (meth := k13m8) (c := k13c8) (by decide +kernel) rfl rfl rfl (by decide +kernel)
set_option maxRecDepth 65536 in
theorem w_c26 : (Jvm.Cond.code ({ cls := "java/lang/AbstractStringBuilder", name := "inflateIfNeededFor", desc := "(Ljava/lang/String;)V" } : Jvm.MethodName) jdk_68_method_71_code (2 : Nat) (Option.none : Option Jvm.ClassFile.FieldType)).before args0 about1 = true := code_word (m := ⟨13, 7⟩) (meth := k13m7) (c := k13c7) (by decide +kernel) rfl rfl rfl (by decide +kernel)
set_option maxRecDepth 65536 in
theorem w_c27 : (Jvm.Cond.code ({ cls := "java/lang/String", name := "getBytes", desc := "([BIB)V" } : Jvm.MethodName) jdk_42_method_147_code (4 : Nat) (Option.none : Option Jvm.ClassFile.FieldType)).before args0 about1 = true := code_word (m := ⟨7, 7⟩) (meth := k7m7) (c := k7c7) (by decide +kernel) rfl rfl rfl (by decide +kernel)
set_option maxRecDepth 65536 in
theorem w_c28 : (Jvm.Cond.code ({ cls := "java/lang/StringBuilder", name := "toString", desc := "()Ljava/lang/String;" } : Jvm.MethodName) jdk_67_method_42_code (1 : Nat) (Option.some (Jvm.ClassFile.FieldType.object "java/lang/String"))).before args0 about1 = true := code_word (m := ⟨14, 2⟩) (meth := k14m2) (c := k14c2) (by decide +kernel) rfl rfl rfl (by decide +kernel)
set_option maxRecDepth 65536 in
theorem w_c29 : (Jvm.Cond.code ({ cls := "java/lang/String", name := "<init>", desc := "(Ljava/lang/StringBuilder;)V" } : Jvm.MethodName) jdk_42_method_53_code (2 : Nat) (Option.none : Option Jvm.ClassFile.FieldType)).before args0 about1 = true := code_word (m := ⟨7, 2⟩) (meth := k7m2) (c := k7c2) (by decide +kernel) rfl rfl rfl (by decide +kernel)
set_option maxRecDepth 65536 in
theorem w_c30 : (Jvm.Cond.code ({ cls := "java/lang/String", name := "<init>", desc := "(Ljava/lang/AbstractStringBuilder;Ljava/lang/Void;)V" } : Jvm.MethodName) jdk_42_method_150_code (5 : Nat) (Option.none : Option Jvm.ClassFile.FieldType)).before args0 about1 = true := code_word (m := ⟨7, 9⟩) (meth := k7m9) (c := k7c9) (by decide +kernel) rfl rfl rfl (by decide +kernel)
set_option maxRecDepth 65536 in
theorem w_c31 : (Jvm.Cond.code ({ cls := "java/lang/AbstractStringBuilder", name := "getValue", desc := "()[B" } : Jvm.MethodName) jdk_68_method_64_code (1 : Nat) (Option.some (Jvm.ClassFile.FieldType.array Jvm.ClassFile.FieldType.byte))).before args0 about1 = true := code_word (m := ⟨13, 5⟩) (meth := k13m5) (c := k13c5) (by decide +kernel) rfl rfl rfl (by decide +kernel)
set_option maxRecDepth 65536 in
theorem w_c32 : (Jvm.Cond.code ({ cls := "java/lang/StringBuilder", name := "length", desc := "()I" } : Jvm.MethodName) jdk_67_method_93_code (1 : Nat) (Option.some Jvm.ClassFile.FieldType.int)).before args0 about1 = true := code_word (m := ⟨14, 3⟩) (meth := k14m3) (c := k14c3) (by decide +kernel) rfl rfl rfl (by decide +kernel)
set_option maxRecDepth 65536 in
theorem w_c33 : (Jvm.Cond.code ({ cls := "java/lang/AbstractStringBuilder", name := "length", desc := "()I" } : Jvm.MethodName) jdk_68_method_6_code (1 : Nat) (Option.some Jvm.ClassFile.FieldType.int)).before args0 about1 = true := code_word (m := ⟨13, 2⟩) (meth := k13m2) (c := k13c2) (by decide +kernel) rfl rfl rfl (by decide +kernel)
set_option maxRecDepth 65536 in
theorem w_c34 : (Jvm.Cond.code ({ cls := "java/lang/AbstractStringBuilder", name := "isLatin1", desc := "()Z" } : Jvm.MethodName) jdk_68_method_68_code (1 : Nat) (Option.some Jvm.ClassFile.FieldType.boolean)).before args0 about1 = true := code_word (m := ⟨13, 6⟩) (meth := k13m6) (c := k13c6) (by decide +kernel) rfl rfl rfl (by decide +kernel)
set_option maxRecDepth 65536 in
theorem w_c35 : (Jvm.Cond.code ({ cls := "java/util/Arrays", name := "copyOfRange", desc := "([BII)[B" } : Jvm.MethodName) jdk_65_method_132_code (3 : Nat) (Option.some (Jvm.ClassFile.FieldType.array Jvm.ClassFile.FieldType.byte))).before args0 about1 = true := code_word (m := ⟨16, 2⟩) (meth := k16m2) (c := k16c2) (by decide +kernel) rfl rfl rfl (by decide +kernel)
set_option maxRecDepth 65536 in
theorem w_c36 : (Jvm.Cond.code ({ cls := "java/util/Arrays", name := "copyOfRangeByte", desc := "([BII)[B" } : Jvm.MethodName) jdk_65_method_133_code (5 : Nat) (Option.some (Jvm.ClassFile.FieldType.array Jvm.ClassFile.FieldType.byte))).before args0 about1 = true := code_word (m := ⟨16, 3⟩) (meth := k16m3) (c := k16c3) (by decide +kernel) rfl rfl rfl (by decide +kernel)
set_option maxRecDepth 65536 in
theorem w_c37 : (Jvm.Cond.code ({ cls := "java/util/Arrays", name := "checkLength", desc := "(II)V" } : Jvm.MethodName) jdk_65_method_131_code (2 : Nat) (Option.none : Option Jvm.ClassFile.FieldType)).before args0 about1 = true := code_word (m := ⟨16, 1⟩) (meth := k16m1) (c := k16c1) (by decide +kernel) rfl rfl rfl (by decide +kernel)
set_option maxRecDepth 65536 in
theorem w_c38 : (Jvm.Cond.code ({ cls := "java/lang/StringLatin1", name := "indexOfChar", desc := "([BIII)I" } : Jvm.MethodName) jdk_43_method_23_code (6 : Nat) (Option.some Jvm.ClassFile.FieldType.int)).before args0 about1 = true := code_word (m := ⟨10, 4⟩) (meth := k10m4) (c := k10c4) (by decide +kernel) rfl rfl rfl (by decide +kernel)
set_option maxRecDepth 65536 in
theorem w_c39 : (Jvm.Cond.code ({ cls := "java/lang/StringUTF16", name := "compress", desc := "([CII)[B" } : Jvm.MethodName) jdk_52_method_16_code (6 : Nat) (Option.some (Jvm.ClassFile.FieldType.array Jvm.ClassFile.FieldType.byte))).before args0 about1 = true := code_word (m := ⟨17, 2⟩) (meth := k17m2) (c := k17c2) (by decide +kernel) rfl rfl rfl (by decide +kernel)
set_option maxRecDepth 65536 in
theorem w_c40 : (Jvm.Cond.code ({ cls := "java/lang/StringUTF16", name := "compress", desc := "([CI[BII)I" } : Jvm.MethodName) jdk_52_method_21_code (7 : Nat) (Option.some Jvm.ClassFile.FieldType.int)).before args0 about1 = true := code_word (m := ⟨17, 3⟩) (meth := k17m3) (c := k17c3) (by decide +kernel) rfl rfl rfl (by decide +kernel)
set_option maxRecDepth 65536 in
theorem w_c41 : (Jvm.Cond.code ({ cls := "java/lang/StringUTF16", name := "coderFromArrayLen", desc := "([BI)B" } : Jvm.MethodName) jdk_52_method_15_code (2 : Nat) (Option.some Jvm.ClassFile.FieldType.byte)).before args0 about1 = true := code_word (m := ⟨17, 1⟩) (meth := k17m1) (c := k17c1) (by decide +kernel) rfl rfl rfl (by decide +kernel)
def codes1 : List Jvm.Cond := [Jvm.Cond.code x code maxLocals ret, Jvm.Cond.code ({ cls := "com/example/holdfast/holdfast/ExclusiveNamesAnOwnerPinLaw", name := "ch", desc := "(I)C" } : Jvm.MethodName) method_2_code (1 : Nat) (Option.some Jvm.ClassFile.FieldType.char), Jvm.Cond.code ({ cls := "java/lang/String", name := "<init>", desc := "([C)V" } : Jvm.MethodName) jdk_42_method_3_code (2 : Nat) (Option.none : Option Jvm.ClassFile.FieldType), Jvm.Cond.code ({ cls := "java/lang/String", name := "<init>", desc := "([CIILjava/lang/Void;)V" } : Jvm.MethodName) jdk_42_method_149_code (6 : Nat) (Option.none : Option Jvm.ClassFile.FieldType), Jvm.Cond.code ({ cls := "java/lang/Object", name := "<init>", desc := "()V" } : Jvm.MethodName) object_method_1_code (1 : Nat) (Option.none : Option Jvm.ClassFile.FieldType), Jvm.Cond.code ({ cls := "com/example/holdfast/holdfast/HoldfastLock$Exclusive", name := "namesAnOwner", desc := "(Ljava/lang/String;)Z" } : Jvm.MethodName) prog_10_method_13_code (1 : Nat) (Option.some Jvm.ClassFile.FieldType.boolean), Jvm.Cond.code ({ cls := "java/lang/String", name := "indexOf", desc := "(I)I" } : Jvm.MethodName) jdk_42_method_79_code (2 : Nat) (Option.some Jvm.ClassFile.FieldType.int), Jvm.Cond.code ({ cls := "java/lang/String", name := "indexOf", desc := "(II)I" } : Jvm.MethodName) jdk_42_method_80_code (3 : Nat) (Option.some Jvm.ClassFile.FieldType.int), Jvm.Cond.code ({ cls := "java/lang/String", name := "isLatin1", desc := "()Z" } : Jvm.MethodName) jdk_42_method_154_code (1 : Nat) (Option.some Jvm.ClassFile.FieldType.boolean), Jvm.Cond.code ({ cls := "java/lang/String", name := "length", desc := "()I" } : Jvm.MethodName) jdk_42_method_54_code (1 : Nat) (Option.some Jvm.ClassFile.FieldType.int), Jvm.Cond.code ({ cls := "java/lang/String", name := "coder", desc := "()B" } : Jvm.MethodName) jdk_42_method_152_code (1 : Nat) (Option.some Jvm.ClassFile.FieldType.byte), Jvm.Cond.code ({ cls := "java/lang/StringLatin1", name := "indexOf", desc := "([BIII)I" } : Jvm.MethodName) jdk_43_method_22_code (4 : Nat) (Option.some Jvm.ClassFile.FieldType.int), Jvm.Cond.code ({ cls := "java/lang/StringLatin1", name := "canEncode", desc := "(I)Z" } : Jvm.MethodName) jdk_43_method_4_code (1 : Nat) (Option.some Jvm.ClassFile.FieldType.boolean), Jvm.Cond.code ({ cls := "java/lang/Math", name := "max", desc := "(II)I" } : Jvm.MethodName) jdk_29_method_65_code (2 : Nat) (Option.some Jvm.ClassFile.FieldType.int), Jvm.Cond.code ({ cls := "java/lang/Math", name := "min", desc := "(II)I" } : Jvm.MethodName) jdk_29_method_69_code (2 : Nat) (Option.some Jvm.ClassFile.FieldType.int), Jvm.Cond.code ({ cls := "java/lang/String", name := "valueOf", desc := "(C)Ljava/lang/String;" } : Jvm.MethodName) jdk_42_method_139_code (1 : Nat) (Option.some (Jvm.ClassFile.FieldType.object "java/lang/String")), Jvm.Cond.code ({ cls := "java/lang/StringLatin1", name := "canEncode", desc := "(C)Z" } : Jvm.MethodName) jdk_43_method_3_code (1 : Nat) (Option.some Jvm.ClassFile.FieldType.boolean), Jvm.Cond.code ({ cls := "java/lang/StringLatin1", name := "toBytes", desc := "(C)[B" } : Jvm.MethodName) jdk_43_method_46_code (1 : Nat) (Option.some (Jvm.ClassFile.FieldType.array Jvm.ClassFile.FieldType.byte)), Jvm.Cond.code ({ cls := "java/lang/String", name := "<init>", desc := "([BB)V" } : Jvm.MethodName) jdk_42_method_151_code (3 : Nat) (Option.none : Option Jvm.ClassFile.FieldType), Jvm.Cond.code ({ cls := "com/example/holdfast/holdfast/HoldfastLock$Exclusive", name := "endMessage", desc := "(Ljava/lang/String;Ljava/lang/String;)Ljava/lang/String;" } : Jvm.MethodName) prog_10_method_12_code (2 : Nat) (Option.some (Jvm.ClassFile.FieldType.object "java/lang/String")), Jvm.Cond.code ({ cls := "java/lang/StringBuilder", name := "<init>", desc := "()V" } : Jvm.MethodName) jdk_67_method_1_code (1 : Nat) (Option.none : Option Jvm.ClassFile.FieldType), Jvm.Cond.code ({ cls := "java/lang/AbstractStringBuilder", name := "<init>", desc := "(I)V" } : Jvm.MethodName) jdk_68_method_2_code (2 : Nat) (Option.none : Option Jvm.ClassFile.FieldType), Jvm.Cond.code ({ cls := "java/lang/StringBuilder", name := "append", desc := "(Ljava/lang/String;)Ljava/lang/StringBuilder;" } : Jvm.MethodName) jdk_67_method_7_code (2 : Nat) (Option.some (Jvm.ClassFile.FieldType.object "java/lang/StringBuilder")), Jvm.Cond.code ({ cls := "java/lang/AbstractStringBuilder", name := "append", desc := "(Ljava/lang/String;)Ljava/lang/AbstractStringBuilder;" } : Jvm.MethodName) jdk_68_method_22_code (3 : Nat) (Option.some (Jvm.ClassFile.FieldType.object "java/lang/AbstractStringBuilder")), Jvm.Cond.code ({ cls := "java/lang/AbstractStringBuilder", name := "ensureCapacityInternal", desc := "(I)V" } : Jvm.MethodName) jdk_68_method_9_code (3 : Nat) (Option.none : Option Jvm.ClassFile.FieldType), Jvm.Cond.code ({ cls := "java/lang/AbstractStringBuilder", name := "putStringAt", desc := "(ILjava/lang/String;)V" } : Jvm.MethodName) jdk_68_method_73_code (3 : Nat) (Option.none : Option Jvm.ClassFile.FieldType), Jvm.Cond.code ({ cls := "java/lang/AbstractStringBuilder", name := "inflateIfNeededFor", desc := "(Ljava/lang/String;)V" } : Jvm.MethodName) jdk_68_method_71_code (2 : Nat) (Option.none : Option Jvm.ClassFile.FieldType), Jvm.Cond.code ({ cls := "java/lang/String", name := "getBytes", desc := "([BIB)V" } : Jvm.MethodName) jdk_42_method_147_code (4 : Nat) (Option.none : Option Jvm.ClassFile.FieldType), Jvm.Cond.code ({ cls := "java/lang/StringBuilder", name := "toString", desc := "()Ljava/lang/String;" } : Jvm.MethodName) jdk_67_method_42_code (1 : Nat) (Option.some (Jvm.ClassFile.FieldType.object "java/lang/String")), Jvm.Cond.code ({ cls := "java/lang/String", name := "<init>", desc := "(Ljava/lang/StringBuilder;)V" } : Jvm.MethodName) jdk_42_method_53_code (2 : Nat) (Option.none : Option Jvm.ClassFile.FieldType), Jvm.Cond.code ({ cls := "java/lang/String", name := "<init>", desc := "(Ljava/lang/AbstractStringBuilder;Ljava/lang/Void;)V" } : Jvm.MethodName) jdk_42_method_150_code (5 : Nat) (Option.none : Option Jvm.ClassFile.FieldType), Jvm.Cond.code ({ cls := "java/lang/AbstractStringBuilder", name := "getValue", desc := "()[B" } : Jvm.MethodName) jdk_68_method_64_code (1 : Nat) (Option.some (Jvm.ClassFile.FieldType.array Jvm.ClassFile.FieldType.byte)), Jvm.Cond.code ({ cls := "java/lang/StringBuilder", name := "length", desc := "()I" } : Jvm.MethodName) jdk_67_method_93_code (1 : Nat) (Option.some Jvm.ClassFile.FieldType.int), Jvm.Cond.code ({ cls := "java/lang/AbstractStringBuilder", name := "length", desc := "()I" } : Jvm.MethodName) jdk_68_method_6_code (1 : Nat) (Option.some Jvm.ClassFile.FieldType.int), Jvm.Cond.code ({ cls := "java/lang/AbstractStringBuilder", name := "isLatin1", desc := "()Z" } : Jvm.MethodName) jdk_68_method_68_code (1 : Nat) (Option.some Jvm.ClassFile.FieldType.boolean), Jvm.Cond.code ({ cls := "java/util/Arrays", name := "copyOfRange", desc := "([BII)[B" } : Jvm.MethodName) jdk_65_method_132_code (3 : Nat) (Option.some (Jvm.ClassFile.FieldType.array Jvm.ClassFile.FieldType.byte)), Jvm.Cond.code ({ cls := "java/util/Arrays", name := "copyOfRangeByte", desc := "([BII)[B" } : Jvm.MethodName) jdk_65_method_133_code (5 : Nat) (Option.some (Jvm.ClassFile.FieldType.array Jvm.ClassFile.FieldType.byte)), Jvm.Cond.code ({ cls := "java/util/Arrays", name := "checkLength", desc := "(II)V" } : Jvm.MethodName) jdk_65_method_131_code (2 : Nat) (Option.none : Option Jvm.ClassFile.FieldType), Jvm.Cond.code ({ cls := "java/lang/StringLatin1", name := "indexOfChar", desc := "([BIII)I" } : Jvm.MethodName) jdk_43_method_23_code (6 : Nat) (Option.some Jvm.ClassFile.FieldType.int), Jvm.Cond.code ({ cls := "java/lang/StringUTF16", name := "compress", desc := "([CII)[B" } : Jvm.MethodName) jdk_52_method_16_code (6 : Nat) (Option.some (Jvm.ClassFile.FieldType.array Jvm.ClassFile.FieldType.byte)), Jvm.Cond.code ({ cls := "java/lang/StringUTF16", name := "compress", desc := "([CI[BII)I" } : Jvm.MethodName) jdk_52_method_21_code (7 : Nat) (Option.some Jvm.ClassFile.FieldType.int), Jvm.Cond.code ({ cls := "java/lang/StringUTF16", name := "coderFromArrayLen", desc := "([BI)B" } : Jvm.MethodName) jdk_52_method_15_code (2 : Nat) (Option.some Jvm.ClassFile.FieldType.byte)]
set_option maxRecDepth 65536 in
theorem codes_eq : words1.filter isCode = codes1 := rfl
theorem w_codes : ∀ c ∈ words1.filter isCode, c.before args0 about1 = true := by
  rw [codes_eq]
  intro c hc
  simp only [codes1, List.mem_cons, List.not_mem_nil, or_false] at hc
  rcases hc with rfl | rfl | rfl | rfl | rfl | rfl | rfl | rfl | rfl | rfl | rfl | rfl | rfl | rfl | rfl | rfl | rfl | rfl | rfl | rfl | rfl | rfl | rfl | rfl | rfl | rfl | rfl | rfl | rfl | rfl | rfl | rfl | rfl | rfl | rfl | rfl | rfl | rfl | rfl | rfl | rfl | rfl
  · exact w_c0
  · exact w_c1
  · exact w_c2
  · exact w_c3
  · exact w_c4
  · exact w_c5
  · exact w_c6
  · exact w_c7
  · exact w_c8
  · exact w_c9
  · exact w_c10
  · exact w_c11
  · exact w_c12
  · exact w_c13
  · exact w_c14
  · exact w_c15
  · exact w_c16
  · exact w_c17
  · exact w_c18
  · exact w_c19
  · exact w_c20
  · exact w_c21
  · exact w_c22
  · exact w_c23
  · exact w_c24
  · exact w_c25
  · exact w_c26
  · exact w_c27
  · exact w_c28
  · exact w_c29
  · exact w_c30
  · exact w_c31
  · exact w_c32
  · exact w_c33
  · exact w_c34
  · exact w_c35
  · exact w_c36
  · exact w_c37
  · exact w_c38
  · exact w_c39
  · exact w_c40
  · exact w_c41
set_option maxRecDepth 65536 in
theorem w_t1 : (words1.take 24).all (fun c => isCode c || c.before args0 about1) = true := by decide +kernel
set_option maxRecDepth 65536 in
theorem w_t2 : ((words1.drop 24).take 24).all (fun c => isCode c || c.before args0 about1) = true := by decide +kernel
set_option maxRecDepth 65536 in
theorem w_t3 : (((words1.drop 24).drop 24).take 24).all (fun c => isCode c || c.before args0 about1) = true := by decide +kernel
set_option maxRecDepth 65536 in
theorem w_t4 : ((((words1.drop 24).drop 24).drop 24).take 24).all (fun c => isCode c || c.before args0 about1) = true := by decide +kernel
set_option maxRecDepth 65536 in
theorem w_t5 : (((((words1.drop 24).drop 24).drop 24).drop 24).take 24).all (fun c => isCode c || c.before args0 about1) = true := by decide +kernel
set_option maxRecDepth 65536 in
theorem w_t6 : ((((((words1.drop 24).drop 24).drop 24).drop 24).drop 24).take 24).all (fun c => isCode c || c.before args0 about1) = true := by decide +kernel
set_option maxRecDepth 65536 in
theorem w_t7 : (((((((words1.drop 24).drop 24).drop 24).drop 24).drop 24).drop 24).take 24).all (fun c => isCode c || c.before args0 about1) = true := by decide +kernel
set_option maxRecDepth 65536 in
theorem w_t8 : ((((((((words1.drop 24).drop 24).drop 24).drop 24).drop 24).drop 24).drop 24).take 24).all (fun c => isCode c || c.before args0 about1) = true := by decide +kernel
set_option maxRecDepth 65536 in
theorem w_t9 : ((((((((words1.drop 24).drop 24).drop 24).drop 24).drop 24).drop 24).drop 24).drop 24).all (fun c => isCode c || c.before args0 about1) = true := by decide +kernel
theorem w_tables : (allAtoms (Jvm.Cond.code x code maxLocals ret :: tables_1)).before args0 about1 = true := by
  rw [allAtoms_all]
  show words1.all (fun c => c.before args0 about1) = true
  refine all_split ?_ w_codes
  rw [← List.take_append_drop 24 words1, List.all_append, w_t1, ← List.take_append_drop 24 (words1.drop 24), List.all_append, w_t2, ← List.take_append_drop 24 ((words1.drop 24).drop 24), List.all_append, w_t3, ← List.take_append_drop 24 (((words1.drop 24).drop 24).drop 24), List.all_append, w_t4, ← List.take_append_drop 24 ((((words1.drop 24).drop 24).drop 24).drop 24), List.all_append, w_t5, ← List.take_append_drop 24 (((((words1.drop 24).drop 24).drop 24).drop 24).drop 24), List.all_append, w_t6, ← List.take_append_drop 24 ((((((words1.drop 24).drop 24).drop 24).drop 24).drop 24).drop 24), List.all_append, w_t7, ← List.take_append_drop 24 (((((((words1.drop 24).drop 24).drop 24).drop 24).drop 24).drop 24).drop 24), List.all_append, w_t8, w_t9]
  rfl
set_option maxRecDepth 65536 in
theorem w_rest : rest_1_c.before args0 about1 = true := by decide +kernel
set_option maxRecDepth 65536 in
theorem w_case : (Jvm.Cond.and given_1 narrow_1).before args0 about1 = true := by decide +kernel
set_option maxRecDepth 65536 in
theorem w_consts : constsHeld consts_1 about1 := Jvm.Lit.constsHeldB_iff.mp (by decide +kernel)
theorem w_applies : (headSpec (Jvm.Cond.code x code maxLocals ret :: tables_1) room_1).applies x e0.platform about1 = true :=
  (Spec.applies_iff w_frames).mpr ⟨w_running, w_runnable, w_alone, w_named, w_hears, w_ripe, w_room, w_tables⟩
theorem atStart : AtStart classFile x code maxLocals ret World_1 tables_1 room_1 Calls_1 rest_1 Pre_1 launch0 p0 e0 about1 theMethod args0 below0 :=
  ⟨lists_1, trivial, launch0.admits_env _ _ _, launch0.least_env, fairChoices_fair.cas, fairChoices_fair.clock, w_frames, w_args, w_heap, w_applies, ⟨w_consts, trivial⟩, w_rest, w_case⟩
end start1
theorem witness_1 : WitnessClaimed_1 := ⟨start1.p0, start1.e0, start1.about1, start1.theMethod, start1.args0, start1.below0, start1.atStart⟩
end Jvm.Pilot.@@N@@
